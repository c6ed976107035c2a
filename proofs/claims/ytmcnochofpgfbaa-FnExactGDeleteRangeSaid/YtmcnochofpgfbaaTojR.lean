/- Contracts of functions of the program, proved by walking through their code. Conditions: those that each theorem names. -/
import Derived.Test.YtmcnochofpgfbaaTogP
import Derived.Test.YtmcnochofpgfbaaToDq
import Derived.Test.YtmcnochofpgfbaaTogD
import Derived.Test.YtmcnochofpgfbaaToSg
set_option linter.unusedVariables false
namespace Go.Bt.FG
open Go Go.Proofs Go.Proofs.Try
set_option maxRecDepth 20000
set_option maxHeartbeats 4000000
set_option linter.unusedSectionVars false
variable [Inhabited Cx]
structure DPre (H:Mem) (tr:Nat) (P:Ps) (h:Nat) (t:Gt EJ h) (bp op:Nat):Prop where
 tc:TrC H tr P.iso P.mx P.mn
 g:Gt.Good H P h t
 c:cl H bp op=some (ptr (Gt.p h t))
 nt:∀b o,Gt.af h t b o→¬(b<cx.base)
 srt:Pl.Srt OI (Gt.L h t)
 len:(Gt.L h t).length<4611686018427387904
 x1:1≤(Gt.X h t).length
def DelQ (H:Mem) (P:Ps) (h:Nat) (t:Gt EJ h) (mx:Bool) (x:Int×Int) (v:Value) (H':Mem):Prop:=
 match Pl.dlr OI mx x (Gt.L h t) with
 | some (y,L')=>∃t',v=.tuple #[.agg (EJ.enc y).toArray,.bool true]∧DelT H H' P h t t' L' (SegD OI mx x h t t')
 | none=>v=.tuple #[.agg (EJ.enc ((0:Int),(0:Int))).toArray,.bool false]∧Fr nowhere H H'
theorem rebal_at {B:World} {H:Mem} {tr:Nat} {P:Ps} (hP:PsOk P) (tc:TrC H tr P.iso P.mx P.mn) {i i0:Nat} {g:Ng} {X:List (Int×Int)} {x:Int×Int} (hi0:i0=i∨(i0=i+1∧i0=X.length)) (hi1:i0=X.length→i0=i+1):
  ∀{h:Nat} {K1 K2:List (Gt EJ h)} {tl tt:Gt EJ h},RebT H P (fun b=>b<cx.base) h i g X K1 K2 tl tt x→
  Fn Try.prog B 97 [.pointer (some ⟨tr,0,none⟩),.pointer (some ⟨g.p,0,none⟩),.int .i64 (i0:Int)] H (fun v H'=>v=resVal []∧∃(g':Ng) (X':List (Int×Int)) (K':List (Gt EJ h)),g'.p=g.p∧g'.cnt=g.cnt∧Fr (fun b o=>innc h g (K1++K2) b o∨(Gt.af h tl b o∨Gt.af h tt b o)) H H'∧Inn H' P h g' X' ((Gt.ps h K').map some) K'∧K'.length=X'.length+1∧
   Pl.inter X' (K'.map (Gt.L h))=Pl.inter X ((K1++[tl,tt]++K2).map (Gt.L h))∧X'.length≤P.mx∧X.length≤X'.length+1∧Gro H (fun b o=>innc h g (K1++K2) b o∨(Gt.af h tl b o∨Gt.af h tt b o)) (innc h g' K')∧RebS P h i X K1 K2 tl tt x ((g',X',K'):Gt EJ (h+1)))
 | 0,_,_,(gl,Xl),(gr,Xr),ht=>(rebalL_spec hP tc (ht.in0 (fun _=>0)) hi0 hi1).mono fun v H' ⟨e,ho⟩=>⟨e,ht.fin0 hP.h1 ho⟩
 | h+1,_,_,(gl,Xl,Kl),(gr,Xr,Kr),ht=>(rebalI_spec hP tc (ht.inS).1 hi0 hi1).mono fun v H' ⟨e,ho⟩=>⟨e,ht.finS hP.h1 ho⟩
theorem rebal_tree {B:World} {H:Mem} {tr:Nat} {P:Ps} (hP:PsOk P) (tc:TrC H tr P.iso P.mx P.mn) {h i0:Nat} {g:Ng} {X:List (Int×Int)} {K1 K2:List (Gt EJ h)} {k:Gt EJ h} (hI:Inn H P h g X ((Gt.ps h (K1++[k]++K2)).map some) (K1++K2))
  (hk:Gt.Good H P h k) (ok:Off (Gt.af h k) (innc h g (K1++K2))) (tn:∀b o,innc h g (K1++K2) b o→¬(fun b=>b<cx.base) b) (tk:∀b o,Gt.af h k b o→¬(fun b=>b<cx.base) b) (dD:∀b,(fun b=>b<cx.base) b→b<H.size) (hi:K1.length=i0) (hx1:1≤X.length)
  (hK:(K1++[k]++K2).length=X.length+1) (hxm:X.length≤P.mx) (hsh:(Gt.X h k).length<P.mn) (hml:P.mn≤(Gt.X h k).length+1) (hb:(Pl.inter X ((K1++[k]++K2).map (Gt.L h))).length<4611686018427387904):
  Fn Try.prog B 97 [.pointer (some ⟨tr,0,none⟩),.pointer (some ⟨g.p,0,none⟩),.int .i64 (i0:Int)] H (fun v H'=>v=resVal []∧∃(g':Ng) (X':List (Int×Int)) (K':List (Gt EJ h)),g'.p=g.p∧g'.cnt=g.cnt∧Fr (fun b o=>innc h g (K1++K2) b o∨Gt.af h k b o) H H'∧Inn H' P h g' X' ((Gt.ps h K').map some) K'∧K'.length=X'.length+1∧
   Pl.inter X' (K'.map (Gt.L h))=Pl.inter X ((K1++[k]++K2).map (Gt.L h))∧X'.length≤P.mx∧X.length≤X'.length+1∧Gro H (fun b o=>innc h g (K1++K2) b o∨Gt.af h k b o) (innc h g' K')∧RebK h i0 X K1 k K2 ((g',X',K'):Gt EJ (h+1))):=by
 have hlen:=Pl.inter_length X ((K1++[k]++K2).map (Gt.L h)) (by rw [List.length_map];exact hK)
 have hkl:(Gt.L h k).length≤(((K1++[k]++K2).map (Gt.L h)).map List.length).sum:=sum_mem List.length (List.mem_map.2 ⟨k,by simp,rfl⟩)
 rcases K2 with _|⟨kr,K2⟩
 ·
  obtain ⟨K1',kl,rfl⟩:∃K1' kl,K1=K1'++[kl]:=by
   rcases List.eq_nil_or_concat K1 with rfl|⟨a,b,e⟩
   ·
    have h9:=hK
    simp only [List.length_append,List.length_cons,List.length_nil] at h9
    omega
   · exact ⟨a,b,by simpa using e⟩
  have hlK:K1'.length+1=X.length:=by simp at hK;omega
  obtain ⟨x,hx⟩:∃x,X[K1'.length]?=some x:=⟨X[K1'.length]'(by omega),List.getElem?_eq_getElem (by omega)⟩
  have e1:K1'++[kl]++[k]++[]=K1'++[kl,k]++[]:=by simp
  have hkm:kl∈K1'++[kl]++[]:=by simp
  obtain ⟨q1,q2,q3⟩:=hI.c.1 kl hkm
  have hsub:(K1'++[]).Sublist (K1'++[kl]++[]):=by simp
  have hkl2:(Gt.L h kl).length+(Gt.L h k).length≤(((K1'++[kl]++[k]++[]).map (Gt.L h)).map List.length).sum:=by simp<;>omega
  have ekl:kl∈K1'++[kl]:=by simp
  have hpw:=hI.c.2
  rw [List.append_nil,List.pairwise_append] at hpw
  have okl:Off (Gt.af h kl) (innc h g (K1'++[])):=fun b o hb hn=>by
   rcases hn with hn|hn|⟨m,hm,hn⟩
   · exact (q3 b o hb).1 hn
   · exact (q3 b o hb).2 hn
   ·
    rw [List.append_nil] at hm
    exact hpw.2.2 m hm kl (List.mem_singleton.2 rfl) b o hn hb
  have ht:RebT H P (fun b=>b<cx.base) h K1'.length g X K1' [] kl k x:=⟨by rw [←e1];exact hI.sub hsub,q1,hk,okl,fun b o hb hn=>ok b o hb (innc_sub (fun m hm=>hsub.subset hm) hn),fun b o h1 h2=>ok b o h2 (.inr (.inr ⟨kl,hkm,h1⟩)),
   fun b o hb=>tn b o (innc_sub (fun m hm=>hsub.subset hm) hb),fun b o hb=>tn b o (.inr (.inr ⟨kl,hkm,hb⟩)),tk,dD,rfl,hx,by rw [←e1];exact hK,hxm,by omega,.inr hsh,by omega,hml⟩
  rw [List.length_append] at hi
  refine (rebal_at hP tc (i0:=i0) (.inr ⟨by simpa using hi.symm,by simp at hi;omega⟩) (fun _=>by simpa using hi.symm) ht).mono ?_
  rintro v H' ⟨e,g',X',K',r1,r2,r3,r4,r5,r6,r7,r8,r9,r10⟩
  have hA:∀b o,innc h g (K1'++[]) b o∨(Gt.af h kl b o∨Gt.af h k b o)→innc h g (K1'++[kl]++[]) b o∨Gt.af h k b o:=fun b o hz=>by
   rcases hz with hz|hz|hz
   · exact .inl (innc_sub (fun m hm=>hsub.subset hm) hz)
   · exact .inl (.inr (.inr ⟨kl,hkm,hz⟩))
   · exact .inr hz
  exact ⟨e,g',X',K',r1,r2,r3.mono fun b o _ hz=>hA b o hz,r4,r5,by rw [r6,e1],r7,r8,fun b o hb=>(r9 b o hb).imp (hA b o) id,RebK.last (by simpa using hi) hx hsh r10⟩
 ·
  have hlK:K1.length<X.length:=by simp at hK;omega
  obtain ⟨x,hx⟩:∃x,X[K1.length]?=some x:=⟨X[K1.length]'(by omega),List.getElem?_eq_getElem (by omega)⟩
  have e1:K1++[k]++kr::K2=K1++[k,kr]++K2:=by simp
  have hkm:kr∈K1++kr::K2:=by simp
  obtain ⟨q1,q2,q3⟩:=hI.c.1 kr hkm
  have hsub:(K1++K2).Sublist (K1++kr::K2):=List.Sublist.append_left (List.sublist_cons_self _ _) _
  have hkl2:(Gt.L h k).length+(Gt.L h kr).length≤(((K1++[k]++kr::K2).map (Gt.L h)).map List.length).sum:=by simp<;>omega
  have hpw:=hI.c.2
  rw [List.pairwise_append,List.pairwise_cons] at hpw
  have okr:Off (Gt.af h kr) (innc h g (K1++K2)):=fun b o hb hn=>by
   rcases hn with hn|hn|⟨m,hm,hn⟩
   · exact (q3 b o hb).1 hn
   · exact (q3 b o hb).2 hn
   ·
    rcases List.mem_append.1 hm with hm|hm
    · exact hpw.2.2 m hm kr List.mem_cons_self b o hn hb
    · exact hpw.2.1.1 m hm b o hb hn
  have ht:RebT H P (fun b=>b<cx.base) h K1.length g X K1 K2 k kr x:=⟨by rw [←e1];exact hI.sub hsub,hk,q1,fun b o hb hn=>ok b o hb (innc_sub (fun m hm=>hsub.subset hm) hn),okr,fun b o h1 h2=>ok b o h1 (.inr (.inr ⟨kr,hkm,h2⟩)),
   fun b o hb=>tn b o (innc_sub (fun m hm=>hsub.subset hm) hb),tk,fun b o hb=>tn b o (.inr (.inr ⟨kr,hkm,hb⟩)),dD,rfl,hx,by rw [←e1];exact hK,hxm,by omega,.inl hsh,hml,by omega⟩
  refine (rebal_at hP tc (i0:=i0) (.inl hi.symm) (fun h9=>by omega) ht).mono ?_
  rintro v H' ⟨e,g',X',K',r1,r2,r3,r4,r5,r6,r7,r8,r9,r10⟩
  have hA:∀b o,innc h g (K1++K2) b o∨(Gt.af h k b o∨Gt.af h kr b o)→innc h g (K1++kr::K2) b o∨Gt.af h k b o:=fun b o hz=>by
   rcases hz with hz|hz|hz
   · exact .inl (innc_sub (fun m hm=>hsub.subset hm) hz)
   · exact .inr hz
   · exact .inl (.inr (.inr ⟨kr,hkm,hz⟩))
  exact ⟨e,g',X',K',r1,r2,r3.mono fun b o _ hz=>hA b o hz,r4,r5,by rw [r6,e1],r7,r8,fun b o hb=>(r9 b o hb).imp (hA b o) id,RebK.more hi hx hsh r10⟩
end Go.Bt.FG
namespace Go.Bt.FG
open Go Go.Proofs Go.Proofs.Try
set_option maxRecDepth 20000
set_option maxHeartbeats 4000000
set_option linter.unusedSectionVars false
variable [Inhabited Cx]
theorem nitems {B:World} {P:Ps} (hP:PsOk P) (mt:Bool) {tr:Nat}:∀(h:Nat) {H:Mem} {bp op:Nat} {v:Value} {acc:List (Int×Int)} {Z:Nat→Prop} {t:Gt EJ h},TrC H tr P.iso P.mx P.mn→Gt.Good H P h t→cl H bp op=some (ptr (Gt.p h t))→AccN EJ Z H v acc→(∀b o,Gt.af h t b o→¬Z b)→(∀b,Z b→cx.base≤b)→acc.length+(Gt.L h t).length≤4294967296→
  Fn Try.prog B 82 [.pointer (some ⟨tr,0,none⟩),.pointer (some ⟨bp,op,none⟩),v,.bool mt] H (fun r H'=>∃Z',AccN EJ Z' H' r (acc++Gt.L h t)∧Fr (fun b _=>Z b) H H'∧∀b,Z' b→Z b∨H.size≤b)
 | 0,H,bp,op,v,acc,Z,(g,X),tc,hg,hc,hA,hnz,hzb,hlen=>by
  have hN:NodeM EJ H g X (.pointer none):=hg.1
  have hiso:g.iso=P.iso:=hg.2.1
  have hc0:=hN.c0
  rw [hiso] at hc0
  replace hlen:acc.length+X.length≤4294967296:=hlen
  have hX:InS EJ H (.slice (some ⟨g.ib,g.io,none⟩) X.length g.ic) X:=.inl ⟨_,_,_,rfl,hN.sl.hle,hN.sl.rd⟩
  refine fn_of func82 rfl ntmps82 ?_
  refine (show Go' _ _ _ _ 73 [(0,_),(1,_),(2,_),(3,_)] [.code _] _ from ?_)
  refine Ut 1 rfl (Ur 1 0 rfl (Uf 1 [0,1,2,3,8] rfl (Ut 1 rfl (Ur 5 128 rfl (Uq 3 rfl (O.callQ rfl rfl rfl call59 rfl (isoLoad_spec mt hc hc0 tc.iso) trivial (Uf 1 [0,2,3,8,9] rfl (Ut 2 rfl ?_))))))))
  unfold ptr
  refine Ur 2 8 rfl (Uq 1 rfl (O.callQ rfl rfl rfl call62 rfl (leaf_spec hN.c3) trivial (Uf 0 [0,2,3,8,9,16] rfl (Go'.condT rfl (Ut 1 rfl (Ur 7 2304 rfl (Ul 4 rfl hN.c2 (O.appI (E:=EJ) rfl rfl rfl ⟨underlying25,sizeOf27,zeroValue27,⟨_,typeInfo27,rfl⟩,rfl,by decide,by decide⟩ rfl hA rfl hX (Nat.le_trans (Nat.mul_le_mul_left _ (Nat.le_of_ble_eq_true (n:=_) (m:=4096) rfl)) (by skip;omega)) (by omega) ?_))))))))
  intro v4 H4 hA4 hF4 hs4
  refine ⟨trivial,?_⟩
  refine Uf 1 [0,2,3,8,9] rfl (Go'.ret (vs:=[_]) func82 results82 ⟨rfl,trivial⟩ ?_)
  exact ⟨_,hA4,hF4,fun b hb=>hb.elim .inl (fun h=>.inr (by omega))⟩
 | h+1,H,bp,op,v,acc,Z,(g,X,K),tc,hg,hc,hA,hnz,hzb,hlen=>by
  have ih:=@nitems B P hP mt tr h
  have hI:Inn H P h g X ((Gt.ps h K).map some) K:=hg.inn
  have hKl:K.length=X.length+1:=hg.2.2.2.2.2.1
  have hxm:X.length≤P.mx:=hg.2.2.2.2.1
  have hx255:=hP.hx
  have hc0:=hI.n.c0
  rw [hI.iso] at hc0
  have hbs:=tc.hb
  have hKL:(K.map (Gt.L h)).length=X.length+1:=by rw [List.length_map];exact hKl
  have hol:((Gt.ps h K).map some).length=X.length+1:=by rw [List.length_map,Gt.ps,List.length_map];exact hKl
  replace hlen:acc.length+(Pl.inter X (K.map (Gt.L h))).length≤4294967296:=hlen
  have hlt:∀x y,innc h g K x y→x<H.size:=fun x y hb=>hI.lt hb
  have hin:∀H',Fr (fun x _=>Z x) H H'→Inn H' P h g X ((Gt.ps h K).map some) K∧TrC H' tr P.iso P.mx P.mn:=fun H' hf=>⟨hI.fr hf (fun x y hxy hz=>hnz x y hxy hz),tc.fr hf (fun b o hb _ hz=>by have:=hzb b hz;omega)⟩
  have hcat:∀{Z1 Z2:Nat→Prop} {H2 H3:Mem},Fr (fun x _=>Z x) H H2→(∀b,Z1 b→Z b∨H.size≤b)→Fr (fun x _=>Z1 x) H2 H3→(∀b,Z2 b→Z1 b∨H2.size≤b)→Fr (fun x _=>Z x) H H3∧∀b,Z2 b→Z b∨H.size≤b:=by
   intro Z1 Z2 H2 H3 hF hZ1 hF2 hZ2
   have:=hF.size
   exact ⟨hF.trans' hF2 (fun _ _ _ h=>h) (fun b o hb hz=>(hZ1 b hz).elim id (fun h=>by omega)),fun b hb=>(hZ2 b hb).elim (hZ1 b) (fun h=>.inr (by omega))⟩
  have hkz:∀{Z1:Nat→Prop},(∀b,Z1 b→Z b∨H.size≤b)→(∀b o,innc h g K b o→¬Z1 b)∧∀b,Z1 b→cx.base≤b:=fun hZ1=>⟨fun b o hb hz=>(hZ1 b hz).elim (hnz b o hb) (fun hz=>by have:=hlt b o hb;omega),fun b hz=>(hZ1 b hz).elim (hzb b) (fun hz=>by omega)⟩
  show Fn _ _ _ _ _ (fun r H'=>∃Z',AccN EJ Z' H' r (acc++Pl.inter X (K.map (Gt.L h)))∧Fr (fun b _=>Z b) H H'∧∀b,Z' b→Z b∨H.size≤b)
  refine fn_of func82 rfl ntmps82 ?_
  refine (show Go' _ _ _ _ 73 [(0,_),(1,_),(2,_),(3,_)] [.code _] _ from ?_)
  refine Ut 1 rfl (Ur 1 0 rfl (Uf 1 [0,1,2,3,8] rfl (Ut 1 rfl (Ur 5 128 rfl (Uq 3 rfl (O.callQ rfl rfl rfl call59 rfl (isoLoad_spec mt hc hc0 tc.iso) trivial (Uf 1 [0,2,3,8,9] rfl (Ut 2 rfl ?_))))))))
  unfold ptr
  refine Ur 2 8 rfl (Uq 1 rfl (O.callQ rfl rfl rfl call62 rfl (leaf_spec hI.n.c3) trivial (Uf 0 [0,2,3,8,9,16] rfl (Go'.condF rfl (Ut 3 rfl (Ur 1 0 rfl (Uf 1 [0,2,3,8,9,10] rfl (Ut 1 rfl (Go'.loop (Uk [0,2,3,9,10] rfl ?_))))))))))
  refine Go'.ind (σ:=Nat×Value×(Nat→Prop)) (fun s=>X.length-s.1) (fun s H'=>s.1≤X.length∧AccN EJ s.2.2 H' s.2.1 (acc++Pl.pre (X.take s.1) ((K.map (Gt.L h)).take s.1))∧Fr (fun b _=>Z b) H H'∧∀b,s.2.2 b→Z b∨H.size≤b)
   (fun s=>[(0,.pointer (some ⟨tr,0,none⟩)),(2,s.2.1),(3,.bool mt),(9,.pointer (some ⟨g.p,0,none⟩)),(10,.int .i64 (s.1:Int))]) (0,v,Z) ⟨Nat.zero_le _,by rw [List.take_zero];show AccN EJ Z H v (acc++[]);rw [List.append_nil];exact hA,Fr.refl _ _,fun b hb=>.inl hb⟩ rfl ?_
  clear hA
  rintro ⟨j,sv,Z1⟩ H2 ⟨hj,hA,hF,hZ1⟩ ih2
  simp only at hj hA hZ1
  have hsz:=hF.size
  obtain ⟨hI2,tc2⟩:=hin H2 hF
  obtain ⟨hz1,hz2⟩:=hkz hZ1
  have hpl:=Pl.pre_len X (K.map (Gt.L h)) hKL j hj
  have hal:(acc++Pl.pre (X.take j) ((K.map (Gt.L h)).take j)).length=acc.length+(Pl.pre (X.take j) ((K.map (Gt.L h)).take j)).length:=List.length_append
  obtain ⟨k,hkk⟩:∃k,K[j]?=some k:=⟨K[j],List.getElem?_eq_getElem (by omega)⟩
  have hkL:(K.map (Gt.L h))[j]?=some (Gt.L h k):=by rw [List.getElem?_map,hkk];rfl
  have hkK:k∈K:=List.mem_of_getElem? hkk
  have hok:((Gt.ps h K).map some)[j]?=some (some (Gt.p h k)):=by rw [Gt.ps,List.map_map,List.getElem?_map,hkk];rfl
  have hcel:=hI2.k.at hok
  unfold ptr at hcel
  refine Ut 2 rfl ?_
  by_cases hlt2:j<X.length
  ·
   obtain ⟨y,hy⟩:∃y,X[j]?=some y:=⟨X[j],List.getElem?_eq_getElem hlt2⟩
   have hps:=Pl.pre_succ hy hkL
   have hpl2:=Pl.pre_len X (K.map (Gt.L h)) hKL (j+1) hlt2
   rw [hps,List.length_append,List.length_append,List.length_singleton] at hpl2
   refine Ur 7 256 rfl (Ul 4 rfl hI2.n.c2 (Uc 1 rfl (lssT (by omega)) (Uf 0 [0,2,3,9,10,29] rfl (Go'.condT rfl (Ut 4 rfl (Ur 13 8392960 rfl (Ul 4 rfl hI2.n.c3 (Ul 1 rfl hI2.k.c (Ux 1 j rfl (by omega) (by omega) (Uq 2 rfl (O.call rfl rfl rfl call82 rfl (ih tc2 (hI2.c.1 k hkK).1 hcel hA (fun b o hb=>hz1 b o (.inr (.inr ⟨k,hkK,hb⟩))) hz2 (by rw [hal];omega)) ?_)))))))))))
   rintro _ H4 ⟨Z4,hA4,hF4,hZ4⟩
   obtain ⟨hF5,hZ5⟩:=hcat hF hZ1 hF4 hZ4
   have hsz5:=hF5.size
   refine ⟨trivial,?_⟩
   refine Uf 1 [0,2,3,9,10,29] rfl ?_
   obtain ⟨hI4,_⟩:=hin H4 hF5
   have hal4:(acc++Pl.pre (X.take j) ((K.map (Gt.L h)).take j)++Gt.L h k).length=acc.length+(Pl.pre (X.take j) ((K.map (Gt.L h)).take j)).length+(Gt.L h k).length:=by rw [List.length_append,hal]
   refine Ur 11 672000 rfl (Ul 4 rfl hI4.n.c2 (Ux 1 j rfl (by omega) (by omega) (Us 0 rfl (hI4.n.sl.item hy) rfl (O.bsl (cs:=(EJ.enc y)) rfl rfl rfl ⟨underlying25,sizeOf27,zeroValue27,⟨_,typeInfo27,rfl⟩,rfl,by decide,by decide⟩ rfl (by decide) (by kernel_rfl) ?_))))
   intro H6 M6
   have hs6:=M6.size
   have hA6:=hA4.fr (M6.fr nowhere) (fun _ _ _ _=>nw)
   have hv6:InS EJ H6 (.slice (some ⟨H4.size,0,none⟩) 1 1) [y]:=.inl ⟨_,_,_,rfl,Nat.le_refl _,M6.rd _ [] (by simp [row,EJ])⟩
   refine ⟨trivial,?_⟩
   refine O.appI (E:=EJ) rfl rfl rfl ⟨underlying25,sizeOf27,zeroValue27,⟨_,typeInfo27,rfl⟩,rfl,by decide,by decide⟩ rfl hA6 rfl hv6 (Nat.le_trans (Nat.mul_le_mul_left _ (Nat.le_of_ble_eq_true (n:=_) (m:=4096) rfl)) (by rw [hal4,List.length_singleton];omega)) (by rw [hal4,List.length_singleton];omega) ?_
   intro v7 H7 hA7 hF7 hs7
   have hg7:=hF7.size
   refine ⟨trivial,?_⟩
   refine Uf 1 [0,2,3,9,10,29] rfl (Ut 1 rfl (Ur 3 0 rfl (Ua 1 (((j+1:Nat):Int)) rfl (by omega) (Uf 1 [0,2,3,9,10,29] rfl (Uk [0,2,3,9,10] rfl (Go'.inLoop ?_))))))
   refine ih2 (j+1,v7,fun b=>Z4 b∨(b=H6.size∧b<H7.size)) H7 ⟨hlt2,?_,(hF5.trans' (M6.fr nowhere) (fun _ _ _ h=>h) (fun _ _ _ h=>h.elim)).trans' hF7 (fun _ _ _ h=>h) (fun b o hb hz=>(hZ5 b hz).elim id (fun h=>by omega)),fun b hb=>hb.elim (hZ5 b) (fun h=>.inr (by omega))⟩ (by simp only;omega)
   simp only
   rw [hps,←List.append_assoc,←List.append_assoc]
   exact hA7
  ·
   obtain rfl:j=X.length:=by omega
   have hil:=Pl.inter_eq_pre (Nat.le_refl _) hkL
   rw [List.take_length,show (K.map (Gt.L h)).take (X.length+1)=K.map (Gt.L h) from List.take_of_length_le (by omega)] at hil
   rw [List.take_length] at hA hal hpl
   have hll:=congrArg List.length hil
   rw [List.length_append] at hll
   refine Ur 7 256 rfl (Ul 4 rfl hI2.n.c2 (Uc 1 rfl (lssF (by omega)) (Uf 0 [0,2,3,9,10,29] rfl (Go'.condF rfl (Ut 2 rfl (Ud 20 137456783616 (by kernel_rfl) (Ul 4 rfl hI2.n.c3 (Ul 1 rfl hI2.k.c (Ul 3 rfl hI2.n.c3 (Ul 1 rfl hI2.k.c (Ub 1 (((((((Gt.ps h K).map some)).length)-1:Nat):Int)) rfl (by omega) ?_)))))))))))
   refine Ux 0 (X.length) rfl (by omega) (by omega) (Uq 2 rfl (O.call rfl rfl rfl call82 rfl (ih tc2 (hI2.c.1 k hkK).1 hcel hA (fun b o hb=>hz1 b o (.inr (.inr ⟨k,hkK,hb⟩))) hz2 (by rw [hal];omega)) ?_))
   rintro _ H4 ⟨Z4,hA4,hF4,hZ4⟩
   obtain ⟨hF5,hZ5⟩:=hcat hF hZ1 hF4 hZ4
   have hsz5:=hF5.size
   refine ⟨trivial,?_⟩
   refine Uf 1 [8] rfl (Go'.ret (vs:=[_]) func82 results82 ⟨rfl,trivial⟩ ?_)
   refine ⟨Z4,?_,hF5,hZ5⟩
   rw [hil,←List.append_assoc]
   exact hA4
end Go.Bt.FG
namespace Go.Bt.FG
open Go Go.Proofs Go.Proofs.Try
set_option maxRecDepth 20000
set_option maxHeartbeats 4000000
set_option linter.unusedSectionVars false
variable [Inhabited Cx]
structure MapM (H:Mem) (tr:Nat) (P:Ps) (S:Nat→Prop) (l:List (Int×Int)):Prop where
 tc:TrC H tr P.iso P.mx P.mn
 srt:Pl.Srt OI l
 cnt:cl H tr 3=some (.int .i64 (l.length:Int))
 own:S tr
 lt:∀b,S b→b<H.size
 bs:∀b,S b→b=tr∨cx.base≤b
 rt:(l=[]∧cl H tr 2=some (.pointer none))∨∃h,∃t:Gt EJ h,Gt.Good H P h t∧1≤(Gt.X h t).length∧Gt.L h t=l∧cl H tr 2=some (ptr (Gt.p h t))∧(∀b o,Gt.af h t b o→cx.base≤b)∧∀b o,Gt.af h t b o→S b
theorem MapM.fr {H H':Mem} {Z:Nat→Nat→Prop} {tr:Nat} {P:Ps} {S:Nat→Prop} {l:List (Int×Int)} (h:MapM H tr P S l) (hf:Fr Z H H') (hz:∀b o,S b∨(b<cx.base∧cx.own b)→¬Z b o):MapM H' tr P S l where
 tc:=h.tc.fr hf fun b o hb _=>hz b o (.inr hb)
 srt:=h.srt
 cnt:=hf.keep h.cnt (hz _ _ (.inl h.own))
 own:=h.own
 lt:=fun b hb=>Nat.lt_of_lt_of_le (h.lt b hb) hf.size
 bs:=h.bs
 rt:=h.rt.elim (fun ⟨e,k⟩=>.inl ⟨e,hf.keep k (hz _ _ (.inl h.own))⟩) fun ⟨hh,t,g,x1,e,k,n,s⟩=>.inr ⟨hh,t,g.fr hf fun b o hb=>hz b o (.inl (s b o hb)),x1,e,hf.keep k (hz _ _ (.inl h.own)),n,s⟩
theorem len_spec {B:World} {H:Mem} {tr:Nat} {P:Ps} {S:Nat→Prop} {l:List (Int×Int)} (hM:MapM H tr P S l):
  Fn Try.prog B 81 [.pointer (some ⟨tr,0,none⟩)] H (fun r H'=>r=.int .i64 (l.length:Int)∧H'=H):=by
 refine fn_of func81 rfl ntmps81 ?_
 refine (show Go' _ _ _ _ 7 [(0,_)] [.code _] _ from ?_)
 refine Ut 1 rfl (Ur 1 0 rfl (Uf 1 [0,2] rfl (Ut 1 rfl (Ur 5 64 rfl (Ul 3 rfl hM.cnt (Uf 1 [2] rfl (Go'.ret (vs:=[_]) func81 results81 ⟨rfl,trivial⟩ ?_)))))))
 exact ⟨rfl,rfl⟩
theorem items_spec {B:World} {H:Mem} {tr:Nat} {P:Ps} (hP:PsOk P) {S:Nat→Prop} {l:List (Int×Int)} (hM:MapM H tr P S l) (mt:Bool) (hll:l.length≤4294967296):
  Fn Try.prog B 56 [.pointer (some ⟨tr,0,none⟩),.bool mt] H (fun r H'=>OutS EJ H' r l∧Fr nowhere H H'):=by
 have lt0:=hM.lt
 have hb0:=hM.tc.hb
 refine fn_of func56 rfl ntmps56 ?_
 refine (show Go' _ _ _ _ 27 [(0,_),(1,_)] [.code _] _ from ?_)
 refine Ut 1 rfl (Ur 1 0 rfl (Uf 1 [0,1,4] rfl (Ut 2 rfl (Ur 3 32 rfl (Uq 2 rfl (O.callQ rfl rfl rfl call57 rfl lock_spec trivial (Uf 0 [0,1,4,8] rfl (Go'.condF rfl (Ut 2 rfl (Ur 4 40 rfl (Uq 1 rfl ?_)))))))))))
 refine O.callQ rfl rfl rfl call81 rfl (len_spec hM) trivial (O.mks (j:=0) (c:=l.length) rfl rfl rfl ⟨underlying25,sizeOf27,zeroValue27,⟨_,typeInfo27,rfl⟩,rfl,by decide,by decide⟩ rfl rfl rfl rfl (by omega) (Nat.le_trans (Nat.mul_le_mul_right _ (Nat.le_of_ble_eq_true (n:=_) (m:=4096) rfl)) (by omega)) (by omega) ?_)
 intro H1 M1
 have hs1:=M1.size
 have hA1:AccN EJ (fun b=>b=H.size) H1 (.slice (some ⟨H.size,0,none⟩) 0 l.length) []:=⟨H.size,0,l.length,rfl,rfl,by omega,⟨rfl,Nat.zero_le _,Rd.nil _ _ _,M1.wr _ (by rw [zeroRow_size];exact Nat.le_refl _)⟩⟩
 replace hM:=hM.fr (M1.fr nowhere) (fun _ _ _=>nw)
 refine ⟨trivial,?_⟩
 refine Uf 1 [0,1,4,5] rfl (Ut 2 rfl ?_)
 rcases hM.rt with ⟨rfl,hptr⟩|⟨h,t,hg,hx1,e,hc,hnt,hown⟩
 ·
  refine Ur 5 64 rfl (Ul 3 rfl hptr (O.notNil rfl rfl rfl rfl underlying107 rfl rfl (Uf 0 [0,1,4,5,18] rfl (Go'.condF rfl (Ut 2 rfl (Ur 2 0 rfl (Uf 2 [4] rfl (Go'.ret (vs:=[_]) func56 results56 ⟨rfl,trivial⟩ ?_))))))))
  exact ⟨hA1.acc.out,M1.fr nowhere⟩
 ·
  have hptr:cl H1 tr 2=some (.pointer (some ⟨Gt.p h t,0,none⟩)):=hc
  refine Ur 5 64 rfl (Ul 3 rfl hptr (O.notNil rfl rfl rfl rfl underlying107 rfl rfl (Uf 0 [0,1,4,5,18] rfl (Go'.condT rfl (Ur 8 8192 rfl (Uq 6 rfl (O.call rfl rfl rfl call82 rfl (nitems hP mt h hM.tc hg hc hA1 (fun b o hb hz=>by have:=lt0 b (hown b o hb);omega) (fun b hb=>by omega) (by rw [e];simpa using hll)) ?_)))))))
  rintro _ H3 ⟨Z3,hA3,hF3,_⟩
  rw [List.nil_append,e] at hA3
  refine ⟨trivial,?_⟩
  refine Uf 1 [4,5] rfl (Ut 1 rfl (Ur 2 0 rfl (Uf 2 [4] rfl (Go'.ret (vs:=[_]) func56 results56 ⟨rfl,trivial⟩ ?_))))
  exact ⟨hA3.acc.out,(M1.fr nowhere).trans' hF3 (fun _ _ _ h=>h) (fun b o hb hz=>by omega)⟩
theorem Items_spec {B:World} {H:Mem} {tr:Nat} {P:Ps} (hP:PsOk P) {S:Nat→Prop} {l:List (Int×Int)} (hM:MapM H tr P S l) (hll:l.length≤4294967296):
  Fn Try.prog B 32 [.pointer (some ⟨tr,0,none⟩)] H (fun r H'=>OutS EJ H' r l∧Fr nowhere H H'):=by
 refine fn_of func32 rfl ntmps32 ?_
 refine (show Go' _ _ _ _ 5 [(0,_)] [.code _] _ from ?_)
 refine Ut 1 rfl (Ur 1 0 rfl (Uf 1 [0,2] rfl (Ut 1 rfl (Ur 3 8 rfl (Uq 1 rfl (O.call rfl rfl rfl call56 rfl (items_spec hP hM false hll) ?_))))))
 rintro v2 H2 h2
 refine ⟨trivial,?_⟩
 refine Uf 1 [2] rfl (Go'.ret (vs:=[_]) func32 results32 ⟨rfl,trivial⟩ ?_)
 exact h2
end Go.Bt.FG
namespace Go.Bt.FG
open Go Go.Proofs Go.Proofs.Try
set_option maxRecDepth 20000
set_option maxHeartbeats 4000000
set_option linter.unusedSectionVars false
variable [Inhabited Cx]
structure HintM (H:Mem) (hb:Nat):Prop where
 us:∀i,i<8→∃b,cl H hb i=some (.bool b)
 ps:∀i,i<8→∃n:Nat,n<256∧cl H hb (8+i)=some (.int .u8 (n:Int))
 wr:Wr H hb 0 16
theorem HintM.fr {H H':Mem} {hb:Nat} {Z:Nat→Nat→Prop} (h:HintM H hb) (hf:Fr Z H H') (hz:∀o,¬Z hb o):HintM H' hb where
 us:=fun i hi=>have ⟨b,hb⟩:=h.us i hi;⟨b,hf.keep hb (hz _)⟩
 ps:=fun i hi=>have ⟨n,hn,hb⟩:=h.ps i hi;⟨n,hn,hf.keep hb (hz _)⟩
 wr:=hf.wr h.wr
theorem HintM.setU {H H':Mem} {hb i:Nat} {b:Bool} (h:HintM H hb) (W:Wrote H H' hb i [.bool b]) (hi:i<8):HintM H' hb where
 us:=fun j hj=>by
  by_cases e:j=i
  · subst e;exact ⟨b,W.at⟩
  · obtain ⟨c,hc⟩:=h.us j hj;exact ⟨c,W.keep1 hc (by omega)⟩
 ps:=fun j hj=>by obtain ⟨n,hn,hc⟩:=h.ps j hj;exact ⟨n,hn,W.keep1 hc (by omega)⟩
 wr:=W.fr.wr h.wr
theorem HintM.setP {H H':Mem} {hb i n:Nat} (h:HintM H hb) (W:Wrote H H' hb (8+i) [.int .u8 (n:Int)]) (hi:i<8) (hn:n<256):HintM H' hb where
 us:=fun j hj=>by obtain ⟨c,hc⟩:=h.us j hj;exact ⟨c,W.keep1 hc (by omega)⟩
 ps:=fun j hj=>by
  by_cases e:j=i
  · subst e;exact ⟨n,hn,W.at⟩
  · obtain ⟨m,hm,hc⟩:=h.ps j hj;exact ⟨m,hm,W.keep1 hc (by omega)⟩
 wr:=W.fr.wr h.wr
def HintOk (H:Mem) (v:Value) (hz:Nat→Prop):Prop:=(v=.pointer none∧∀b,¬hz b)∨∃hb,v=.pointer (some ⟨hb,0,none⟩)∧(∀b,hz b↔b=hb)∧hb<H.size∧¬(hb<cx.base∧cx.own hb)∧HintM H hb
theorem HintOk.fr {H H':Mem} {v:Value} {hz:Nat→Prop} {Z:Nat→Nat→Prop} (h:HintOk H v hz) (hf:Fr Z H H') (hd:∀b o,hz b→¬Z b o):HintOk H' v hz:=
 h.imp id fun ⟨hb,h1,h2,h3,h4,h5⟩=>⟨hb,h1,h2,Nat.lt_of_lt_of_le h3 hf.size,h4,h5.fr hf fun o=>hd hb o ((h2 hb).2 rfl)⟩
theorem HintOk.base {H:Mem} {v:Value} {hz:Nat→Prop} (h:HintOk H v hz):∀b,hz b→¬(b<cx.base∧cx.own b)∧b<H.size:=fun b hb=>by
 rcases h with ⟨_,h⟩|⟨h0,_,h2,h3,h4,_⟩
 · exact absurd hb (h b)
 · rw [(h2 b).1 hb];exact ⟨h4,h3⟩
theorem Less_spec {B:World} {H:Mem} {tr id mx mn:Nat} (tc:TrC H tr id mx mn) (x y:Int×Int):
  Fn Try.prog B 68 [.pointer (some ⟨tr,0,none⟩),.agg (EJ.enc x).toArray,.agg (EJ.enc y).toArray] H (fun r H'=>r=.bool (OI.lt x y)∧Fr nowhere H H'):=by
 refine fn_of func68 rfl ntmps68 ?_
 refine (show Go' _ _ _ _ 14 [(0,_),(1,_),(2,_)] [.code _] _ from ?_)
 refine Ut 1 rfl (Ur 3 10 rfl (O.box rfl rfl rfl rfl ?_))
 intro H1 M1
 refine ⟨trivial,?_⟩
 have hf1:=M1.fr nowhere
 replace tc:=tc.fr hf1 (fun _ _ _ _=>nw)
 have mi:Rd H1 H.size 0 (EJ.enc x):=M1.rd _ [] (by simp [Value.cells])
 refine O.box rfl rfl rfl rfl ?_
 intro H2 M2
 refine ⟨trivial,?_⟩
 have hf2:=hf1.trans (M2.fr nowhere)
 replace tc:=tc.fr (M2.fr nowhere) (fun _ _ _ _=>nw)
 replace mi:=(M2.fr nowhere).rd mi (fun _ _=>nw)
 have mj:Rd H2 H1.size 0 (EJ.enc y):=M2.rd _ [] (by simp [Value.cells])
 refine Uf 1 [0,4,5,6] rfl (Ut 1 rfl (Ud 8 9536 (by kernel_rfl) (Ul 3 rfl tc.le (Us 0 rfl mi rfl (Us 0 rfl mj rfl (O.callC rfl rfl rfl rfl call72 rfl (less_spec tc x y) ?_))))))
 rintro _ H3 ⟨rfl,hF3⟩
 refine ⟨trivial,?_⟩
 refine Uf 1 [6] rfl (Go'.ret (vs:=[_]) func68 results68 ⟨rfl,trivial⟩ ?_)
 exact ⟨rfl,hf2.trans hF3⟩
end Go.Bt.FG
namespace Go.Bt.FG
open Go Go.Proofs Go.Proofs.Try
set_option maxRecDepth 20000
set_option maxHeartbeats 4000000
set_option linter.unusedSectionVars false
variable [Inhabited Cx]
theorem hintsearch_spec {B:World} {H:Mem} {tr id mx mn hb dp:Nat} (tc:TrC H tr id mx mn) {g:Ng} {X:List (Int×Int)} {kp:Option Addr} (x:Int×Int) (hn:NodeM EJ H g X (.pointer kp)) (hs:Pl.Srt OI X) (hl:X.length≤255) (h1:1≤X.length)
  (hh:HintM H hb) (hbl:hb<H.size) (hbb:¬(hb<cx.base∧cx.own hb)) (hoff:∀o,¬ncl EJ g hb o) (hdp:dp<4611686018427387904):
  Fn Try.prog B 85 [.pointer (some ⟨tr,0,none⟩),.pointer (some ⟨g.p,0,none⟩),.agg (EJ.enc x).toArray,.pointer (some ⟨hb,0,none⟩),.int .i64 (dp:Int)] H (fun v H'=>v=.tuple #[.int .i64 ((Pl.pos OI x X:Nat):Int),.bool (Pl.fnd OI x X)]∧Fr (fun b _=>b=hb) H H'∧HintM H' hb):=by
 have hple:=Pl.pos_le OI x X
 refine fn_of func85 rfl ntmps85 ?_
 refine (show Go' _ _ _ _ 200 [(0,_),(1,_),(2,_),(3,_),(4,_)] [.code _] _ from ?_)
 refine Ut 1 rfl (Ur 3 2 rfl (O.box rfl rfl rfl rfl ?_))
 intro H1 M1
 refine ⟨trivial,?_⟩
 have hF1:=M1.fr nowhere
 have hs1:=M1.size
 replace tc:=tc.fr hF1 (fun _ _ _ _=>nw)
 replace hn:=NodeM.fr EJ hn hF1 (fun _ _ _=>nw)
 replace hh:=hh.fr hF1 (fun _=>nw)
 have mk:Rd H1 H.size 0 (EJ.enc x):=M1.rd _ [] (by simp [Value.cells])
 refine Uf 2 [0,1,2,3,4,7,10,11] rfl (Ut 1 rfl ?_)
 refine Go'.joinL (l:=0) (σ:=Nat×Bool) rfl (fun s H'=>s=(Pl.pos OI x X,Pl.fnd OI x X)∧Fr nowhere H1 H') (fun s=>[(1,.pointer (some ⟨g.p,0,none⟩)),(3,.pointer (some ⟨hb,0,none⟩)),(4,.int .i64 (dp:Int)),(10,.int .i64 (s.1:Int)),(11,.bool s.2)]) ?_ ?_
 ·
  rintro _ H2 ⟨rfl,hF2⟩
  replace hn:=NodeM.fr EJ hn hF2 (fun _ _ _=>nw)
  replace hh:=hh.fr hF2 (fun _=>nw)
  have hF:=hF1.trans hF2
  have hsz:=hF2.size
  simp only
  refine Ut 2 rfl ?_
  by_cases hd8:dp<8
  rotate_left
  ·
   refine Ur 2 0 rfl (Uc 1 rfl (lssF (by omega)) (Uf 0 [1,3,4,10,11,157] rfl (Go'.condF rfl (Ut 2 rfl (Ur 4 0 rfl (Uf 4 [1,3,4,10,11,157] rfl (Go'.ret (vs:=[_,_]) func85 results85 ⟨rfl,rfl,trivial⟩ ?_)))))))
   exact ⟨rfl,hF.mono (fun _ _ _ h=>h.elim),hh⟩
  ·
   refine Ur 2 0 rfl (Uc 1 rfl (lssT (by omega)) (Uf 0 [1,3,4,10,11,157] rfl (Go'.condT rfl (Ut 1 rfl (Ur 6 2048 rfl (Uq 4 rfl (O.ixr (j:=dp) rfl rfl rfl rfl underlying100 sizeOf4 rfl rfl (by omega) hd8 (O.st rfl rfl sizeOf4 rfl rfl rfl rfl rfl (by rw [Nat.zero_add,Nat.mul_one];exact hh.wr.at0 dp 1 (by omega)) ?_))))))))
   intro H3 W3
   have hs3:=W3.size
   rw [Nat.zero_add,Nat.mul_one] at W3
   replace hh:=hh.setU W3 hd8
   replace hn:=NodeM.fr EJ hn W3.fr (fun b o hb=>nr (.inl (fun e=>hoff o (e▸hb))))
   have hG:Fr (fun b _=>b=hb) H H3:=hF.trans' W3.fr (fun _ _ _ h=>h.elim) (fun b o _ h=>h.1)
   refine ⟨trivial,?_⟩
   refine Uf 0 [1,3,4,10,11,157] rfl (Ut 1 rfl (Ur 1 0 rfl (Uf 1 [1,3,4,10,11,15,157] rfl (Ut 2 rfl ?_))))
   obtain ⟨pn,hpn,hpc⟩:=hh.ps dp hd8
   have hq:∀q:Nat,q<256→q<256:=fun _ h=>h
   rcases kp with _|kq
   ·
    cases hfd:Pl.fnd OI x X
    ·
     refine Ur 5 8 rfl (Uq 1 rfl (O.callQ rfl rfl rfl call62 rfl (leaf_spec hn.c3) trivial (Uf 3 [1,3,4,10,11,15,157,167] rfl (Go'.condF rfl (Ur 3 8 rfl (Uq 1 rfl (O.cvk .u8 (v:=((Pl.pos OI x X:Nat):Int)) rfl rfl rfl (by rw [underlying3];rfl) underlying5 rfl rfl (wrap_id8 (by omega)) trivial (Uf 1 [1,3,4,10,11,15,157,167] rfl (Ut 1 rfl ?_)))))))))
     have hpc2:cl H3 hb (8+dp*1)=some (.int .u8 (pn:Int)):=by rw [Nat.mul_one];exact hpc
     by_cases hqp:Pl.pos OI x X=pn
     ·
      refine Ur 8 4096 rfl (Uq 5 rfl (O.ixr (j:=dp) rfl rfl rfl rfl underlying101 sizeOf5 rfl rfl (by omega) hd8 (Ul 0 rfl hpc2 (Uc 0 rfl (neqF (by omega)) (Uf 0 [1,3,4,10,11,15,157,167,180] rfl (Go'.condF rfl (Ut 2 rfl (Ur 4 0 rfl (Uf 4 [1,3,4,10,11,15,157,167,180] rfl (Go'.ret (vs:=[_,_]) func85 results85 ⟨rfl,rfl,trivial⟩ ?_))))))))))
      exact ⟨rfl,hG,hh⟩
     ·
      refine Ur 8 4096 rfl (Uq 5 rfl (O.ixr (j:=dp) rfl rfl rfl rfl underlying101 sizeOf5 rfl rfl (by omega) hd8 (Ul 0 rfl hpc2 (Uc 0 rfl (neqT (by omega)) (Uf 0 [1,3,4,10,11,15,157,167,180] rfl (Go'.condT rfl (Ut 1 rfl (Ur 7 8192 rfl (Uq 5 rfl (O.ixr (j:=dp) rfl rfl rfl rfl underlying101 sizeOf5 rfl rfl (by omega) hd8 (O.st rfl rfl sizeOf5 rfl rfl rfl rfl rfl (by rw [Nat.mul_one];exact hh.wr.at0 (8+dp) 1 (by omega)) ?_)))))))))))
      intro H4 W4
      have hs4:=W4.size
      rw [Nat.mul_one] at W4
      replace hh:=hh.setP (n:=Pl.pos OI x X) W4 hd8 (by omega)
      replace hG:Fr (fun b _=>b=hb) H H4:=hG.trans' W4.fr (fun _ _ _ h=>h) (fun b o _ h=>h.1)
      refine ⟨trivial,?_⟩
      refine Uf 0 [1,3,4,10,11,15,157,167,180] rfl (Ut 1 rfl (Ur 3 0 rfl (Ua 1 (((dp+1:Nat):Int)) rfl (by omega) (Uf 1 [1,3,4,10,11,15,16,157,167,180] rfl (Ut 1 rfl (Go'.loop (Uk [3,10,11,16] rfl ?_)))))))
      refine Go'.ind (σ:=Nat) (fun j=>8-j) (fun j H'=>j≤8∧Fr (fun b _=>b=hb) H H'∧HintM H' hb)
       (fun j=>[(3,.pointer (some ⟨hb,0,none⟩)),(10,.int .i64 ((Pl.pos OI x X:Nat):Int)),(11,.bool (false)),(16,.int .i64 (j:Int))]) (dp+1) ⟨hd8,hG,hh⟩ rfl ?_
      rintro j H5 ⟨hj8,hG5,hh5⟩ ih
      refine Ut 2 rfl ?_
      by_cases hj:j<8
      ·
       refine Ur 2 0 rfl (Uc 1 rfl (lssT (by omega)) (Uf 0 [3,10,11,16,190] rfl (Go'.condT rfl (Ut 3 rfl (Ur 6 2048 rfl (Uq 4 rfl (O.ixr (j:=j) rfl rfl rfl rfl underlying100 sizeOf4 rfl rfl (by omega) hj (O.st rfl rfl sizeOf4 rfl rfl rfl rfl rfl (by rw [Nat.zero_add,Nat.mul_one];exact hh5.wr.at0 j 1 (by omega)) ?_))))))))
       intro H6 W6
       rw [Nat.zero_add,Nat.mul_one] at W6
       replace hh5:=hh5.setU W6 hj
       replace hG5:Fr (fun b _=>b=hb) H H6:=hG5.trans' W6.fr (fun _ _ _ h=>h) (fun b o _ h=>h.1)
       refine ⟨trivial,?_⟩
       refine Uf 0 [3,10,11,16,190] rfl (Ut 1 rfl (Ur 3 0 rfl (Ua 1 (((j+1:Nat):Int)) rfl (by omega) (Uf 1 [3,10,11,16,190] rfl (Uk [3,10,11,16] rfl (Go'.inLoop ?_))))))
       exact ih (j+1) H6 ⟨hj,hG5,hh5⟩ (by omega)
      ·
       refine Ur 2 0 rfl (Uc 1 rfl (lssF (by omega)) (Uf 0 [3,10,11,16,190] rfl (Go'.condF rfl (Ut 2 rfl (Ur 4 0 rfl (Uf 4 [3,10,11,16,190] rfl (Go'.ret (vs:=[_,_]) func85 results85 ⟨rfl,rfl,trivial⟩ ?_)))))))
       exact ⟨rfl,hG5,hh5⟩
    ·
     have hplt:=Pl.fnd_pos_lt OI hfd
     refine Ur 5 8 rfl (Uq 1 rfl (O.callQ rfl rfl rfl call62 rfl (leaf_spec hn.c3) trivial (Uf 3 [1,3,4,10,11,15,157,167] rfl (Go'.condT rfl (Ur 4 32 rfl (Ua 1 ((((Pl.pos OI x X)+1:Nat):Int)) rfl (by omega) (O.cvk .u8 (v:=((Pl.pos OI x X+1:Nat):Int)) rfl rfl rfl (by rw [underlying3];rfl) underlying5 rfl rfl (wrap_id8 (by omega)) trivial (Uf 1 [1,3,4,10,11,15,157,167] rfl (Ut 1 rfl ?_)))))))))
     have hpc2:cl H3 hb (8+dp*1)=some (.int .u8 (pn:Int)):=by rw [Nat.mul_one];exact hpc
     by_cases hqp:Pl.pos OI x X+1=pn
     ·
      refine Ur 8 4096 rfl (Uq 5 rfl (O.ixr (j:=dp) rfl rfl rfl rfl underlying101 sizeOf5 rfl rfl (by omega) hd8 (Ul 0 rfl hpc2 (Uc 0 rfl (neqF (by omega)) (Uf 0 [1,3,4,10,11,15,157,167,180] rfl (Go'.condF rfl (Ut 2 rfl (Ur 4 0 rfl (Uf 4 [1,3,4,10,11,15,157,167,180] rfl (Go'.ret (vs:=[_,_]) func85 results85 ⟨rfl,rfl,trivial⟩ ?_))))))))))
      exact ⟨rfl,hG,hh⟩
     ·
      refine Ur 8 4096 rfl (Uq 5 rfl (O.ixr (j:=dp) rfl rfl rfl rfl underlying101 sizeOf5 rfl rfl (by omega) hd8 (Ul 0 rfl hpc2 (Uc 0 rfl (neqT (by omega)) (Uf 0 [1,3,4,10,11,15,157,167,180] rfl (Go'.condT rfl (Ut 1 rfl (Ur 7 8192 rfl (Uq 5 rfl (O.ixr (j:=dp) rfl rfl rfl rfl underlying101 sizeOf5 rfl rfl (by omega) hd8 (O.st rfl rfl sizeOf5 rfl rfl rfl rfl rfl (by rw [Nat.mul_one];exact hh.wr.at0 (8+dp) 1 (by omega)) ?_)))))))))))
      intro H4 W4
      have hs4:=W4.size
      rw [Nat.mul_one] at W4
      replace hh:=hh.setP (n:=Pl.pos OI x X+1) W4 hd8 (by omega)
      replace hG:Fr (fun b _=>b=hb) H H4:=hG.trans' W4.fr (fun _ _ _ h=>h) (fun b o _ h=>h.1)
      refine ⟨trivial,?_⟩
      refine Uf 0 [1,3,4,10,11,15,157,167,180] rfl (Ut 1 rfl (Ur 3 0 rfl (Ua 1 (((dp+1:Nat):Int)) rfl (by omega) (Uf 1 [1,3,4,10,11,15,16,157,167,180] rfl (Ut 1 rfl (Go'.loop (Uk [3,10,11,16] rfl ?_)))))))
      refine Go'.ind (σ:=Nat) (fun j=>8-j) (fun j H'=>j≤8∧Fr (fun b _=>b=hb) H H'∧HintM H' hb)
       (fun j=>[(3,.pointer (some ⟨hb,0,none⟩)),(10,.int .i64 ((Pl.pos OI x X:Nat):Int)),(11,.bool (true)),(16,.int .i64 (j:Int))]) (dp+1) ⟨hd8,hG,hh⟩ rfl ?_
      rintro j H5 ⟨hj8,hG5,hh5⟩ ih
      refine Ut 2 rfl ?_
      by_cases hj:j<8
      ·
       refine Ur 2 0 rfl (Uc 1 rfl (lssT (by omega)) (Uf 0 [3,10,11,16,190] rfl (Go'.condT rfl (Ut 3 rfl (Ur 6 2048 rfl (Uq 4 rfl (O.ixr (j:=j) rfl rfl rfl rfl underlying100 sizeOf4 rfl rfl (by omega) hj (O.st rfl rfl sizeOf4 rfl rfl rfl rfl rfl (by rw [Nat.zero_add,Nat.mul_one];exact hh5.wr.at0 j 1 (by omega)) ?_))))))))
       intro H6 W6
       rw [Nat.zero_add,Nat.mul_one] at W6
       replace hh5:=hh5.setU W6 hj
       replace hG5:Fr (fun b _=>b=hb) H H6:=hG5.trans' W6.fr (fun _ _ _ h=>h) (fun b o _ h=>h.1)
       refine ⟨trivial,?_⟩
       refine Uf 0 [3,10,11,16,190] rfl (Ut 1 rfl (Ur 3 0 rfl (Ua 1 (((j+1:Nat):Int)) rfl (by omega) (Uf 1 [3,10,11,16,190] rfl (Uk [3,10,11,16] rfl (Go'.inLoop ?_))))))
       exact ih (j+1) H6 ⟨hj,hG5,hh5⟩ (by omega)
      ·
       refine Ur 2 0 rfl (Uc 1 rfl (lssF (by omega)) (Uf 0 [3,10,11,16,190] rfl (Go'.condF rfl (Ut 2 rfl (Ur 4 0 rfl (Uf 4 [3,10,11,16,190] rfl (Go'.ret (vs:=[_,_]) func85 results85 ⟨rfl,rfl,trivial⟩ ?_)))))))
       exact ⟨rfl,hG5,hh5⟩
   ·
    refine Ur 5 8 rfl (Uq 1 rfl (O.callQ rfl rfl rfl call62 rfl (leaf_spec hn.c3) trivial (Uf 3 [1,3,4,10,11,15,157,167] rfl (Go'.condF rfl (Ur 3 8 rfl (Uq 1 rfl (O.cvk .u8 (v:=((Pl.pos OI x X:Nat):Int)) rfl rfl rfl (by rw [underlying3];rfl) underlying5 rfl rfl (wrap_id8 (by omega)) trivial (Uf 1 [1,3,4,10,11,15,157,167] rfl (Ut 1 rfl ?_)))))))))
    have hpc2:cl H3 hb (8+dp*1)=some (.int .u8 (pn:Int)):=by rw [Nat.mul_one];exact hpc
    by_cases hqp:Pl.pos OI x X=pn
    ·
     refine Ur 8 4096 rfl (Uq 5 rfl (O.ixr (j:=dp) rfl rfl rfl rfl underlying101 sizeOf5 rfl rfl (by omega) hd8 (Ul 0 rfl hpc2 (Uc 0 rfl (neqF (by omega)) (Uf 0 [1,3,4,10,11,15,157,167,180] rfl (Go'.condF rfl (Ut 2 rfl (Ur 4 0 rfl (Uf 4 [1,3,4,10,11,15,157,167,180] rfl (Go'.ret (vs:=[_,_]) func85 results85 ⟨rfl,rfl,trivial⟩ ?_))))))))))
     exact ⟨rfl,hG,hh⟩
    ·
     refine Ur 8 4096 rfl (Uq 5 rfl (O.ixr (j:=dp) rfl rfl rfl rfl underlying101 sizeOf5 rfl rfl (by omega) hd8 (Ul 0 rfl hpc2 (Uc 0 rfl (neqT (by omega)) (Uf 0 [1,3,4,10,11,15,157,167,180] rfl (Go'.condT rfl (Ut 1 rfl (Ur 7 8192 rfl (Uq 5 rfl (O.ixr (j:=dp) rfl rfl rfl rfl underlying101 sizeOf5 rfl rfl (by omega) hd8 (O.st rfl rfl sizeOf5 rfl rfl rfl rfl rfl (by rw [Nat.mul_one];exact hh.wr.at0 (8+dp) 1 (by omega)) ?_)))))))))))
     intro H4 W4
     have hs4:=W4.size
     rw [Nat.mul_one] at W4
     replace hh:=hh.setP (n:=Pl.pos OI x X) W4 hd8 (by omega)
     replace hG:Fr (fun b _=>b=hb) H H4:=hG.trans' W4.fr (fun _ _ _ h=>h) (fun b o _ h=>h.1)
     refine ⟨trivial,?_⟩
     refine Uf 0 [1,3,4,10,11,15,157,167,180] rfl (Ut 1 rfl (Ur 3 0 rfl (Ua 1 (((dp+1:Nat):Int)) rfl (by omega) (Uf 1 [1,3,4,10,11,15,16,157,167,180] rfl (Ut 1 rfl (Go'.loop (Uk [3,10,11,16] rfl ?_)))))))
     refine Go'.ind (σ:=Nat) (fun j=>8-j) (fun j H'=>j≤8∧Fr (fun b _=>b=hb) H H'∧HintM H' hb)
      (fun j=>[(3,.pointer (some ⟨hb,0,none⟩)),(10,.int .i64 ((Pl.pos OI x X:Nat):Int)),(11,.bool (Pl.fnd OI x X)),(16,.int .i64 (j:Int))]) (dp+1) ⟨hd8,hG,hh⟩ rfl ?_
     rintro j H5 ⟨hj8,hG5,hh5⟩ ih
     refine Ut 2 rfl ?_
     by_cases hj:j<8
     ·
      refine Ur 2 0 rfl (Uc 1 rfl (lssT (by omega)) (Uf 0 [3,10,11,16,190] rfl (Go'.condT rfl (Ut 3 rfl (Ur 6 2048 rfl (Uq 4 rfl (O.ixr (j:=j) rfl rfl rfl rfl underlying100 sizeOf4 rfl rfl (by omega) hj (O.st rfl rfl sizeOf4 rfl rfl rfl rfl rfl (by rw [Nat.zero_add,Nat.mul_one];exact hh5.wr.at0 j 1 (by omega)) ?_))))))))
      intro H6 W6
      rw [Nat.zero_add,Nat.mul_one] at W6
      replace hh5:=hh5.setU W6 hj
      replace hG5:Fr (fun b _=>b=hb) H H6:=hG5.trans' W6.fr (fun _ _ _ h=>h) (fun b o _ h=>h.1)
      refine ⟨trivial,?_⟩
      refine Uf 0 [3,10,11,16,190] rfl (Ut 1 rfl (Ur 3 0 rfl (Ua 1 (((j+1:Nat):Int)) rfl (by omega) (Uf 1 [3,10,11,16,190] rfl (Uk [3,10,11,16] rfl (Go'.inLoop ?_))))))
      exact ih (j+1) H6 ⟨hj,hG5,hh5⟩ (by omega)
     ·
      refine Ur 2 0 rfl (Uc 1 rfl (lssF (by omega)) (Uf 0 [3,10,11,16,190] rfl (Go'.condF rfl (Ut 2 rfl (Ur 4 0 rfl (Uf 4 [3,10,11,16,190] rfl (Go'.ret (vs:=[_,_]) func85 results85 ⟨rfl,rfl,trivial⟩ ?_)))))))
      exact ⟨rfl,hG5,hh5⟩
 ·
  intro tail
  refine Ut 1 rfl (Ur 1 0 rfl (Uf 1 [0,1,2,3,4,7,10,11,12] rfl (Ut 1 rfl (Ur 7 64 rfl (Ul 3 rfl hn.c2 (Ub 1 (((X.length:Int)-1)) rfl (by omega) (Uf 1 [0,1,2,3,4,7,10,11,12,13] rfl (Ut 2 rfl ?_))))))))
  have hXi:∀{a b:Nat} {y z:Int×Int},X[a]?=some y→X[b]?=some z→a<b→OI.lt y z=true:=fun {a b y z} ha hb' hab=>by
   have h2:=List.pairwise_iff_getElem.1 hs a b (List.getElem?_eq_some_iff.1 ha).1 (List.getElem?_eq_some_iff.1 hb').1 hab
   rwa [(List.getElem?_eq_some_iff.1 ha).2,(List.getElem?_eq_some_iff.1 hb').2] at h2
  have hge:∀{a:Nat} {y:Int×Int},X[a]?=some y→OI.lt x y=true→∀j z,X[j]?=some z→a≤j→OI.lt x z=true:=fun {a y} ha h j z hz haj=>by
   rcases Nat.lt_or_ge a j with h'|h'
   · exact OI.trans h (hXi ha hz h')
   ·
    obtain rfl:j=a:=by omega
    rw [ha] at hz;cases hz;exact h
  have hle:∀{a:Nat} {y:Int×Int},X[a]?=some y→OI.lt x y=false→∀j z,X[j]?=some z→j<a+1→OI.lt x z=false:=fun {a y} ha h j z hz haj=>by
   rcases Nat.lt_or_ge j a with h'|h'
   · exact OI.ntr h (OI.asy (hXi hz ha h'))
   ·
    obtain rfl:j=a:=by omega
    rw [ha] at hz;cases hz;exact h
  have hat:∀i,i<X.length→∃y,X[i]?=some y:=fun i hi=>⟨X[i],List.getElem?_eq_getElem hi⟩
  have hFs:=Fr.refl nowhere H1
  refine Go'.share2 (σ:=Nat×Nat) (fun s H'=>Fr nowhere H1 H'∧s.1≤s.2∧s.2≤X.length∧(∀j y,X[j]?=some y→j<s.1→OI.lt x y=false)∧(∀j y,X[j]?=some y→s.2≤j→OI.lt x y=true))
   (fun s=>[(0,.pointer (some ⟨tr,0,none⟩)),(1,.pointer (some ⟨g.p,0,none⟩)),(3,.pointer (some ⟨hb,0,none⟩)),(4,.int .i64 (dp:Int)),(7,.pointer (some ⟨H.size,0,none⟩)),(12,.int .i64 (s.1:Int)),(13,.int .i64 ((s.2:Int)-1))]) ?_ ?_
  ·
   rintro ⟨lo,hi⟩ H2 ⟨hF2,hlh,hhl,hlo,hhi⟩
   simp only at hlh hhl hlo hhi ⊢
   refine Ut 2 rfl (Go'.loop (Uk [0,1,3,4,7,12,13] rfl ?_))
   refine Go'.ind (σ:=Nat×Nat) (fun s=>s.2-s.1) (fun s H'=>Fr nowhere H1 H'∧s.1≤s.2∧s.2≤X.length∧(∀j y,X[j]?=some y→j<s.1→OI.lt x y=false)∧(∀j y,X[j]?=some y→s.2≤j→OI.lt x y=true))
    (fun s=>[(0,.pointer (some ⟨tr,0,none⟩)),(1,.pointer (some ⟨g.p,0,none⟩)),(3,.pointer (some ⟨hb,0,none⟩)),(4,.int .i64 (dp:Int)),(7,.pointer (some ⟨H.size,0,none⟩)),(12,.int .i64 (s.1:Int)),(13,.int .i64 ((s.2:Int)-1))]) (lo,hi) ⟨hF2,hlh,hhl,hlo,hhi⟩ rfl ?_
   clear hF2 hlh hhl hlo hhi lo hi H2
   rintro ⟨lo,hi⟩ H2 ⟨hF2,hlh,hhl,hlo,hhi⟩ ih
   simp only at hlh hhl hlo hhi
   replace tc:=tc.fr hF2 (fun _ _ _ _=>nw)
   replace hn:=NodeM.fr EJ hn hF2 (fun _ _ _=>nw)
   replace hh:=hh.fr hF2 (fun _=>nw)
   replace mk:=hF2.rd mk (fun _ _=>nw)
   refine Ut 2 rfl ?_
   by_cases hlt:lo<hi
   ·
    obtain ⟨m,hm⟩:∃m,m=lo+(hi-lo) / 2:=⟨_,rfl⟩
    obtain ⟨y,hy⟩:=hat m (by omega)
    refine Ur 3 0 rfl (Uc 2 rfl (leqT (by omega)) (Uf 0 [0,1,3,4,7,12,13,114] rfl (Go'.condT rfl (Ut 3 rfl (Ur 8 0 rfl (Ua 2 (((hi:Nat):Int)) rfl (by omega) (Ub 1 (((hi-lo:Nat):Int)) rfl (by omega) (O.quo ((((hi-lo) / 2:Nat):Int)) rfl rfl rfl rfl rfl rfl (by decide) (by rw [Int.tdiv_eq_ediv_of_nonneg (by omega)];omega) (by omega) (Ua 0 (((m:Nat):Int)) rfl (by omega) (Uf 1 [0,1,3,4,7,12,13,14,114] rfl (Ut 1 rfl ?_)))))))))))
    refine Ud 11 590852 (by kernel_rfl) (Us 1 rfl mk rfl (Ul 3 rfl hn.c2 (Ux 1 m rfl (by omega) (by omega) (Us 0 rfl (hn.sl.item hy) rfl (O.call rfl rfl rfl call68 rfl (Less_spec tc x y) ?_)))))
    rintro _ H3 ⟨rfl,hF3⟩
    replace tc:=tc.fr hF3 (fun _ _ _ _=>nw)
    replace hn:=NodeM.fr EJ hn hF3 (fun _ _ _=>nw)
    replace hh:=hh.fr hF3 (fun _=>nw)
    replace mk:=hF3.rd mk (fun _ _=>nw)
    replace hF2:=hF2.trans hF3
    refine ⟨trivial,?_⟩
    refine Uf 1 [0,1,3,4,7,12,13,14,114,132] rfl ?_
    cases hky:OI.lt x y
    ·
     refine Go'.condT rfl (Ur 3 0 rfl (Ua 1 (((m+1:Nat):Int)) rfl (by omega) (Uf 1 [0,1,3,4,7,12,13,14,114,132] rfl (Ut 1 rfl (Uk [0,1,3,4,7,12,13] rfl (Go'.inLoop ?_))))))
     exact ih (m+1,hi) H3 ⟨hF2,by simp only;omega,hhl,hle hy hky,hhi⟩ (by simp only;omega)
    ·
     refine Go'.condF rfl (Ur 3 0 rfl (Ub 1 (((m:Int)-1)) rfl (by omega) (Uf 1 [0,1,3,4,7,12,13,14,114,132] rfl (Ut 1 rfl (Uk [0,1,3,4,7,12,13] rfl (Go'.inLoop ?_))))))
     exact ih (lo,m) H3 ⟨hF2,by simp only;omega,by simp only;omega,hlo,hge hy hky⟩ (by simp only;omega)
   ·
    obtain rfl:hi=lo:=by omega
    refine Ur 3 0 rfl (Uc 2 rfl (leqF (by omega)) (Uf 0 [0,1,3,4,7,12,13,114] rfl (Go'.condF rfl (Ut 3 rfl ?_))))
    by_cases h0:0<hi
    ·
     obtain ⟨y,hy⟩:=hat (hi-1) (by omega)
     have hyk:=hlo (hi-1) y hy (by omega)
     refine Ud 16 155205632 (by kernel_rfl) (Uc 1 rfl (gtrT (by omega)) (Ul 5 rfl hn.c2 (Ub 1 (((hi-1:Nat):Int)) rfl (by omega) (Ux 0 (hi-1) rfl (by omega) (by omega) (Us 0 rfl (hn.sl.item hy) rfl (Us 0 rfl mk rfl (O.call rfl rfl rfl call68 rfl (Less_spec tc y x) ?_)))))))
     rintro _ H3 ⟨rfl,hF3⟩
     replace tc:=tc.fr hF3 (fun _ _ _ _=>nw)
     replace hn:=NodeM.fr EJ hn hF3 (fun _ _ _=>nw)
     replace hh:=hh.fr hF3 (fun _=>nw)
     replace mk:=hF3.rd mk (fun _ _=>nw)
     replace hF2:=hF2.trans hF3
     refine ⟨trivial,?_⟩
     refine Uf 2 [0,1,3,4,7,12,13,114,152] rfl ?_
     cases hky:OI.lt y x
     ·
      refine Go'.condT rfl (Ut 1 rfl (Ur 3 0 rfl (Ub 1 (((hi-1:Nat):Int)) rfl (by omega) (Uf 1 [0,1,3,4,7,10,12,13,114,152] rfl (Ur 1 0 rfl (Uf 1 [0,1,3,4,7,10,11,12,13,114,152] rfl (Ut 2 rfl (Uk [1,3,4,10,11] rfl ?_))))))))
      obtain ⟨e1,e2⟩:=Pl.search_found OI (x:=x) hs hy hky hyk
      exact tail (hi-1,true) H3 ⟨by rw [e1,e2],hF2⟩
     ·
      refine Go'.condF rfl (Ut 1 rfl (Ur 2 0 rfl (Uf 2 [0,1,3,4,7,10,12,13,114,152] rfl (Ur 1 0 rfl (Uf 1 [0,1,3,4,7,10,11,12,13,114,152] rfl (Ut 2 rfl (Uk [1,3,4,10,11] rfl ?_)))))))
      obtain ⟨e1,e2⟩:=Pl.search_none OI (x:=x) hs hhl (fun z _ hz=>by rw [hy] at hz;cases hz;exact hky) (fun z hz=>hhi hi z hz (Nat.le_refl _))
      exact tail (hi,false) H3 ⟨by rw [e1,e2],hF2⟩
    ·
     obtain rfl:hi=0:=by omega
     refine Ud 16 155205632 (by kernel_rfl) (Uc 1 rfl (gtrF (by omega)) (Uq 11 rfl (Pl.pass2 rfl rfl rfl rfl trivial (Uf 2 [0,1,3,4,7,12,13,114,152] rfl (Go'.condF rfl (Ut 1 rfl (Ur 2 0 rfl (Uf 2 [0,1,3,4,7,10,12,13,114,152] rfl (Ur 1 0 rfl (Uf 1 [0,1,3,4,7,10,11,12,13,114,152] rfl (Ut 2 rfl ?_)))))))))))
     refine Uk [1,3,4,10,11] rfl ?_
     obtain ⟨e1,e2⟩:=Pl.search_none OI (x:=x) hs hhl (fun z h _=>absurd rfl h) (fun z hz=>hhi 0 z hz (Nat.le_refl _))
     exact tail (0,false) H2 ⟨by rw [e1,e2],hF2⟩
  ·
   intro bs
   by_cases hd8:dp<8
   rotate_left
   ·
    refine Ur 10 65536 rfl (Uc 1 rfl (lssF (by omega)) (Uf 8 [0,1,2,3,4,7,10,11,12,13,32] rfl (Go'.condF rfl (Ut 1 rfl (Uk [0,1,3,4,7,12,13] rfl ?_)))))
    exact bs (0,X.length) H1 ⟨hFs,Nat.zero_le _,Nat.le_refl _,fun j y _ h=>by simp at h,fun j y h1 h2=>by
      have:=(List.getElem?_eq_some_iff.1 h1).1;simp only at h2;omega⟩
   ·
    obtain ⟨ub,hub⟩:=hh.us dp hd8
    obtain ⟨pn,hpn,hpc⟩:=hh.ps dp hd8
    refine Ur 10 65536 rfl (Uc 1 rfl (lssT (by omega)) (Uq 5 rfl (O.ixr (j:=dp) rfl rfl rfl rfl underlying100 sizeOf4 rfl rfl (by omega) hd8 (Ul 0 rfl (show cl _ hb (0+dp*1)=_ by rw [Nat.zero_add,Nat.mul_one];exact hub) (Uf 1 [0,1,2,3,4,7,10,11,12,13,32] rfl ?_)))))
    cases ub
    ·
     refine Go'.condF rfl (Ut 1 rfl (Uk [0,1,3,4,7,12,13] rfl ?_))
     exact bs (0,X.length) H1 ⟨hFs,Nat.zero_le _,Nat.le_refl _,fun j y _ h=>by simp at h,fun j y h1 h2=>by
       have:=(List.getElem?_eq_some_iff.1 h1).1;simp only at h2;omega⟩
    ·
     refine Go'.condT rfl (Ut 1 rfl (Ur 8 9216 rfl (Uq 4 rfl (O.ixr (j:=dp) rfl rfl rfl rfl underlying101 sizeOf5 rfl rfl (by omega) hd8 (Ul 0 rfl (show cl _ hb (8+dp*1)=_ by rw [Nat.mul_one];exact hpc) (O.cvi (v:=((pn:Nat):Int)) rfl rfl rfl (by rw [underlying5];rfl) underlying3 rfl rfl (wrap_id (by omega)) trivial (Uf 1 [0,1,2,3,4,7,10,11,12,13,32] rfl (Ut 2 rfl ?_))))))))
     by_cases hge2:X.length≤pn
     ·
      refine Ur 7 256 rfl (Ul 4 rfl hn.c2 (Uc 1 rfl (geqT (by omega)) (Uf 0 [0,1,2,3,4,7,10,11,12,13,32,46] rfl (Go'.condT rfl (Ut 2 rfl ?_)))))
      obtain ⟨u,hu⟩:=hat (X.length-1) (by omega)
      refine Ud 15 620822784 (by kernel_rfl) (Ul 4 rfl hn.c2 (Ul 3 rfl hn.c2 (Ub 1 (((X.length-1:Nat):Int)) rfl (by omega) (Ux 0 (X.length-1) rfl (by omega) (by omega) (Us 0 rfl (hn.sl.item hu) rfl (Us 0 rfl mk rfl (O.call rfl rfl rfl call68 rfl (Less_spec tc u x) ?_)))))))
      rintro _ H2 ⟨rfl,hF2⟩
      replace tc:=tc.fr hF2 (fun _ _ _ _=>nw)
      replace hn:=NodeM.fr EJ hn hF2 (fun _ _ _=>nw)
      replace hh:=hh.fr hF2 (fun _=>nw)
      replace mk:=hF2.rd mk (fun _ _=>nw)
      replace hFs:=hFs.trans hF2
      refine ⟨trivial,?_⟩
      refine Uf 0 [0,1,2,3,4,7,10,11,12,13,32,46,61] rfl ?_
      cases hux:OI.lt u x
      rotate_left
      ·
       refine Go'.condT rfl (Ut 1 rfl (Ur 6 64 rfl (Ul 3 rfl hn.c2 (Uf 2 [0,1,2,3,4,7,10,11,12,13,32,46,61] rfl (Ut 3 rfl ?_)))))
       obtain ⟨e1,e2⟩:=Pl.search_none OI (x:=x) (i:=X.length) hs (Nat.le_refl _) (fun z _ hz=>by rw [hu] at hz;cases hz;exact hux) (fun z hz=>by have:=(List.getElem?_eq_some_iff.1 hz).1;omega)
       refine Uk [1,3,4,10,11] rfl ?_
       exact tail (X.length,false) H2 ⟨by rw [e1,e2],hFs⟩
      ·
       obtain ⟨ix,hix⟩:∃ix,ix=X.length-1:=⟨_,rfl⟩
       refine Go'.condF rfl (Ut 1 rfl (Ur 7 64 rfl (Ul 3 rfl hn.c2 (Ub 1 (((ix:Nat):Int)) rfl (by omega) (Uf 1 [0,1,2,3,4,7,10,11,12,13,32,46,61] rfl (Ut 1 rfl ?_))))))
       obtain ⟨y,hy⟩:=hat ix (by omega)
       refine Ud 10 590852 (by kernel_rfl) (Us 1 rfl mk rfl (Ul 3 rfl hn.c2 (Ux 1 ix rfl (by omega) (by omega) (Us 0 rfl (hn.sl.item hy) rfl (O.call rfl rfl rfl call68 rfl (Less_spec tc x y) ?_)))))
       rintro _ H3 ⟨rfl,hF3⟩
       replace tc:=tc.fr hF3 (fun _ _ _ _=>nw)
       replace hn:=NodeM.fr EJ hn hF3 (fun _ _ _=>nw)
       replace hh:=hh.fr hF3 (fun _=>nw)
       replace mk:=hF3.rd mk (fun _ _=>nw)
       replace hFs:=hFs.trans hF3
       refine ⟨trivial,?_⟩
       refine Uf 0 [0,1,2,3,4,7,10,11,12,13,32,46,61,82] rfl ?_
       cases hxy:OI.lt x y
       rotate_left
       ·
        refine Go'.condT rfl (Ut 2 rfl ?_)
        by_cases h0:ix=0
        ·
         refine Ud 15 155205632 (by kernel_rfl) (Uc 1 rfl (eqlT (by omega)) (Uq 11 rfl (Pl.pass2 rfl rfl rfl rfl trivial (Uf 1 [0,1,2,3,4,7,10,11,12,13,32,46,61,82,97] rfl (Go'.condT rfl (Ut 3 rfl ?_))))))
         obtain ⟨e1,e2⟩:=Pl.search_none OI (x:=x) (i:=ix) hs (by omega) (fun z h _=>absurd h0 h) (fun z hz=>by rw [hy] at hz;cases hz;exact hxy)
         refine Uk [1,3,4,10,11] rfl ?_
         exact tail (ix,false) H3 ⟨by rw [e1,e2],hFs⟩
        ·
         obtain ⟨z,hz⟩:=hat (ix-1) (by omega)
         refine Ud 15 155205632 (by kernel_rfl) (Uc 1 rfl (eqlF (by omega)) (Ul 5 rfl hn.c2 (Ub 1 (((ix-1:Nat):Int)) rfl (by omega) (Ux 0 (ix-1) rfl (by omega) (by omega) (Us 0 rfl (hn.sl.item hz) rfl (Us 0 rfl mk rfl (O.call rfl rfl rfl call68 rfl (Less_spec tc z x) ?_)))))))
         rintro _ H4 ⟨rfl,hF4⟩
         replace tc:=tc.fr hF4 (fun _ _ _ _=>nw)
         replace hn:=NodeM.fr EJ hn hF4 (fun _ _ _=>nw)
         replace hh:=hh.fr hF4 (fun _=>nw)
         replace mk:=hF4.rd mk (fun _ _=>nw)
         replace hFs:=hFs.trans hF4
         refine ⟨trivial,?_⟩
         refine Uf 1 [0,1,2,3,4,7,10,11,12,13,32,46,61,82,97] rfl ?_
         cases hzx:OI.lt z x
         rotate_left
         ·
          refine Go'.condT rfl (Ut 3 rfl ?_)
          obtain ⟨e1,e2⟩:=Pl.search_none OI (x:=x) (i:=ix) hs (by omega) (fun u _ hu=>by rw [hz] at hu;cases hu;exact hzx) (fun u hu=>by rw [hy] at hu;cases hu;exact hxy)
          refine Uk [1,3,4,10,11] rfl ?_
          exact tail (ix,false) H4 ⟨by rw [e1,e2],hFs⟩
         ·
          refine Go'.condF rfl (Ut 1 rfl (Ur 3 0 rfl (Ub 1 (((ix:Int)-1)) rfl (by omega) (Uf 1 [0,1,2,3,4,7,10,11,12,13,32,46,61,82,97] rfl (Uk [0,1,3,4,7,12,13] rfl ?_)))))
          exact bs (0,ix) H4 ⟨hFs,Nat.zero_le _,by simp only;omega,fun j y _ h=>by simp at h,hge hy hxy⟩
       ·
        refine Go'.condF rfl (Ut 1 rfl (Ud 10 606464 (by kernel_rfl) (Ul 4 rfl hn.c2 (Ux 1 ix rfl (by omega) (by omega) (Us 0 rfl (hn.sl.item hy) rfl (Us 0 rfl mk rfl (O.call rfl rfl rfl call68 rfl (Less_spec tc y x) ?_)))))))
        rintro _ H4 ⟨rfl,hF4⟩
        replace tc:=tc.fr hF4 (fun _ _ _ _=>nw)
        replace hn:=NodeM.fr EJ hn hF4 (fun _ _ _=>nw)
        replace hh:=hh.fr hF4 (fun _=>nw)
        replace mk:=hF4.rd mk (fun _ _=>nw)
        replace hFs:=hFs.trans hF4
        refine ⟨trivial,?_⟩
        refine Uf 0 [0,1,2,3,4,7,10,11,12,13,32,46,61,82,109] rfl ?_
        cases hyx:OI.lt y x
        ·
         refine Go'.condF rfl (Ut 1 rfl (Ur 1 0 rfl (Uf 1 [0,1,2,3,4,7,10,11,12,13,32,46,61,82,109] rfl (Ut 3 rfl ?_))))
         obtain ⟨e1,e2⟩:=Pl.search_found OI (x:=x) hs hy hyx hxy
         refine Uk [1,3,4,10,11] rfl ?_
         exact tail (ix,true) H4 ⟨by rw [e1,e2],hFs⟩
        ·
         refine Go'.condT rfl (Ur 3 0 rfl (Ua 1 (((ix+1:Nat):Int)) rfl (by omega) (Uf 1 [0,1,2,3,4,7,10,11,12,13,32,46,61,82,109] rfl (Uk [0,1,3,4,7,12,13] rfl ?_))))
         exact bs (ix+1,X.length) H4 ⟨hFs,by simp only;omega,Nat.le_refl _,hle hy hxy,fun j y h1 h2=>by
           have:=(List.getElem?_eq_some_iff.1 h1).1;simp only at h2;omega⟩
     ·
      obtain ⟨ix,hix⟩:∃ix,ix=pn:=⟨_,rfl⟩
      subst hix
      refine Ur 7 256 rfl (Ul 4 rfl hn.c2 (Uc 1 rfl (geqF (by omega)) (Uf 0 [0,1,2,3,4,7,10,11,12,13,32,46] rfl (Go'.condF rfl (Ut 2 rfl ?_)))))
      obtain ⟨y,hy⟩:=hat ix (by omega)
      refine Ud 10 590852 (by kernel_rfl) (Us 1 rfl mk rfl (Ul 3 rfl hn.c2 (Ux 1 ix rfl (by omega) (by omega) (Us 0 rfl (hn.sl.item hy) rfl (O.call rfl rfl rfl call68 rfl (Less_spec tc x y) ?_)))))
      rintro _ H2 ⟨rfl,hF2⟩
      replace tc:=tc.fr hF2 (fun _ _ _ _=>nw)
      replace hn:=NodeM.fr EJ hn hF2 (fun _ _ _=>nw)
      replace hh:=hh.fr hF2 (fun _=>nw)
      replace mk:=hF2.rd mk (fun _ _=>nw)
      replace hFs:=hFs.trans hF2
      refine ⟨trivial,?_⟩
      refine Uf 0 [0,1,2,3,4,7,10,11,12,13,32,46,82] rfl ?_
      cases hxy:OI.lt x y
      rotate_left
      ·
       refine Go'.condT rfl (Ut 2 rfl ?_)
       by_cases h0:ix=0
       ·
        refine Ud 15 155205632 (by kernel_rfl) (Uc 1 rfl (eqlT (by omega)) (Uq 11 rfl (Pl.pass2 rfl rfl rfl rfl trivial (Uf 1 [0,1,2,3,4,7,10,11,12,13,32,46,82,97] rfl (Go'.condT rfl (Ut 3 rfl ?_))))))
        obtain ⟨e1,e2⟩:=Pl.search_none OI (x:=x) (i:=ix) hs (by omega) (fun z h _=>absurd h0 h) (fun z hz=>by rw [hy] at hz;cases hz;exact hxy)
        refine Uk [1,3,4,10,11] rfl ?_
        exact tail (ix,false) H2 ⟨by rw [e1,e2],hFs⟩
       ·
        obtain ⟨z,hz⟩:=hat (ix-1) (by omega)
        refine Ud 15 155205632 (by kernel_rfl) (Uc 1 rfl (eqlF (by omega)) (Ul 5 rfl hn.c2 (Ub 1 (((ix-1:Nat):Int)) rfl (by omega) (Ux 0 (ix-1) rfl (by omega) (by omega) (Us 0 rfl (hn.sl.item hz) rfl (Us 0 rfl mk rfl (O.call rfl rfl rfl call68 rfl (Less_spec tc z x) ?_)))))))
        rintro _ H3 ⟨rfl,hF3⟩
        replace tc:=tc.fr hF3 (fun _ _ _ _=>nw)
        replace hn:=NodeM.fr EJ hn hF3 (fun _ _ _=>nw)
        replace hh:=hh.fr hF3 (fun _=>nw)
        replace mk:=hF3.rd mk (fun _ _=>nw)
        replace hFs:=hFs.trans hF3
        refine ⟨trivial,?_⟩
        refine Uf 1 [0,1,2,3,4,7,10,11,12,13,32,46,82,97] rfl ?_
        cases hzx:OI.lt z x
        rotate_left
        ·
         refine Go'.condT rfl (Ut 3 rfl ?_)
         obtain ⟨e1,e2⟩:=Pl.search_none OI (x:=x) (i:=ix) hs (by omega) (fun u _ hu=>by rw [hz] at hu;cases hu;exact hzx) (fun u hu=>by rw [hy] at hu;cases hu;exact hxy)
         refine Uk [1,3,4,10,11] rfl ?_
         exact tail (ix,false) H3 ⟨by rw [e1,e2],hFs⟩
        ·
         refine Go'.condF rfl (Ut 1 rfl (Ur 3 0 rfl (Ub 1 (((ix:Int)-1)) rfl (by omega) (Uf 1 [0,1,2,3,4,7,10,11,12,13,32,46,82,97] rfl (Uk [0,1,3,4,7,12,13] rfl ?_)))))
         exact bs (0,ix) H3 ⟨hFs,Nat.zero_le _,by simp only;omega,fun j y _ h=>by simp at h,hge hy hxy⟩
      ·
       refine Go'.condF rfl (Ut 1 rfl (Ud 10 606464 (by kernel_rfl) (Ul 4 rfl hn.c2 (Ux 1 ix rfl (by omega) (by omega) (Us 0 rfl (hn.sl.item hy) rfl (Us 0 rfl mk rfl (O.call rfl rfl rfl call68 rfl (Less_spec tc y x) ?_)))))))
       rintro _ H3 ⟨rfl,hF3⟩
       replace tc:=tc.fr hF3 (fun _ _ _ _=>nw)
       replace hn:=NodeM.fr EJ hn hF3 (fun _ _ _=>nw)
       replace hh:=hh.fr hF3 (fun _=>nw)
       replace mk:=hF3.rd mk (fun _ _=>nw)
       replace hFs:=hFs.trans hF3
       refine ⟨trivial,?_⟩
       refine Uf 0 [0,1,2,3,4,7,10,11,12,13,32,46,82,109] rfl ?_
       cases hyx:OI.lt y x
       ·
        refine Go'.condF rfl (Ut 1 rfl (Ur 1 0 rfl (Uf 1 [0,1,2,3,4,7,10,11,12,13,32,46,82,109] rfl (Ut 3 rfl ?_))))
        obtain ⟨e1,e2⟩:=Pl.search_found OI (x:=x) hs hy hyx hxy
        refine Uk [1,3,4,10,11] rfl ?_
        exact tail (ix,true) H3 ⟨by rw [e1,e2],hFs⟩
       ·
        refine Go'.condT rfl (Ur 3 0 rfl (Ua 1 (((ix+1:Nat):Int)) rfl (by omega) (Uf 1 [0,1,2,3,4,7,10,11,12,13,32,46,82,109] rfl (Uk [0,1,3,4,7,12,13] rfl ?_))))
        exact bs (ix+1,X.length) H3 ⟨hFs,by simp only;omega,Nat.le_refl _,hle hy hxy,fun j y h1 h2=>by
          have:=(List.getElem?_eq_some_iff.1 h1).1;simp only at h2;omega⟩
theorem find_spec {B:World} {H:Mem} {tr id mx mn dp:Nat} (tc:TrC H tr id mx mn) {g:Ng} {X:List (Int×Int)} {kp:Option Addr} (x:Int×Int) (hn:NodeM EJ H g X (.pointer kp)) (hs:Pl.Srt OI X) (hl:X.length≤255) (h1:1≤X.length)
  {hv:Value} {hz:Nat→Prop} (hh:HintOk H hv hz) (hoff:∀b o,hz b→¬ncl EJ g b o) (hdp:dp<4611686018427387904):
  Fn Try.prog B 60 [.pointer (some ⟨tr,0,none⟩),.pointer (some ⟨g.p,0,none⟩),.agg (EJ.enc x).toArray,hv,.int .i64 (dp:Int)] H (fun v H'=>v=.tuple #[.int .i64 ((Pl.pos OI x X:Nat):Int),.bool (Pl.fnd OI x X)]∧Fr (fun b _=>hz b) H H'∧HintOk H' hv hz):=by
 rcases hh with ⟨rfl,hz0⟩|⟨hb,rfl,hzb,hbl,hbb,hm⟩
 ·
  refine fn_of func60 rfl ntmps60 ?_
  refine (show Go' _ _ _ _ 28 [(0,_),(1,_),(2,_),(3,_),(4,_)] [.code _] _ from ?_)
  refine Ut 1 rfl (Ur 3 2 rfl (O.box rfl rfl rfl rfl ?_))
  intro H1 M1
  refine ⟨trivial,?_⟩
  have hF1:=M1.fr nowhere
  have hs1:=M1.size
  replace tc:=tc.fr hF1 (fun _ _ _ _=>nw)
  replace hn:=NodeM.fr EJ hn hF1 (fun _ _ _=>nw)
  have mk:Rd H1 H.size 0 (EJ.enc x):=M1.rd _ [] (by simp [Value.cells])
  refine Uf 2 [0,1,3,4,7,10,11] rfl (Ut 2 rfl (Ur 2 0 rfl (Uq 1 rfl (O.isNil rfl rfl rfl rfl underlying116 rfl rfl (Uf 0 [0,1,3,4,7,10,11,13] rfl (Go'.condT rfl (Ut 1 rfl (Ur 8 144 rfl (Us 2 rfl mk rfl (O.call rfl rfl rfl call84 rfl (bsearch_spec tc x hn hs hl) ?_))))))))))
  rintro _ H2 ⟨rfl,hF2⟩
  refine ⟨trivial,?_⟩
  refine Uf 4 [0,1,3,4,7,10,11] rfl (Go'.ret (vs:=[_,_]) func60 results60 ⟨rfl,rfl,trivial⟩ ?_)
  exact ⟨rfl,(hF1.trans hF2).mono (fun _ _ _ h=>h.elim),.inl ⟨rfl,hz0⟩⟩
 ·
  refine fn_of func60 rfl ntmps60 ?_
  refine (show Go' _ _ _ _ 28 [(0,_),(1,_),(2,_),(3,_),(4,_)] [.code _] _ from ?_)
  refine Ut 1 rfl (Ur 3 2 rfl (O.box rfl rfl rfl rfl ?_))
  intro H1 M1
  refine ⟨trivial,?_⟩
  have hF1:=M1.fr nowhere
  have hs1:=M1.size
  replace tc:=tc.fr hF1 (fun _ _ _ _=>nw)
  replace hn:=NodeM.fr EJ hn hF1 (fun _ _ _=>nw)
  have mk:Rd H1 H.size 0 (EJ.enc x):=M1.rd _ [] (by simp [Value.cells])
  refine Uf 2 [0,1,3,4,7,10,11] rfl (Ut 2 rfl ?_)
  replace hm:=hm.fr hF1 (fun _=>nw)
  refine Ur 2 0 rfl (Uq 1 rfl (O.isNil rfl rfl rfl rfl underlying116 rfl rfl (Uf 0 [0,1,3,4,7,10,11,13] rfl (Go'.condF rfl (Ut 2 rfl (Ur 10 2064 rfl (Us 2 rfl mk rfl (Uq 2 rfl (O.call rfl rfl rfl call85 rfl (hintsearch_spec tc x hn hs hl h1 hm (by omega) hbb (fun o=>hoff hb o ((hzb hb).2 rfl)) hdp) ?_)))))))))
  rintro _ H2 ⟨rfl,hF2,hm2⟩
  refine ⟨trivial,?_⟩
  refine Uf 4 [10,11] rfl (Go'.ret (vs:=[_,_]) func60 results60 ⟨rfl,rfl,trivial⟩ ?_)
  exact ⟨rfl,hF1.trans' hF2 (fun _ _ _ h=>h.elim) (fun b _ _ h=>(hzb b).2 h),.inr ⟨hb,rfl,hzb,Nat.lt_of_lt_of_le (by omega) hF2.size,hbb,hm2⟩⟩
end Go.Bt.FG
namespace Go.Bt.FG
open Go Go.Proofs Go.Proofs.Try
set_option maxRecDepth 20000
set_option maxHeartbeats 4000000
set_option linter.unusedSectionVars false
section
variable [Inhabited Cx]
def HzC (hz:Nat→Prop) (n:Nat):Prop:=(∀b,¬hz b)∨∃hb,(∀b,hz b↔b=hb)∧hb<n
theorem HzC.cut {H H':Mem} {hz:Nat→Prop} {Z:Nat→Nat→Prop} (hk:HzC hz H.size) (hF:Fr (fun b o=>Z b o∨hz b) H H'):∃Hm:Mem,Hm.size=H.size∧Fr (fun b _=>hz b) H Hm∧Fr Z Hm H':=by
 rcases hk with h0|⟨hb,h1,h2⟩
 · exact ⟨H,rfl,Fr.refl _ _,hF.mono fun b o _ h=>h.elim id fun h=>absurd h (h0 b)⟩
 ·
  obtain ⟨Hm,e,f1,f2⟩:=Fr.split (Z:=Z) h2 (hF.mono fun b o _ h=>h.imp id (h1 b).1)
  exact ⟨Hm,e,f1.mono fun b _ _ h=>(h1 b).2 h,f2⟩
theorem HintOk.hzc {H:Mem} {hv:Value} {hz:Nat→Prop} (hk:HintOk H hv hz):HzC hz H.size:=by
 rcases hk with ⟨_,h0⟩|⟨hb,_,h1,h2,_,_⟩
 · exact .inl h0
 · exact .inr ⟨hb,h1,h2⟩
def DelQH (H:Mem) (P:Ps) (h:Nat) (t:Gt EJ h) (mx:Bool) (x:Int×Int) (hv:Value) (hz:Nat→Prop) (v:Value) (H':Mem):Prop:=
 HintOk H' hv hz∧∃Hm:Mem,Hm.size=H.size∧Fr (fun b _=>hz b) H Hm∧DelQ Hm P h t mx x v H'
theorem DelQH.rebase {H Hb:Mem} {P:Ps} {h:Nat} {t:Gt EJ h} {mx:Bool} {x:Int×Int} {hv:Value} {hz:Nat→Prop} {v:Value} {H':Mem} (hs:Hb.size=H.size) (hf:Fr (fun b _=>hz b) H Hb) (hq:DelQH Hb P h t mx x hv hz v H'):DelQH H P h t mx x hv hz v H':=by
 obtain ⟨h1,Hm,h2,h3,h4⟩:=hq
 exact ⟨h1,Hm,h2.trans hs,hf.trans' h3 (fun _ _ _ h=>h) (fun _ _ _ h=>h),h4⟩
theorem DelQ.uni {H:Mem} {P:Ps} {h:Nat} {t:Gt EJ h} {mx:Bool} {x:Int×Int} {v:Value} {H':Mem} (hq:DelQ H P h t mx x v H'):∃y bb,v=.tuple #[.agg (EJ.enc y).toArray,.bool bb]∧Fr (Gt.af h t) H H'∧
  ((bb=false∧Pl.dlr OI mx x (Gt.L h t)=none∧Fr nowhere H H')∨(bb=true∧∃L' t',Pl.dlr OI mx x (Gt.L h t)=some (y,L')∧DelT H H' P h t t' L' (SegD OI mx x h t t'))):=by
 unfold DelQ at hq
 cases e:Pl.dlr OI mx x (Gt.L h t) with
 | none=>
  rw [e] at hq
  exact ⟨_,_,hq.1,hq.2.mono fun _ _ _ h=>h.elim,.inl ⟨rfl,rfl,hq.2⟩⟩
 | some r=>
  obtain ⟨y,L'⟩:=r
  rw [e] at hq
  obtain ⟨t',e1,hd⟩:=hq
  exact ⟨_,_,e1,hd.fr,.inr ⟨rfl,L',t',rfl,hd⟩⟩
theorem DelQH.uni {H:Mem} {P:Ps} {h:Nat} {t:Gt EJ h} {mx:Bool} {x:Int×Int} {hv:Value} {hz:Nat→Prop} {v:Value} {H':Mem} (hq:DelQH H P h t mx x hv hz v H'):HintOk H' hv hz∧∃Hm:Mem,Hm.size=H.size∧Fr (fun b _=>hz b) H Hm∧∃y bb,v=.tuple #[.agg (EJ.enc y).toArray,.bool bb]∧Fr (Gt.af h t) Hm H'∧
  ((bb=false∧Pl.dlr OI mx x (Gt.L h t)=none∧Fr nowhere Hm H')∨(bb=true∧∃L' t',Pl.dlr OI mx x (Gt.L h t)=some (y,L')∧DelT Hm H' P h t t' L' (SegD OI mx x h t t'))):=by
 obtain ⟨h1,Hm,h2,h3,h4⟩:=hq
 exact ⟨h1,Hm,h2,h3,h4.uni⟩
theorem delH0 {B:World} {H:Mem} {tr bp op dp:Nat} {P:Ps} (hP:PsOk P) {mx:Bool} {x:Int×Int} {t:Gt EJ 0} {hv:Value} {hz:Nat→Prop} (hp:DPre H tr P 0 t bp op) (hkt:HintOk H hv hz) (ho:∀b o,Gt.af 0 t b o→¬hz b) (hdp:dp<4611686018427387904):
  Fn Try.prog B 86 [.pointer (some ⟨tr,0,none⟩),.pointer (some ⟨bp,op,none⟩),.bool mx,.agg (EJ.enc x).toArray,hv,.int .i64 (dp:Int)] H (DelQH H P 0 t mx x hv hz):=by
 obtain ⟨⟨np,niso,ncnt,nib,nio,nic,ncb,nkb,nko,nkc⟩,X⟩:=t
 obtain ⟨tc,hg,hc,tn,hsX,hlen,hx1⟩:=hp
 obtain ⟨Q0,hQ0⟩:∃Q0,Q0=DelQH H P 0 (((⟨np,niso,ncnt,nib,nio,nic,ncb,nkb,nko,nkc⟩:Ng),X):Gt EJ 0) mx x hv hz:=⟨_,rfl⟩
 rw [←hQ0]
 have hbase:∀v H',DelQH H P 0 (((⟨np,niso,ncnt,nib,nio,nic,ncb,nkb,nko,nkc⟩:Ng),X):Gt EJ 0) mx x hv hz v H'→Q0 v H':=fun v H' h=>by rw [hQ0];exact h
 clear hQ0
 have hzb:=hkt.base
 have hzc:=hkt.hzc
 replace hsX:Pl.Srt OI X:=hsX
 replace hx1:1≤X.length:=hx1
 replace hlen:X.length<4611686018427387904:=hlen
 have hn:NodeM EJ H (⟨np,niso,ncnt,nib,nio,nic,ncb,nkb,nko,nkc⟩:Ng) X (.pointer none):=hg.1
 have hiso:niso=P.iso:=hg.2.1
 have hcnt:ncnt=X.length:=hg.2.2.1
 have hxm:X.length≤P.mx:=hg.2.2.2
 replace tn:∀b o,(ncl EJ (⟨np,niso,ncnt,nib,nio,nic,ncb,nkb,nko,nkc⟩:Ng)) b o→¬(b<cx.base∨hz b):=fun b o hb h=>h.elim (tn b o hb) (ho b o hb)
 have hx255:=hP.hx
 have hlt:∀b o,(ncl EJ (⟨np,niso,ncnt,nib,nio,nic,ncb,nkb,nko,nkc⟩:Ng)) b o→b<H.size:=fun b o hb=>NodeM.lt hn hb
 have hD:∀b,(b<cx.base∨hz b)→b<H.size:=fun b hb=>hb.elim (fun h=>Nat.lt_of_lt_of_le h tc.hb) (fun h=>(hzb b h).2)
 have htl:cx.base≤H.size:=tc.hb
 have hic:=hn.sl.hle
 simp only at hic
 have hF:Fr (ncl EJ (⟨np,niso,ncnt,nib,nio,nic,ncb,nkb,nko,nkc⟩:Ng)) H H:=Fr.refl _ _
 have hQ:Fr nowhere H H:=Fr.refl _ _
 have sn:Gro H (ncl EJ (⟨np,niso,ncnt,nib,nio,nic,ncb,nkb,nko,nkc⟩:Ng)) (ncl EJ (⟨np,niso,ncnt,nib,nio,nic,ncb,nkb,nko,nkc⟩:Ng)):=Gro.refl _ _
 refine fn_of func86 rfl ntmps86 ?_
 refine (show Go' _ _ _ _ 212 [(0,_),(1,_),(2,_),(3,_),(4,_),(5,_)] [.code _] _ from ?_)
 refine Ut 1 rfl (Ur 3 10 rfl (O.box rfl rfl rfl rfl ?_))
 intro H1 MH1
 refine ⟨trivial,?_⟩
 have hsH1:=MH1.size
 replace hn:=NodeM.fr EJ hn (MH1.fr nowhere) (fun _ _ _=>nw)
 replace tc:=tc.fr (MH1.fr nowhere) (fun _ _ _ _=>nw)
 replace hkt:=hkt.fr (MH1.fr nowhere) (fun _ _ _=>nw)
 replace hF:=hF.trans' (MH1.fr nowhere) (fun _ _ _ h=>h) (fun _ _ _ h=>h.elim)
 replace hQ:=hQ.trans (MH1.fr nowhere)
 have mk:Rd H1 H.size 0 (EJ.enc x):=MH1.rd _ [] (by simp [Value.cells])
 refine O.alloc rfl rfl rfl zeroValue27 ?_
 intro H2 MH2
 refine ⟨trivial,?_⟩
 have hsH2:=MH2.size
 replace hn:=NodeM.fr EJ hn (MH2.fr nowhere) (fun _ _ _=>nw)
 replace tc:=tc.fr (MH2.fr nowhere) (fun _ _ _ _=>nw)
 replace hkt:=hkt.fr (MH2.fr nowhere) (fun _ _ _=>nw)
 replace hF:=hF.trans' (MH2.fr nowhere) (fun _ _ _ h=>h) (fun _ _ _ h=>h.elim)
 replace mk:=Fr.rd (MH2.fr nowhere) mk (fun _ _=>nw)
 replace hQ:=hQ.trans (MH2.fr nowhere)
 have w8:Wr H2 H1.size 0 2:=MH2.wr 2 (by decide)
 refine Uf 1 [0,1,2,4,5,9,12,13] rfl (Ut 1 rfl ?_)
 have hc0:cl H2 np 0=some (.int .u64 (P.iso:Int)):=by have:=hn.c0;simp only [hiso] at this;exact this
 refine Ur 4 32 rfl (Uq 2 rfl (O.callQ rfl rfl rfl call59 rfl (isoLoad_spec true (Fr.keep (MH2.fr nowhere) (Fr.keep (MH1.fr nowhere) hc nw) nw) hc0 tc.iso) trivial (Uf 1 [0,2,4,5,9,12,13,14] rfl (Ut 1 rfl (Ur 1 0 rfl (Uf 1 [0,2,4,5,9,12,13,14,15] rfl (Ut 1 rfl (Ur 1 0 rfl (Uf 1 [0,2,4,5,9,12,13,14,15,16] rfl (Ut 2 rfl (Ur 1 0 rfl ?_)))))))))))
 refine Uf 1 [0,2,4,5,9,12,13,14,15,16,25] rfl ?_
 refine Go'.join (σ:=Nat×Bool) (fun s H'=>Fr (fun b _=>hz b) H2 H'∧HintOk H' hv hz∧Pl.Sel OI mx x X s) (fun s=>[(0,.pointer (some ⟨tr,0,none⟩)),(2,.bool mx),(4,hv),(5,.int .i64 (dp:Int)),(9,.pointer (some ⟨H.size,0,none⟩)),(12,.pointer (some ⟨H1.size,0,none⟩)),(13,.bool false),(14,.pointer (some ⟨np,0,none⟩)),(15,.int .i64 (s.1:Int)),(16,.bool s.2)]) ?_ ?_
 rotate_left
 ·
  intro tail
  cases mx
  ·
   refine Go'.condF rfl (Ur 11 2064 rfl (Us 2 rfl mk rfl (Uq 2 rfl (O.call rfl rfl rfl call60 rfl (find_spec tc x hn hsX (by omega) hx1 hkt (fun b o hb hn9=>tn b o hn9 (.inr hb)) (by omega)) ?_))))
   rintro _ Hs ⟨rfl,hFs,hks⟩
   refine ⟨trivial,?_⟩
   refine Uf 5 [0,2,4,5,9,12,13,14,15,16] rfl (Uk [0,2,4,5,9,12,13,14,15,16] rfl ?_)
   exact tail (Pl.pos OI x X,Pl.fnd OI x X) Hs ⟨hFs,hks,Pl.sel_key OI x X⟩
  ·
   refine Go'.condT rfl (Ur 8 64 rfl (Ul 3 rfl (show cl _ np 2=some (.slice (some ⟨nib,nio,none⟩) X.length nic) from hn.c2) (Ub 1 (((X.length-1:Nat):Int)) rfl (by omega) (Uf 2 [0,2,4,5,9,12,13,14,15,16] rfl (Uk [0,2,4,5,9,12,13,14,15,16] rfl ?_)))))
   exact tail (X.length-1,true) H2 ⟨Fr.refl _ _,hkt,Pl.sel_max OI x hx1⟩
 rintro ⟨i,fo⟩ Hj ⟨hFj,hkj,hsel⟩
 simp only
 replace hn:=NodeM.fr EJ hn hFj (fun b o hb hz=>tn b o hb (.inr hz))
 replace tc:=tc.fr hFj (fun b o hb _ hz=>(hzb b hz).1 hb)
 replace mk:=Fr.rd hFj mk (fun _ _ hz=>by have:=(hzb _ hz).2;omega)
 replace w8:=Fr.wr hFj w8
 have hsj:=hFj.size
 replace hkt:=hkj
 clear hkj
 obtain ⟨Hb,hsb,hFb,hQb⟩:=hzc.cut (Z:=nowhere) (hQ.trans' hFj (fun _ _ _ h=>h.elim) (fun _ _ _ h=>.inr h))
 replace hbase:=fun v H' (h:DelQH Hb P 0 (((⟨np,niso,ncnt,nib,nio,nic,ncb,nkb,nko,nkc⟩:Ng),X):Gt EJ 0) mx x hv hz v H')=>hbase v H' (h.rebase hsb hFb)
 generalize hzs:H.size=zs at*
 clear hzs
 subst hsb
 obtain ⟨H,hHb⟩:∃z,z=Hb:=⟨_,rfl⟩
 subst hHb
 clear hQ hF
 rename Fr nowhere H Hj=>hQ
 have hF:Fr (ncl EJ (⟨np,niso,ncnt,nib,nio,nic,ncb,nkb,nko,nkc⟩:Ng)) H Hj:=hQ.mono (fun _ _ _ h=>h.elim)
 have sn:Gro H (ncl EJ (⟨np,niso,ncnt,nib,nio,nic,ncb,nkb,nko,nkc⟩:Ng)) (ncl EJ (⟨np,niso,ncnt,nib,nio,nic,ncb,nkb,nko,nkc⟩:Ng)):=Gro.refl _ _
 refine Ut 2 rfl (Ur 2 8 rfl (Uq 1 rfl (O.callQ rfl rfl rfl call62 rfl (leaf_spec hn.c3) trivial (Uf 0 [0,2,4,5,9,12,13,14,15,16,42] rfl (Go'.condT rfl (Ut 2 rfl (Ur 1 0 rfl (Uf 1 [0,2,4,5,9,12,13,14,15,16,43] rfl ?_))))))))
 cases fo
 ·
  refine Go'.condF rfl (Ut 2 rfl (Ur 6 576 rfl (Us 3 rfl tc.emp rfl (O.st rfl rfl sizeOf27 rfl rfl rfl rfl rfl w8 ?_))))
  intro H3 WH3
  have hsH3:=WH3.size
  replace hn:=NodeM.fr EJ hn WH3.fr (fun b o hb=>nr (.inl (by have:=hlt b o hb;omega)))
  replace tc:=tc.fr WH3.fr (fun b o hb _=>nr (.inl (by omega)))
  replace hkt:=hkt.fr WH3.fr (fun b o hb=>nr (.inl (by have:=(hzb b hb).2;omega)))
  replace hF:=hF.trans' WH3.fr (fun _ _ _ h=>h) (fun b o hb h=>by simp only [rng] at h;omega)
  replace hQ:=hQ.trans' WH3.fr (fun _ _ _ h=>h) (fun b o hb h=>by simp only [rng] at h;omega)
  replace mk:=Fr.rd WH3.fr mk (fun _ _=>nr (.inl (by omega)))
  replace w8:=Fr.wr WH3.fr w8
  have m8:Rd H3 H1.size 0 (EJ.enc ((0:Int),(0:Int))):=WH3.all
  refine ⟨trivial,?_⟩
  refine Uf 1 [0,2,4,5,9,12,13,14,15,16] rfl (Go'.ret (vs:=[_,_]) func86 results86 ⟨⟨_,_,rfl,fun _ _=>run_loadVar_agg (fun w=>⟨isAgg27 w,sizeOf27 w⟩) rfl m8⟩,rfl,trivial⟩ ?_)
  refine hbase _ _ ⟨hkt,H,rfl,Fr.refl _ _,?_⟩
  unfold DelQ
  rw [show Pl.dlr OI mx x (Gt.L 0 (((⟨np,niso,ncnt,nib,nio,nic,ncb,nkb,nko,nkc⟩:Ng),X):Gt EJ 0))=none from Pl.dlr_none OI hsel]
  exact ⟨rfl,hQ⟩
 ·
  refine Go'.condT rfl (Ut 1 rfl ?_)
  have hil:i<X.length:=hsel.1 rfl
  obtain ⟨y,hy⟩:∃y,X[i]?=some y:=⟨X[i],List.getElem?_eq_getElem hil⟩
  refine Ur 9 168000 rfl (Ul 3 rfl (show cl _ np 2=some (.slice (some ⟨nib,nio,none⟩) X.length nic) from hn.c2) (Ux 1 i rfl (by omega) (by omega) (Us 0 rfl (hn.sl.item hy) rfl (O.alloc rfl rfl rfl zeroValue27 ?_))))
  intro H4 MH4
  refine ⟨trivial,?_⟩
  have hsH4:=MH4.size
  replace hn:=NodeM.fr EJ hn (MH4.fr nowhere) (fun _ _ _=>nw)
  replace tc:=tc.fr (MH4.fr nowhere) (fun _ _ _ _=>nw)
  replace hkt:=hkt.fr (MH4.fr nowhere) (fun _ _ _=>nw)
  replace hF:=hF.trans' (MH4.fr nowhere) (fun _ _ _ h=>h) (fun _ _ _ h=>h.elim)
  replace mk:=Fr.rd (MH4.fr nowhere) mk (fun _ _=>nw)
  replace w8:=Fr.wr (MH4.fr nowhere) w8
  replace hQ:=hQ.trans (MH4.fr nowhere)
  have w13:Wr H4 Hj.size 0 2:=MH4.wr 2 (by decide)
  obtain ⟨b13,eb13⟩:∃z,z=Hj.size:=⟨_,rfl⟩
  rw [←eb13] at w13 ⊢
  refine O.st rfl rfl sizeOf27 rfl rfl rfl rfl rfl w13 ?_
  intro H5 WH5
  have hsH5:=WH5.size
  replace hn:=NodeM.fr EJ hn WH5.fr (fun b o hb=>nr (.inl (by have:=hlt b o hb;omega)))
  replace tc:=tc.fr WH5.fr (fun b o hb _=>nr (.inl (by omega)))
  replace hkt:=hkt.fr WH5.fr (fun b o hb=>nr (.inl (by have:=(hzb b hb).2;omega)))
  replace hF:=hF.trans' WH5.fr (fun _ _ _ h=>h) (fun b o hb h=>by simp only [rng] at h;omega)
  replace hQ:=hQ.trans' WH5.fr (fun _ _ _ h=>h) (fun b o hb h=>by simp only [rng] at h;omega)
  replace mk:=Fr.rd WH5.fr mk (fun _ _=>nr (.inl (by omega)))
  replace w8:=Fr.wr WH5.fr w8
  replace w13:=Fr.wr WH5.fr w13
  have m13:Rd H5 b13 0 (EJ.enc y):=WH5.all
  refine ⟨trivial,?_⟩
  refine Uf 0 [0,2,4,5,9,12,13,14,15,16,17] rfl (Ut 1 rfl ?_)
  have hxd:X.length-(i+1)+(i+1)=X.length:=by omega
  refine Ud 14 134479936 (by kernel_rfl) (Ul 3 rfl (show cl _ np 2=some (.slice (some ⟨nib,nio,none⟩) X.length nic) from hn.c2) (Uq 1 rfl (O.slc (jl:=i) (jh:=X.length) (jm:=nic) rfl rfl rfl rfl underlying25 sizeOf27 rfl rfl rfl ⟨_,by rfl⟩ (by omega) (by omega) (by simp) (by simp) ?_)))
  intro od hod
  refine Ul 3 rfl (show cl _ np 2=some (.slice (some ⟨nib,nio,none⟩) X.length nic) from hn.c2) (Ua 1 (((i+1:Nat):Int)) rfl (by omega) (O.slc (jl:=i+1) (jh:=X.length) (jm:=nic) rfl rfl rfl rfl underlying25 sizeOf27 rfl rfl rfl ⟨_,by rfl⟩ (by omega) (by omega) (by simp) (by simp) ?_))
  intro os2 hos2
  refine O.copy (b:=nib) (o:=(nio+(i)*2)) (j:=(X.length-(i+1))) (cs:=(row EJ (X.drop (i+1)))) rfl rfl rfl ⟨underlying25,sizeOf27,zeroValue27,⟨_,typeInfo27,rfl⟩,rfl,by decide,by decide⟩ rfl rfl (show _=min _ _ by omega) ((Nat.lt_or_ge (i) nic).elim (fun h=>.inl (by rw [hod h])) (fun h=>.inr (by omega))) (.inl ⟨_,_,_,rfl,hn.sl.rdDrop (i:=i+1) hos2 (by omega)⟩) (by rw [row_len];first|rfl|(congr 1;simp only [List.length_drop];try omega)) (row_ones EJ _) (hn.sl.wrm (i:=i) (m:=X.length-(i+1)) (by omega)) ?_
  intro H6 WH6
  have hyl:(X.drop (i+1)).length=X.length-(i+1):=by simp only [List.length_drop];try omega
  have fW:Fr (ncl EJ (⟨np,niso,ncnt,nib,nio,nic,ncb,nkb,nko,nkc⟩:Ng)) H5 H6:=(NodeM.fCpy hn (i:=i) (Y:=X.drop (i+1)) WH6 (by omega))
  replace tc:=tc.fr fW (fun b o hb _ hz=>tn b o hz (.inl hb.1))
  replace hkt:=hkt.fr fW (fun b o hb hz9=>tn b o hz9 (.inr hb))
  replace hF:=Fr.tot hF fW sn (fun _ _ h=>h)
  replace mk:=Fr.rd fW mk (fun _ _ hz=>by have:=hlt _ _ hz;omega)
  replace w8:=Fr.wr fW w8
  replace w13:=Fr.wr fW w13
  replace m13:=Fr.rd fW m13 (fun _ _ hz=>by have:=hlt _ _ hz;omega)
  clear hQ
  obtain ⟨nX1,enX1,hn⟩:∃X1,X1=X.take (i)++X.drop (i+1)++X.drop (i+(X.drop (i+1)).length)∧NodeM EJ H6 (⟨np,niso,ncnt,nib,nio,nic,ncb,nkb,nko,nkc⟩:Ng) (X1) (.pointer none):=⟨_,rfl,hn.cpy (i:=i) (Y:=X.drop (i+1)) WH6 (by omega)⟩
  have lnX1:nX1.length=X.length:=by rw [enX1];simp only [List.length_append,List.length_take,List.length_drop];omega
  clear fW
  clear hyl
  refine ⟨trivial,?_⟩
  refine Uf 0 [0,2,4,5,9,12,13,14,15,16,17] rfl (Ut 1 rfl (Ud 16 3288350784 (by kernel_rfl) (Ul 3 rfl (show cl _ np 2=some (.slice (some ⟨nib,nio,none⟩) nX1.length nic) from hn.c2) (Ul 3 rfl (show cl _ np 2=some (.slice (some ⟨nib,nio,none⟩) nX1.length nic) from hn.c2) (Ub 1 (((nX1.length-1:Nat):Int)) rfl (by omega) (Us 3 rfl tc.emp rfl (Ux 0 (nX1.length-1) rfl (by omega) (by omega) (O.st3 rfl rfl sizeOf27 rfl rfl rfl rfl rfl (hn.sl.wri (i:=nX1.length-1) (by omega)) ?_))))))))
  intro H7 WH7
  have fW:Fr (ncl EJ (⟨np,niso,ncnt,nib,nio,nic,ncb,nkb,nko,nkc⟩:Ng)) H6 H7:=(NodeM.fSet hn (i:=nX1.length-1) (x:=((0:Int),(0:Int))) WH7 (by omega))
  replace tc:=tc.fr fW (fun b o hb _ hz=>tn b o hz (.inl hb.1))
  replace hkt:=hkt.fr fW (fun b o hb hz9=>tn b o hz9 (.inr hb))
  replace hF:=Fr.tot hF fW sn (fun _ _ h=>h)
  replace mk:=Fr.rd fW mk (fun _ _ hz=>by have:=hlt _ _ hz;omega)
  replace w8:=Fr.wr fW w8
  replace w13:=Fr.wr fW w13
  replace m13:=Fr.rd fW m13 (fun _ _ hz=>by have:=hlt _ _ hz;omega)
  obtain ⟨nX2,enX2,hn⟩:∃X1,X1=nX1.take (nX1.length-1)++((0:Int),(0:Int))::nX1.drop (nX1.length-1+1)∧NodeM EJ H7 (⟨np,niso,ncnt,nib,nio,nic,ncb,nkb,nko,nkc⟩:Ng) (X1) (.pointer none):=⟨_,rfl,hn.set (i:=nX1.length-1) (x:=((0:Int),(0:Int))) WH7 (by omega)⟩
  have lnX2:nX2.length=nX1.length:=by rw [enX2];simp only [List.length_append,List.length_take,List.length_cons,List.length_drop];omega
  clear fW
  refine Uf 0 [0,2,4,5,9,12,13,14,15,16,17] rfl (Ut 1 rfl (Ud 15 805372160 (by kernel_rfl) (Ul 4 rfl (show cl _ np 2=some (.slice (some ⟨nib,nio,none⟩) nX2.length nic) from hn.c2) (Ul 3 rfl (show cl _ np 2=some (.slice (some ⟨nib,nio,none⟩) nX2.length nic) from hn.c2) (Ub 1 (((nX2.length-1:Nat):Int)) rfl (by omega) (O.slc (jl:=0) (jh:=nX2.length-1) (jm:=nic) rfl rfl rfl rfl underlying25 sizeOf27 rfl rfl ⟨_,by rfl⟩ rfl (by omega) (by omega) (by simp) (by simp) ?_))))))
  intro oc hoc
  have hoc2:nio=oc:=by rw [hoc (by omega)];simp
  subst hoc2
  rw [Nat.sub_zero]
  refine Uq 2 rfl (O.st3 rfl rfl sizeOf25 rfl rfl rfl rfl rfl (hn.wr.at0 2 1 (by omega)) ?_)
  intro H8 WH8
  have fW:Fr (ncl EJ (⟨np,niso,ncnt,nib,nio,nic,ncb,nkb,nko,nkc⟩:Ng)) H7 H8:=(Wrote.fHdr (E:=EJ) (g:=(⟨np,niso,ncnt,nib,nio,nic,ncb,nkb,nko,nkc⟩:Ng)) WH8 (by omega))
  replace tc:=tc.fr fW (fun b o hb _ hz=>tn b o hz (.inl hb.1))
  replace hkt:=hkt.fr fW (fun b o hb hz9=>tn b o hz9 (.inr hb))
  replace hF:=Fr.tot hF fW sn (fun _ _ h=>h)
  replace mk:=Fr.rd fW mk (fun _ _ hz=>by have:=hlt _ _ hz;omega)
  replace w8:=Fr.wr fW w8
  replace w13:=Fr.wr fW w13
  replace m13:=Fr.rd fW m13 (fun _ _ hz=>by have:=hlt _ _ hz;omega)
  obtain ⟨nX3,enX3,hn⟩:∃X1,X1=nX2.take (nX2.length-1)∧NodeM EJ H8 (⟨np,niso,ncnt,nib,nio,nic,ncb,nkb,nko,nkc⟩:Ng) (X1) (.pointer none):=⟨_,rfl,hn.cut WH8 (by omega)⟩
  have lnX3:nX3.length=nX2.length-1:=by rw [enX3];simp only [List.length_take];omega
  clear fW
  refine Uf 0 [0,2,4,5,9,12,13,14,15,16,17] rfl (Ut 1 rfl (Ur 8 32832 rfl (Ul 3 rfl (show cl _ np 1=some (.int .i64 (ncnt:Int)) from hn.c1) (Ub 0 (((ncnt-1:Nat):Int)) rfl (by omega) (Uq 2 rfl (O.st rfl rfl sizeOf3 rfl rfl rfl rfl rfl (hn.wr.at0 1 1 (by omega)) ?_))))))
  intro H9 WH9
  have fW:Fr (ncl EJ (⟨np,niso,ncnt,nib,nio,nic,ncb,nkb,nko,nkc⟩:Ng)) H8 H9:=(Wrote.fHdr (E:=EJ) (g:=(⟨np,niso,ncnt,nib,nio,nic,ncb,nkb,nko,nkc⟩:Ng)) WH9 (by omega))
  replace tc:=tc.fr fW (fun b o hb _ hz=>tn b o hz (.inl hb.1))
  replace hkt:=hkt.fr fW (fun b o hb hz9=>tn b o hz9 (.inr hb))
  replace hF:=Fr.tot hF fW sn (fun _ _ h=>h)
  replace mk:=Fr.rd fW mk (fun _ _ hz=>by have:=hlt _ _ hz;omega)
  replace w8:=Fr.wr fW w8
  replace w13:=Fr.wr fW w13
  replace m13:=Fr.rd fW m13 (fun _ _ hz=>by have:=hlt _ _ hz;omega)
  obtain ⟨ncnt_9,encnt_9⟩:∃z,z=ncnt-1:=⟨_,rfl⟩
  rw [←encnt_9] at WH9
  replace hn:NodeM EJ H9 (⟨np,niso,ncnt_9,nib,nio,nic,ncb,nkb,nko,nkc⟩:Ng) (nX3) (.pointer none):=hn.count WH9
  clear fW
  refine ⟨trivial,?_⟩
  refine Uf 0 [0,2,4,5,9,12,13,14,15,16,17] rfl (Ut 1 rfl (Ur 3 9 rfl (Us 0 rfl m13 rfl (O.st rfl rfl sizeOf27 rfl rfl rfl rfl rfl w8 ?_))))
  intro H10 WH10
  have hsH10:=WH10.size
  replace hn:=NodeM.fr EJ hn WH10.fr (fun b o hb=>nr (.inl (by have:=hlt b o hb;omega)))
  replace tc:=tc.fr WH10.fr (fun b o hb _=>nr (.inl (by omega)))
  replace hkt:=hkt.fr WH10.fr (fun b o hb=>nr (.inl (by have:=(hzb b hb).2;omega)))
  replace hF:=hF.trans' WH10.fr (fun _ _ _ h=>h) (fun b o hb h=>by simp only [rng] at h;omega)
  replace mk:=Fr.rd WH10.fr mk (fun _ _=>nr (.inl (by omega)))
  replace w8:=Fr.wr WH10.fr w8
  replace w13:=Fr.wr WH10.fr w13
  replace m13:=Fr.rd WH10.fr m13 (fun _ _=>nr (.inl (by omega)))
  have m8:Rd H10 H1.size 0 (EJ.enc y):=WH10.all
  refine ⟨trivial,?_⟩
  refine Uf 1 [0,2,4,5,9,12,13,14,15,16] rfl (Go'.ret (vs:=[_,_]) func86 results86 ⟨⟨_,_,rfl,fun _ _=>run_loadVar_agg (fun w=>⟨isAgg27 w,sizeOf27 w⟩) rfl m8⟩,rfl,trivial⟩ ?_)
  have hX:nX3=X.take i++X.drop (i+1):=by
   rw [enX3,lnX2,lnX1,enX2,lnX1,enX1]
   exact Pl.cut_at X _ i hil
  refine hbase _ _ ⟨hkt,H,rfl,Fr.refl _ _,?_⟩
  unfold DelQ
  rw [show Pl.dlr OI mx x (Gt.L 0 (((⟨np,niso,ncnt,nib,nio,nic,ncb,nkb,nko,nkc⟩:Ng),X):Gt EJ 0))=some (y,X.take i++X.drop (i+1)) from Pl.dlr_leaf OI hsel hy]
  exact ⟨(((⟨np,niso,ncnt_9,nib,nio,nic,ncb,nkb,nko,nkc⟩:Ng),nX3):Gt EJ 0),rfl,hF,⟨hn,hiso,(show ncnt_9=nX3.length by omega),(show nX3.length≤P.mx by omega)⟩,rfl,fun b o hb=>.inl hb,hX,(show X.length≤nX3.length+1 by omega),fun _ _ _ _=>trivial⟩
end
end Go.Bt.FG
