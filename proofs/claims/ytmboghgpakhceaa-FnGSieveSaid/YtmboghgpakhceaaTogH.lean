/- Contracts of functions of the program, proved by walking through their code. Conditions: those that each theorem names. -/
import Derived.Test.YtmboghgpakhceaaTogD
import Derived.Test.YtmboghgpakhceaaToKi
import Derived.Test.YtmboghgpakhceaaToCb
set_option linter.unusedVariables false
namespace Go.Bt.FG
open Go Go.Proofs Go.Proofs.Try
set_option maxRecDepth 20000
set_option maxHeartbeats 4000000
set_option linter.unusedSectionVars false
variable [Inhabited Cx]
theorem nitems {B:World} {P:Ps} (hP:PsOk P) (mt:Bool) {tr:Nat}:∀(h:Nat) {H:Mem} {bp op:Nat} {v:Value} {acc:List (Int×Int)} {Z:Nat→Prop} {t:Gt EJ h},TrC H tr P.iso P.mx P.mn→Gt.Good H P h t→cl H bp op=some (ptr (Gt.p h t))→AccN EJ Z H v acc→(∀b o,Gt.af h t b o→¬Z b)→(∀b,Z b→cx.base≤b)→acc.length+(Gt.L h t).length≤4294967296→
  Fn Try.prog B 177 [.pointer (some ⟨tr,0,none⟩),.pointer (some ⟨bp,op,none⟩),v,.bool mt] H (fun r H'=>∃Z',AccN EJ Z' H' r (acc++Gt.L h t)∧Fr (fun b _=>Z b) H H'∧∀b,Z' b→Z b∨H.size≤b)
 | 0,H,bp,op,v,acc,Z,(g,X),tc,hg,hc,hA,hnz,hzb,hlen=>by
  have hN:NodeM EJ H g X (.pointer none):=hg.1
  have hiso:g.iso=P.iso:=hg.2.1
  have hc0:=hN.c0
  rw [hiso] at hc0
  replace hlen:acc.length+X.length≤4294967296:=hlen
  have hX:InS EJ H (.slice (some ⟨g.ib,g.io,none⟩) X.length g.ic) X:=.inl ⟨_,_,_,rfl,hN.sl.hle,hN.sl.rd⟩
  refine fn_of func177 rfl ntmps177 ?_
  refine (show Go' _ _ _ _ 73 [(0,_),(1,_),(2,_),(3,_)] [.code _] _ from ?_)
  refine Ut 1 rfl (Ur 1 0 rfl (Uf 1 [0,1,2,3,8] rfl (Ut 1 rfl (Ur 5 128 rfl (Uq 3 rfl (O.callQ rfl rfl rfl call130 rfl (isoLoad_spec mt hc hc0 tc.iso) trivial (Uf 1 [0,2,3,8,9] rfl (Ut 2 rfl ?_))))))))
  unfold ptr
  refine Ur 2 8 rfl (Uq 1 rfl (O.callQ rfl rfl rfl call133 rfl (leaf_spec hN.c3) trivial (Uf 0 [0,2,3,8,9,16] rfl (Go'.condT rfl (Ut 1 rfl (Ur 7 2304 rfl (Ul 4 rfl hN.c2 (O.appI (E:=EJ) rfl rfl rfl ⟨underlying25,sizeOf27,zeroValue27,⟨_,typeInfo27,rfl⟩,rfl,by decide,by decide⟩ rfl hA rfl hX (Nat.le_trans (Nat.mul_le_mul_left _ (Nat.le_of_ble_eq_true (n:=_) (m:=4096) rfl)) (by skip;omega)) (by omega) ?_))))))))
  intro v4 H4 hA4 hF4 hs4
  refine ⟨trivial,?_⟩
  refine Uf 1 [0,2,3,8,9] rfl (Go'.ret (vs:=[_]) func177 results177 ⟨rfl,trivial⟩ ?_)
  exact ⟨_,hA4,hF4,fun b hb=>hb.elim .inl (fun h=>.inr (by omega))⟩
 | h+1,H,bp,op,v,acc,Z,(g,X,K),tc,hg,hc,hA,hnz,hzb,hlen=>by
  have ih:=@nitems B P hP mt tr h
  have hI:Inn H P h g X ((Gt.ps h K).map some) K:=hg.inn
  have hKl:K.length=X.length+1:=hg.2.2.2.2.2.1
  have hxm:X.length≤P.mx:=hg.2.2.2.2.1
  have hx255:=hP.hx
  have hc0:=hI.n.c0
  rw [hI.iso] at hc0
  have hbs:=tc.hb
  have hKL:(K.map (Gt.L h)).length=X.length+1:=by rw [List.length_map];exact hKl
  have hol:((Gt.ps h K).map some).length=X.length+1:=by rw [List.length_map,Gt.ps,List.length_map];exact hKl
  replace hlen:acc.length+(Pl.inter X (K.map (Gt.L h))).length≤4294967296:=hlen
  have hlt:∀x y,innc h g K x y→x<H.size:=fun x y hb=>hI.lt hb
  have hin:∀H',Fr (fun x _=>Z x) H H'→Inn H' P h g X ((Gt.ps h K).map some) K∧TrC H' tr P.iso P.mx P.mn:=fun H' hf=>⟨hI.fr hf (fun x y hxy hz=>hnz x y hxy hz),tc.fr hf (fun b o hb _ hz=>by have:=hzb b hz;omega)⟩
  have hcat:∀{Z1 Z2:Nat→Prop} {H2 H3:Mem},Fr (fun x _=>Z x) H H2→(∀b,Z1 b→Z b∨H.size≤b)→Fr (fun x _=>Z1 x) H2 H3→(∀b,Z2 b→Z1 b∨H2.size≤b)→Fr (fun x _=>Z x) H H3∧∀b,Z2 b→Z b∨H.size≤b:=by
   intro Z1 Z2 H2 H3 hF hZ1 hF2 hZ2
   have:=hF.size
   exact ⟨hF.trans' hF2 (fun _ _ _ h=>h) (fun b o hb hz=>(hZ1 b hz).elim id (fun h=>by omega)),fun b hb=>(hZ2 b hb).elim (hZ1 b) (fun h=>.inr (by omega))⟩
  have hkz:∀{Z1:Nat→Prop},(∀b,Z1 b→Z b∨H.size≤b)→(∀b o,innc h g K b o→¬Z1 b)∧∀b,Z1 b→cx.base≤b:=fun hZ1=>⟨fun b o hb hz=>(hZ1 b hz).elim (hnz b o hb) (fun hz=>by have:=hlt b o hb;omega),fun b hz=>(hZ1 b hz).elim (hzb b) (fun hz=>by omega)⟩
  show Fn _ _ _ _ _ (fun r H'=>∃Z',AccN EJ Z' H' r (acc++Pl.inter X (K.map (Gt.L h)))∧Fr (fun b _=>Z b) H H'∧∀b,Z' b→Z b∨H.size≤b)
  refine fn_of func177 rfl ntmps177 ?_
  refine (show Go' _ _ _ _ 73 [(0,_),(1,_),(2,_),(3,_)] [.code _] _ from ?_)
  refine Ut 1 rfl (Ur 1 0 rfl (Uf 1 [0,1,2,3,8] rfl (Ut 1 rfl (Ur 5 128 rfl (Uq 3 rfl (O.callQ rfl rfl rfl call130 rfl (isoLoad_spec mt hc hc0 tc.iso) trivial (Uf 1 [0,2,3,8,9] rfl (Ut 2 rfl ?_))))))))
  unfold ptr
  refine Ur 2 8 rfl (Uq 1 rfl (O.callQ rfl rfl rfl call133 rfl (leaf_spec hI.n.c3) trivial (Uf 0 [0,2,3,8,9,16] rfl (Go'.condF rfl (Ut 3 rfl (Ur 1 0 rfl (Uf 1 [0,2,3,8,9,10] rfl (Ut 1 rfl (Go'.loop (Uk [0,2,3,9,10] rfl ?_))))))))))
  refine Go'.ind (σ:=Nat×Value×(Nat→Prop)) (fun s=>X.length-s.1) (fun s H'=>s.1≤X.length∧AccN EJ s.2.2 H' s.2.1 (acc++Pl.pre (X.take s.1) ((K.map (Gt.L h)).take s.1))∧Fr (fun b _=>Z b) H H'∧∀b,s.2.2 b→Z b∨H.size≤b)
   (fun s=>[(0,.pointer (some ⟨tr,0,none⟩)),(2,s.2.1),(3,.bool mt),(9,.pointer (some ⟨g.p,0,none⟩)),(10,.int .i64 (s.1:Int))]) (0,v,Z) ⟨Nat.zero_le _,by rw [List.take_zero];show AccN EJ Z H v (acc++[]);rw [List.append_nil];exact hA,Fr.refl _ _,fun b hb=>.inl hb⟩ rfl ?_
  clear hA
  rintro ⟨j,sv,Z1⟩ H2 ⟨hj,hA,hF,hZ1⟩ ih2
  simp only at hj hA hZ1
  have hsz:=hF.size
  obtain ⟨hI2,tc2⟩:=hin H2 hF
  obtain ⟨hz1,hz2⟩:=hkz hZ1
  have hpl:=Pl.pre_len X (K.map (Gt.L h)) hKL j hj
  have hal:(acc++Pl.pre (X.take j) ((K.map (Gt.L h)).take j)).length=acc.length+(Pl.pre (X.take j) ((K.map (Gt.L h)).take j)).length:=List.length_append
  obtain ⟨k,hkk⟩:∃k,K[j]?=some k:=⟨K[j],List.getElem?_eq_getElem (by omega)⟩
  have hkL:(K.map (Gt.L h))[j]?=some (Gt.L h k):=by rw [List.getElem?_map,hkk];rfl
  have hkK:k∈K:=List.mem_of_getElem? hkk
  have hok:((Gt.ps h K).map some)[j]?=some (some (Gt.p h k)):=by rw [Gt.ps,List.map_map,List.getElem?_map,hkk];rfl
  have hcel:=hI2.k.at hok
  unfold ptr at hcel
  refine Ut 2 rfl ?_
  by_cases hlt2:j<X.length
  ·
   obtain ⟨y,hy⟩:∃y,X[j]?=some y:=⟨X[j],List.getElem?_eq_getElem hlt2⟩
   have hps:=Pl.pre_succ hy hkL
   have hpl2:=Pl.pre_len X (K.map (Gt.L h)) hKL (j+1) hlt2
   rw [hps,List.length_append,List.length_append,List.length_singleton] at hpl2
   refine Ur 7 256 rfl (Ul 4 rfl hI2.n.c2 (Uc 1 rfl (lssT (by omega)) (Uf 0 [0,2,3,9,10,29] rfl (Go'.condT rfl (Ut 4 rfl (Ur 13 8392960 rfl (Ul 4 rfl hI2.n.c3 (Ul 1 rfl hI2.k.c (Ux 1 j rfl (by omega) (by omega) (Uq 2 rfl (O.call rfl rfl rfl call177 rfl (ih tc2 (hI2.c.1 k hkK).1 hcel hA (fun b o hb=>hz1 b o (.inr (.inr ⟨k,hkK,hb⟩))) hz2 (by rw [hal];omega)) ?_)))))))))))
   rintro _ H4 ⟨Z4,hA4,hF4,hZ4⟩
   obtain ⟨hF5,hZ5⟩:=hcat hF hZ1 hF4 hZ4
   have hsz5:=hF5.size
   refine ⟨trivial,?_⟩
   refine Uf 1 [0,2,3,9,10,29] rfl ?_
   obtain ⟨hI4,_⟩:=hin H4 hF5
   have hal4:(acc++Pl.pre (X.take j) ((K.map (Gt.L h)).take j)++Gt.L h k).length=acc.length+(Pl.pre (X.take j) ((K.map (Gt.L h)).take j)).length+(Gt.L h k).length:=by rw [List.length_append,hal]
   refine Ur 11 672000 rfl (Ul 4 rfl hI4.n.c2 (Ux 1 j rfl (by omega) (by omega) (Us 0 rfl (hI4.n.sl.item hy) rfl (O.bsl (cs:=(EJ.enc y)) rfl rfl rfl ⟨underlying25,sizeOf27,zeroValue27,⟨_,typeInfo27,rfl⟩,rfl,by decide,by decide⟩ rfl (by decide) (by kernel_rfl) ?_))))
   intro H6 M6
   have hs6:=M6.size
   have hA6:=hA4.fr (M6.fr nowhere) (fun _ _ _ _=>nw)
   have hv6:InS EJ H6 (.slice (some ⟨H4.size,0,none⟩) 1 1) [y]:=.inl ⟨_,_,_,rfl,Nat.le_refl _,M6.rd _ [] (by simp [row,EJ])⟩
   refine ⟨trivial,?_⟩
   refine O.appI (E:=EJ) rfl rfl rfl ⟨underlying25,sizeOf27,zeroValue27,⟨_,typeInfo27,rfl⟩,rfl,by decide,by decide⟩ rfl hA6 rfl hv6 (Nat.le_trans (Nat.mul_le_mul_left _ (Nat.le_of_ble_eq_true (n:=_) (m:=4096) rfl)) (by rw [hal4,List.length_singleton];omega)) (by rw [hal4,List.length_singleton];omega) ?_
   intro v7 H7 hA7 hF7 hs7
   have hg7:=hF7.size
   refine ⟨trivial,?_⟩
   refine Uf 1 [0,2,3,9,10,29] rfl (Ut 1 rfl (Ur 3 0 rfl (Ua 1 (((j+1:Nat):Int)) rfl (by omega) (Uf 1 [0,2,3,9,10,29] rfl (Uk [0,2,3,9,10] rfl (Go'.inLoop ?_))))))
   refine ih2 (j+1,v7,fun b=>Z4 b∨(b=H6.size∧b<H7.size)) H7 ⟨hlt2,?_,(hF5.trans' (M6.fr nowhere) (fun _ _ _ h=>h) (fun _ _ _ h=>h.elim)).trans' hF7 (fun _ _ _ h=>h) (fun b o hb hz=>(hZ5 b hz).elim id (fun h=>by omega)),fun b hb=>hb.elim (hZ5 b) (fun h=>.inr (by omega))⟩ (by simp only;omega)
   simp only
   rw [hps,←List.append_assoc,←List.append_assoc]
   exact hA7
  ·
   obtain rfl:j=X.length:=by omega
   have hil:=Pl.inter_eq_pre (Nat.le_refl _) hkL
   rw [List.take_length,show (K.map (Gt.L h)).take (X.length+1)=K.map (Gt.L h) from List.take_of_length_le (by omega)] at hil
   rw [List.take_length] at hA hal hpl
   have hll:=congrArg List.length hil
   rw [List.length_append] at hll
   refine Ur 7 256 rfl (Ul 4 rfl hI2.n.c2 (Uc 1 rfl (lssF (by omega)) (Uf 0 [0,2,3,9,10,29] rfl (Go'.condF rfl (Ut 2 rfl (Ud 20 137456783616 (by kernel_rfl) (Ul 4 rfl hI2.n.c3 (Ul 1 rfl hI2.k.c (Ul 3 rfl hI2.n.c3 (Ul 1 rfl hI2.k.c (Ub 1 (((((((Gt.ps h K).map some)).length)-1:Nat):Int)) rfl (by omega) ?_)))))))))))
   refine Ux 0 (X.length) rfl (by omega) (by omega) (Uq 2 rfl (O.call rfl rfl rfl call177 rfl (ih tc2 (hI2.c.1 k hkK).1 hcel hA (fun b o hb=>hz1 b o (.inr (.inr ⟨k,hkK,hb⟩))) hz2 (by rw [hal];omega)) ?_))
   rintro _ H4 ⟨Z4,hA4,hF4,hZ4⟩
   obtain ⟨hF5,hZ5⟩:=hcat hF hZ1 hF4 hZ4
   have hsz5:=hF5.size
   refine ⟨trivial,?_⟩
   refine Uf 1 [8] rfl (Go'.ret (vs:=[_]) func177 results177 ⟨rfl,trivial⟩ ?_)
   refine ⟨Z4,?_,hF5,hZ5⟩
   rw [hil,←List.append_assoc]
   exact hA4
end Go.Bt.FG
namespace Go.Bt.FG
open Go Go.Proofs Go.Proofs.Try
set_option maxRecDepth 20000
set_option maxHeartbeats 4000000
set_option linter.unusedSectionVars false
variable [Inhabited Cx]
structure MapM (H:Mem) (tr:Nat) (P:Ps) (S:Nat→Prop) (l:List (Int×Int)):Prop where
 tc:TrC H tr P.iso P.mx P.mn
 srt:Pl.Srt OI l
 cnt:cl H tr 3=some (.int .i64 (l.length:Int))
 own:S tr
 lt:∀b,S b→b<H.size
 bs:∀b,S b→b=tr∨cx.base≤b
 rt:(l=[]∧cl H tr 2=some (.pointer none))∨∃h,∃t:Gt EJ h,Gt.Good H P h t∧1≤(Gt.X h t).length∧Gt.L h t=l∧cl H tr 2=some (ptr (Gt.p h t))∧(∀b o,Gt.af h t b o→cx.base≤b)∧∀b o,Gt.af h t b o→S b
theorem MapM.fr {H H':Mem} {Z:Nat→Nat→Prop} {tr:Nat} {P:Ps} {S:Nat→Prop} {l:List (Int×Int)} (h:MapM H tr P S l) (hf:Fr Z H H') (hz:∀b o,S b∨(b<cx.base∧cx.own b)→¬Z b o):MapM H' tr P S l where
 tc:=h.tc.fr hf fun b o hb _=>hz b o (.inr hb)
 srt:=h.srt
 cnt:=hf.keep h.cnt (hz _ _ (.inl h.own))
 own:=h.own
 lt:=fun b hb=>Nat.lt_of_lt_of_le (h.lt b hb) hf.size
 bs:=h.bs
 rt:=h.rt.elim (fun ⟨e,k⟩=>.inl ⟨e,hf.keep k (hz _ _ (.inl h.own))⟩) fun ⟨hh,t,g,x1,e,k,n,s⟩=>.inr ⟨hh,t,g.fr hf fun b o hb=>hz b o (.inl (s b o hb)),x1,e,hf.keep k (hz _ _ (.inl h.own)),n,s⟩
def MapTo (H H':Mem) (tr:Nat) (P:Ps) (S:Nat→Prop) (l':List (Int×Int)):Prop:=∃S',MapM H' tr P S' l'∧Fr (fun b _=>S b) H H'∧∀b,S' b→S b∨H.size≤b
theorem len_spec {B:World} {H:Mem} {tr:Nat} {P:Ps} {S:Nat→Prop} {l:List (Int×Int)} (hM:MapM H tr P S l):
  Fn Try.prog B 134 [.pointer (some ⟨tr,0,none⟩)] H (fun r H'=>r=.int .i64 (l.length:Int)∧H'=H):=by
 refine fn_of func134 rfl ntmps134 ?_
 refine (show Go' _ _ _ _ 7 [(0,_)] [.code _] _ from ?_)
 refine Ut 1 rfl (Ur 1 0 rfl (Uf 1 [0,2] rfl (Ut 1 rfl (Ur 5 64 rfl (Ul 3 rfl hM.cnt (Uf 1 [2] rfl (Go'.ret (vs:=[_]) func134 results134 ⟨rfl,trivial⟩ ?_)))))))
 exact ⟨rfl,rfl⟩
theorem items_spec {B:World} {H:Mem} {tr:Nat} {P:Ps} (hP:PsOk P) {S:Nat→Prop} {l:List (Int×Int)} (hM:MapM H tr P S l) (mt:Bool) (hll:l.length≤4294967296):
  Fn Try.prog B 127 [.pointer (some ⟨tr,0,none⟩),.bool mt] H (fun r H'=>OutS EJ H' r l∧Fr nowhere H H'):=by
 have lt0:=hM.lt
 have hb0:=hM.tc.hb
 refine fn_of func127 rfl ntmps127 ?_
 refine (show Go' _ _ _ _ 27 [(0,_),(1,_)] [.code _] _ from ?_)
 refine Ut 1 rfl (Ur 1 0 rfl (Uf 1 [0,1,4] rfl (Ut 2 rfl (Ur 3 32 rfl (Uq 2 rfl (O.callQ rfl rfl rfl call128 rfl lock_spec trivial (Uf 0 [0,1,4,8] rfl (Go'.condF rfl (Ut 2 rfl (Ur 4 40 rfl (Uq 1 rfl ?_)))))))))))
 refine O.callQ rfl rfl rfl call134 rfl (len_spec hM) trivial (O.mks (j:=0) (c:=l.length) rfl rfl rfl ⟨underlying25,sizeOf27,zeroValue27,⟨_,typeInfo27,rfl⟩,rfl,by decide,by decide⟩ rfl rfl rfl rfl (by omega) (Nat.le_trans (Nat.mul_le_mul_right _ (Nat.le_of_ble_eq_true (n:=_) (m:=4096) rfl)) (by omega)) (by omega) ?_)
 intro H1 M1
 have hs1:=M1.size
 have hA1:AccN EJ (fun b=>b=H.size) H1 (.slice (some ⟨H.size,0,none⟩) 0 l.length) []:=⟨H.size,0,l.length,rfl,rfl,by omega,⟨rfl,Nat.zero_le _,Rd.nil _ _ _,M1.wr _ (by rw [zeroRow_size];exact Nat.le_refl _)⟩⟩
 replace hM:=hM.fr (M1.fr nowhere) (fun _ _ _=>nw)
 refine ⟨trivial,?_⟩
 refine Uf 1 [0,1,4,5] rfl (Ut 2 rfl ?_)
 rcases hM.rt with ⟨rfl,hptr⟩|⟨h,t,hg,hx1,e,hc,hnt,hown⟩
 ·
  refine Ur 5 64 rfl (Ul 3 rfl hptr (O.notNil rfl rfl rfl rfl underlying129 rfl rfl (Uf 0 [0,1,4,5,18] rfl (Go'.condF rfl (Ut 2 rfl (Ur 2 0 rfl (Uf 2 [4] rfl (Go'.ret (vs:=[_]) func127 results127 ⟨rfl,trivial⟩ ?_))))))))
  exact ⟨hA1.acc.out,M1.fr nowhere⟩
 ·
  have hptr:cl H1 tr 2=some (.pointer (some ⟨Gt.p h t,0,none⟩)):=hc
  refine Ur 5 64 rfl (Ul 3 rfl hptr (O.notNil rfl rfl rfl rfl underlying129 rfl rfl (Uf 0 [0,1,4,5,18] rfl (Go'.condT rfl (Ur 8 8192 rfl (Uq 6 rfl (O.call rfl rfl rfl call177 rfl (nitems hP mt h hM.tc hg hc hA1 (fun b o hb hz=>by have:=lt0 b (hown b o hb);omega) (fun b hb=>by omega) (by rw [e];simpa using hll)) ?_)))))))
  rintro _ H3 ⟨Z3,hA3,hF3,_⟩
  rw [List.nil_append,e] at hA3
  refine ⟨trivial,?_⟩
  refine Uf 1 [4,5] rfl (Ut 1 rfl (Ur 2 0 rfl (Uf 2 [4] rfl (Go'.ret (vs:=[_]) func127 results127 ⟨rfl,trivial⟩ ?_))))
  exact ⟨hA3.acc.out,(M1.fr nowhere).trans' hF3 (fun _ _ _ h=>h) (fun b o hb hz=>by omega)⟩
theorem Items_spec {B:World} {H:Mem} {tr:Nat} {P:Ps} (hP:PsOk P) {S:Nat→Prop} {l:List (Int×Int)} (hM:MapM H tr P S l) (hll:l.length≤4294967296):
  Fn Try.prog B 73 [.pointer (some ⟨tr,0,none⟩)] H (fun r H'=>OutS EJ H' r l∧Fr nowhere H H'):=by
 refine fn_of func73 rfl ntmps73 ?_
 refine (show Go' _ _ _ _ 5 [(0,_)] [.code _] _ from ?_)
 refine Ut 1 rfl (Ur 1 0 rfl (Uf 1 [0,2] rfl (Ut 1 rfl (Ur 3 8 rfl (Uq 1 rfl (O.call rfl rfl rfl call127 rfl (items_spec hP hM false hll) ?_))))))
 rintro v2 H2 h2
 refine ⟨trivial,?_⟩
 refine Uf 1 [2] rfl (Go'.ret (vs:=[_]) func73 results73 ⟨rfl,trivial⟩ ?_)
 exact h2
end Go.Bt.FG
namespace Go.Bt.FG
open Go Go.Proofs Go.Proofs.Try
set_option maxRecDepth 20000
set_option maxHeartbeats 4000000
set_option linter.unusedSectionVars false
variable [Inhabited Cx]
structure HintM (H:Mem) (hb:Nat):Prop where
 us:∀i,i<8→∃b,cl H hb i=some (.bool b)
 ps:∀i,i<8→∃n:Nat,n<256∧cl H hb (8+i)=some (.int .u8 (n:Int))
 wr:Wr H hb 0 16
theorem HintM.fr {H H':Mem} {hb:Nat} {Z:Nat→Nat→Prop} (h:HintM H hb) (hf:Fr Z H H') (hz:∀o,¬Z hb o):HintM H' hb where
 us:=fun i hi=>have ⟨b,hb⟩:=h.us i hi;⟨b,hf.keep hb (hz _)⟩
 ps:=fun i hi=>have ⟨n,hn,hb⟩:=h.ps i hi;⟨n,hn,hf.keep hb (hz _)⟩
 wr:=hf.wr h.wr
theorem HintM.setU {H H':Mem} {hb i:Nat} {b:Bool} (h:HintM H hb) (W:Wrote H H' hb i [.bool b]) (hi:i<8):HintM H' hb where
 us:=fun j hj=>by
  by_cases e:j=i
  · subst e;exact ⟨b,W.at⟩
  · obtain ⟨c,hc⟩:=h.us j hj;exact ⟨c,W.keep1 hc (by omega)⟩
 ps:=fun j hj=>by obtain ⟨n,hn,hc⟩:=h.ps j hj;exact ⟨n,hn,W.keep1 hc (by omega)⟩
 wr:=W.fr.wr h.wr
theorem HintM.setP {H H':Mem} {hb i n:Nat} (h:HintM H hb) (W:Wrote H H' hb (8+i) [.int .u8 (n:Int)]) (hi:i<8) (hn:n<256):HintM H' hb where
 us:=fun j hj=>by obtain ⟨c,hc⟩:=h.us j hj;exact ⟨c,W.keep1 hc (by omega)⟩
 ps:=fun j hj=>by
  by_cases e:j=i
  · subst e;exact ⟨n,hn,W.at⟩
  · obtain ⟨m,hm,hc⟩:=h.ps j hj;exact ⟨m,hm,W.keep1 hc (by omega)⟩
 wr:=W.fr.wr h.wr
def HintOk (H:Mem) (v:Value) (hz:Nat→Prop):Prop:=(v=.pointer none∧∀b,¬hz b)∨∃hb,v=.pointer (some ⟨hb,0,none⟩)∧(∀b,hz b↔b=hb)∧hb<H.size∧¬(hb<cx.base∧cx.own hb)∧HintM H hb
theorem HintOk.fr {H H':Mem} {v:Value} {hz:Nat→Prop} {Z:Nat→Nat→Prop} (h:HintOk H v hz) (hf:Fr Z H H') (hd:∀b o,hz b→¬Z b o):HintOk H' v hz:=
 h.imp id fun ⟨hb,h1,h2,h3,h4,h5⟩=>⟨hb,h1,h2,Nat.lt_of_lt_of_le h3 hf.size,h4,h5.fr hf fun o=>hd hb o ((h2 hb).2 rfl)⟩
theorem HintOk.base {H:Mem} {v:Value} {hz:Nat→Prop} (h:HintOk H v hz):∀b,hz b→¬(b<cx.base∧cx.own b)∧b<H.size:=fun b hb=>by
 rcases h with ⟨_,h⟩|⟨h0,_,h2,h3,h4,_⟩
 · exact absurd hb (h b)
 · rw [(h2 b).1 hb];exact ⟨h4,h3⟩
theorem Less_spec {B:World} {H:Mem} {tr id mx mn:Nat} (tc:TrC H tr id mx mn) (x y:Int×Int):
  Fn Try.prog B 77 [.pointer (some ⟨tr,0,none⟩),.agg (EJ.enc x).toArray,.agg (EJ.enc y).toArray] H (fun r H'=>r=.bool (OI.lt x y)∧Fr nowhere H H'):=by
 refine fn_of func77 rfl ntmps77 ?_
 refine (show Go' _ _ _ _ 14 [(0,_),(1,_),(2,_)] [.code _] _ from ?_)
 refine Ut 1 rfl (Ur 3 10 rfl (O.box rfl rfl rfl rfl ?_))
 intro H1 M1
 refine ⟨trivial,?_⟩
 have hf1:=M1.fr nowhere
 replace tc:=tc.fr hf1 (fun _ _ _ _=>nw)
 have mi:Rd H1 H.size 0 (EJ.enc x):=M1.rd _ [] (by simp [Value.cells])
 refine O.box rfl rfl rfl rfl ?_
 intro H2 M2
 refine ⟨trivial,?_⟩
 have hf2:=hf1.trans (M2.fr nowhere)
 replace tc:=tc.fr (M2.fr nowhere) (fun _ _ _ _=>nw)
 replace mi:=(M2.fr nowhere).rd mi (fun _ _=>nw)
 have mj:Rd H2 H1.size 0 (EJ.enc y):=M2.rd _ [] (by simp [Value.cells])
 refine Uf 1 [0,4,5,6] rfl (Ut 1 rfl (Ud 8 9536 (by kernel_rfl) (Ul 3 rfl tc.le (Us 0 rfl mi rfl (Us 0 rfl mj rfl (O.callC rfl rfl rfl rfl call170 rfl (less_spec tc x y) ?_))))))
 rintro _ H3 ⟨rfl,hF3⟩
 refine ⟨trivial,?_⟩
 refine Uf 1 [6] rfl (Go'.ret (vs:=[_]) func77 results77 ⟨rfl,trivial⟩ ?_)
 exact ⟨rfl,hf2.trans hF3⟩
end Go.Bt.FG
namespace Go.Bt.FG
open Go Go.Proofs Go.Proofs.Try
set_option maxRecDepth 20000
set_option maxHeartbeats 4000000
set_option linter.unusedSectionVars false
variable [Inhabited Cx]
theorem hintsearch_spec {B:World} {H:Mem} {tr id mx mn hb dp:Nat} (tc:TrC H tr id mx mn) {g:Ng} {X:List (Int×Int)} {kp:Option Addr} (x:Int×Int) (hn:NodeM EJ H g X (.pointer kp)) (hs:Pl.Srt OI X) (hl:X.length≤255) (h1:1≤X.length)
  (hh:HintM H hb) (hbl:hb<H.size) (hbb:¬(hb<cx.base∧cx.own hb)) (hoff:∀o,¬ncl EJ g hb o) (hdp:dp<4611686018427387904):
  Fn Try.prog B 180 [.pointer (some ⟨tr,0,none⟩),.pointer (some ⟨g.p,0,none⟩),.agg (EJ.enc x).toArray,.pointer (some ⟨hb,0,none⟩),.int .i64 (dp:Int)] H (fun v H'=>v=.tuple #[.int .i64 ((Pl.pos OI x X:Nat):Int),.bool (Pl.fnd OI x X)]∧Fr (fun b _=>b=hb) H H'∧HintM H' hb):=by
 have hple:=Pl.pos_le OI x X
 refine fn_of func180 rfl ntmps180 ?_
 refine (show Go' _ _ _ _ 200 [(0,_),(1,_),(2,_),(3,_),(4,_)] [.code _] _ from ?_)
 refine Ut 1 rfl (Ur 3 2 rfl (O.box rfl rfl rfl rfl ?_))
 intro H1 M1
 refine ⟨trivial,?_⟩
 have hF1:=M1.fr nowhere
 have hs1:=M1.size
 replace tc:=tc.fr hF1 (fun _ _ _ _=>nw)
 replace hn:=NodeM.fr EJ hn hF1 (fun _ _ _=>nw)
 replace hh:=hh.fr hF1 (fun _=>nw)
 have mk:Rd H1 H.size 0 (EJ.enc x):=M1.rd _ [] (by simp [Value.cells])
 refine Uf 2 [0,1,2,3,4,7,10,11] rfl (Ut 1 rfl ?_)
 refine Go'.joinL (l:=0) (σ:=Nat×Bool) rfl (fun s H'=>s=(Pl.pos OI x X,Pl.fnd OI x X)∧Fr nowhere H1 H') (fun s=>[(1,.pointer (some ⟨g.p,0,none⟩)),(3,.pointer (some ⟨hb,0,none⟩)),(4,.int .i64 (dp:Int)),(10,.int .i64 (s.1:Int)),(11,.bool s.2)]) ?_ ?_
 ·
  rintro _ H2 ⟨rfl,hF2⟩
  replace hn:=NodeM.fr EJ hn hF2 (fun _ _ _=>nw)
  replace hh:=hh.fr hF2 (fun _=>nw)
  have hF:=hF1.trans hF2
  have hsz:=hF2.size
  simp only
  refine Ut 2 rfl ?_
  by_cases hd8:dp<8
  rotate_left
  ·
   refine Ur 2 0 rfl (Uc 1 rfl (lssF (by omega)) (Uf 0 [1,3,4,10,11,157] rfl (Go'.condF rfl (Ut 2 rfl (Ur 4 0 rfl (Uf 4 [1,3,4,10,11,157] rfl (Go'.ret (vs:=[_,_]) func180 results180 ⟨rfl,rfl,trivial⟩ ?_)))))))
   exact ⟨rfl,hF.mono (fun _ _ _ h=>h.elim),hh⟩
  ·
   refine Ur 2 0 rfl (Uc 1 rfl (lssT (by omega)) (Uf 0 [1,3,4,10,11,157] rfl (Go'.condT rfl (Ut 1 rfl (Ur 6 2048 rfl (Uq 4 rfl (O.ixr (j:=dp) rfl rfl rfl rfl underlying150 sizeOf4 rfl rfl (by omega) hd8 (O.st rfl rfl sizeOf4 rfl rfl rfl rfl rfl (by rw [Nat.zero_add,Nat.mul_one];exact hh.wr.at0 dp 1 (by omega)) ?_))))))))
   intro H3 W3
   have hs3:=W3.size
   rw [Nat.zero_add,Nat.mul_one] at W3
   replace hh:=hh.setU W3 hd8
   replace hn:=NodeM.fr EJ hn W3.fr (fun b o hb=>nr (.inl (fun e=>hoff o (e▸hb))))
   have hG:Fr (fun b _=>b=hb) H H3:=hF.trans' W3.fr (fun _ _ _ h=>h.elim) (fun b o _ h=>h.1)
   refine ⟨trivial,?_⟩
   refine Uf 0 [1,3,4,10,11,157] rfl (Ut 1 rfl (Ur 1 0 rfl (Uf 1 [1,3,4,10,11,15,157] rfl (Ut 2 rfl ?_))))
   obtain ⟨pn,hpn,hpc⟩:=hh.ps dp hd8
   have hq:∀q:Nat,q<256→q<256:=fun _ h=>h
   rcases kp with _|kq
   ·
    cases hfd:Pl.fnd OI x X
    ·
     refine Ur 5 8 rfl (Uq 1 rfl (O.callQ rfl rfl rfl call133 rfl (leaf_spec hn.c3) trivial (Uf 3 [1,3,4,10,11,15,157,167] rfl (Go'.condF rfl (Ur 3 8 rfl (Uq 1 rfl (O.cvk .u8 (v:=((Pl.pos OI x X:Nat):Int)) rfl rfl rfl (by rw [underlying3];rfl) underlying5 rfl rfl (wrap_id8 (by omega)) trivial (Uf 1 [1,3,4,10,11,15,157,167] rfl (Ut 1 rfl ?_)))))))))
     have hpc2:cl H3 hb (8+dp*1)=some (.int .u8 (pn:Int)):=by rw [Nat.mul_one];exact hpc
     by_cases hqp:Pl.pos OI x X=pn
     ·
      refine Ur 8 4096 rfl (Uq 5 rfl (O.ixr (j:=dp) rfl rfl rfl rfl underlying151 sizeOf5 rfl rfl (by omega) hd8 (Ul 0 rfl hpc2 (Uc 0 rfl (neqF (by omega)) (Uf 0 [1,3,4,10,11,15,157,167,180] rfl (Go'.condF rfl (Ut 2 rfl (Ur 4 0 rfl (Uf 4 [1,3,4,10,11,15,157,167,180] rfl (Go'.ret (vs:=[_,_]) func180 results180 ⟨rfl,rfl,trivial⟩ ?_))))))))))
      exact ⟨rfl,hG,hh⟩
     ·
      refine Ur 8 4096 rfl (Uq 5 rfl (O.ixr (j:=dp) rfl rfl rfl rfl underlying151 sizeOf5 rfl rfl (by omega) hd8 (Ul 0 rfl hpc2 (Uc 0 rfl (neqT (by omega)) (Uf 0 [1,3,4,10,11,15,157,167,180] rfl (Go'.condT rfl (Ut 1 rfl (Ur 7 8192 rfl (Uq 5 rfl (O.ixr (j:=dp) rfl rfl rfl rfl underlying151 sizeOf5 rfl rfl (by omega) hd8 (O.st rfl rfl sizeOf5 rfl rfl rfl rfl rfl (by rw [Nat.mul_one];exact hh.wr.at0 (8+dp) 1 (by omega)) ?_)))))))))))
      intro H4 W4
      have hs4:=W4.size
      rw [Nat.mul_one] at W4
      replace hh:=hh.setP (n:=Pl.pos OI x X) W4 hd8 (by omega)
      replace hG:Fr (fun b _=>b=hb) H H4:=hG.trans' W4.fr (fun _ _ _ h=>h) (fun b o _ h=>h.1)
      refine ⟨trivial,?_⟩
      refine Uf 0 [1,3,4,10,11,15,157,167,180] rfl (Ut 1 rfl (Ur 3 0 rfl (Ua 1 (((dp+1:Nat):Int)) rfl (by omega) (Uf 1 [1,3,4,10,11,15,16,157,167,180] rfl (Ut 1 rfl (Go'.loop (Uk [3,10,11,16] rfl ?_)))))))
      refine Go'.ind (σ:=Nat) (fun j=>8-j) (fun j H'=>j≤8∧Fr (fun b _=>b=hb) H H'∧HintM H' hb)
       (fun j=>[(3,.pointer (some ⟨hb,0,none⟩)),(10,.int .i64 ((Pl.pos OI x X:Nat):Int)),(11,.bool (false)),(16,.int .i64 (j:Int))]) (dp+1) ⟨hd8,hG,hh⟩ rfl ?_
      rintro j H5 ⟨hj8,hG5,hh5⟩ ih
      refine Ut 2 rfl ?_
      by_cases hj:j<8
      ·
       refine Ur 2 0 rfl (Uc 1 rfl (lssT (by omega)) (Uf 0 [3,10,11,16,190] rfl (Go'.condT rfl (Ut 3 rfl (Ur 6 2048 rfl (Uq 4 rfl (O.ixr (j:=j) rfl rfl rfl rfl underlying150 sizeOf4 rfl rfl (by omega) hj (O.st rfl rfl sizeOf4 rfl rfl rfl rfl rfl (by rw [Nat.zero_add,Nat.mul_one];exact hh5.wr.at0 j 1 (by omega)) ?_))))))))
       intro H6 W6
       rw [Nat.zero_add,Nat.mul_one] at W6
       replace hh5:=hh5.setU W6 hj
       replace hG5:Fr (fun b _=>b=hb) H H6:=hG5.trans' W6.fr (fun _ _ _ h=>h) (fun b o _ h=>h.1)
       refine ⟨trivial,?_⟩
       refine Uf 0 [3,10,11,16,190] rfl (Ut 1 rfl (Ur 3 0 rfl (Ua 1 (((j+1:Nat):Int)) rfl (by omega) (Uf 1 [3,10,11,16,190] rfl (Uk [3,10,11,16] rfl (Go'.inLoop ?_))))))
       exact ih (j+1) H6 ⟨hj,hG5,hh5⟩ (by omega)
      ·
       refine Ur 2 0 rfl (Uc 1 rfl (lssF (by omega)) (Uf 0 [3,10,11,16,190] rfl (Go'.condF rfl (Ut 2 rfl (Ur 4 0 rfl (Uf 4 [3,10,11,16,190] rfl (Go'.ret (vs:=[_,_]) func180 results180 ⟨rfl,rfl,trivial⟩ ?_)))))))
       exact ⟨rfl,hG5,hh5⟩
    ·
     have hplt:=Pl.fnd_pos_lt OI hfd
     refine Ur 5 8 rfl (Uq 1 rfl (O.callQ rfl rfl rfl call133 rfl (leaf_spec hn.c3) trivial (Uf 3 [1,3,4,10,11,15,157,167] rfl (Go'.condT rfl (Ur 4 32 rfl (Ua 1 ((((Pl.pos OI x X)+1:Nat):Int)) rfl (by omega) (O.cvk .u8 (v:=((Pl.pos OI x X+1:Nat):Int)) rfl rfl rfl (by rw [underlying3];rfl) underlying5 rfl rfl (wrap_id8 (by omega)) trivial (Uf 1 [1,3,4,10,11,15,157,167] rfl (Ut 1 rfl ?_)))))))))
     have hpc2:cl H3 hb (8+dp*1)=some (.int .u8 (pn:Int)):=by rw [Nat.mul_one];exact hpc
     by_cases hqp:Pl.pos OI x X+1=pn
     ·
      refine Ur 8 4096 rfl (Uq 5 rfl (O.ixr (j:=dp) rfl rfl rfl rfl underlying151 sizeOf5 rfl rfl (by omega) hd8 (Ul 0 rfl hpc2 (Uc 0 rfl (neqF (by omega)) (Uf 0 [1,3,4,10,11,15,157,167,180] rfl (Go'.condF rfl (Ut 2 rfl (Ur 4 0 rfl (Uf 4 [1,3,4,10,11,15,157,167,180] rfl (Go'.ret (vs:=[_,_]) func180 results180 ⟨rfl,rfl,trivial⟩ ?_))))))))))
      exact ⟨rfl,hG,hh⟩
     ·
      refine Ur 8 4096 rfl (Uq 5 rfl (O.ixr (j:=dp) rfl rfl rfl rfl underlying151 sizeOf5 rfl rfl (by omega) hd8 (Ul 0 rfl hpc2 (Uc 0 rfl (neqT (by omega)) (Uf 0 [1,3,4,10,11,15,157,167,180] rfl (Go'.condT rfl (Ut 1 rfl (Ur 7 8192 rfl (Uq 5 rfl (O.ixr (j:=dp) rfl rfl rfl rfl underlying151 sizeOf5 rfl rfl (by omega) hd8 (O.st rfl rfl sizeOf5 rfl rfl rfl rfl rfl (by rw [Nat.mul_one];exact hh.wr.at0 (8+dp) 1 (by omega)) ?_)))))))))))
      intro H4 W4
      have hs4:=W4.size
      rw [Nat.mul_one] at W4
      replace hh:=hh.setP (n:=Pl.pos OI x X+1) W4 hd8 (by omega)
      replace hG:Fr (fun b _=>b=hb) H H4:=hG.trans' W4.fr (fun _ _ _ h=>h) (fun b o _ h=>h.1)
      refine ⟨trivial,?_⟩
      refine Uf 0 [1,3,4,10,11,15,157,167,180] rfl (Ut 1 rfl (Ur 3 0 rfl (Ua 1 (((dp+1:Nat):Int)) rfl (by omega) (Uf 1 [1,3,4,10,11,15,16,157,167,180] rfl (Ut 1 rfl (Go'.loop (Uk [3,10,11,16] rfl ?_)))))))
      refine Go'.ind (σ:=Nat) (fun j=>8-j) (fun j H'=>j≤8∧Fr (fun b _=>b=hb) H H'∧HintM H' hb)
       (fun j=>[(3,.pointer (some ⟨hb,0,none⟩)),(10,.int .i64 ((Pl.pos OI x X:Nat):Int)),(11,.bool (true)),(16,.int .i64 (j:Int))]) (dp+1) ⟨hd8,hG,hh⟩ rfl ?_
      rintro j H5 ⟨hj8,hG5,hh5⟩ ih
      refine Ut 2 rfl ?_
      by_cases hj:j<8
      ·
       refine Ur 2 0 rfl (Uc 1 rfl (lssT (by omega)) (Uf 0 [3,10,11,16,190] rfl (Go'.condT rfl (Ut 3 rfl (Ur 6 2048 rfl (Uq 4 rfl (O.ixr (j:=j) rfl rfl rfl rfl underlying150 sizeOf4 rfl rfl (by omega) hj (O.st rfl rfl sizeOf4 rfl rfl rfl rfl rfl (by rw [Nat.zero_add,Nat.mul_one];exact hh5.wr.at0 j 1 (by omega)) ?_))))))))
       intro H6 W6
       rw [Nat.zero_add,Nat.mul_one] at W6
       replace hh5:=hh5.setU W6 hj
       replace hG5:Fr (fun b _=>b=hb) H H6:=hG5.trans' W6.fr (fun _ _ _ h=>h) (fun b o _ h=>h.1)
       refine ⟨trivial,?_⟩
       refine Uf 0 [3,10,11,16,190] rfl (Ut 1 rfl (Ur 3 0 rfl (Ua 1 (((j+1:Nat):Int)) rfl (by omega) (Uf 1 [3,10,11,16,190] rfl (Uk [3,10,11,16] rfl (Go'.inLoop ?_))))))
       exact ih (j+1) H6 ⟨hj,hG5,hh5⟩ (by omega)
      ·
       refine Ur 2 0 rfl (Uc 1 rfl (lssF (by omega)) (Uf 0 [3,10,11,16,190] rfl (Go'.condF rfl (Ut 2 rfl (Ur 4 0 rfl (Uf 4 [3,10,11,16,190] rfl (Go'.ret (vs:=[_,_]) func180 results180 ⟨rfl,rfl,trivial⟩ ?_)))))))
       exact ⟨rfl,hG5,hh5⟩
   ·
    refine Ur 5 8 rfl (Uq 1 rfl (O.callQ rfl rfl rfl call133 rfl (leaf_spec hn.c3) trivial (Uf 3 [1,3,4,10,11,15,157,167] rfl (Go'.condF rfl (Ur 3 8 rfl (Uq 1 rfl (O.cvk .u8 (v:=((Pl.pos OI x X:Nat):Int)) rfl rfl rfl (by rw [underlying3];rfl) underlying5 rfl rfl (wrap_id8 (by omega)) trivial (Uf 1 [1,3,4,10,11,15,157,167] rfl (Ut 1 rfl ?_)))))))))
    have hpc2:cl H3 hb (8+dp*1)=some (.int .u8 (pn:Int)):=by rw [Nat.mul_one];exact hpc
    by_cases hqp:Pl.pos OI x X=pn
    ·
     refine Ur 8 4096 rfl (Uq 5 rfl (O.ixr (j:=dp) rfl rfl rfl rfl underlying151 sizeOf5 rfl rfl (by omega) hd8 (Ul 0 rfl hpc2 (Uc 0 rfl (neqF (by omega)) (Uf 0 [1,3,4,10,11,15,157,167,180] rfl (Go'.condF rfl (Ut 2 rfl (Ur 4 0 rfl (Uf 4 [1,3,4,10,11,15,157,167,180] rfl (Go'.ret (vs:=[_,_]) func180 results180 ⟨rfl,rfl,trivial⟩ ?_))))))))))
     exact ⟨rfl,hG,hh⟩
    ·
     refine Ur 8 4096 rfl (Uq 5 rfl (O.ixr (j:=dp) rfl rfl rfl rfl underlying151 sizeOf5 rfl rfl (by omega) hd8 (Ul 0 rfl hpc2 (Uc 0 rfl (neqT (by omega)) (Uf 0 [1,3,4,10,11,15,157,167,180] rfl (Go'.condT rfl (Ut 1 rfl (Ur 7 8192 rfl (Uq 5 rfl (O.ixr (j:=dp) rfl rfl rfl rfl underlying151 sizeOf5 rfl rfl (by omega) hd8 (O.st rfl rfl sizeOf5 rfl rfl rfl rfl rfl (by rw [Nat.mul_one];exact hh.wr.at0 (8+dp) 1 (by omega)) ?_)))))))))))
     intro H4 W4
     have hs4:=W4.size
     rw [Nat.mul_one] at W4
     replace hh:=hh.setP (n:=Pl.pos OI x X) W4 hd8 (by omega)
     replace hG:Fr (fun b _=>b=hb) H H4:=hG.trans' W4.fr (fun _ _ _ h=>h) (fun b o _ h=>h.1)
     refine ⟨trivial,?_⟩
     refine Uf 0 [1,3,4,10,11,15,157,167,180] rfl (Ut 1 rfl (Ur 3 0 rfl (Ua 1 (((dp+1:Nat):Int)) rfl (by omega) (Uf 1 [1,3,4,10,11,15,16,157,167,180] rfl (Ut 1 rfl (Go'.loop (Uk [3,10,11,16] rfl ?_)))))))
     refine Go'.ind (σ:=Nat) (fun j=>8-j) (fun j H'=>j≤8∧Fr (fun b _=>b=hb) H H'∧HintM H' hb)
      (fun j=>[(3,.pointer (some ⟨hb,0,none⟩)),(10,.int .i64 ((Pl.pos OI x X:Nat):Int)),(11,.bool (Pl.fnd OI x X)),(16,.int .i64 (j:Int))]) (dp+1) ⟨hd8,hG,hh⟩ rfl ?_
     rintro j H5 ⟨hj8,hG5,hh5⟩ ih
     refine Ut 2 rfl ?_
     by_cases hj:j<8
     ·
      refine Ur 2 0 rfl (Uc 1 rfl (lssT (by omega)) (Uf 0 [3,10,11,16,190] rfl (Go'.condT rfl (Ut 3 rfl (Ur 6 2048 rfl (Uq 4 rfl (O.ixr (j:=j) rfl rfl rfl rfl underlying150 sizeOf4 rfl rfl (by omega) hj (O.st rfl rfl sizeOf4 rfl rfl rfl rfl rfl (by rw [Nat.zero_add,Nat.mul_one];exact hh5.wr.at0 j 1 (by omega)) ?_))))))))
      intro H6 W6
      rw [Nat.zero_add,Nat.mul_one] at W6
      replace hh5:=hh5.setU W6 hj
      replace hG5:Fr (fun b _=>b=hb) H H6:=hG5.trans' W6.fr (fun _ _ _ h=>h) (fun b o _ h=>h.1)
      refine ⟨trivial,?_⟩
      refine Uf 0 [3,10,11,16,190] rfl (Ut 1 rfl (Ur 3 0 rfl (Ua 1 (((j+1:Nat):Int)) rfl (by omega) (Uf 1 [3,10,11,16,190] rfl (Uk [3,10,11,16] rfl (Go'.inLoop ?_))))))
      exact ih (j+1) H6 ⟨hj,hG5,hh5⟩ (by omega)
     ·
      refine Ur 2 0 rfl (Uc 1 rfl (lssF (by omega)) (Uf 0 [3,10,11,16,190] rfl (Go'.condF rfl (Ut 2 rfl (Ur 4 0 rfl (Uf 4 [3,10,11,16,190] rfl (Go'.ret (vs:=[_,_]) func180 results180 ⟨rfl,rfl,trivial⟩ ?_)))))))
      exact ⟨rfl,hG5,hh5⟩
 ·
  intro tail
  refine Ut 1 rfl (Ur 1 0 rfl (Uf 1 [0,1,2,3,4,7,10,11,12] rfl (Ut 1 rfl (Ur 7 64 rfl (Ul 3 rfl hn.c2 (Ub 1 (((X.length:Int)-1)) rfl (by omega) (Uf 1 [0,1,2,3,4,7,10,11,12,13] rfl (Ut 2 rfl ?_))))))))
  have hXi:∀{a b:Nat} {y z:Int×Int},X[a]?=some y→X[b]?=some z→a<b→OI.lt y z=true:=fun {a b y z} ha hb' hab=>by
   have h2:=List.pairwise_iff_getElem.1 hs a b (List.getElem?_eq_some_iff.1 ha).1 (List.getElem?_eq_some_iff.1 hb').1 hab
   rwa [(List.getElem?_eq_some_iff.1 ha).2,(List.getElem?_eq_some_iff.1 hb').2] at h2
  have hge:∀{a:Nat} {y:Int×Int},X[a]?=some y→OI.lt x y=true→∀j z,X[j]?=some z→a≤j→OI.lt x z=true:=fun {a y} ha h j z hz haj=>by
   rcases Nat.lt_or_ge a j with h'|h'
   · exact OI.trans h (hXi ha hz h')
   ·
    obtain rfl:j=a:=by omega
    rw [ha] at hz;cases hz;exact h
  have hle:∀{a:Nat} {y:Int×Int},X[a]?=some y→OI.lt x y=false→∀j z,X[j]?=some z→j<a+1→OI.lt x z=false:=fun {a y} ha h j z hz haj=>by
   rcases Nat.lt_or_ge j a with h'|h'
   · exact OI.ntr h (OI.asy (hXi hz ha h'))
   ·
    obtain rfl:j=a:=by omega
    rw [ha] at hz;cases hz;exact h
  have hat:∀i,i<X.length→∃y,X[i]?=some y:=fun i hi=>⟨X[i],List.getElem?_eq_getElem hi⟩
  have hFs:=Fr.refl nowhere H1
  refine Go'.share2 (σ:=Nat×Nat) (fun s H'=>Fr nowhere H1 H'∧s.1≤s.2∧s.2≤X.length∧(∀j y,X[j]?=some y→j<s.1→OI.lt x y=false)∧(∀j y,X[j]?=some y→s.2≤j→OI.lt x y=true))
   (fun s=>[(0,.pointer (some ⟨tr,0,none⟩)),(1,.pointer (some ⟨g.p,0,none⟩)),(3,.pointer (some ⟨hb,0,none⟩)),(4,.int .i64 (dp:Int)),(7,.pointer (some ⟨H.size,0,none⟩)),(12,.int .i64 (s.1:Int)),(13,.int .i64 ((s.2:Int)-1))]) ?_ ?_
  ·
   rintro ⟨lo,hi⟩ H2 ⟨hF2,hlh,hhl,hlo,hhi⟩
   simp only at hlh hhl hlo hhi ⊢
   refine Ut 2 rfl (Go'.loop (Uk [0,1,3,4,7,12,13] rfl ?_))
   refine Go'.ind (σ:=Nat×Nat) (fun s=>s.2-s.1) (fun s H'=>Fr nowhere H1 H'∧s.1≤s.2∧s.2≤X.length∧(∀j y,X[j]?=some y→j<s.1→OI.lt x y=false)∧(∀j y,X[j]?=some y→s.2≤j→OI.lt x y=true))
    (fun s=>[(0,.pointer (some ⟨tr,0,none⟩)),(1,.pointer (some ⟨g.p,0,none⟩)),(3,.pointer (some ⟨hb,0,none⟩)),(4,.int .i64 (dp:Int)),(7,.pointer (some ⟨H.size,0,none⟩)),(12,.int .i64 (s.1:Int)),(13,.int .i64 ((s.2:Int)-1))]) (lo,hi) ⟨hF2,hlh,hhl,hlo,hhi⟩ rfl ?_
   clear hF2 hlh hhl hlo hhi lo hi H2
   rintro ⟨lo,hi⟩ H2 ⟨hF2,hlh,hhl,hlo,hhi⟩ ih
   simp only at hlh hhl hlo hhi
   replace tc:=tc.fr hF2 (fun _ _ _ _=>nw)
   replace hn:=NodeM.fr EJ hn hF2 (fun _ _ _=>nw)
   replace hh:=hh.fr hF2 (fun _=>nw)
   replace mk:=hF2.rd mk (fun _ _=>nw)
   refine Ut 2 rfl ?_
   by_cases hlt:lo<hi
   ·
    obtain ⟨m,hm⟩:∃m,m=lo+(hi-lo) / 2:=⟨_,rfl⟩
    obtain ⟨y,hy⟩:=hat m (by omega)
    refine Ur 3 0 rfl (Uc 2 rfl (leqT (by omega)) (Uf 0 [0,1,3,4,7,12,13,114] rfl (Go'.condT rfl (Ut 3 rfl (Ur 8 0 rfl (Ua 2 (((hi:Nat):Int)) rfl (by omega) (Ub 1 (((hi-lo:Nat):Int)) rfl (by omega) (O.quo ((((hi-lo) / 2:Nat):Int)) rfl rfl rfl rfl rfl rfl (by decide) (by rw [Int.tdiv_eq_ediv_of_nonneg (by omega)];omega) (by omega) (Ua 0 (((m:Nat):Int)) rfl (by omega) (Uf 1 [0,1,3,4,7,12,13,14,114] rfl (Ut 1 rfl ?_)))))))))))
    refine Ud 11 590852 (by kernel_rfl) (Us 1 rfl mk rfl (Ul 3 rfl hn.c2 (Ux 1 m rfl (by omega) (by omega) (Us 0 rfl (hn.sl.item hy) rfl (O.call rfl rfl rfl call77 rfl (Less_spec tc x y) ?_)))))
    rintro _ H3 ⟨rfl,hF3⟩
    replace tc:=tc.fr hF3 (fun _ _ _ _=>nw)
    replace hn:=NodeM.fr EJ hn hF3 (fun _ _ _=>nw)
    replace hh:=hh.fr hF3 (fun _=>nw)
    replace mk:=hF3.rd mk (fun _ _=>nw)
    replace hF2:=hF2.trans hF3
    refine ⟨trivial,?_⟩
    refine Uf 1 [0,1,3,4,7,12,13,14,114,132] rfl ?_
    cases hky:OI.lt x y
    ·
     refine Go'.condT rfl (Ur 3 0 rfl (Ua 1 (((m+1:Nat):Int)) rfl (by omega) (Uf 1 [0,1,3,4,7,12,13,14,114,132] rfl (Ut 1 rfl (Uk [0,1,3,4,7,12,13] rfl (Go'.inLoop ?_))))))
     exact ih (m+1,hi) H3 ⟨hF2,by simp only;omega,hhl,hle hy hky,hhi⟩ (by simp only;omega)
    ·
     refine Go'.condF rfl (Ur 3 0 rfl (Ub 1 (((m:Int)-1)) rfl (by omega) (Uf 1 [0,1,3,4,7,12,13,14,114,132] rfl (Ut 1 rfl (Uk [0,1,3,4,7,12,13] rfl (Go'.inLoop ?_))))))
     exact ih (lo,m) H3 ⟨hF2,by simp only;omega,by simp only;omega,hlo,hge hy hky⟩ (by simp only;omega)
   ·
    obtain rfl:hi=lo:=by omega
    refine Ur 3 0 rfl (Uc 2 rfl (leqF (by omega)) (Uf 0 [0,1,3,4,7,12,13,114] rfl (Go'.condF rfl (Ut 3 rfl ?_))))
    by_cases h0:0<hi
    ·
     obtain ⟨y,hy⟩:=hat (hi-1) (by omega)
     have hyk:=hlo (hi-1) y hy (by omega)
     refine Ud 16 155205632 (by kernel_rfl) (Uc 1 rfl (gtrT (by omega)) (Ul 5 rfl hn.c2 (Ub 1 (((hi-1:Nat):Int)) rfl (by omega) (Ux 0 (hi-1) rfl (by omega) (by omega) (Us 0 rfl (hn.sl.item hy) rfl (Us 0 rfl mk rfl (O.call rfl rfl rfl call77 rfl (Less_spec tc y x) ?_)))))))
     rintro _ H3 ⟨rfl,hF3⟩
     replace tc:=tc.fr hF3 (fun _ _ _ _=>nw)
     replace hn:=NodeM.fr EJ hn hF3 (fun _ _ _=>nw)
     replace hh:=hh.fr hF3 (fun _=>nw)
     replace mk:=hF3.rd mk (fun _ _=>nw)
     replace hF2:=hF2.trans hF3
     refine ⟨trivial,?_⟩
     refine Uf 2 [0,1,3,4,7,12,13,114,152] rfl ?_
     cases hky:OI.lt y x
     ·
      refine Go'.condT rfl (Ut 1 rfl (Ur 3 0 rfl (Ub 1 (((hi-1:Nat):Int)) rfl (by omega) (Uf 1 [0,1,3,4,7,10,12,13,114,152] rfl (Ur 1 0 rfl (Uf 1 [0,1,3,4,7,10,11,12,13,114,152] rfl (Ut 2 rfl (Uk [1,3,4,10,11] rfl ?_))))))))
      obtain ⟨e1,e2⟩:=Pl.search_found OI (x:=x) hs hy hky hyk
      exact tail (hi-1,true) H3 ⟨by rw [e1,e2],hF2⟩
     ·
      refine Go'.condF rfl (Ut 1 rfl (Ur 2 0 rfl (Uf 2 [0,1,3,4,7,10,12,13,114,152] rfl (Ur 1 0 rfl (Uf 1 [0,1,3,4,7,10,11,12,13,114,152] rfl (Ut 2 rfl (Uk [1,3,4,10,11] rfl ?_)))))))
      obtain ⟨e1,e2⟩:=Pl.search_none OI (x:=x) hs hhl (fun z _ hz=>by rw [hy] at hz;cases hz;exact hky) (fun z hz=>hhi hi z hz (Nat.le_refl _))
      exact tail (hi,false) H3 ⟨by rw [e1,e2],hF2⟩
    ·
     obtain rfl:hi=0:=by omega
     refine Ud 16 155205632 (by kernel_rfl) (Uc 1 rfl (gtrF (by omega)) (Uq 11 rfl (Pl.pass2 rfl rfl rfl rfl trivial (Uf 2 [0,1,3,4,7,12,13,114,152] rfl (Go'.condF rfl (Ut 1 rfl (Ur 2 0 rfl (Uf 2 [0,1,3,4,7,10,12,13,114,152] rfl (Ur 1 0 rfl (Uf 1 [0,1,3,4,7,10,11,12,13,114,152] rfl (Ut 2 rfl ?_)))))))))))
     refine Uk [1,3,4,10,11] rfl ?_
     obtain ⟨e1,e2⟩:=Pl.search_none OI (x:=x) hs hhl (fun z h _=>absurd rfl h) (fun z hz=>hhi 0 z hz (Nat.le_refl _))
     exact tail (0,false) H2 ⟨by rw [e1,e2],hF2⟩
  ·
   intro bs
   by_cases hd8:dp<8
   rotate_left
   ·
    refine Ur 10 65536 rfl (Uc 1 rfl (lssF (by omega)) (Uf 8 [0,1,2,3,4,7,10,11,12,13,32] rfl (Go'.condF rfl (Ut 1 rfl (Uk [0,1,3,4,7,12,13] rfl ?_)))))
    exact bs (0,X.length) H1 ⟨hFs,Nat.zero_le _,Nat.le_refl _,fun j y _ h=>by simp at h,fun j y h1 h2=>by
      have:=(List.getElem?_eq_some_iff.1 h1).1;simp only at h2;omega⟩
   ·
    obtain ⟨ub,hub⟩:=hh.us dp hd8
    obtain ⟨pn,hpn,hpc⟩:=hh.ps dp hd8
    refine Ur 10 65536 rfl (Uc 1 rfl (lssT (by omega)) (Uq 5 rfl (O.ixr (j:=dp) rfl rfl rfl rfl underlying150 sizeOf4 rfl rfl (by omega) hd8 (Ul 0 rfl (show cl _ hb (0+dp*1)=_ by rw [Nat.zero_add,Nat.mul_one];exact hub) (Uf 1 [0,1,2,3,4,7,10,11,12,13,32] rfl ?_)))))
    cases ub
    ·
     refine Go'.condF rfl (Ut 1 rfl (Uk [0,1,3,4,7,12,13] rfl ?_))
     exact bs (0,X.length) H1 ⟨hFs,Nat.zero_le _,Nat.le_refl _,fun j y _ h=>by simp at h,fun j y h1 h2=>by
       have:=(List.getElem?_eq_some_iff.1 h1).1;simp only at h2;omega⟩
    ·
     refine Go'.condT rfl (Ut 1 rfl (Ur 8 9216 rfl (Uq 4 rfl (O.ixr (j:=dp) rfl rfl rfl rfl underlying151 sizeOf5 rfl rfl (by omega) hd8 (Ul 0 rfl (show cl _ hb (8+dp*1)=_ by rw [Nat.mul_one];exact hpc) (O.cvi (v:=((pn:Nat):Int)) rfl rfl rfl (by rw [underlying5];rfl) underlying3 rfl rfl (wrap_id (by omega)) trivial (Uf 1 [0,1,2,3,4,7,10,11,12,13,32] rfl (Ut 2 rfl ?_))))))))
     by_cases hge2:X.length≤pn
     ·
      refine Ur 7 256 rfl (Ul 4 rfl hn.c2 (Uc 1 rfl (geqT (by omega)) (Uf 0 [0,1,2,3,4,7,10,11,12,13,32,46] rfl (Go'.condT rfl (Ut 2 rfl ?_)))))
      obtain ⟨u,hu⟩:=hat (X.length-1) (by omega)
      refine Ud 15 620822784 (by kernel_rfl) (Ul 4 rfl hn.c2 (Ul 3 rfl hn.c2 (Ub 1 (((X.length-1:Nat):Int)) rfl (by omega) (Ux 0 (X.length-1) rfl (by omega) (by omega) (Us 0 rfl (hn.sl.item hu) rfl (Us 0 rfl mk rfl (O.call rfl rfl rfl call77 rfl (Less_spec tc u x) ?_)))))))
      rintro _ H2 ⟨rfl,hF2⟩
      replace tc:=tc.fr hF2 (fun _ _ _ _=>nw)
      replace hn:=NodeM.fr EJ hn hF2 (fun _ _ _=>nw)
      replace hh:=hh.fr hF2 (fun _=>nw)
      replace mk:=hF2.rd mk (fun _ _=>nw)
      replace hFs:=hFs.trans hF2
      refine ⟨trivial,?_⟩
      refine Uf 0 [0,1,2,3,4,7,10,11,12,13,32,46,61] rfl ?_
      cases hux:OI.lt u x
      rotate_left
      ·
       refine Go'.condT rfl (Ut 1 rfl (Ur 6 64 rfl (Ul 3 rfl hn.c2 (Uf 2 [0,1,2,3,4,7,10,11,12,13,32,46,61] rfl (Ut 3 rfl ?_)))))
       obtain ⟨e1,e2⟩:=Pl.search_none OI (x:=x) (i:=X.length) hs (Nat.le_refl _) (fun z _ hz=>by rw [hu] at hz;cases hz;exact hux) (fun z hz=>by have:=(List.getElem?_eq_some_iff.1 hz).1;omega)
       refine Uk [1,3,4,10,11] rfl ?_
       exact tail (X.length,false) H2 ⟨by rw [e1,e2],hFs⟩
      ·
       obtain ⟨ix,hix⟩:∃ix,ix=X.length-1:=⟨_,rfl⟩
       refine Go'.condF rfl (Ut 1 rfl (Ur 7 64 rfl (Ul 3 rfl hn.c2 (Ub 1 (((ix:Nat):Int)) rfl (by omega) (Uf 1 [0,1,2,3,4,7,10,11,12,13,32,46,61] rfl (Ut 1 rfl ?_))))))
       obtain ⟨y,hy⟩:=hat ix (by omega)
       refine Ud 10 590852 (by kernel_rfl) (Us 1 rfl mk rfl (Ul 3 rfl hn.c2 (Ux 1 ix rfl (by omega) (by omega) (Us 0 rfl (hn.sl.item hy) rfl (O.call rfl rfl rfl call77 rfl (Less_spec tc x y) ?_)))))
       rintro _ H3 ⟨rfl,hF3⟩
       replace tc:=tc.fr hF3 (fun _ _ _ _=>nw)
       replace hn:=NodeM.fr EJ hn hF3 (fun _ _ _=>nw)
       replace hh:=hh.fr hF3 (fun _=>nw)
       replace mk:=hF3.rd mk (fun _ _=>nw)
       replace hFs:=hFs.trans hF3
       refine ⟨trivial,?_⟩
       refine Uf 0 [0,1,2,3,4,7,10,11,12,13,32,46,61,82] rfl ?_
       cases hxy:OI.lt x y
       rotate_left
       ·
        refine Go'.condT rfl (Ut 2 rfl ?_)
        by_cases h0:ix=0
        ·
         refine Ud 15 155205632 (by kernel_rfl) (Uc 1 rfl (eqlT (by omega)) (Uq 11 rfl (Pl.pass2 rfl rfl rfl rfl trivial (Uf 1 [0,1,2,3,4,7,10,11,12,13,32,46,61,82,97] rfl (Go'.condT rfl (Ut 3 rfl ?_))))))
         obtain ⟨e1,e2⟩:=Pl.search_none OI (x:=x) (i:=ix) hs (by omega) (fun z h _=>absurd h0 h) (fun z hz=>by rw [hy] at hz;cases hz;exact hxy)
         refine Uk [1,3,4,10,11] rfl ?_
         exact tail (ix,false) H3 ⟨by rw [e1,e2],hFs⟩
        ·
         obtain ⟨z,hz⟩:=hat (ix-1) (by omega)
         refine Ud 15 155205632 (by kernel_rfl) (Uc 1 rfl (eqlF (by omega)) (Ul 5 rfl hn.c2 (Ub 1 (((ix-1:Nat):Int)) rfl (by omega) (Ux 0 (ix-1) rfl (by omega) (by omega) (Us 0 rfl (hn.sl.item hz) rfl (Us 0 rfl mk rfl (O.call rfl rfl rfl call77 rfl (Less_spec tc z x) ?_)))))))
         rintro _ H4 ⟨rfl,hF4⟩
         replace tc:=tc.fr hF4 (fun _ _ _ _=>nw)
         replace hn:=NodeM.fr EJ hn hF4 (fun _ _ _=>nw)
         replace hh:=hh.fr hF4 (fun _=>nw)
         replace mk:=hF4.rd mk (fun _ _=>nw)
         replace hFs:=hFs.trans hF4
         refine ⟨trivial,?_⟩
         refine Uf 1 [0,1,2,3,4,7,10,11,12,13,32,46,61,82,97] rfl ?_
         cases hzx:OI.lt z x
         rotate_left
         ·
          refine Go'.condT rfl (Ut 3 rfl ?_)
          obtain ⟨e1,e2⟩:=Pl.search_none OI (x:=x) (i:=ix) hs (by omega) (fun u _ hu=>by rw [hz] at hu;cases hu;exact hzx) (fun u hu=>by rw [hy] at hu;cases hu;exact hxy)
          refine Uk [1,3,4,10,11] rfl ?_
          exact tail (ix,false) H4 ⟨by rw [e1,e2],hFs⟩
         ·
          refine Go'.condF rfl (Ut 1 rfl (Ur 3 0 rfl (Ub 1 (((ix:Int)-1)) rfl (by omega) (Uf 1 [0,1,2,3,4,7,10,11,12,13,32,46,61,82,97] rfl (Uk [0,1,3,4,7,12,13] rfl ?_)))))
          exact bs (0,ix) H4 ⟨hFs,Nat.zero_le _,by simp only;omega,fun j y _ h=>by simp at h,hge hy hxy⟩
       ·
        refine Go'.condF rfl (Ut 1 rfl (Ud 10 606464 (by kernel_rfl) (Ul 4 rfl hn.c2 (Ux 1 ix rfl (by omega) (by omega) (Us 0 rfl (hn.sl.item hy) rfl (Us 0 rfl mk rfl (O.call rfl rfl rfl call77 rfl (Less_spec tc y x) ?_)))))))
        rintro _ H4 ⟨rfl,hF4⟩
        replace tc:=tc.fr hF4 (fun _ _ _ _=>nw)
        replace hn:=NodeM.fr EJ hn hF4 (fun _ _ _=>nw)
        replace hh:=hh.fr hF4 (fun _=>nw)
        replace mk:=hF4.rd mk (fun _ _=>nw)
        replace hFs:=hFs.trans hF4
        refine ⟨trivial,?_⟩
        refine Uf 0 [0,1,2,3,4,7,10,11,12,13,32,46,61,82,109] rfl ?_
        cases hyx:OI.lt y x
        ·
         refine Go'.condF rfl (Ut 1 rfl (Ur 1 0 rfl (Uf 1 [0,1,2,3,4,7,10,11,12,13,32,46,61,82,109] rfl (Ut 3 rfl ?_))))
         obtain ⟨e1,e2⟩:=Pl.search_found OI (x:=x) hs hy hyx hxy
         refine Uk [1,3,4,10,11] rfl ?_
         exact tail (ix,true) H4 ⟨by rw [e1,e2],hFs⟩
        ·
         refine Go'.condT rfl (Ur 3 0 rfl (Ua 1 (((ix+1:Nat):Int)) rfl (by omega) (Uf 1 [0,1,2,3,4,7,10,11,12,13,32,46,61,82,109] rfl (Uk [0,1,3,4,7,12,13] rfl ?_))))
         exact bs (ix+1,X.length) H4 ⟨hFs,by simp only;omega,Nat.le_refl _,hle hy hxy,fun j y h1 h2=>by
           have:=(List.getElem?_eq_some_iff.1 h1).1;simp only at h2;omega⟩
     ·
      obtain ⟨ix,hix⟩:∃ix,ix=pn:=⟨_,rfl⟩
      subst hix
      refine Ur 7 256 rfl (Ul 4 rfl hn.c2 (Uc 1 rfl (geqF (by omega)) (Uf 0 [0,1,2,3,4,7,10,11,12,13,32,46] rfl (Go'.condF rfl (Ut 2 rfl ?_)))))
      obtain ⟨y,hy⟩:=hat ix (by omega)
      refine Ud 10 590852 (by kernel_rfl) (Us 1 rfl mk rfl (Ul 3 rfl hn.c2 (Ux 1 ix rfl (by omega) (by omega) (Us 0 rfl (hn.sl.item hy) rfl (O.call rfl rfl rfl call77 rfl (Less_spec tc x y) ?_)))))
      rintro _ H2 ⟨rfl,hF2⟩
      replace tc:=tc.fr hF2 (fun _ _ _ _=>nw)
      replace hn:=NodeM.fr EJ hn hF2 (fun _ _ _=>nw)
      replace hh:=hh.fr hF2 (fun _=>nw)
      replace mk:=hF2.rd mk (fun _ _=>nw)
      replace hFs:=hFs.trans hF2
      refine ⟨trivial,?_⟩
      refine Uf 0 [0,1,2,3,4,7,10,11,12,13,32,46,82] rfl ?_
      cases hxy:OI.lt x y
      rotate_left
      ·
       refine Go'.condT rfl (Ut 2 rfl ?_)
       by_cases h0:ix=0
       ·
        refine Ud 15 155205632 (by kernel_rfl) (Uc 1 rfl (eqlT (by omega)) (Uq 11 rfl (Pl.pass2 rfl rfl rfl rfl trivial (Uf 1 [0,1,2,3,4,7,10,11,12,13,32,46,82,97] rfl (Go'.condT rfl (Ut 3 rfl ?_))))))
        obtain ⟨e1,e2⟩:=Pl.search_none OI (x:=x) (i:=ix) hs (by omega) (fun z h _=>absurd h0 h) (fun z hz=>by rw [hy] at hz;cases hz;exact hxy)
        refine Uk [1,3,4,10,11] rfl ?_
        exact tail (ix,false) H2 ⟨by rw [e1,e2],hFs⟩
       ·
        obtain ⟨z,hz⟩:=hat (ix-1) (by omega)
        refine Ud 15 155205632 (by kernel_rfl) (Uc 1 rfl (eqlF (by omega)) (Ul 5 rfl hn.c2 (Ub 1 (((ix-1:Nat):Int)) rfl (by omega) (Ux 0 (ix-1) rfl (by omega) (by omega) (Us 0 rfl (hn.sl.item hz) rfl (Us 0 rfl mk rfl (O.call rfl rfl rfl call77 rfl (Less_spec tc z x) ?_)))))))
        rintro _ H3 ⟨rfl,hF3⟩
        replace tc:=tc.fr hF3 (fun _ _ _ _=>nw)
        replace hn:=NodeM.fr EJ hn hF3 (fun _ _ _=>nw)
        replace hh:=hh.fr hF3 (fun _=>nw)
        replace mk:=hF3.rd mk (fun _ _=>nw)
        replace hFs:=hFs.trans hF3
        refine ⟨trivial,?_⟩
        refine Uf 1 [0,1,2,3,4,7,10,11,12,13,32,46,82,97] rfl ?_
        cases hzx:OI.lt z x
        rotate_left
        ·
         refine Go'.condT rfl (Ut 3 rfl ?_)
         obtain ⟨e1,e2⟩:=Pl.search_none OI (x:=x) (i:=ix) hs (by omega) (fun u _ hu=>by rw [hz] at hu;cases hu;exact hzx) (fun u hu=>by rw [hy] at hu;cases hu;exact hxy)
         refine Uk [1,3,4,10,11] rfl ?_
         exact tail (ix,false) H3 ⟨by rw [e1,e2],hFs⟩
        ·
         refine Go'.condF rfl (Ut 1 rfl (Ur 3 0 rfl (Ub 1 (((ix:Int)-1)) rfl (by omega) (Uf 1 [0,1,2,3,4,7,10,11,12,13,32,46,82,97] rfl (Uk [0,1,3,4,7,12,13] rfl ?_)))))
         exact bs (0,ix) H3 ⟨hFs,Nat.zero_le _,by simp only;omega,fun j y _ h=>by simp at h,hge hy hxy⟩
      ·
       refine Go'.condF rfl (Ut 1 rfl (Ud 10 606464 (by kernel_rfl) (Ul 4 rfl hn.c2 (Ux 1 ix rfl (by omega) (by omega) (Us 0 rfl (hn.sl.item hy) rfl (Us 0 rfl mk rfl (O.call rfl rfl rfl call77 rfl (Less_spec tc y x) ?_)))))))
       rintro _ H3 ⟨rfl,hF3⟩
       replace tc:=tc.fr hF3 (fun _ _ _ _=>nw)
       replace hn:=NodeM.fr EJ hn hF3 (fun _ _ _=>nw)
       replace hh:=hh.fr hF3 (fun _=>nw)
       replace mk:=hF3.rd mk (fun _ _=>nw)
       replace hFs:=hFs.trans hF3
       refine ⟨trivial,?_⟩
       refine Uf 0 [0,1,2,3,4,7,10,11,12,13,32,46,82,109] rfl ?_
       cases hyx:OI.lt y x
       ·
        refine Go'.condF rfl (Ut 1 rfl (Ur 1 0 rfl (Uf 1 [0,1,2,3,4,7,10,11,12,13,32,46,82,109] rfl (Ut 3 rfl ?_))))
        obtain ⟨e1,e2⟩:=Pl.search_found OI (x:=x) hs hy hyx hxy
        refine Uk [1,3,4,10,11] rfl ?_
        exact tail (ix,true) H3 ⟨by rw [e1,e2],hFs⟩
       ·
        refine Go'.condT rfl (Ur 3 0 rfl (Ua 1 (((ix+1:Nat):Int)) rfl (by omega) (Uf 1 [0,1,2,3,4,7,10,11,12,13,32,46,82,109] rfl (Uk [0,1,3,4,7,12,13] rfl ?_))))
        exact bs (ix+1,X.length) H3 ⟨hFs,by simp only;omega,Nat.le_refl _,hle hy hxy,fun j y h1 h2=>by
          have:=(List.getElem?_eq_some_iff.1 h1).1;simp only at h2;omega⟩
theorem find_spec {B:World} {H:Mem} {tr id mx mn dp:Nat} (tc:TrC H tr id mx mn) {g:Ng} {X:List (Int×Int)} {kp:Option Addr} (x:Int×Int) (hn:NodeM EJ H g X (.pointer kp)) (hs:Pl.Srt OI X) (hl:X.length≤255) (h1:1≤X.length)
  {hv:Value} {hz:Nat→Prop} (hh:HintOk H hv hz) (hoff:∀b o,hz b→¬ncl EJ g b o) (hdp:dp<4611686018427387904):
  Fn Try.prog B 131 [.pointer (some ⟨tr,0,none⟩),.pointer (some ⟨g.p,0,none⟩),.agg (EJ.enc x).toArray,hv,.int .i64 (dp:Int)] H (fun v H'=>v=.tuple #[.int .i64 ((Pl.pos OI x X:Nat):Int),.bool (Pl.fnd OI x X)]∧Fr (fun b _=>hz b) H H'∧HintOk H' hv hz):=by
 rcases hh with ⟨rfl,hz0⟩|⟨hb,rfl,hzb,hbl,hbb,hm⟩
 ·
  refine fn_of func131 rfl ntmps131 ?_
  refine (show Go' _ _ _ _ 28 [(0,_),(1,_),(2,_),(3,_),(4,_)] [.code _] _ from ?_)
  refine Ut 1 rfl (Ur 3 2 rfl (O.box rfl rfl rfl rfl ?_))
  intro H1 M1
  refine ⟨trivial,?_⟩
  have hF1:=M1.fr nowhere
  have hs1:=M1.size
  replace tc:=tc.fr hF1 (fun _ _ _ _=>nw)
  replace hn:=NodeM.fr EJ hn hF1 (fun _ _ _=>nw)
  have mk:Rd H1 H.size 0 (EJ.enc x):=M1.rd _ [] (by simp [Value.cells])
  refine Uf 2 [0,1,3,4,7,10,11] rfl (Ut 2 rfl (Ur 2 0 rfl (Uq 1 rfl (O.isNil rfl rfl rfl rfl underlying165 rfl rfl (Uf 0 [0,1,3,4,7,10,11,13] rfl (Go'.condT rfl (Ut 1 rfl (Ur 8 144 rfl (Us 2 rfl mk rfl (O.call rfl rfl rfl call179 rfl (bsearch_spec tc x hn hs hl) ?_))))))))))
  rintro _ H2 ⟨rfl,hF2⟩
  refine ⟨trivial,?_⟩
  refine Uf 4 [0,1,3,4,7,10,11] rfl (Go'.ret (vs:=[_,_]) func131 results131 ⟨rfl,rfl,trivial⟩ ?_)
  exact ⟨rfl,(hF1.trans hF2).mono (fun _ _ _ h=>h.elim),.inl ⟨rfl,hz0⟩⟩
 ·
  refine fn_of func131 rfl ntmps131 ?_
  refine (show Go' _ _ _ _ 28 [(0,_),(1,_),(2,_),(3,_),(4,_)] [.code _] _ from ?_)
  refine Ut 1 rfl (Ur 3 2 rfl (O.box rfl rfl rfl rfl ?_))
  intro H1 M1
  refine ⟨trivial,?_⟩
  have hF1:=M1.fr nowhere
  have hs1:=M1.size
  replace tc:=tc.fr hF1 (fun _ _ _ _=>nw)
  replace hn:=NodeM.fr EJ hn hF1 (fun _ _ _=>nw)
  have mk:Rd H1 H.size 0 (EJ.enc x):=M1.rd _ [] (by simp [Value.cells])
  refine Uf 2 [0,1,3,4,7,10,11] rfl (Ut 2 rfl ?_)
  replace hm:=hm.fr hF1 (fun _=>nw)
  refine Ur 2 0 rfl (Uq 1 rfl (O.isNil rfl rfl rfl rfl underlying165 rfl rfl (Uf 0 [0,1,3,4,7,10,11,13] rfl (Go'.condF rfl (Ut 2 rfl (Ur 10 2064 rfl (Us 2 rfl mk rfl (Uq 2 rfl (O.call rfl rfl rfl call180 rfl (hintsearch_spec tc x hn hs hl h1 hm (by omega) hbb (fun o=>hoff hb o ((hzb hb).2 rfl)) hdp) ?_)))))))))
  rintro _ H2 ⟨rfl,hF2,hm2⟩
  refine ⟨trivial,?_⟩
  refine Uf 4 [10,11] rfl (Go'.ret (vs:=[_,_]) func131 results131 ⟨rfl,rfl,trivial⟩ ?_)
  exact ⟨rfl,hF1.trans' hF2 (fun _ _ _ h=>h.elim) (fun b _ _ h=>(hzb b).2 h),.inr ⟨hb,rfl,hzb,Nat.lt_of_lt_of_le (by omega) hF2.size,hbb,hm2⟩⟩
end Go.Bt.FG
