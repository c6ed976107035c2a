/- Contracts of functions of the program, proved by walking through their code. Conditions: those that each theorem names. -/
import Derived.Test.YtmcnochofpgfbaaTogP
import Derived.Test.YtmcnochofpgfbaaToPe
import Derived.Test.YtmcnochofpgfbaaTogG
import Derived.Test.YtmcnochofpgfbaaTogI
import Derived.Test.YtmcnochofpgfbaaToRb
import Derived.Test.YtmcnochofpgfbaaToLgT
set_option linter.unusedVariables false
namespace Go.Bt.FG
open Go Go.Proofs Go.Proofs.Try
set_option maxRecDepth 20000
set_option maxHeartbeats 4000000
set_option linter.unusedSectionVars false
variable [Inhabited Cx]
structure DPre (H:Mem) (tr:Nat) (P:Ps) (h:Nat) (t:Gt EJ h) (bp op:Nat):Prop where
 tc:TrC H tr P.iso P.mx P.mn
 g:Gt.Good H P h t
 c:cl H bp op=some (ptr (Gt.p h t))
 nt:∀b o,Gt.af h t b o→¬(b<cx.base)
 srt:Pl.Srt OI (Gt.L h t)
 len:(Gt.L h t).length<4611686018427387904
 x1:1≤(Gt.X h t).length
def DelQ (H:Mem) (P:Ps) (h:Nat) (t:Gt EJ h) (mx:Bool) (x:Int×Int) (v:Value) (H':Mem):Prop:=
 match Pl.dlr OI mx x (Gt.L h t) with
 | some (y,L')=>∃t',v=.tuple #[.agg (EJ.enc y).toArray,.bool true]∧DelT H H' P h t t' L' (SegD OI mx x h t t')
 | none=>v=.tuple #[.agg (EJ.enc ((0:Int),(0:Int))).toArray,.bool false]∧Fr nowhere H H'
theorem rebal_at {B:World} {H:Mem} {tr:Nat} {P:Ps} (hP:PsOk P) (tc:TrC H tr P.iso P.mx P.mn) {i i0:Nat} {g:Ng} {X:List (Int×Int)} {x:Int×Int} (hi0:i0=i∨(i0=i+1∧i0=X.length)) (hi1:i0=X.length→i0=i+1):
  ∀{h:Nat} {K1 K2:List (Gt EJ h)} {tl tt:Gt EJ h},RebT H P (fun b=>b<cx.base) h i g X K1 K2 tl tt x→
  Fn Try.prog B 97 [.pointer (some ⟨tr,0,none⟩),.pointer (some ⟨g.p,0,none⟩),.int .i64 (i0:Int)] H (fun v H'=>v=resVal []∧∃(g':Ng) (X':List (Int×Int)) (K':List (Gt EJ h)),g'.p=g.p∧g'.cnt=g.cnt∧Fr (fun b o=>innc h g (K1++K2) b o∨(Gt.af h tl b o∨Gt.af h tt b o)) H H'∧Inn H' P h g' X' ((Gt.ps h K').map some) K'∧K'.length=X'.length+1∧
   Pl.inter X' (K'.map (Gt.L h))=Pl.inter X ((K1++[tl,tt]++K2).map (Gt.L h))∧X'.length≤P.mx∧X.length≤X'.length+1∧Gro H (fun b o=>innc h g (K1++K2) b o∨(Gt.af h tl b o∨Gt.af h tt b o)) (innc h g' K')∧RebS P h i X K1 K2 tl tt x ((g',X',K'):Gt EJ (h+1)))
 | 0,_,_,(gl,Xl),(gr,Xr),ht=>(rebalL_spec hP tc (ht.in0 (fun _=>0)) hi0 hi1).mono fun v H' ⟨e,ho⟩=>⟨e,ht.fin0 hP.h1 ho⟩
 | h+1,_,_,(gl,Xl,Kl),(gr,Xr,Kr),ht=>(rebalI_spec hP tc (ht.inS).1 hi0 hi1).mono fun v H' ⟨e,ho⟩=>⟨e,ht.finS hP.h1 ho⟩
theorem rebal_tree {B:World} {H:Mem} {tr:Nat} {P:Ps} (hP:PsOk P) (tc:TrC H tr P.iso P.mx P.mn) {h i0:Nat} {g:Ng} {X:List (Int×Int)} {K1 K2:List (Gt EJ h)} {k:Gt EJ h} (hI:Inn H P h g X ((Gt.ps h (K1++[k]++K2)).map some) (K1++K2))
  (hk:Gt.Good H P h k) (ok:Off (Gt.af h k) (innc h g (K1++K2))) (tn:∀b o,innc h g (K1++K2) b o→¬(fun b=>b<cx.base) b) (tk:∀b o,Gt.af h k b o→¬(fun b=>b<cx.base) b) (dD:∀b,(fun b=>b<cx.base) b→b<H.size) (hi:K1.length=i0) (hx1:1≤X.length)
  (hK:(K1++[k]++K2).length=X.length+1) (hxm:X.length≤P.mx) (hsh:(Gt.X h k).length<P.mn) (hml:P.mn≤(Gt.X h k).length+1) (hb:(Pl.inter X ((K1++[k]++K2).map (Gt.L h))).length<4611686018427387904):
  Fn Try.prog B 97 [.pointer (some ⟨tr,0,none⟩),.pointer (some ⟨g.p,0,none⟩),.int .i64 (i0:Int)] H (fun v H'=>v=resVal []∧∃(g':Ng) (X':List (Int×Int)) (K':List (Gt EJ h)),g'.p=g.p∧g'.cnt=g.cnt∧Fr (fun b o=>innc h g (K1++K2) b o∨Gt.af h k b o) H H'∧Inn H' P h g' X' ((Gt.ps h K').map some) K'∧K'.length=X'.length+1∧
   Pl.inter X' (K'.map (Gt.L h))=Pl.inter X ((K1++[k]++K2).map (Gt.L h))∧X'.length≤P.mx∧X.length≤X'.length+1∧Gro H (fun b o=>innc h g (K1++K2) b o∨Gt.af h k b o) (innc h g' K')∧RebK h i0 X K1 k K2 ((g',X',K'):Gt EJ (h+1))):=by
 have hlen:=Pl.inter_length X ((K1++[k]++K2).map (Gt.L h)) (by rw [List.length_map];exact hK)
 have hkl:(Gt.L h k).length≤(((K1++[k]++K2).map (Gt.L h)).map List.length).sum:=sum_mem List.length (List.mem_map.2 ⟨k,by simp,rfl⟩)
 rcases K2 with _|⟨kr,K2⟩
 ·
  obtain ⟨K1',kl,rfl⟩:∃K1' kl,K1=K1'++[kl]:=by
   rcases List.eq_nil_or_concat K1 with rfl|⟨a,b,e⟩
   ·
    have h9:=hK
    simp only [List.length_append,List.length_cons,List.length_nil] at h9
    omega
   · exact ⟨a,b,by simpa using e⟩
  have hlK:K1'.length+1=X.length:=by simp at hK;omega
  obtain ⟨x,hx⟩:∃x,X[K1'.length]?=some x:=⟨X[K1'.length]'(by omega),List.getElem?_eq_getElem (by omega)⟩
  have e1:K1'++[kl]++[k]++[]=K1'++[kl,k]++[]:=by simp
  have hkm:kl∈K1'++[kl]++[]:=by simp
  obtain ⟨q1,q2,q3⟩:=hI.c.1 kl hkm
  have hsub:(K1'++[]).Sublist (K1'++[kl]++[]):=by simp
  have hkl2:(Gt.L h kl).length+(Gt.L h k).length≤(((K1'++[kl]++[k]++[]).map (Gt.L h)).map List.length).sum:=by simp<;>omega
  have ekl:kl∈K1'++[kl]:=by simp
  have hpw:=hI.c.2
  rw [List.append_nil,List.pairwise_append] at hpw
  have okl:Off (Gt.af h kl) (innc h g (K1'++[])):=fun b o hb hn=>by
   rcases hn with hn|hn|⟨m,hm,hn⟩
   · exact (q3 b o hb).1 hn
   · exact (q3 b o hb).2 hn
   ·
    rw [List.append_nil] at hm
    exact hpw.2.2 m hm kl (List.mem_singleton.2 rfl) b o hn hb
  have ht:RebT H P (fun b=>b<cx.base) h K1'.length g X K1' [] kl k x:=⟨by rw [←e1];exact hI.sub hsub,q1,hk,okl,fun b o hb hn=>ok b o hb (innc_sub (fun m hm=>hsub.subset hm) hn),fun b o h1 h2=>ok b o h2 (.inr (.inr ⟨kl,hkm,h1⟩)),
   fun b o hb=>tn b o (innc_sub (fun m hm=>hsub.subset hm) hb),fun b o hb=>tn b o (.inr (.inr ⟨kl,hkm,hb⟩)),tk,dD,rfl,hx,by rw [←e1];exact hK,hxm,by omega,.inr hsh,by omega,hml⟩
  rw [List.length_append] at hi
  refine (rebal_at hP tc (i0:=i0) (.inr ⟨by simpa using hi.symm,by simp at hi;omega⟩) (fun _=>by simpa using hi.symm) ht).mono ?_
  rintro v H' ⟨e,g',X',K',r1,r2,r3,r4,r5,r6,r7,r8,r9,r10⟩
  have hA:∀b o,innc h g (K1'++[]) b o∨(Gt.af h kl b o∨Gt.af h k b o)→innc h g (K1'++[kl]++[]) b o∨Gt.af h k b o:=fun b o hz=>by
   rcases hz with hz|hz|hz
   · exact .inl (innc_sub (fun m hm=>hsub.subset hm) hz)
   · exact .inl (.inr (.inr ⟨kl,hkm,hz⟩))
   · exact .inr hz
  exact ⟨e,g',X',K',r1,r2,r3.mono fun b o _ hz=>hA b o hz,r4,r5,by rw [r6,e1],r7,r8,fun b o hb=>(r9 b o hb).imp (hA b o) id,RebK.last (by simpa using hi) hx hsh r10⟩
 ·
  have hlK:K1.length<X.length:=by simp at hK;omega
  obtain ⟨x,hx⟩:∃x,X[K1.length]?=some x:=⟨X[K1.length]'(by omega),List.getElem?_eq_getElem (by omega)⟩
  have e1:K1++[k]++kr::K2=K1++[k,kr]++K2:=by simp
  have hkm:kr∈K1++kr::K2:=by simp
  obtain ⟨q1,q2,q3⟩:=hI.c.1 kr hkm
  have hsub:(K1++K2).Sublist (K1++kr::K2):=List.Sublist.append_left (List.sublist_cons_self _ _) _
  have hkl2:(Gt.L h k).length+(Gt.L h kr).length≤(((K1++[k]++kr::K2).map (Gt.L h)).map List.length).sum:=by simp<;>omega
  have hpw:=hI.c.2
  rw [List.pairwise_append,List.pairwise_cons] at hpw
  have okr:Off (Gt.af h kr) (innc h g (K1++K2)):=fun b o hb hn=>by
   rcases hn with hn|hn|⟨m,hm,hn⟩
   · exact (q3 b o hb).1 hn
   · exact (q3 b o hb).2 hn
   ·
    rcases List.mem_append.1 hm with hm|hm
    · exact hpw.2.2 m hm kr List.mem_cons_self b o hn hb
    · exact hpw.2.1.1 m hm b o hb hn
  have ht:RebT H P (fun b=>b<cx.base) h K1.length g X K1 K2 k kr x:=⟨by rw [←e1];exact hI.sub hsub,hk,q1,fun b o hb hn=>ok b o hb (innc_sub (fun m hm=>hsub.subset hm) hn),okr,fun b o h1 h2=>ok b o h1 (.inr (.inr ⟨kr,hkm,h2⟩)),
   fun b o hb=>tn b o (innc_sub (fun m hm=>hsub.subset hm) hb),tk,fun b o hb=>tn b o (.inr (.inr ⟨kr,hkm,hb⟩)),dD,rfl,hx,by rw [←e1];exact hK,hxm,by omega,.inl hsh,hml,by omega⟩
  refine (rebal_at hP tc (i0:=i0) (.inl hi.symm) (fun h9=>by omega) ht).mono ?_
  rintro v H' ⟨e,g',X',K',r1,r2,r3,r4,r5,r6,r7,r8,r9,r10⟩
  have hA:∀b o,innc h g (K1++K2) b o∨(Gt.af h k b o∨Gt.af h kr b o)→innc h g (K1++kr::K2) b o∨Gt.af h k b o:=fun b o hz=>by
   rcases hz with hz|hz|hz
   · exact .inl (innc_sub (fun m hm=>hsub.subset hm) hz)
   · exact .inr hz
   · exact .inl (.inr (.inr ⟨kr,hkm,hz⟩))
  exact ⟨e,g',X',K',r1,r2,r3.mono fun b o _ hz=>hA b o hz,r4,r5,by rw [r6,e1],r7,r8,fun b o hb=>(r9 b o hb).imp (hA b o) id,RebK.more hi hx hsh r10⟩
end Go.Bt.FG
namespace Go.Bt.FG
open Go Go.Proofs Go.Proofs.Try
set_option maxRecDepth 20000
set_option maxHeartbeats 4000000
set_option linter.unusedSectionVars false
section
variable [Inhabited Cx]
def HzC (hz:Nat→Prop) (n:Nat):Prop:=(∀b,¬hz b)∨∃hb,(∀b,hz b↔b=hb)∧hb<n
theorem HzC.cut {H H':Mem} {hz:Nat→Prop} {Z:Nat→Nat→Prop} (hk:HzC hz H.size) (hF:Fr (fun b o=>Z b o∨hz b) H H'):∃Hm:Mem,Hm.size=H.size∧Fr (fun b _=>hz b) H Hm∧Fr Z Hm H':=by
 rcases hk with h0|⟨hb,h1,h2⟩
 · exact ⟨H,rfl,Fr.refl _ _,hF.mono fun b o _ h=>h.elim id fun h=>absurd h (h0 b)⟩
 ·
  obtain ⟨Hm,e,f1,f2⟩:=Fr.split (Z:=Z) h2 (hF.mono fun b o _ h=>h.imp id (h1 b).1)
  exact ⟨Hm,e,f1.mono fun b _ _ h=>(h1 b).2 h,f2⟩
theorem HintOk.hzc {H:Mem} {hv:Value} {hz:Nat→Prop} (hk:HintOk H hv hz):HzC hz H.size:=by
 rcases hk with ⟨_,h0⟩|⟨hb,_,h1,h2,_,_⟩
 · exact .inl h0
 · exact .inr ⟨hb,h1,h2⟩
def DelQH (H:Mem) (P:Ps) (h:Nat) (t:Gt EJ h) (mx:Bool) (x:Int×Int) (hv:Value) (hz:Nat→Prop) (v:Value) (H':Mem):Prop:=
 HintOk H' hv hz∧∃Hm:Mem,Hm.size=H.size∧Fr (fun b _=>hz b) H Hm∧DelQ Hm P h t mx x v H'
theorem DelQH.rebase {H Hb:Mem} {P:Ps} {h:Nat} {t:Gt EJ h} {mx:Bool} {x:Int×Int} {hv:Value} {hz:Nat→Prop} {v:Value} {H':Mem} (hs:Hb.size=H.size) (hf:Fr (fun b _=>hz b) H Hb) (hq:DelQH Hb P h t mx x hv hz v H'):DelQH H P h t mx x hv hz v H':=by
 obtain ⟨h1,Hm,h2,h3,h4⟩:=hq
 exact ⟨h1,Hm,h2.trans hs,hf.trans' h3 (fun _ _ _ h=>h) (fun _ _ _ h=>h),h4⟩
theorem DelQ.uni {H:Mem} {P:Ps} {h:Nat} {t:Gt EJ h} {mx:Bool} {x:Int×Int} {v:Value} {H':Mem} (hq:DelQ H P h t mx x v H'):∃y bb,v=.tuple #[.agg (EJ.enc y).toArray,.bool bb]∧Fr (Gt.af h t) H H'∧
  ((bb=false∧Pl.dlr OI mx x (Gt.L h t)=none∧Fr nowhere H H')∨(bb=true∧∃L' t',Pl.dlr OI mx x (Gt.L h t)=some (y,L')∧DelT H H' P h t t' L' (SegD OI mx x h t t'))):=by
 unfold DelQ at hq
 cases e:Pl.dlr OI mx x (Gt.L h t) with
 | none=>
  rw [e] at hq
  exact ⟨_,_,hq.1,hq.2.mono fun _ _ _ h=>h.elim,.inl ⟨rfl,rfl,hq.2⟩⟩
 | some r=>
  obtain ⟨y,L'⟩:=r
  rw [e] at hq
  obtain ⟨t',e1,hd⟩:=hq
  exact ⟨_,_,e1,hd.fr,.inr ⟨rfl,L',t',rfl,hd⟩⟩
theorem DelQH.uni {H:Mem} {P:Ps} {h:Nat} {t:Gt EJ h} {mx:Bool} {x:Int×Int} {hv:Value} {hz:Nat→Prop} {v:Value} {H':Mem} (hq:DelQH H P h t mx x hv hz v H'):HintOk H' hv hz∧∃Hm:Mem,Hm.size=H.size∧Fr (fun b _=>hz b) H Hm∧∃y bb,v=.tuple #[.agg (EJ.enc y).toArray,.bool bb]∧Fr (Gt.af h t) Hm H'∧
  ((bb=false∧Pl.dlr OI mx x (Gt.L h t)=none∧Fr nowhere Hm H')∨(bb=true∧∃L' t',Pl.dlr OI mx x (Gt.L h t)=some (y,L')∧DelT Hm H' P h t t' L' (SegD OI mx x h t t'))):=by
 obtain ⟨h1,Hm,h2,h3,h4⟩:=hq
 exact ⟨h1,Hm,h2,h3,h4.uni⟩
theorem delH0 {B:World} {H:Mem} {tr bp op dp:Nat} {P:Ps} (hP:PsOk P) {mx:Bool} {x:Int×Int} {t:Gt EJ 0} {hv:Value} {hz:Nat→Prop} (hp:DPre H tr P 0 t bp op) (hkt:HintOk H hv hz) (ho:∀b o,Gt.af 0 t b o→¬hz b) (hdp:dp<4611686018427387904):
  Fn Try.prog B 86 [.pointer (some ⟨tr,0,none⟩),.pointer (some ⟨bp,op,none⟩),.bool mx,.agg (EJ.enc x).toArray,hv,.int .i64 (dp:Int)] H (DelQH H P 0 t mx x hv hz):=by
 obtain ⟨⟨np,niso,ncnt,nib,nio,nic,ncb,nkb,nko,nkc⟩,X⟩:=t
 obtain ⟨tc,hg,hc,tn,hsX,hlen,hx1⟩:=hp
 obtain ⟨Q0,hQ0⟩:∃Q0,Q0=DelQH H P 0 (((⟨np,niso,ncnt,nib,nio,nic,ncb,nkb,nko,nkc⟩:Ng),X):Gt EJ 0) mx x hv hz:=⟨_,rfl⟩
 rw [←hQ0]
 have hbase:∀v H',DelQH H P 0 (((⟨np,niso,ncnt,nib,nio,nic,ncb,nkb,nko,nkc⟩:Ng),X):Gt EJ 0) mx x hv hz v H'→Q0 v H':=fun v H' h=>by rw [hQ0];exact h
 clear hQ0
 have hzb:=hkt.base
 have hzc:=hkt.hzc
 replace hsX:Pl.Srt OI X:=hsX
 replace hx1:1≤X.length:=hx1
 replace hlen:X.length<4611686018427387904:=hlen
 have hn:NodeM EJ H (⟨np,niso,ncnt,nib,nio,nic,ncb,nkb,nko,nkc⟩:Ng) X (.pointer none):=hg.1
 have hiso:niso=P.iso:=hg.2.1
 have hcnt:ncnt=X.length:=hg.2.2.1
 have hxm:X.length≤P.mx:=hg.2.2.2
 replace tn:∀b o,(ncl EJ (⟨np,niso,ncnt,nib,nio,nic,ncb,nkb,nko,nkc⟩:Ng)) b o→¬(b<cx.base∨hz b):=fun b o hb h=>h.elim (tn b o hb) (ho b o hb)
 have hx255:=hP.hx
 have hlt:∀b o,(ncl EJ (⟨np,niso,ncnt,nib,nio,nic,ncb,nkb,nko,nkc⟩:Ng)) b o→b<H.size:=fun b o hb=>NodeM.lt hn hb
 have hD:∀b,(b<cx.base∨hz b)→b<H.size:=fun b hb=>hb.elim (fun h=>Nat.lt_of_lt_of_le h tc.hb) (fun h=>(hzb b h).2)
 have htl:cx.base≤H.size:=tc.hb
 have hic:=hn.sl.hle
 simp only at hic
 have hF:Fr (ncl EJ (⟨np,niso,ncnt,nib,nio,nic,ncb,nkb,nko,nkc⟩:Ng)) H H:=Fr.refl _ _
 have hQ:Fr nowhere H H:=Fr.refl _ _
 have sn:Gro H (ncl EJ (⟨np,niso,ncnt,nib,nio,nic,ncb,nkb,nko,nkc⟩:Ng)) (ncl EJ (⟨np,niso,ncnt,nib,nio,nic,ncb,nkb,nko,nkc⟩:Ng)):=Gro.refl _ _
 refine fn_of func86 rfl ntmps86 ?_
 refine (show Go' _ _ _ _ 212 [(0,_),(1,_),(2,_),(3,_),(4,_),(5,_)] [.code _] _ from ?_)
 refine Ut 1 rfl (Ur 3 10 rfl (O.box rfl rfl rfl rfl ?_))
 intro H1 MH1
 refine ⟨trivial,?_⟩
 have hsH1:=MH1.size
 replace hn:=NodeM.fr EJ hn (MH1.fr nowhere) (fun _ _ _=>nw)
 replace tc:=tc.fr (MH1.fr nowhere) (fun _ _ _ _=>nw)
 replace hkt:=hkt.fr (MH1.fr nowhere) (fun _ _ _=>nw)
 replace hF:=hF.trans' (MH1.fr nowhere) (fun _ _ _ h=>h) (fun _ _ _ h=>h.elim)
 replace hQ:=hQ.trans (MH1.fr nowhere)
 have mk:Rd H1 H.size 0 (EJ.enc x):=MH1.rd _ [] (by simp [Value.cells])
 refine O.alloc rfl rfl rfl zeroValue27 ?_
 intro H2 MH2
 refine ⟨trivial,?_⟩
 have hsH2:=MH2.size
 replace hn:=NodeM.fr EJ hn (MH2.fr nowhere) (fun _ _ _=>nw)
 replace tc:=tc.fr (MH2.fr nowhere) (fun _ _ _ _=>nw)
 replace hkt:=hkt.fr (MH2.fr nowhere) (fun _ _ _=>nw)
 replace hF:=hF.trans' (MH2.fr nowhere) (fun _ _ _ h=>h) (fun _ _ _ h=>h.elim)
 replace mk:=Fr.rd (MH2.fr nowhere) mk (fun _ _=>nw)
 replace hQ:=hQ.trans (MH2.fr nowhere)
 have w8:Wr H2 H1.size 0 2:=MH2.wr 2 (by decide)
 refine Uf 1 [0,1,2,4,5,9,12,13] rfl (Ut 1 rfl ?_)
 have hc0:cl H2 np 0=some (.int .u64 (P.iso:Int)):=by have:=hn.c0;simp only [hiso] at this;exact this
 refine Ur 4 32 rfl (Uq 2 rfl (O.callQ rfl rfl rfl call59 rfl (isoLoad_spec true (Fr.keep (MH2.fr nowhere) (Fr.keep (MH1.fr nowhere) hc nw) nw) hc0 tc.iso) trivial (Uf 1 [0,2,4,5,9,12,13,14] rfl (Ut 1 rfl (Ur 1 0 rfl (Uf 1 [0,2,4,5,9,12,13,14,15] rfl (Ut 1 rfl (Ur 1 0 rfl (Uf 1 [0,2,4,5,9,12,13,14,15,16] rfl (Ut 2 rfl (Ur 1 0 rfl ?_)))))))))))
 refine Uf 1 [0,2,4,5,9,12,13,14,15,16,25] rfl ?_
 refine Go'.join (σ:=Nat×Bool) (fun s H'=>Fr (fun b _=>hz b) H2 H'∧HintOk H' hv hz∧Pl.Sel OI mx x X s) (fun s=>[(0,.pointer (some ⟨tr,0,none⟩)),(2,.bool mx),(4,hv),(5,.int .i64 (dp:Int)),(9,.pointer (some ⟨H.size,0,none⟩)),(12,.pointer (some ⟨H1.size,0,none⟩)),(13,.bool false),(14,.pointer (some ⟨np,0,none⟩)),(15,.int .i64 (s.1:Int)),(16,.bool s.2)]) ?_ ?_
 rotate_left
 ·
  intro tail
  cases mx
  ·
   refine Go'.condF rfl (Ur 11 2064 rfl (Us 2 rfl mk rfl (Uq 2 rfl (O.call rfl rfl rfl call60 rfl (find_spec tc x hn hsX (by omega) hx1 hkt (fun b o hb hn9=>tn b o hn9 (.inr hb)) (by omega)) ?_))))
   rintro _ Hs ⟨rfl,hFs,hks⟩
   refine ⟨trivial,?_⟩
   refine Uf 5 [0,2,4,5,9,12,13,14,15,16] rfl (Uk [0,2,4,5,9,12,13,14,15,16] rfl ?_)
   exact tail (Pl.pos OI x X,Pl.fnd OI x X) Hs ⟨hFs,hks,Pl.sel_key OI x X⟩
  ·
   refine Go'.condT rfl (Ur 8 64 rfl (Ul 3 rfl (show cl _ np 2=some (.slice (some ⟨nib,nio,none⟩) X.length nic) from hn.c2) (Ub 1 (((X.length-1:Nat):Int)) rfl (by omega) (Uf 2 [0,2,4,5,9,12,13,14,15,16] rfl (Uk [0,2,4,5,9,12,13,14,15,16] rfl ?_)))))
   exact tail (X.length-1,true) H2 ⟨Fr.refl _ _,hkt,Pl.sel_max OI x hx1⟩
 rintro ⟨i,fo⟩ Hj ⟨hFj,hkj,hsel⟩
 simp only
 replace hn:=NodeM.fr EJ hn hFj (fun b o hb hz=>tn b o hb (.inr hz))
 replace tc:=tc.fr hFj (fun b o hb _ hz=>(hzb b hz).1 hb)
 replace mk:=Fr.rd hFj mk (fun _ _ hz=>by have:=(hzb _ hz).2;omega)
 replace w8:=Fr.wr hFj w8
 have hsj:=hFj.size
 replace hkt:=hkj
 clear hkj
 obtain ⟨Hb,hsb,hFb,hQb⟩:=hzc.cut (Z:=nowhere) (hQ.trans' hFj (fun _ _ _ h=>h.elim) (fun _ _ _ h=>.inr h))
 replace hbase:=fun v H' (h:DelQH Hb P 0 (((⟨np,niso,ncnt,nib,nio,nic,ncb,nkb,nko,nkc⟩:Ng),X):Gt EJ 0) mx x hv hz v H')=>hbase v H' (h.rebase hsb hFb)
 generalize hzs:H.size=zs at*
 clear hzs
 subst hsb
 obtain ⟨H,hHb⟩:∃z,z=Hb:=⟨_,rfl⟩
 subst hHb
 clear hQ hF
 rename Fr nowhere H Hj=>hQ
 have hF:Fr (ncl EJ (⟨np,niso,ncnt,nib,nio,nic,ncb,nkb,nko,nkc⟩:Ng)) H Hj:=hQ.mono (fun _ _ _ h=>h.elim)
 have sn:Gro H (ncl EJ (⟨np,niso,ncnt,nib,nio,nic,ncb,nkb,nko,nkc⟩:Ng)) (ncl EJ (⟨np,niso,ncnt,nib,nio,nic,ncb,nkb,nko,nkc⟩:Ng)):=Gro.refl _ _
 refine Ut 2 rfl (Ur 2 8 rfl (Uq 1 rfl (O.callQ rfl rfl rfl call62 rfl (leaf_spec hn.c3) trivial (Uf 0 [0,2,4,5,9,12,13,14,15,16,42] rfl (Go'.condT rfl (Ut 2 rfl (Ur 1 0 rfl (Uf 1 [0,2,4,5,9,12,13,14,15,16,43] rfl ?_))))))))
 cases fo
 ·
  refine Go'.condF rfl (Ut 2 rfl (Ur 6 576 rfl (Us 3 rfl tc.emp rfl (O.st rfl rfl sizeOf27 rfl rfl rfl rfl rfl w8 ?_))))
  intro H3 WH3
  have hsH3:=WH3.size
  replace hn:=NodeM.fr EJ hn WH3.fr (fun b o hb=>nr (.inl (by have:=hlt b o hb;omega)))
  replace tc:=tc.fr WH3.fr (fun b o hb _=>nr (.inl (by omega)))
  replace hkt:=hkt.fr WH3.fr (fun b o hb=>nr (.inl (by have:=(hzb b hb).2;omega)))
  replace hF:=hF.trans' WH3.fr (fun _ _ _ h=>h) (fun b o hb h=>by simp only [rng] at h;omega)
  replace hQ:=hQ.trans' WH3.fr (fun _ _ _ h=>h) (fun b o hb h=>by simp only [rng] at h;omega)
  replace mk:=Fr.rd WH3.fr mk (fun _ _=>nr (.inl (by omega)))
  replace w8:=Fr.wr WH3.fr w8
  have m8:Rd H3 H1.size 0 (EJ.enc ((0:Int),(0:Int))):=WH3.all
  refine ⟨trivial,?_⟩
  refine Uf 1 [0,2,4,5,9,12,13,14,15,16] rfl (Go'.ret (vs:=[_,_]) func86 results86 ⟨⟨_,_,rfl,fun _ _=>run_loadVar_agg (fun w=>⟨isAgg27 w,sizeOf27 w⟩) rfl m8⟩,rfl,trivial⟩ ?_)
  refine hbase _ _ ⟨hkt,H,rfl,Fr.refl _ _,?_⟩
  unfold DelQ
  rw [show Pl.dlr OI mx x (Gt.L 0 (((⟨np,niso,ncnt,nib,nio,nic,ncb,nkb,nko,nkc⟩:Ng),X):Gt EJ 0))=none from Pl.dlr_none OI hsel]
  exact ⟨rfl,hQ⟩
 ·
  refine Go'.condT rfl (Ut 1 rfl ?_)
  have hil:i<X.length:=hsel.1 rfl
  obtain ⟨y,hy⟩:∃y,X[i]?=some y:=⟨X[i],List.getElem?_eq_getElem hil⟩
  refine Ur 9 168000 rfl (Ul 3 rfl (show cl _ np 2=some (.slice (some ⟨nib,nio,none⟩) X.length nic) from hn.c2) (Ux 1 i rfl (by omega) (by omega) (Us 0 rfl (hn.sl.item hy) rfl (O.alloc rfl rfl rfl zeroValue27 ?_))))
  intro H4 MH4
  refine ⟨trivial,?_⟩
  have hsH4:=MH4.size
  replace hn:=NodeM.fr EJ hn (MH4.fr nowhere) (fun _ _ _=>nw)
  replace tc:=tc.fr (MH4.fr nowhere) (fun _ _ _ _=>nw)
  replace hkt:=hkt.fr (MH4.fr nowhere) (fun _ _ _=>nw)
  replace hF:=hF.trans' (MH4.fr nowhere) (fun _ _ _ h=>h) (fun _ _ _ h=>h.elim)
  replace mk:=Fr.rd (MH4.fr nowhere) mk (fun _ _=>nw)
  replace w8:=Fr.wr (MH4.fr nowhere) w8
  replace hQ:=hQ.trans (MH4.fr nowhere)
  have w13:Wr H4 Hj.size 0 2:=MH4.wr 2 (by decide)
  obtain ⟨b13,eb13⟩:∃z,z=Hj.size:=⟨_,rfl⟩
  rw [←eb13] at w13 ⊢
  refine O.st rfl rfl sizeOf27 rfl rfl rfl rfl rfl w13 ?_
  intro H5 WH5
  have hsH5:=WH5.size
  replace hn:=NodeM.fr EJ hn WH5.fr (fun b o hb=>nr (.inl (by have:=hlt b o hb;omega)))
  replace tc:=tc.fr WH5.fr (fun b o hb _=>nr (.inl (by omega)))
  replace hkt:=hkt.fr WH5.fr (fun b o hb=>nr (.inl (by have:=(hzb b hb).2;omega)))
  replace hF:=hF.trans' WH5.fr (fun _ _ _ h=>h) (fun b o hb h=>by simp only [rng] at h;omega)
  replace hQ:=hQ.trans' WH5.fr (fun _ _ _ h=>h) (fun b o hb h=>by simp only [rng] at h;omega)
  replace mk:=Fr.rd WH5.fr mk (fun _ _=>nr (.inl (by omega)))
  replace w8:=Fr.wr WH5.fr w8
  replace w13:=Fr.wr WH5.fr w13
  have m13:Rd H5 b13 0 (EJ.enc y):=WH5.all
  refine ⟨trivial,?_⟩
  refine Uf 0 [0,2,4,5,9,12,13,14,15,16,17] rfl (Ut 1 rfl ?_)
  have hxd:X.length-(i+1)+(i+1)=X.length:=by omega
  refine Ud 14 134479936 (by kernel_rfl) (Ul 3 rfl (show cl _ np 2=some (.slice (some ⟨nib,nio,none⟩) X.length nic) from hn.c2) (Uq 1 rfl (O.slc (jl:=i) (jh:=X.length) (jm:=nic) rfl rfl rfl rfl underlying25 sizeOf27 rfl rfl rfl ⟨_,by rfl⟩ (by omega) (by omega) (by simp) (by simp) ?_)))
  intro od hod
  refine Ul 3 rfl (show cl _ np 2=some (.slice (some ⟨nib,nio,none⟩) X.length nic) from hn.c2) (Ua 1 (((i+1:Nat):Int)) rfl (by omega) (O.slc (jl:=i+1) (jh:=X.length) (jm:=nic) rfl rfl rfl rfl underlying25 sizeOf27 rfl rfl rfl ⟨_,by rfl⟩ (by omega) (by omega) (by simp) (by simp) ?_))
  intro os2 hos2
  refine O.copy (b:=nib) (o:=(nio+(i)*2)) (j:=(X.length-(i+1))) (cs:=(row EJ (X.drop (i+1)))) rfl rfl rfl ⟨underlying25,sizeOf27,zeroValue27,⟨_,typeInfo27,rfl⟩,rfl,by decide,by decide⟩ rfl rfl (show _=min _ _ by omega) ((Nat.lt_or_ge (i) nic).elim (fun h=>.inl (by rw [hod h])) (fun h=>.inr (by omega))) (.inl ⟨_,_,_,rfl,hn.sl.rdDrop (i:=i+1) hos2 (by omega)⟩) (by rw [row_len];first|rfl|(congr 1;simp only [List.length_drop];try omega)) (row_ones EJ _) (hn.sl.wrm (i:=i) (m:=X.length-(i+1)) (by omega)) ?_
  intro H6 WH6
  have hyl:(X.drop (i+1)).length=X.length-(i+1):=by simp only [List.length_drop];try omega
  have fW:Fr (ncl EJ (⟨np,niso,ncnt,nib,nio,nic,ncb,nkb,nko,nkc⟩:Ng)) H5 H6:=(NodeM.fCpy hn (i:=i) (Y:=X.drop (i+1)) WH6 (by omega))
  replace tc:=tc.fr fW (fun b o hb _ hz=>tn b o hz (.inl hb.1))
  replace hkt:=hkt.fr fW (fun b o hb hz9=>tn b o hz9 (.inr hb))
  replace hF:=Fr.tot hF fW sn (fun _ _ h=>h)
  replace mk:=Fr.rd fW mk (fun _ _ hz=>by have:=hlt _ _ hz;omega)
  replace w8:=Fr.wr fW w8
  replace w13:=Fr.wr fW w13
  replace m13:=Fr.rd fW m13 (fun _ _ hz=>by have:=hlt _ _ hz;omega)
  clear hQ
  obtain ⟨nX1,enX1,hn⟩:∃X1,X1=X.take (i)++X.drop (i+1)++X.drop (i+(X.drop (i+1)).length)∧NodeM EJ H6 (⟨np,niso,ncnt,nib,nio,nic,ncb,nkb,nko,nkc⟩:Ng) (X1) (.pointer none):=⟨_,rfl,hn.cpy (i:=i) (Y:=X.drop (i+1)) WH6 (by omega)⟩
  have lnX1:nX1.length=X.length:=by rw [enX1];simp only [List.length_append,List.length_take,List.length_drop];omega
  clear fW
  clear hyl
  refine ⟨trivial,?_⟩
  refine Uf 0 [0,2,4,5,9,12,13,14,15,16,17] rfl (Ut 1 rfl (Ud 16 3288350784 (by kernel_rfl) (Ul 3 rfl (show cl _ np 2=some (.slice (some ⟨nib,nio,none⟩) nX1.length nic) from hn.c2) (Ul 3 rfl (show cl _ np 2=some (.slice (some ⟨nib,nio,none⟩) nX1.length nic) from hn.c2) (Ub 1 (((nX1.length-1:Nat):Int)) rfl (by omega) (Us 3 rfl tc.emp rfl (Ux 0 (nX1.length-1) rfl (by omega) (by omega) (O.st3 rfl rfl sizeOf27 rfl rfl rfl rfl rfl (hn.sl.wri (i:=nX1.length-1) (by omega)) ?_))))))))
  intro H7 WH7
  have fW:Fr (ncl EJ (⟨np,niso,ncnt,nib,nio,nic,ncb,nkb,nko,nkc⟩:Ng)) H6 H7:=(NodeM.fSet hn (i:=nX1.length-1) (x:=((0:Int),(0:Int))) WH7 (by omega))
  replace tc:=tc.fr fW (fun b o hb _ hz=>tn b o hz (.inl hb.1))
  replace hkt:=hkt.fr fW (fun b o hb hz9=>tn b o hz9 (.inr hb))
  replace hF:=Fr.tot hF fW sn (fun _ _ h=>h)
  replace mk:=Fr.rd fW mk (fun _ _ hz=>by have:=hlt _ _ hz;omega)
  replace w8:=Fr.wr fW w8
  replace w13:=Fr.wr fW w13
  replace m13:=Fr.rd fW m13 (fun _ _ hz=>by have:=hlt _ _ hz;omega)
  obtain ⟨nX2,enX2,hn⟩:∃X1,X1=nX1.take (nX1.length-1)++((0:Int),(0:Int))::nX1.drop (nX1.length-1+1)∧NodeM EJ H7 (⟨np,niso,ncnt,nib,nio,nic,ncb,nkb,nko,nkc⟩:Ng) (X1) (.pointer none):=⟨_,rfl,hn.set (i:=nX1.length-1) (x:=((0:Int),(0:Int))) WH7 (by omega)⟩
  have lnX2:nX2.length=nX1.length:=by rw [enX2];simp only [List.length_append,List.length_take,List.length_cons,List.length_drop];omega
  clear fW
  refine Uf 0 [0,2,4,5,9,12,13,14,15,16,17] rfl (Ut 1 rfl (Ud 15 805372160 (by kernel_rfl) (Ul 4 rfl (show cl _ np 2=some (.slice (some ⟨nib,nio,none⟩) nX2.length nic) from hn.c2) (Ul 3 rfl (show cl _ np 2=some (.slice (some ⟨nib,nio,none⟩) nX2.length nic) from hn.c2) (Ub 1 (((nX2.length-1:Nat):Int)) rfl (by omega) (O.slc (jl:=0) (jh:=nX2.length-1) (jm:=nic) rfl rfl rfl rfl underlying25 sizeOf27 rfl rfl ⟨_,by rfl⟩ rfl (by omega) (by omega) (by simp) (by simp) ?_))))))
  intro oc hoc
  have hoc2:nio=oc:=by rw [hoc (by omega)];simp
  subst hoc2
  rw [Nat.sub_zero]
  refine Uq 2 rfl (O.st3 rfl rfl sizeOf25 rfl rfl rfl rfl rfl (hn.wr.at0 2 1 (by omega)) ?_)
  intro H8 WH8
  have fW:Fr (ncl EJ (⟨np,niso,ncnt,nib,nio,nic,ncb,nkb,nko,nkc⟩:Ng)) H7 H8:=(Wrote.fHdr (E:=EJ) (g:=(⟨np,niso,ncnt,nib,nio,nic,ncb,nkb,nko,nkc⟩:Ng)) WH8 (by omega))
  replace tc:=tc.fr fW (fun b o hb _ hz=>tn b o hz (.inl hb.1))
  replace hkt:=hkt.fr fW (fun b o hb hz9=>tn b o hz9 (.inr hb))
  replace hF:=Fr.tot hF fW sn (fun _ _ h=>h)
  replace mk:=Fr.rd fW mk (fun _ _ hz=>by have:=hlt _ _ hz;omega)
  replace w8:=Fr.wr fW w8
  replace w13:=Fr.wr fW w13
  replace m13:=Fr.rd fW m13 (fun _ _ hz=>by have:=hlt _ _ hz;omega)
  obtain ⟨nX3,enX3,hn⟩:∃X1,X1=nX2.take (nX2.length-1)∧NodeM EJ H8 (⟨np,niso,ncnt,nib,nio,nic,ncb,nkb,nko,nkc⟩:Ng) (X1) (.pointer none):=⟨_,rfl,hn.cut WH8 (by omega)⟩
  have lnX3:nX3.length=nX2.length-1:=by rw [enX3];simp only [List.length_take];omega
  clear fW
  refine Uf 0 [0,2,4,5,9,12,13,14,15,16,17] rfl (Ut 1 rfl (Ur 8 32832 rfl (Ul 3 rfl (show cl _ np 1=some (.int .i64 (ncnt:Int)) from hn.c1) (Ub 0 (((ncnt-1:Nat):Int)) rfl (by omega) (Uq 2 rfl (O.st rfl rfl sizeOf3 rfl rfl rfl rfl rfl (hn.wr.at0 1 1 (by omega)) ?_))))))
  intro H9 WH9
  have fW:Fr (ncl EJ (⟨np,niso,ncnt,nib,nio,nic,ncb,nkb,nko,nkc⟩:Ng)) H8 H9:=(Wrote.fHdr (E:=EJ) (g:=(⟨np,niso,ncnt,nib,nio,nic,ncb,nkb,nko,nkc⟩:Ng)) WH9 (by omega))
  replace tc:=tc.fr fW (fun b o hb _ hz=>tn b o hz (.inl hb.1))
  replace hkt:=hkt.fr fW (fun b o hb hz9=>tn b o hz9 (.inr hb))
  replace hF:=Fr.tot hF fW sn (fun _ _ h=>h)
  replace mk:=Fr.rd fW mk (fun _ _ hz=>by have:=hlt _ _ hz;omega)
  replace w8:=Fr.wr fW w8
  replace w13:=Fr.wr fW w13
  replace m13:=Fr.rd fW m13 (fun _ _ hz=>by have:=hlt _ _ hz;omega)
  obtain ⟨ncnt_9,encnt_9⟩:∃z,z=ncnt-1:=⟨_,rfl⟩
  rw [←encnt_9] at WH9
  replace hn:NodeM EJ H9 (⟨np,niso,ncnt_9,nib,nio,nic,ncb,nkb,nko,nkc⟩:Ng) (nX3) (.pointer none):=hn.count WH9
  clear fW
  refine ⟨trivial,?_⟩
  refine Uf 0 [0,2,4,5,9,12,13,14,15,16,17] rfl (Ut 1 rfl (Ur 3 9 rfl (Us 0 rfl m13 rfl (O.st rfl rfl sizeOf27 rfl rfl rfl rfl rfl w8 ?_))))
  intro H10 WH10
  have hsH10:=WH10.size
  replace hn:=NodeM.fr EJ hn WH10.fr (fun b o hb=>nr (.inl (by have:=hlt b o hb;omega)))
  replace tc:=tc.fr WH10.fr (fun b o hb _=>nr (.inl (by omega)))
  replace hkt:=hkt.fr WH10.fr (fun b o hb=>nr (.inl (by have:=(hzb b hb).2;omega)))
  replace hF:=hF.trans' WH10.fr (fun _ _ _ h=>h) (fun b o hb h=>by simp only [rng] at h;omega)
  replace mk:=Fr.rd WH10.fr mk (fun _ _=>nr (.inl (by omega)))
  replace w8:=Fr.wr WH10.fr w8
  replace w13:=Fr.wr WH10.fr w13
  replace m13:=Fr.rd WH10.fr m13 (fun _ _=>nr (.inl (by omega)))
  have m8:Rd H10 H1.size 0 (EJ.enc y):=WH10.all
  refine ⟨trivial,?_⟩
  refine Uf 1 [0,2,4,5,9,12,13,14,15,16] rfl (Go'.ret (vs:=[_,_]) func86 results86 ⟨⟨_,_,rfl,fun _ _=>run_loadVar_agg (fun w=>⟨isAgg27 w,sizeOf27 w⟩) rfl m8⟩,rfl,trivial⟩ ?_)
  have hX:nX3=X.take i++X.drop (i+1):=by
   rw [enX3,lnX2,lnX1,enX2,lnX1,enX1]
   exact Pl.cut_at X _ i hil
  refine hbase _ _ ⟨hkt,H,rfl,Fr.refl _ _,?_⟩
  unfold DelQ
  rw [show Pl.dlr OI mx x (Gt.L 0 (((⟨np,niso,ncnt,nib,nio,nic,ncb,nkb,nko,nkc⟩:Ng),X):Gt EJ 0))=some (y,X.take i++X.drop (i+1)) from Pl.dlr_leaf OI hsel hy]
  exact ⟨(((⟨np,niso,ncnt_9,nib,nio,nic,ncb,nkb,nko,nkc⟩:Ng),nX3):Gt EJ 0),rfl,hF,⟨hn,hiso,(show ncnt_9=nX3.length by omega),(show nX3.length≤P.mx by omega)⟩,rfl,fun b o hb=>.inl hb,hX,(show X.length≤nX3.length+1 by omega),fun _ _ _ _=>trivial⟩
end
end Go.Bt.FG
namespace Go.Bt.FG
open Go Go.Proofs Go.Proofs.Try
set_option maxRecDepth 20000
set_option maxHeartbeats 4000000
set_option linter.unusedSectionVars false
section
variable [Inhabited Cx]
theorem delH_step {B:World} {tr:Nat} {P:Ps} (hP:PsOk P) {h:Nat} (ih:∀{hv:Value} {hz:Nat→Prop} {H:Mem} {bp op dp:Nat} {mx:Bool} {x:Int×Int} {t:Gt EJ h},DPre H tr P h t bp op→HintOk H hv hz→(∀b o,Gt.af h t b o→¬hz b)→dp+h<4611686018427387904→Fn Try.prog B 86 [.pointer (some ⟨tr,0,none⟩),.pointer (some ⟨bp,op,none⟩),.bool mx,.agg (EJ.enc x).toArray,hv,.int .i64 (dp:Int)] H (DelQH H P h t mx x hv hz))
  {H:Mem} {bp op dp:Nat} {mx:Bool} {x:Int×Int} {t:Gt EJ (h+1)} {hv:Value} {hz:Nat→Prop} (hp:DPre H tr P (h+1) t bp op) (hkt:HintOk H hv hz) (ho:∀b o,Gt.af (h+1) t b o→¬hz b) (hdp:dp+(h+1)<4611686018427387904):
  Fn Try.prog B 86 [.pointer (some ⟨tr,0,none⟩),.pointer (some ⟨bp,op,none⟩),.bool mx,.agg (EJ.enc x).toArray,hv,.int .i64 (dp:Int)] H (DelQH H P (h+1) t mx x hv hz):=by
 obtain ⟨⟨np,niso,ncnt,nib,nio,nic,ncb,nkb,nko,nkc⟩,X,K⟩:=t
 obtain ⟨tc,hg,hc,tn,hs,hlen,hx1⟩:=hp
 obtain ⟨Q0,hQ0⟩:∃Q0,Q0=DelQH H P (h+1) (((⟨np,niso,ncnt,nib,nio,nic,ncb,nkb,nko,nkc⟩:Ng),X,K):Gt EJ (h+1)) mx x hv hz:=⟨_,rfl⟩
 rw [←hQ0]
 have hbase:∀v H',DelQH H P (h+1) (((⟨np,niso,ncnt,nib,nio,nic,ncb,nkb,nko,nkc⟩:Ng),X,K):Gt EJ (h+1)) mx x hv hz v H'→Q0 v H':=fun v H' h=>by rw [hQ0];exact h
 clear hQ0
 have hzb:=hkt.base
 have hzc:=hkt.hzc
 replace hx1:1≤X.length:=hx1
 have hn:Inn H P h (⟨np,niso,ncnt,nib,nio,nic,ncb,nkb,nko,nkc⟩:Ng) X ((Gt.ps h K).map some) K:=hg.inn
 have hiso:niso=P.iso:=hn.iso
 have hKl:K.length=X.length+1:=hg.2.2.2.2.2.1
 have hxm:X.length≤P.mx:=hg.2.2.2.2.1
 have hmn:=hP.h1
 have hmm:=hP.hm
 have hx255:=hP.hx
 have hKL:(K.map (Gt.L h)).length=X.length+1:=by rw [List.length_map];exact hKl
 replace hs:Pl.Srt OI (Pl.inter X (K.map (Gt.L h))):=hs
 replace hlen:(Pl.inter X (K.map (Gt.L h))).length<4611686018427387904:=hlen
 have hcnt:ncnt=(Pl.inter X (K.map (Gt.L h))).length:=hg.2.2.2.1
 have hsX:Pl.Srt OI X:=hs.sublist (Pl.sublist_inter X _ (by omega))
 have hil:=Pl.inter_length X (K.map (Gt.L h)) hKL
 replace tn:∀b o,(innc (E:=EJ) h (⟨np,niso,ncnt,nib,nio,nic,ncb,nkb,nko,nkc⟩:Ng) (K)) b o→¬(b<cx.base∨hz b):=fun b o hb h=>h.elim (tn b o hb) (ho b o hb)
 have hlt:∀b o,(innc (E:=EJ) h (⟨np,niso,ncnt,nib,nio,nic,ncb,nkb,nko,nkc⟩:Ng) (K)) b o→b<H.size:=fun b o hb=>hn.lt hb
 have hD:∀b,(b<cx.base∨hz b)→b<H.size:=fun b hb=>hb.elim (fun h=>Nat.lt_of_lt_of_le h tc.hb) (fun h=>(hzb b h).2)
 have htl:cx.base≤H.size:=tc.hb
 have hn00:=hn
 have hF:Fr (Gt.af (h+1) (((⟨np,niso,ncnt,nib,nio,nic,ncb,nkb,nko,nkc⟩:Ng),X,K):Gt EJ (h+1))) H H:=Fr.refl _ _
 have hQ:Fr nowhere H H:=Fr.refl _ _
 have hol:((Gt.ps h K).map some).length=K.length:=by rw [List.length_map,Gt.ps,List.length_map]
 have hoi:∀{j k},K[j]?=some k→((Gt.ps h K).map some)[j]?=some (some (Gt.p h k)):=fun hk=>by rw [Gt.ps,List.map_map,List.getElem?_map,hk];rfl
 generalize hos:(Gt.ps h K).map some=os at*
 have sn:Gro H (innc (E:=EJ) h (⟨np,niso,ncnt,nib,nio,nic,ncb,nkb,nko,nkc⟩:Ng) (K)) (innc (E:=EJ) h (⟨np,niso,ncnt,nib,nio,nic,ncb,nkb,nko,nkc⟩:Ng) (K)):=Gro.refl _ _
 have hkd:∀{j k},K[j]?=some k→Gt.Good H P h k∧P.mn≤(Gt.X h k).length∧Pl.Srt OI (Gt.L h k)∧(Gt.L h k).length<4611686018427387904:=fun {j k} hk=>by
  have hkK:=List.mem_of_getElem? hk
  obtain ⟨q1,q2,_⟩:=hn.c.1 k hkK
  have hkL:(K.map (Gt.L h))[j]?=some (Gt.L h k):=by rw [List.getElem?_map,hk];rfl
  have e:=Pl.inter_self hKL hkL
  refine ⟨q1,q2,?_,?_⟩
  ·
   have h9:=hs
   rw [e,Pl.Srt.append,Pl.Srt.append] at h9
   exact h9.1.2.1
  ·
   have h9:=hlen
   rw [e,List.length_append,List.length_append] at h9
   omega
 have hklt:∀{j k},K[j]?=some k→∀b o,Gt.af h k b o→b<H.size:=fun hk b o hb=>hlt b o (.inr (.inr ⟨_,List.mem_of_getElem? hk,hb⟩))
 refine fn_of func86 rfl ntmps86 ?_
 refine (show Go' _ _ _ _ 212 [(0,_),(1,_),(2,_),(3,_),(4,_),(5,_)] [.code _] _ from ?_)
 refine Ut 1 rfl (Ur 3 10 rfl (O.box rfl rfl rfl rfl ?_))
 intro H1 MH1
 refine ⟨trivial,?_⟩
 have hsH1:=MH1.size
 replace hn:=hn.fr (MH1.fr nowhere) (fun _ _ _=>nw)
 replace tc:=tc.fr (MH1.fr nowhere) (fun _ _ _ _=>nw)
 replace hkt:=hkt.fr (MH1.fr nowhere) (fun _ _ _=>nw)
 replace hF:=hF.trans' (MH1.fr nowhere) (fun _ _ _ h=>h) (fun _ _ _ h=>h.elim)
 replace hQ:=hQ.trans (MH1.fr nowhere)
 have mk:Rd H1 H.size 0 (EJ.enc x):=MH1.rd _ [] (by simp [Value.cells])
 refine O.alloc rfl rfl rfl zeroValue27 ?_
 intro H2 MH2
 refine ⟨trivial,?_⟩
 have hsH2:=MH2.size
 replace hn:=hn.fr (MH2.fr nowhere) (fun _ _ _=>nw)
 replace tc:=tc.fr (MH2.fr nowhere) (fun _ _ _ _=>nw)
 replace hkt:=hkt.fr (MH2.fr nowhere) (fun _ _ _=>nw)
 replace hF:=hF.trans' (MH2.fr nowhere) (fun _ _ _ h=>h) (fun _ _ _ h=>h.elim)
 replace mk:=Fr.rd (MH2.fr nowhere) mk (fun _ _=>nw)
 replace hQ:=hQ.trans (MH2.fr nowhere)
 have w8:Wr H2 H1.size 0 2:=MH2.wr 2 (by decide)
 refine Uf 1 [0,1,2,4,5,9,12,13] rfl (Ut 1 rfl ?_)
 have hc0:cl H2 np 0=some (.int .u64 (P.iso:Int)):=by have:=hn.n.c0;simp only [hiso] at this;exact this
 refine Ur 4 32 rfl (Uq 2 rfl (O.callQ rfl rfl rfl call59 rfl (isoLoad_spec true (Fr.keep (MH2.fr nowhere) (Fr.keep (MH1.fr nowhere) hc nw) nw) hc0 tc.iso) trivial (Uf 1 [0,2,4,5,9,12,13,14] rfl (Ut 1 rfl (Ur 1 0 rfl (Uf 1 [0,2,4,5,9,12,13,14,15] rfl (Ut 1 rfl (Ur 1 0 rfl (Uf 1 [0,2,4,5,9,12,13,14,15,16] rfl (Ut 2 rfl (Ur 1 0 rfl ?_)))))))))))
 refine Uf 1 [0,2,4,5,9,12,13,14,15,16,25] rfl ?_
 refine Go'.join (σ:=Nat×Bool) (fun s H'=>Fr (fun b _=>hz b) H2 H'∧HintOk H' hv hz∧Pl.Sel OI mx x X s) (fun s=>[(0,.pointer (some ⟨tr,0,none⟩)),(2,.bool mx),(4,hv),(5,.int .i64 (dp:Int)),(9,.pointer (some ⟨H.size,0,none⟩)),(12,.pointer (some ⟨H1.size,0,none⟩)),(13,.bool false),(14,.pointer (some ⟨np,0,none⟩)),(15,.int .i64 (s.1:Int)),(16,.bool s.2)]) ?_ ?_
 rotate_left
 ·
  intro tail
  cases mx
  ·
   refine Go'.condF rfl (Ur 11 2064 rfl (Us 2 rfl mk rfl (Uq 2 rfl (O.call rfl rfl rfl call60 rfl (find_spec tc x hn.n hsX (by omega) hx1 hkt (fun b o hb hn9=>tn b o (.inl hn9) (.inr hb)) (by omega)) ?_))))
   rintro _ Hs ⟨rfl,hFs,hks⟩
   refine ⟨trivial,?_⟩
   refine Uf 5 [0,2,4,5,9,12,13,14,15,16] rfl (Uk [0,2,4,5,9,12,13,14,15,16] rfl ?_)
   exact tail (Pl.pos OI x X,Pl.fnd OI x X) Hs ⟨hFs,hks,Pl.sel_key OI x X⟩
  ·
   refine Go'.condT rfl (Ur 8 64 rfl (Ul 3 rfl (show cl _ np 2=some (.slice (some ⟨nib,nio,none⟩) X.length nic) from hn.n.c2) (Ub 1 (((X.length-1:Nat):Int)) rfl (by omega) (Uf 2 [0,2,4,5,9,12,13,14,15,16] rfl (Uk [0,2,4,5,9,12,13,14,15,16] rfl ?_)))))
   exact tail (X.length-1,true) H2 ⟨Fr.refl _ _,hkt,Pl.sel_max OI x hx1⟩
 rintro ⟨i,fo⟩ Hj ⟨hFj,hkj,hsel⟩
 simp only
 replace hn:=hn.fr hFj (fun b o hb hz=>tn b o hb (.inr hz))
 replace tc:=tc.fr hFj (fun b o hb _ hz=>(hzb b hz).1 hb)
 replace mk:=Fr.rd hFj mk (fun _ _ hz=>by have:=(hzb _ hz).2;omega)
 replace w8:=Fr.wr hFj w8
 have hsj:=hFj.size
 replace hkt:=hkj
 clear hkj
 obtain ⟨Hb,hsb,hFb,hQb⟩:=hzc.cut (Z:=nowhere) (hQ.trans' hFj (fun _ _ _ h=>h.elim) (fun _ _ _ h=>.inr h))
 replace hbase:=fun v H' (h:DelQH Hb P (h+1) (((⟨np,niso,ncnt,nib,nio,nic,ncb,nkb,nko,nkc⟩:Ng),X,K):Gt EJ (h+1)) mx x hv hz v H')=>hbase v H' (h.rebase hsb hFb)
 replace hn00:=hn00.fr hFb (fun b o hb hz=>tn b o hb (.inr hz))
 replace hkd:=fun {j:Nat} {k:Gt EJ h} (hk:K[j]?=some k)=>(hkd hk).2
 generalize hzs:H.size=zs at*
 clear hzs
 subst hsb
 obtain ⟨H,hHb⟩:∃z,z=Hb:=⟨_,rfl⟩
 subst hHb
 clear hQ hF
 rename Fr nowhere H Hj=>hQ
 have hF:Fr (Gt.af (h+1) (((⟨np,niso,ncnt,nib,nio,nic,ncb,nkb,nko,nkc⟩:Ng),X,K):Gt EJ (h+1))) H Hj:=hQ.mono (fun _ _ _ h=>h.elim)
 have sn:Gro H (innc (E:=EJ) h (⟨np,niso,ncnt,nib,nio,nic,ncb,nkb,nko,nkc⟩:Ng) (K)) (innc (E:=EJ) h (⟨np,niso,ncnt,nib,nio,nic,ncb,nkb,nko,nkc⟩:Ng) (K)):=Gro.refl _ _
 refine Ut 2 rfl (Ur 2 8 rfl (Uq 1 rfl (O.callQ rfl rfl rfl call62 rfl (leaf_spec hn.n.c3) trivial (Uf 0 [0,2,4,5,9,12,13,14,15,16,42] rfl (Go'.condF rfl (Ut 2 rfl (Ur 1 2 rfl (O.alloc rfl rfl rfl zeroValue27 ?_))))))))
 intro H3 MH3
 refine ⟨trivial,?_⟩
 have hsH3:=MH3.size
 replace hn:=hn.fr (MH3.fr nowhere) (fun _ _ _=>nw)
 replace tc:=tc.fr (MH3.fr nowhere) (fun _ _ _ _=>nw)
 replace hkt:=hkt.fr (MH3.fr nowhere) (fun _ _ _=>nw)
 replace hF:=hF.trans' (MH3.fr nowhere) (fun _ _ _ h=>h) (fun _ _ _ h=>h.elim)
 replace mk:=Fr.rd (MH3.fr nowhere) mk (fun _ _=>nw)
 replace w8:=Fr.wr (MH3.fr nowhere) w8
 replace hQ:=hQ.trans (MH3.fr nowhere)
 have w14:Wr H3 Hj.size 0 2:=MH3.wr 2 (by decide)
 obtain ⟨b14,eb14⟩:∃z,z=Hj.size:=⟨_,rfl⟩
 rw [←eb14] at w14 ⊢
 refine Uf 0 [0,2,4,5,9,12,13,14,15,16,18] rfl (Ut 1 rfl (Ur 1 0 rfl (Uf 1 [0,2,4,5,9,12,13,14,15,16,18,19] rfl (Ut 2 rfl (Ur 1 0 rfl (Uf 1 [0,2,4,5,9,12,13,14,15,18,19,106] rfl ?_))))))
 refine Go'.join (σ:=Nat×Option (List (Int×Int)×Gt EJ h×(Int×Int)×List (Int×Int))) (fun s H'=>TrC H' tr P.iso P.mx P.mn∧HintOk H' hv hz∧Wr H' H1.size 0 2∧match s.2 with|none=>(∃Hb:Mem,Hb.size=H.size∧Fr (fun b _=>hz b) H Hb∧Fr nowhere Hb H')∧Pl.dlr OI mx x (Pl.inter X (K.map (Gt.L h)))=none|some (X1,k1,y,L')=>s.1<K.length∧Rd H' b14 0 (EJ.enc y)∧(∀b o,b=H1.size∨b=b14→¬Gt.af h k1 b o)∧Pl.dlr OI mx x (Pl.inter X (K.map (Gt.L h)))=some (y,L')∧∃Hb:Mem,Hb.size=H.size∧Fr (fun b _=>hz b) H Hb∧DMid Hb H' P h (⟨np,niso,ncnt,nib,nio,nic,ncb,nkb,nko,nkc⟩:Ng) X K s.1 X1 k1 L' (SegM OI mx x h X K s.1 X1 k1)) (fun s=>[(0,.pointer (some ⟨tr,0,none⟩)),(12,.pointer (some ⟨H1.size,0,none⟩)),(13,.bool false),(14,.pointer (some ⟨np,0,none⟩)),(15,.int .i64 (s.1:Int)),(18,.pointer (some ⟨b14,0,none⟩)),(19,.bool s.2.isSome)]) ?_ ?_
 rotate_left
 ·
  intro tail
  have hik:i<K.length:=by have:=hsel.2.1;simp only at this;omega
  cases fo
  ·
   refine Go'.condF rfl ?_
   obtain rfl:mx=false:=by
    cases mx with
    | false=>rfl
    | true=>have:=congrArg Prod.snd (hsel.2.2.1 rfl);cases this
   have hsel2:=hsel.2.2.2 rfl
   have hpi:Pl.pos OI x X=i:=(congrArg Prod.fst hsel2).symm
   have hfd:Pl.fnd OI x X=false:=(congrArg Prod.snd hsel2).symm
   obtain ⟨k,hkk⟩:∃k,K[i]?=some k:=⟨K[i]'(by omega),List.getElem?_eq_getElem (by omega)⟩
   have hkK:k∈K:=List.mem_of_getElem? hkk
   obtain ⟨hkmn,hsk,hlk⟩:=hkd hkk
   have hkL:(K.map (Gt.L h))[i]?=some (Gt.L h k):=by rw [List.getElem?_map,hkk];rfl
   refine Ud 20 137976877312 (by kernel_rfl) (Ul 4 rfl (show cl _ np 3=some (.pointer (some ⟨ncb,0,none⟩)) from hn.n.c3) (Ul 1 rfl (show cl _ ncb 0=some (.slice (some ⟨nkb,nko,none⟩) (os).length nkc) from hn.k.c) (Ux 1 i rfl (by omega) (by omega) (Us 1 rfl mk rfl (Ua 2 (((dp+1:Nat):Int)) rfl (by omega) (O.call rfl rfl rfl call86 rfl ((ih (mx:=false) (x:=x) (t:=k) (dp:=dp+1) ⟨tc,(hn.c.1 k hkK).1,hn.k.at (hoi hkk),fun b o hb h9=>tn b o (.inr (.inr ⟨k,hkK,hb⟩)) (.inl h9),hsk,hlk,by omega⟩ hkt (fun b o hb h9=>tn b o (.inr (.inr ⟨k,hkK,hb⟩)) (.inr h9)) (by omega)).mono fun _ _=>DelQH.uni) ?_))))))
   rintro _ Hc ⟨hkc,Hm9,hsm9,hFm9,y,bb,rfl,hfr,hq⟩
   replace hn:=hn.fr hFm9 (fun b o hb hz=>tn b o hb (.inr hz))
   replace tc:=tc.fr hFm9 (fun b o hb _ hz=>(hzb b hz).1 hb)
   replace mk:=Fr.rd hFm9 mk (fun _ _ hz=>by have:=(hzb _ hz).2;omega)
   replace w8:=Fr.wr hFm9 w8
   replace w14:=Fr.wr hFm9 w14
   obtain ⟨Hb,hsb,hFb,hQb⟩:=hzc.cut (Z:=nowhere) (hQ.trans' hFm9 (fun _ _ _ h=>h.elim) (fun _ _ _ h=>.inr h))
   clear hQ hF
   have hQ:=hQb
   have hF:Fr (Gt.af (h+1) (((⟨np,niso,ncnt,nib,nio,nic,ncb,nkb,nko,nkc⟩:Ng),X,K):Gt EJ (h+1))) Hb Hm9:=hQb.mono (fun _ _ _ h=>h.elim)
   replace hkt:=hkc
   clear hkc
   have hsz:H3.size≤Hc.size:=by have:=hfr.size;omega
   replace hn:Inn (E:=EJ) Hc P h (⟨np,niso,ncnt,nib,nio,nic,ncb,nkb,nko,nkc⟩:Ng) (X) (os) (K.take (i)++K.drop (i+1)):=hn.kid hkk hfr
   replace hlt:∀b o,(innc (E:=EJ) h (⟨np,niso,ncnt,nib,nio,nic,ncb,nkb,nko,nkc⟩:Ng) (K.take (i)++K.drop (i+1))) b o→b<H.size:=fun b o hb=>hlt b o (innc_sub (fun m hm=>(kid_sub hkk).subset hm) hb)
   replace tc:=tc.fr hfr (fun b o hb _ hz=>tn b o (.inr (.inr ⟨k,hkK,hz⟩)) (.inl hb.1))
   replace mk:=Fr.rd hfr mk (fun _ _ hz=>by have:=hklt hkk _ _ hz;omega)
   replace w8:=Fr.wr hfr w8
   replace w14:=Fr.wr hfr w14
   replace hF:=hF.trans' hfr (fun _ _ _ h=>h) (fun b o _ hz=>.inr (.inr ⟨k,hkK,hz⟩))
   have hQ3:=hQ
   clear hQ
   refine ⟨trivial,?_⟩
   refine Uq 3 rfl (O.st rfl rfl sizeOf27 rfl rfl rfl rfl rfl w14 ?_)
   intro H4 WH4
   have hsH4:=WH4.size
   replace hn:=hn.fr WH4.fr (fun b o hb=>nr (.inl (by have:=hlt b o hb;omega)))
   replace tc:=tc.fr WH4.fr (fun b o hb _=>nr (.inl (by omega)))
   replace hkt:=hkt.fr WH4.fr (fun b o hb=>nr (.inl (by have:=(hzb b hb).2;omega)))
   replace hF:=hF.trans' WH4.fr (fun _ _ _ h=>h) (fun b o hb h=>by simp only [rng] at h;omega)
   replace mk:=Fr.rd WH4.fr mk (fun _ _=>nr (.inl (by omega)))
   replace w8:=Fr.wr WH4.fr w8
   replace w14:=Fr.wr WH4.fr w14
   have m14:Rd H4 b14 0 (EJ.enc y):=WH4.all
   refine ⟨trivial,?_⟩
   refine Uf 1 [0,12,13,14,15,18,19] rfl (Uk [0,12,13,14,15,18,19] rfl ?_)
   rcases hq with ⟨rfl,hd,hfn⟩|⟨rfl,L1,k1,hd,hT⟩
   · refine tail (i,none) _ ⟨tc,hkt,w8,⟨Hb,hsb,hFb,(hQ3.trans hfn).trans' WH4.fr (fun _ _ _ h=>h) (fun b o hb h=>by simp only [rng] at h;omega)⟩,Pl.dlr_none_child OI hs hKL hfd (by rw [hpi];exact hkL) hd⟩
   ·
    refine tail (i,some (X,k1,y,_)) _ ⟨tc,hkt,w8,hik,m14,(fun b o hb9 hz9=>(hT.a b o hz9).elim (fun h=>by have:=hklt hkk b o h;omega) (fun h=>by omega)),Pl.dlr_child OI hs hKL hfd hpi hkL hd,Hb,hsb,hFb,?_⟩
    have hgk1:=hT.g.fr WH4.fr (fun b o hb=>nr (.inl (by
     rcases hT.a b o hb with h9|h9
     · have:=hklt hkk _ _ h9;omega
     · omega)))
    exact ⟨by rw [hos];exact hn,hgk1,⟨k,hkk,hT.p,fun b o hb=>(hT.a b o hb).imp id (fun h=>by omega)⟩,Nat.le_trans hkmn hT.x,by rw [List.map_append,List.map_append,List.map_take,List.map_drop];simp only [List.map_cons,List.map_nil];rw [hT.l],rfl,hF,SegM.below hs hKl hsX hpi hkk hT.sd⟩
  ·
   refine Go'.condT rfl (Ut 1 rfl (Ur 1 0 rfl (Uf 1 [0,12,13,14,15,18,19,107] rfl ?_)))
   cases mx
   rotate_left
   ·
    have hil1:i+1=X.length:=by have:=congrArg Prod.fst (hsel.2.2.1 rfl);simp only at this;omega
    refine Go'.condT rfl (Ut 1 rfl (Ur 3 0 rfl (Ua 1 (((i+1:Nat):Int)) rfl (by omega) (Uf 1 [0,12,13,14,15,18,19] rfl ?_))))
    obtain ⟨k,hkk⟩:∃k,K[i+1]?=some k:=⟨K[i+1]'(by omega),List.getElem?_eq_getElem (by omega)⟩
    have hkK:k∈K:=List.mem_of_getElem? hkk
    obtain ⟨hkmn,hsk,hlk⟩:=hkd hkk
    have hkL:(K.map (Gt.L h))[i+1]?=some (Gt.L h k):=by rw [List.getElem?_map,hkk];rfl
    refine Ud 19 34510737664 (by kernel_rfl) (Ul 4 rfl (show cl _ np 3=some (.pointer (some ⟨ncb,0,none⟩)) from hn.n.c3) (Ul 1 rfl (show cl _ ncb 0=some (.slice (some ⟨nkb,nko,none⟩) (os).length nkc) from hn.k.c) (Ux 1 (i+1) rfl (by omega) (by omega) (Us 3 rfl tc.emp rfl (O.call rfl rfl rfl call86 rfl ((ih (hv:=.pointer none) (hz:=fun _=>False) (mx:=true) (x:=((0:Int),(0:Int))) (t:=k) (dp:=0) ⟨tc,(hn.c.1 k hkK).1,hn.k.at (hoi hkk),fun b o hb h9=>tn b o (.inr (.inr ⟨k,hkK,hb⟩)) (.inl h9),hsk,hlk,by omega⟩ (.inl ⟨rfl,fun _ h=>h⟩) (fun _ _ _ h=>h) (by omega)).mono fun _ _=>DelQH.uni) ?_)))))
    rintro _ Hc ⟨hkc,Hm9,hsm9,hFm9,y,bb,rfl,hfr,hq⟩
    have hkc9:=(hkt.fr hFm9 (fun _ _ _ h=>h)).fr hfr (fun b o hb h9=>tn b o (.inr (.inr ⟨k,hkK,h9⟩)) (.inr hb))
    replace hkc:=hkc9
    clear hkc9
    replace hFm9:Fr (fun b _=>hz b) H3 Hm9:=hFm9.mono (fun _ _ _ h=>h.elim)
    replace hn:=hn.fr hFm9 (fun b o hb hz=>tn b o hb (.inr hz))
    replace tc:=tc.fr hFm9 (fun b o hb _ hz=>(hzb b hz).1 hb)
    replace mk:=Fr.rd hFm9 mk (fun _ _ hz=>by have:=(hzb _ hz).2;omega)
    replace w8:=Fr.wr hFm9 w8
    replace w14:=Fr.wr hFm9 w14
    obtain ⟨Hb,hsb,hFb,hQb⟩:=hzc.cut (Z:=nowhere) (hQ.trans' hFm9 (fun _ _ _ h=>h.elim) (fun _ _ _ h=>.inr h))
    clear hQ hF
    have hQ:=hQb
    have hF:Fr (Gt.af (h+1) (((⟨np,niso,ncnt,nib,nio,nic,ncb,nkb,nko,nkc⟩:Ng),X,K):Gt EJ (h+1))) Hb Hm9:=hQb.mono (fun _ _ _ h=>h.elim)
    replace hkt:=hkc
    clear hkc
    have hsz:H3.size≤Hc.size:=by have:=hfr.size;omega
    replace hn:Inn (E:=EJ) Hc P h (⟨np,niso,ncnt,nib,nio,nic,ncb,nkb,nko,nkc⟩:Ng) (X) (os) (K.take (i+1)++K.drop (i+1+1)):=hn.kid hkk hfr
    replace hlt:∀b o,(innc (E:=EJ) h (⟨np,niso,ncnt,nib,nio,nic,ncb,nkb,nko,nkc⟩:Ng) (K.take (i+1)++K.drop (i+1+1))) b o→b<H.size:=fun b o hb=>hlt b o (innc_sub (fun m hm=>(kid_sub hkk).subset hm) hb)
    replace tc:=tc.fr hfr (fun b o hb _ hz=>tn b o (.inr (.inr ⟨k,hkK,hz⟩)) (.inl hb.1))
    replace mk:=Fr.rd hfr mk (fun _ _ hz=>by have:=hklt hkk _ _ hz;omega)
    replace w8:=Fr.wr hfr w8
    replace w14:=Fr.wr hfr w14
    replace hF:=hF.trans' hfr (fun _ _ _ h=>h) (fun b o _ hz=>.inr (.inr ⟨k,hkK,hz⟩))
    have hQ3:=hQ
    clear hQ
    refine ⟨trivial,?_⟩
    refine Uq 3 rfl (O.st rfl rfl sizeOf27 rfl rfl rfl rfl rfl w14 ?_)
    intro H5 WH5
    have hsH5:=WH5.size
    replace hn:=hn.fr WH5.fr (fun b o hb=>nr (.inl (by have:=hlt b o hb;omega)))
    replace tc:=tc.fr WH5.fr (fun b o hb _=>nr (.inl (by omega)))
    replace hkt:=hkt.fr WH5.fr (fun b o hb=>nr (.inl (by have:=(hzb b hb).2;omega)))
    replace hF:=hF.trans' WH5.fr (fun _ _ _ h=>h) (fun b o hb h=>by simp only [rng] at h;omega)
    replace mk:=Fr.rd WH5.fr mk (fun _ _=>nr (.inl (by omega)))
    replace w8:=Fr.wr WH5.fr w8
    replace w14:=Fr.wr WH5.fr w14
    have m14:Rd H5 b14 0 (EJ.enc y):=WH5.all
    refine ⟨trivial,?_⟩
    refine Uf 1 [0,12,13,14,15,18,19] rfl (Uk [0,12,13,14,15,18,19] rfl ?_)
    rcases hq with ⟨rfl,hd,hfn⟩|⟨rfl,L1,k1,hd,hT⟩
    · exact (Pl.dlr_max_ne OI ((hn00.c.1 k hkK).1.ne (by omega)) hd).elim
    have hgk1:=hT.g.fr WH5.fr (fun b o hb=>nr (.inl (by
     rcases hT.a b o hb with h9|h9
     · have:=hklt hkk _ _ h9;omega
     · omega)))
    have hLk:=Pl.dlr_max OI hd
    have hkL2:(K.map (Gt.L h))[X.length]?=some (Gt.L h k):=by rw [←hil1];exact hkL
    have hdl:=Pl.del_last hKL hkL2 hLk
    rw [←hil1] at hdl
    refine tail (i+1,some (X,k1,y,_)) _ ⟨tc,hkt,w8,by omega,m14,(fun b o hb9 hz9=>(hT.a b o hz9).elim (fun h=>by have:=hklt hkk b o h;omega) (fun h=>by omega)),Pl.dlr_max' OI hdl,Hb,hsb,hFb,?_⟩
    exact ⟨by rw [hos];exact hn,hgk1,⟨k,hkk,hT.p,fun b o hb=>(hT.a b o hb).imp id (fun h=>by omega)⟩,Nat.le_trans hkmn hT.x,by rw [List.map_append,List.map_append,List.map_take,List.map_drop];simp only [List.map_cons,List.map_nil];rw [hT.l],rfl,hF,fun h9=>Bool.noConfusion h9⟩
   ·
    have hsel2:=hsel.2.2.2 rfl
    have hpi:Pl.pos OI x X=i:=(congrArg Prod.fst hsel2).symm
    have hfd:Pl.fnd OI x X=true:=(congrArg Prod.snd hsel2).symm
    have hil1:i<X.length:=hsel.1 rfl
    obtain ⟨z,hz9⟩:∃z,X[i]?=some z:=⟨X[i],List.getElem?_eq_getElem hil1⟩
    refine Go'.condF rfl (Ut 1 rfl (Ur 8 36928 rfl (Ul 3 rfl (show cl _ np 2=some (.slice (some ⟨nib,nio,none⟩) X.length nic) from hn.n.c2) (Ux 1 i rfl (by omega) (by omega) (Us 0 rfl (hn.n.sl.item hz9) rfl (O.st rfl rfl sizeOf27 rfl rfl rfl rfl rfl w14 ?_))))))
    intro H6 WH6
    have hsH6:=WH6.size
    replace hn:=hn.fr WH6.fr (fun b o hb=>nr (.inl (by have:=hlt b o hb;omega)))
    replace tc:=tc.fr WH6.fr (fun b o hb _=>nr (.inl (by omega)))
    replace hkt:=hkt.fr WH6.fr (fun b o hb=>nr (.inl (by have:=(hzb b hb).2;omega)))
    replace hF:=hF.trans' WH6.fr (fun _ _ _ h=>h) (fun b o hb h=>by simp only [rng] at h;omega)
    replace hQ:=hQ.trans' WH6.fr (fun _ _ _ h=>h) (fun b o hb h=>by simp only [rng] at h;omega)
    replace mk:=Fr.rd WH6.fr mk (fun _ _=>nr (.inl (by omega)))
    replace w8:=Fr.wr WH6.fr w8
    replace w14:=Fr.wr WH6.fr w14
    have m14:Rd H6 b14 0 (EJ.enc z):=WH6.all
    refine ⟨trivial,?_⟩
    refine Uf 0 [0,12,13,14,15,18,19] rfl (Ut 1 rfl ?_)
    obtain ⟨k,hkk⟩:∃k,K[i]?=some k:=⟨K[i]'(by omega),List.getElem?_eq_getElem (by omega)⟩
    have hkK:k∈K:=List.mem_of_getElem? hkk
    obtain ⟨hkmn,hsk,hlk⟩:=hkd hkk
    have hkL:(K.map (Gt.L h))[i]?=some (Gt.L h k):=by rw [List.getElem?_map,hkk];rfl
    refine Go'.draw2s (σ:=(Int×Int)×Bool×Gt EJ h×List (Int×Int)×Nat) (fun H'=>cl H' np 3=some (.pointer (some ⟨ncb,0,none⟩))∧cl H' ncb 0=some (.slice (some ⟨nkb,nko,none⟩) (os).length nkc)∧Rd H' tr 7 (EJ.enc ((0:Int),(0:Int)))) (fun s Hn=>TrC Hn tr P.iso P.mx P.mn∧HintOk Hn hv hz∧Wr Hn H1.size 0 2∧Rd Hn b14 0 (EJ.enc z)∧Rd Hn s.2.2.2.2 0 (EJ.enc s.1)∧H.size≤s.2.2.2.2∧Inn (E:=EJ) Hn P h (⟨np,niso,ncnt,nib,nio,nic,ncb,nkb,nko,nkc⟩:Ng) (X) (os) (K.take i++K.drop (i+1))∧(∃Hb:Mem,Hb.size=H.size∧Fr (fun b _=>hz b) H Hb∧Fr (Gt.af (h+1) (((⟨np,niso,ncnt,nib,nio,nic,ncb,nkb,nko,nkc⟩:Ng),X,K):Gt EJ (h+1))) Hb Hn)∧H6.size≤Hn.size∧Gt.Good Hn P h s.2.2.1∧Gt.p h s.2.2.1=Gt.p h k∧Gro H (Gt.af h k) (Gt.af h s.2.2.1)∧P.mn≤(Gt.X h s.2.2.1).length+1∧Gt.L h k=Gt.L h s.2.2.1++[s.1]∧(∀b o,b=H1.size∨b=b14→¬Gt.af h s.2.2.1 b o)) (fun s=>[(0,.pointer (some ⟨tr,0,none⟩)),(12,.pointer (some ⟨H1.size,0,none⟩)),(13,.bool false),(14,.pointer (some ⟨np,0,none⟩)),(15,.int .i64 (i:Int)),(18,.pointer (some ⟨b14,0,none⟩)),(20,.pointer (some ⟨s.2.2.2.2,0,none⟩))]) 13 17 [(0,0),(1,0),(2,0),(3,0),(4,0),(5,0),(6,0),(7,0),(8,0),(9,0),(10,0),(11,0),(12,0),(13,2),(14,0),(15,0),(16,0),(17,2),(18,2),(19,0)] [(0,0),(1,0),(2,0),(3,0),(4,0),(5,0),(6,0),(7,0),(8,0),(9,0),(10,0),(11,0),(12,0),(17,2),(13,2),(14,0),(15,0),(16,0),(18,2),(19,0)] (by kernel_rfl) (by kernel_rfl) (⟨(show cl _ np 3=some (.pointer (some ⟨ncb,0,none⟩)) from hn.n.c3),(show cl _ ncb 0=some (.slice (some ⟨nkb,nko,none⟩) (os).length nkc) from hn.k.c),tc.emp⟩) ?_ ?_ ?_
    ·
     intro _ _ _ hj
     refine UL 4 rfl (fun _ h=>h.1) (UL 1 rfl (fun _ h=>h.2.1) (Ux 1 i rfl (by omega) (by omega) (US 3 rfl (fun _ h=>h.2.2) rfl (O.call rfl rfl rfl call86 rfl ((ih (hv:=.pointer none) (hz:=fun _=>False) (mx:=true) (x:=((0:Int),(0:Int))) (t:=k) (dp:=0) ⟨tc,(hn.c.1 k hkK).1,hn.k.at (hoi hkk),fun b o hb h9=>tn b o (.inr (.inr ⟨k,hkK,hb⟩)) (.inl h9),hsk,hlk,by omega⟩ (.inl ⟨rfl,fun _ h=>h⟩) (fun _ _ _ h=>h) (by omega)).mono fun _ _=>DelQH.uni) ?_))))
     rintro _ Hc ⟨hkc,Hm9,hsm9,hFm9,y,bb,rfl,hfr,hq⟩
     have hkc9:=(hkt.fr hFm9 (fun _ _ _ h=>h)).fr hfr (fun b o hb h9=>tn b o (.inr (.inr ⟨k,hkK,h9⟩)) (.inr hb))
     replace hkc:=hkc9
     clear hkc9
     replace hFm9:Fr (fun b _=>hz b) H6 Hm9:=hFm9.mono (fun _ _ _ h=>h.elim)
     replace hn:=hn.fr hFm9 (fun b o hb hz=>tn b o hb (.inr hz))
     replace tc:=tc.fr hFm9 (fun b o hb _ hz=>(hzb b hz).1 hb)
     replace mk:=Fr.rd hFm9 mk (fun _ _ hz=>by have:=(hzb _ hz).2;omega)
     replace w8:=Fr.wr hFm9 w8
     replace w14:=Fr.wr hFm9 w14
     replace m14:=Fr.rd hFm9 m14 (fun _ _ hz=>by have:=(hzb _ hz).2;omega)
     obtain ⟨Hb,hsb,hFb,hQb⟩:=hzc.cut (Z:=nowhere) (hQ.trans' hFm9 (fun _ _ _ h=>h.elim) (fun _ _ _ h=>.inr h))
     clear hQ hF
     have hQ:=hQb
     have hF:Fr (Gt.af (h+1) (((⟨np,niso,ncnt,nib,nio,nic,ncb,nkb,nko,nkc⟩:Ng),X,K):Gt EJ (h+1))) Hb Hm9:=hQb.mono (fun _ _ _ h=>h.elim)
     replace hkt:=hkc
     clear hkc
     have hsz:H6.size≤Hc.size:=by have:=hfr.size;omega
     replace hn:Inn (E:=EJ) Hc P h (⟨np,niso,ncnt,nib,nio,nic,ncb,nkb,nko,nkc⟩:Ng) (X) (os) (K.take (i)++K.drop (i+1)):=hn.kid hkk hfr
     replace hlt:∀b o,(innc (E:=EJ) h (⟨np,niso,ncnt,nib,nio,nic,ncb,nkb,nko,nkc⟩:Ng) (K.take (i)++K.drop (i+1))) b o→b<H.size:=fun b o hb=>hlt b o (innc_sub (fun m hm=>(kid_sub hkk).subset hm) hb)
     replace tc:=tc.fr hfr (fun b o hb _ hz=>tn b o (.inr (.inr ⟨k,hkK,hz⟩)) (.inl hb.1))
     replace mk:=Fr.rd hfr mk (fun _ _ hz=>by have:=hklt hkk _ _ hz;omega)
     replace w8:=Fr.wr hfr w8
     replace w14:=Fr.wr hfr w14
     replace m14:=Fr.rd hfr m14 (fun _ _ hz=>by have:=hklt hkk _ _ hz;omega)
     replace hF:=hF.trans' hfr (fun _ _ _ h=>h) (fun b o _ hz=>.inr (.inr ⟨k,hkK,hz⟩))
     have hQ3:=hQ
     clear hQ
     refine ⟨⟨(show cl _ np 3=some (.pointer (some ⟨ncb,0,none⟩)) from hn.n.c3),(show cl _ ncb 0=some (.slice (some ⟨nkb,nko,none⟩) (os).length nkc) from hn.k.c),tc.emp⟩,?_⟩
     refine Uq 3 rfl (O.alloc rfl rfl rfl zeroValue27 ?_)
     intro H7 MH7
     have hsH7:=MH7.size
     replace hn:=hn.fr (MH7.fr nowhere) (fun _ _ _=>nw)
     replace tc:=tc.fr (MH7.fr nowhere) (fun _ _ _ _=>nw)
     replace hkt:=hkt.fr (MH7.fr nowhere) (fun _ _ _=>nw)
     replace hF:=hF.trans' (MH7.fr nowhere) (fun _ _ _ h=>h) (fun _ _ _ h=>h.elim)
     replace mk:=Fr.rd (MH7.fr nowhere) mk (fun _ _=>nw)
     replace w8:=Fr.wr (MH7.fr nowhere) w8
     replace w14:=Fr.wr (MH7.fr nowhere) w14
     replace m14:=Fr.rd (MH7.fr nowhere) m14 (fun _ _=>nw)
     have w16:Wr H7 Hc.size 0 2:=MH7.wr 2 (by decide)
     refine ⟨⟨(show cl _ np 3=some (.pointer (some ⟨ncb,0,none⟩)) from hn.n.c3),(show cl _ ncb 0=some (.slice (some ⟨nkb,nko,none⟩) (os).length nkc) from hn.k.c),tc.emp⟩,?_⟩
     refine O.st rfl rfl sizeOf27 rfl rfl rfl rfl rfl w16 ?_
     intro H8 WH8
     have hsH8:=WH8.size
     replace hn:=hn.fr WH8.fr (fun b o hb=>nr (.inl (by have:=hlt b o hb;omega)))
     replace tc:=tc.fr WH8.fr (fun b o hb _=>nr (.inl (by omega)))
     replace hkt:=hkt.fr WH8.fr (fun b o hb=>nr (.inl (by have:=(hzb b hb).2;omega)))
     replace hF:=hF.trans' WH8.fr (fun _ _ _ h=>h) (fun b o hb h=>by simp only [rng] at h;omega)
     replace mk:=Fr.rd WH8.fr mk (fun _ _=>nr (.inl (by omega)))
     replace w8:=Fr.wr WH8.fr w8
     replace w14:=Fr.wr WH8.fr w14
     replace m14:=Fr.rd WH8.fr m14 (fun _ _=>nr (.inl (by omega)))
     replace w16:=Fr.wr WH8.fr w16
     have m16:Rd H8 Hc.size 0 (EJ.enc y):=WH8.all
     rcases hq with ⟨rfl,hd,hfn⟩|⟨rfl,L1,k1,hd,hT⟩
     · exact (Pl.dlr_max_ne OI ((hn00.c.1 k hkK).1.ne (by omega)) hd).elim
     refine ⟨⟨(show cl _ np 3=some (.pointer (some ⟨ncb,0,none⟩)) from hn.n.c3),(show cl _ ncb 0=some (.slice (some ⟨nkb,nko,none⟩) (os).length nkc) from hn.k.c),tc.emp⟩,?_⟩
     refine Uq 1 rfl ?_
     refine Pl.fin [(0,_),(12,_),(13,_),(14,_),(15,_),(18,_),(20,_)] ⟨rfl,rfl,rfl,rfl,rfl,rfl,rfl,trivial⟩ (hj (y,true,k1,[],Hc.size) _ ?_)
     have hLk:=Pl.dlr_max OI hd
     have hafk:∀b o,Gt.af h k1 b o→Gt.af h k b o∨H6.size≤b:=fun b o hb=>(hT.a b o hb).imp id (fun h=>by omega)
     have hgk0:Gt.Good H7 P h k1:=hT.g.fr (MH7.fr nowhere) (fun _ _ _=>nw)
     have hgk1:=hgk0.fr WH8.fr (fun b o hb=>nr (.inl (by
      have h7:=hT.g.lt hb
      rcases hT.a b o hb with h9|h9
      · have:=hklt hkk _ _ h9;omega
      · omega)))
     exact ⟨tc,hkt,w8,m14,m16,(show H.size≤Hc.size by omega),hn,⟨Hb,hsb,hFb,hF⟩,by omega,hgk1,hT.p,fun b o hb=>(hafk b o hb).imp id (fun h=>by omega),Nat.le_trans hkmn hT.x,by rw [hT.l];exact hLk,(fun b o hb9 hz9=>(hT.a b o hz9).elim (fun h=>by have:=hklt hkk b o h;omega) (fun h=>by omega))⟩
    ·
     intro _ _ _ hj
     refine UL 4 rfl (fun _ h=>h.1) (UL 1 rfl (fun _ h=>h.2.1) (Ux 1 i rfl (by omega) (by omega) (US 3 rfl (fun _ h=>h.2.2) rfl (O.alloc rfl rfl rfl zeroValue27 ?_))))
     intro H9 MH9
     have hsH9:=MH9.size
     replace hn:=hn.fr (MH9.fr nowhere) (fun _ _ _=>nw)
     replace tc:=tc.fr (MH9.fr nowhere) (fun _ _ _ _=>nw)
     replace hkt:=hkt.fr (MH9.fr nowhere) (fun _ _ _=>nw)
     replace hF:=hF.trans' (MH9.fr nowhere) (fun _ _ _ h=>h) (fun _ _ _ h=>h.elim)
     replace mk:=Fr.rd (MH9.fr nowhere) mk (fun _ _=>nw)
     replace w8:=Fr.wr (MH9.fr nowhere) w8
     replace w14:=Fr.wr (MH9.fr nowhere) w14
     replace m14:=Fr.rd (MH9.fr nowhere) m14 (fun _ _=>nw)
     replace hQ:=hQ.trans (MH9.fr nowhere)
     have w16:Wr H9 H6.size 0 2:=MH9.wr 2 (by decide)
     refine ⟨⟨(show cl _ np 3=some (.pointer (some ⟨ncb,0,none⟩)) from hn.n.c3),(show cl _ ncb 0=some (.slice (some ⟨nkb,nko,none⟩) (os).length nkc) from hn.k.c),tc.emp⟩,?_⟩
     refine O.call rfl rfl rfl call86 rfl ((ih (hv:=.pointer none) (hz:=fun _=>False) (mx:=true) (x:=((0:Int),(0:Int))) (t:=k) (dp:=0) ⟨tc,(hn.c.1 k hkK).1,hn.k.at (hoi hkk),fun b o hb h9=>tn b o (.inr (.inr ⟨k,hkK,hb⟩)) (.inl h9),hsk,hlk,by omega⟩ (.inl ⟨rfl,fun _ h=>h⟩) (fun _ _ _ h=>h) (by omega)).mono fun _ _=>DelQH.uni) ?_
     rintro _ Hc ⟨hkc,Hm9,hsm9,hFm9,y,bb,rfl,hfr,hq⟩
     have hkc9:=(hkt.fr hFm9 (fun _ _ _ h=>h)).fr hfr (fun b o hb h9=>tn b o (.inr (.inr ⟨k,hkK,h9⟩)) (.inr hb))
     replace hkc:=hkc9
     clear hkc9
     replace hFm9:Fr (fun b _=>hz b) H9 Hm9:=hFm9.mono (fun _ _ _ h=>h.elim)
     replace hn:=hn.fr hFm9 (fun b o hb hz=>tn b o hb (.inr hz))
     replace tc:=tc.fr hFm9 (fun b o hb _ hz=>(hzb b hz).1 hb)
     replace mk:=Fr.rd hFm9 mk (fun _ _ hz=>by have:=(hzb _ hz).2;omega)
     replace w8:=Fr.wr hFm9 w8
     replace w14:=Fr.wr hFm9 w14
     replace m14:=Fr.rd hFm9 m14 (fun _ _ hz=>by have:=(hzb _ hz).2;omega)
     replace w16:=Fr.wr hFm9 w16
     obtain ⟨Hb,hsb,hFb,hQb⟩:=hzc.cut (Z:=nowhere) (hQ.trans' hFm9 (fun _ _ _ h=>h.elim) (fun _ _ _ h=>.inr h))
     clear hQ hF
     have hQ:=hQb
     have hF:Fr (Gt.af (h+1) (((⟨np,niso,ncnt,nib,nio,nic,ncb,nkb,nko,nkc⟩:Ng),X,K):Gt EJ (h+1))) Hb Hm9:=hQb.mono (fun _ _ _ h=>h.elim)
     replace hkt:=hkc
     clear hkc
     have hsz:H9.size≤Hc.size:=by have:=hfr.size;omega
     replace hn:Inn (E:=EJ) Hc P h (⟨np,niso,ncnt,nib,nio,nic,ncb,nkb,nko,nkc⟩:Ng) (X) (os) (K.take (i)++K.drop (i+1)):=hn.kid hkk hfr
     replace hlt:∀b o,(innc (E:=EJ) h (⟨np,niso,ncnt,nib,nio,nic,ncb,nkb,nko,nkc⟩:Ng) (K.take (i)++K.drop (i+1))) b o→b<H.size:=fun b o hb=>hlt b o (innc_sub (fun m hm=>(kid_sub hkk).subset hm) hb)
     replace tc:=tc.fr hfr (fun b o hb _ hz=>tn b o (.inr (.inr ⟨k,hkK,hz⟩)) (.inl hb.1))
     replace mk:=Fr.rd hfr mk (fun _ _ hz=>by have:=hklt hkk _ _ hz;omega)
     replace w8:=Fr.wr hfr w8
     replace w14:=Fr.wr hfr w14
     replace m14:=Fr.rd hfr m14 (fun _ _ hz=>by have:=hklt hkk _ _ hz;omega)
     replace w16:=Fr.wr hfr w16
     replace hF:=hF.trans' hfr (fun _ _ _ h=>h) (fun b o _ hz=>.inr (.inr ⟨k,hkK,hz⟩))
     have hQ3:=hQ
     clear hQ
     refine ⟨⟨(show cl _ np 3=some (.pointer (some ⟨ncb,0,none⟩)) from hn.n.c3),(show cl _ ncb 0=some (.slice (some ⟨nkb,nko,none⟩) (os).length nkc) from hn.k.c),tc.emp⟩,?_⟩
     refine Uq 3 rfl (O.st rfl rfl sizeOf27 rfl rfl rfl rfl rfl w16 ?_)
     intro H10 WH10
     have hsH10:=WH10.size
     replace hn:=hn.fr WH10.fr (fun b o hb=>nr (.inl (by have:=hlt b o hb;omega)))
     replace tc:=tc.fr WH10.fr (fun b o hb _=>nr (.inl (by omega)))
     replace hkt:=hkt.fr WH10.fr (fun b o hb=>nr (.inl (by have:=(hzb b hb).2;omega)))
     replace hF:=hF.trans' WH10.fr (fun _ _ _ h=>h) (fun b o hb h=>by simp only [rng] at h;omega)
     replace mk:=Fr.rd WH10.fr mk (fun _ _=>nr (.inl (by omega)))
     replace w8:=Fr.wr WH10.fr w8
     replace w14:=Fr.wr WH10.fr w14
     replace m14:=Fr.rd WH10.fr m14 (fun _ _=>nr (.inl (by omega)))
     replace w16:=Fr.wr WH10.fr w16
     have m16:Rd H10 H6.size 0 (EJ.enc y):=WH10.all
     rcases hq with ⟨rfl,hd,hfn⟩|⟨rfl,L1,k1,hd,hT⟩
     · exact (Pl.dlr_max_ne OI ((hn00.c.1 k hkK).1.ne (by omega)) hd).elim
     refine ⟨⟨(show cl _ np 3=some (.pointer (some ⟨ncb,0,none⟩)) from hn.n.c3),(show cl _ ncb 0=some (.slice (some ⟨nkb,nko,none⟩) (os).length nkc) from hn.k.c),tc.emp⟩,?_⟩
     refine Uq 1 rfl ?_
     refine Pl.fin [(0,_),(12,_),(13,_),(14,_),(15,_),(18,_),(20,_)] ⟨rfl,rfl,rfl,rfl,rfl,rfl,rfl,trivial⟩ (hj (y,true,k1,[],H6.size) _ ?_)
     have hLk:=Pl.dlr_max OI hd
     have hafk:∀b o,Gt.af h k1 b o→Gt.af h k b o∨H6.size≤b:=fun b o hb=>(hT.a b o hb).imp id (fun h=>by omega)
     have hgk0:Gt.Good Hc P h k1:=hT.g
     have hgk1:=hgk0.fr WH10.fr (fun b o hb=>nr (.inl (by
      have h7:=hT.g.lt hb
      rcases hT.a b o hb with h9|h9
      · have:=hklt hkk _ _ h9;omega
      · omega)))
     exact ⟨tc,hkt,w8,m14,m16,(show H.size≤H6.size by omega),hn,⟨Hb,hsb,hFb,hF⟩,by omega,hgk1,hT.p,fun b o hb=>(hafk b o hb).imp id (fun h=>by omega),Nat.le_trans hkmn hT.x,by rw [hT.l];exact hLk,(fun b o hb9 hz9=>(hT.a b o hz9).elim (fun h=>by have:=hklt hkk b o h;omega) (fun h=>by omega))⟩
    clear m14
    rintro ⟨y,_,k1,_,b16⟩ Hn ⟨tc,hkt,w8,m14,m16,hb16,hn,⟨Hb,hsb,hFb,hF⟩,hsn,hgk,hpk,hak,hmk,hLk,hnew⟩
    simp only at m16 hb16 hgk hpk hak hmk hLk hnew
    refine Ut 1 rfl ?_
    clear hQ
    replace hak:Gro Hb (Gt.af h k) (Gt.af h k1):=fun b o hb=>(hak b o hb).imp id (fun h=>by omega)
    replace hlt:∀b o,(innc (E:=EJ) h (⟨np,niso,ncnt,nib,nio,nic,ncb,nkb,nko,nkc⟩:Ng) (K.take i++K.drop (i+1))) b o→b<H.size:=fun b o hb=>hlt b o (innc_sub (fun m hm=>(kid_sub hkk).subset hm) hb)
    replace sn:Gro Hb (Gt.af (h+1) (((⟨np,niso,ncnt,nib,nio,nic,ncb,nkb,nko,nkc⟩:Ng),X,K):Gt EJ (h+1))) (innc (E:=EJ) h (⟨np,niso,ncnt,nib,nio,nic,ncb,nkb,nko,nkc⟩:Ng) (K.take i++K.drop (i+1))):=fun b o hb=>.inl (innc_sub (K:=K) (fun m hm=>(kid_sub hkk).subset hm) hb)
    replace tn:∀b o,(innc (E:=EJ) h (⟨np,niso,ncnt,nib,nio,nic,ncb,nkb,nko,nkc⟩:Ng) (K.take i++K.drop (i+1))) b o→¬(b<cx.base∨hz b):=fun b o hb=>tn b o (innc_sub (fun m hm=>(kid_sub hkk).subset hm) hb)
    refine Ur 1 0 rfl (Uf 1 [0,12,13,14,15,18,19,20] rfl ?_)
    have dkn:Off (Gt.af h k1) (innc (E:=EJ) h (⟨np,niso,ncnt,nib,nio,nic,ncb,nkb,nko,nkc⟩:Ng) (K.take i++K.drop (i+1))):=(Gro.off hak (kid_off hn00 hkk).symm (fun b o hb=>by have:=hn00.lt (innc_sub (fun m hm=>(kid_sub hkk).subset hm) hb);omega)).symm
    refine Ud 8 50240 (by kernel_rfl) (Ul 3 rfl (show cl _ np 2=some (.slice (some ⟨nib,nio,none⟩) X.length nic) from hn.n.c2) (Us 1 rfl m16 rfl (Ux 0 i rfl (by omega) (by omega) (O.st3 rfl rfl sizeOf27 rfl rfl rfl rfl rfl (hn.n.sl.wri (i:=i) (by omega)) ?_))))
    intro H11 WH11
    have fW:Fr (innc (E:=EJ) h (⟨np,niso,ncnt,nib,nio,nic,ncb,nkb,nko,nkc⟩:Ng) (K.take i++K.drop (i+1))) Hn H11:=(NodeM.fSet hn.n (i:=i) (x:=y) WH11 (by omega)).inN
    replace hgk:=hgk.fr fW (dkn)
    replace tc:=tc.fr fW (fun b o hb _ hz=>tn b o hz (.inl hb.1))
    replace hkt:=hkt.fr fW (fun b o hb hz9=>tn b o hz9 (.inr hb))
    replace hF:=Fr.tot hF fW sn (fun _ _ h=>h)
    replace w8:=Fr.wr fW w8
    replace m14:=Fr.rd fW m14 (fun _ _ hz=>by have:=hlt _ _ hz;omega)
    replace m16:=Fr.rd fW m16 (fun _ _ hz=>by have:=hlt _ _ hz;omega)
    obtain ⟨nX1,enX1,hn⟩:∃X1,X1=X.take (i)++y::X.drop (i+1)∧Inn (E:=EJ) H11 P h (⟨np,niso,ncnt,nib,nio,nic,ncb,nkb,nko,nkc⟩:Ng) (X1) (os) (K.take i++K.drop (i+1)):=⟨_,rfl,hn.set (i:=i) (x:=y) WH11 (by omega)⟩
    have lnX1:nX1.length=X.length:=by rw [enX1];simp only [List.length_append,List.length_take,List.length_cons,List.length_drop];omega
    clear fW
    refine Uf 0 [0,12,13,14,15,18,19] rfl (Uk [0,12,13,14,15,18,19] rfl ?_)
    obtain ⟨z',hz',hzx,hxz⟩:=Pl.fnd_at OI hsX hfd
    rw [hpi] at hz'
    obtain rfl:z'=z:=Option.some.inj (hz'.symm.trans hz9)
    refine tail (i,some (nX1,k1,z',_)) _ ⟨tc,hkt,w8,hik,m14,hnew,Pl.dlr_found OI hs hKL hfd hpi hkL hz9 hLk,Hb,hsb,hFb,⟨by rw [hos];exact hn,hgk,⟨k,hkk,hpk,hak⟩,hmk,?_,(by omega),hF,SegM.here hs hKl hsX hpi hkk hz9 hzx hxz hLk hgk enX1⟩⟩
    rw [enX1,List.map_append,List.map_append,List.map_take,List.map_drop]
    rfl
 rintro ⟨i1,so⟩ Hm ⟨tc,hkt9,w8,hso⟩
 replace hkt:=hkt9
 clear hkt9
 simp only at hso ⊢
 refine Ut 2 rfl ?_
 clear hn hsel
 rcases so with _|⟨X1,k1,y,L1⟩
 ·
  obtain ⟨⟨Hb,hsb,hFb,hQ9⟩,hd⟩:=hso
  replace hbase:=fun v H' (h:DelQH Hb P (h+1) (((⟨np,niso,ncnt,nib,nio,nic,ncb,nkb,nko,nkc⟩:Ng),X,K):Gt EJ (h+1)) mx x hv hz v H')=>hbase v H' (h.rebase hsb hFb)
  replace hQ:=hQ9
  clear hQ9 hF
  generalize hzs:H.size=zs at*
  clear hzs
  subst hsb
  obtain ⟨H,hHb⟩:∃z,z=Hb:=⟨_,rfl⟩
  subst hHb
  refine Ur 2 0 rfl (Uf 2 [0,12,13,14,15,18,177] rfl (Go'.condT rfl (Ut 1 rfl (Ur 6 576 rfl (Us 3 rfl tc.emp rfl (O.st rfl rfl sizeOf27 rfl rfl rfl rfl rfl w8 ?_))))))
  intro H9 W9
  replace hkt:=hkt.fr W9.fr (fun b o hb=>nr (.inl (by have:=(hzb b hb).2;omega)))
  replace hQ:=hQ.trans' W9.fr (fun _ _ _ h=>h) (fun b o hb h=>by simp only [rng] at h;omega)
  have m8:Rd H9 H1.size 0 (EJ.enc ((0:Int),(0:Int))):=W9.all
  refine ⟨trivial,?_⟩
  refine Uf 1 [0,12,13,14,15,18] rfl (Go'.ret (vs:=[_,_]) func86 results86 ⟨⟨_,_,rfl,fun _ _=>run_loadVar_agg (fun w=>⟨isAgg27 w,sizeOf27 w⟩) rfl m8⟩,rfl,trivial⟩ ?_)
  refine hbase _ _ ⟨hkt,H,rfl,Fr.refl _ _,?_⟩
  unfold DelQ
  rw [show Pl.dlr OI mx x (Gt.L (h+1) (((⟨np,niso,ncnt,nib,nio,nic,ncb,nkb,nko,nkc⟩:Ng),X,K):Gt EJ (h+1)))=none from hd]
  exact ⟨rfl,hQ⟩
 ·
  obtain ⟨hi1,m14,hnew,hd,Hb,hsb,hFb,dm⟩:=hso
  replace hbase:=fun v H' (h:DelQH Hb P (h+1) (((⟨np,niso,ncnt,nib,nio,nic,ncb,nkb,nko,nkc⟩:Ng),X,K):Gt EJ (h+1)) mx x hv hz v H')=>hbase v H' (h.rebase hsb hFb)
  clear hF hQ
  replace hn00:=hn00.fr hFb (fun b o hb hz=>tn b o hb (.inr hz))
  generalize hzs:H.size=zs at*
  clear hzs
  subst hsb
  obtain ⟨H,hHb⟩:∃z,z=Hb:=⟨_,rfl⟩
  subst hHb
  have hQ:=trivial
  have hn:=dm.n
  have hk:=dm.k
  have hF:=dm.fr
  have hsz:H.size≤Hm.size:=hF.size
  have hdl:=Pl.dlr_len OI hd
  have hlen1:=dm.len
  have dkn:Off (Gt.af h k1) (innc (E:=EJ) h (⟨np,niso,ncnt,nib,nio,nic,ncb,nkb,nko,nkc⟩:Ng) (K.take i1++K.drop (i1+1))):=dm.off hn00
  obtain ⟨k,hkk,hpk,hak⟩:=dm.p
  have hkK:k∈K:=List.mem_of_getElem? hkk
  have hok:os[i1]?=some (some (Gt.p h k1)):=by rw [hpk];exact hoi hkk
  replace hlt:∀b o,(innc (E:=EJ) h (⟨np,niso,ncnt,nib,nio,nic,ncb,nkb,nko,nkc⟩:Ng) (K.take i1++K.drop (i1+1))) b o→b<H.size:=fun b o hb=>hlt b o (innc_sub (fun m hm=>(kid_sub hkk).subset hm) hb)
  replace sn:Gro H (Gt.af (h+1) (((⟨np,niso,ncnt,nib,nio,nic,ncb,nkb,nko,nkc⟩:Ng),X,K):Gt EJ (h+1))) (innc (E:=EJ) h (⟨np,niso,ncnt,nib,nio,nic,ncb,nkb,nko,nkc⟩:Ng) (K.take i1++K.drop (i1+1))):=fun b o hb=>.inl (innc_sub (K:=K) (fun m hm=>(kid_sub hkk).subset hm) hb)
  have tnk:∀b o,Gt.af h k1 b o→¬(b<cx.base∨hz b):=Gro.offD hak (fun b o hb=>tn b o (.inr (.inr ⟨k,hkK,hb⟩))) hD
  have tn0:=tn
  replace tn:∀b o,(innc (E:=EJ) h (⟨np,niso,ncnt,nib,nio,nic,ncb,nkb,nko,nkc⟩:Ng) (K.take i1++K.drop (i1+1))) b o→¬(b<cx.base∨hz b):=fun b o hb=>tn b o (innc_sub (fun m hm=>(kid_sub hkk).subset hm) hb)
  rw [hos] at hn
  have gall:Gro H (Gt.af (h+1) (((⟨np,niso,ncnt,nib,nio,nic,ncb,nkb,nko,nkc⟩:Ng),X,K):Gt EJ (h+1))) (fun b o=>(innc (E:=EJ) h (⟨np,niso,ncnt,nib,nio,nic,ncb,nkb,nko,nkc⟩:Ng) (K.take i1++K.drop (i1+1))) b o∨Gt.af h k1 b o):=dm.gro
  have hpk2:os=(Gt.ps h (K.take i1++[k1]++K.drop (i1+1))).map some:=by rw [←hos];exact dm.pk
  have hxl:=hn.n.sl.hle
  clear hQ
  refine Ur 2 0 rfl (Uf 2 [0,12,13,14,15,18,177] rfl (Go'.condF rfl (Ut 2 rfl (Ur 8 32832 rfl (Ul 3 rfl (show cl _ np 1=some (.int .i64 (ncnt:Int)) from hn.n.c1) (Ub 0 (((ncnt-1:Nat):Int)) rfl (by omega) (Uq 2 rfl (O.st rfl rfl sizeOf3 rfl rfl rfl rfl rfl (hn.n.wr.at0 1 1 (by omega)) ?_))))))))
  intro H12 WH12
  have fW:Fr (innc (E:=EJ) h (⟨np,niso,ncnt,nib,nio,nic,ncb,nkb,nko,nkc⟩:Ng) (K.take i1++K.drop (i1+1))) Hm H12:=(Wrote.fHdr (E:=EJ) (g:=(⟨np,niso,ncnt,nib,nio,nic,ncb,nkb,nko,nkc⟩:Ng)) WH12 (by omega)).inN
  replace hk:=hk.fr fW (dkn)
  replace tc:=tc.fr fW (fun b o hb _ hz=>tn b o hz (.inl hb.1))
  replace hkt:=hkt.fr fW (fun b o hb hz9=>tn b o hz9 (.inr hb))
  replace hF:=Fr.tot hF fW sn (fun _ _ h=>h)
  replace w8:=Fr.wr fW w8
  replace m14:=Fr.rd fW m14 (fun _ _ hz=>by have:=hlt _ _ hz;omega)
  obtain ⟨ncnt_12,encnt_12⟩:∃z,z=ncnt-1:=⟨_,rfl⟩
  rw [←encnt_12] at WH12
  replace hn:Inn (E:=EJ) H12 P h (⟨np,niso,ncnt_12,nib,nio,nic,ncb,nkb,nko,nkc⟩:Ng) (X1) (os) (K.take i1++K.drop (i1+1)):=hn.count WH12
  clear fW
  refine ⟨trivial,?_⟩
  refine Uf 0 [0,12,13,14,15,18] rfl (Ut 2 rfl ?_)
  replace tn:∀b o,(innc (E:=EJ) h (⟨np,niso,ncnt_12,nib,nio,nic,ncb,nkb,nko,nkc⟩:Ng) (K.take i1++K.drop (i1+1))) b o→¬(b<cx.base∨hz b):=tn
  replace hlt:∀b o,(innc (E:=EJ) h (⟨np,niso,ncnt_12,nib,nio,nic,ncb,nkb,nko,nkc⟩:Ng) (K.take i1++K.drop (i1+1))) b o→b<H.size:=hlt
  replace dkn:Off (Gt.af h k1) (innc (E:=EJ) h (⟨np,niso,ncnt_12,nib,nio,nic,ncb,nkb,nko,nkc⟩:Ng) (K.take i1++K.drop (i1+1))):=dkn
  replace gall:Gro H (Gt.af (h+1) (((⟨np,niso,ncnt,nib,nio,nic,ncb,nkb,nko,nkc⟩:Ng),X,K):Gt EJ (h+1))) (fun b o=>(innc (E:=EJ) h (⟨np,niso,ncnt_12,nib,nio,nic,ncb,nkb,nko,nkc⟩:Ng) (K.take i1++K.drop (i1+1))) b o∨Gt.af h k1 b o):=gall
  clear sn
  obtain ⟨kp,hkn⟩:=hk.node
  have hol2:i1<os.length:=by omega
  by_cases hsh:(Gt.X h k1).length<P.mn
  ·
   refine Ud 18 4299228224 (by kernel_rfl) (Ul 3 rfl (show cl _ np 3=some (.pointer (some ⟨ncb,0,none⟩)) from hn.n.c3) (Ul 1 rfl (show cl _ ncb 0=some (.slice (some ⟨nkb,nko,none⟩) (os).length nkc) from hn.k.c) (Ux 1 i1 rfl (by omega) (by omega) (Ul 0 rfl (hn.k.at hok) (Ul 2 rfl (show cl _ (Gt.p h k1) 2=some (.slice (some ⟨(Gt.g h k1).ib,(Gt.g h k1).io,none⟩) (Gt.X h k1).length (Gt.g h k1).ic) from hkn.c2) (Ul 4 rfl tc.mn' (Uc 0 rfl (lssT (by omega)) (Uf 0 [0,12,13,14,15,18,206] rfl (Go'.condT rfl ?_)))))))))
   have hKL1:(K.take i1++[k1]++K.drop (i1+1)).length=X1.length+1:=by simp only [List.length_append,List.length_take,List.length_drop,List.length_cons,List.length_nil];omega
   have hsz5:=hF.size
   have hdD:∀b,(b<cx.base∨hz b)→b<H12.size:=fun b hb=>by have:=hD b hb;omega
   have hnr:=hn
   rw [hpk2] at hnr
   have hb9:(Pl.inter X1 ((K.take i1++[k1]++K.drop (i1+1)).map (Gt.L h))).length<4611686018427387904:=by
    have:=congrArg List.length dm.l
    omega
   have hlT:(K.take i1).length=i1:=by rw [List.length_take];omega
   have hx11:1≤X1.length:=by omega
   have hxm1:X1.length≤P.mx:=by omega
   have hmn9:=dm.mn
   have hw8l:H1.size<H12.size:=by obtain ⟨⟨v,hv⟩,_⟩:=w8 0 (by decide);exact cl_lt hv
   have hreb:=rebal_tree (B:=B) hP tc hnr hk dkn (fun b o hb h=>tn b o hb (.inl h)) (fun b o hb h=>tnk b o hb (.inl h)) (fun b h=>hdD b (.inl h)) hlT hx11 hKL1 hxm1 hsh hmn9 hb9
   refine Ur 4 128 rfl (Uq 3 rfl (O.call rfl rfl rfl call97 rfl hreb ?_))
   rintro _ H9 ⟨rfl,g',X',K',r1,r2,r3,r4,r5,r6,r7,r8,r9,r10⟩
   have hsz9:=r3.size
   replace tc:=tc.fr r3 (fun b o hb _ hz=>hz.elim (fun hz=>tn b o hz (.inl hb.1)) (fun hz=>tnk b o hz (.inl hb.1)))
   replace hkt:=hkt.fr r3 (fun b o hb hz9=>hz9.elim (fun hz8=>tn b o hz8 (.inr hb)) (fun hz8=>tnk b o hz8 (.inr hb)))
   have hq8:∀b o,H.size≤b→b=H1.size∨b=b14→¬((innc (E:=EJ) h (⟨np,niso,ncnt_12,nib,nio,nic,ncb,nkb,nko,nkc⟩:Ng) (K.take i1++K.drop (i1+1))) b o∨Gt.af h k1 b o):=fun b o h1 h3 hz=>hz.elim (fun hz=>by have:=hlt b o hz;omega) (fun hz=>(hak b o hz).elim (fun h=>by have:=hklt hkk b o h;omega) (fun h=>hnew b o h3 hz))
   replace w8:=r3.wr w8
   replace m14:=r3.rd m14 (fun i hi=>hq8 _ _ (by omega) (.inr rfl))
   replace hF:=hF.trans' r3 (fun _ _ _ h=>h) (fun b o hb hz=>(gall b o hz).elim id (fun h=>by omega))
   refine ⟨trivial,?_⟩
   refine Uf 0 [12,13,18] rfl (Ut 1 rfl (Ur 3 9 rfl (Us 0 rfl m14 rfl (O.st rfl rfl sizeOf27 rfl rfl rfl rfl rfl w8 ?_))))
   intro H10 W10
   replace hkt:=hkt.fr W10.fr (fun b o hb=>nr (.inl (by have:=(hzb b hb).2;omega)))
   have hlt9:∀b o,innc h g' K' b o→b≠H1.size:=fun b o hb e=>by
    rcases r9 b o hb with h9|h9
    · exact hq8 b o (by omega) (.inl e) h9
    · omega
   replace r4:=r4.fr W10.fr (fun b o hb=>nr (.inl (hlt9 b o hb)))
   replace hF:=hF.trans' W10.fr (fun _ _ _ h=>h) (fun b o hb h=>by simp only [rng] at h;omega)
   have m8:Rd H10 H1.size 0 (EJ.enc y):=W10.all
   refine ⟨trivial,?_⟩
   refine Uf 1 [12,13] rfl (Go'.ret (vs:=[_,_]) func86 results86 ⟨⟨_,_,rfl,fun _ _=>run_loadVar_agg (fun w=>⟨isAgg27 w,sizeOf27 w⟩) rfl m8⟩,rfl,trivial⟩ ?_)
   refine hbase _ _ ⟨hkt,H,rfl,Fr.refl _ _,?_⟩
   unfold DelQ
   rw [show Pl.dlr OI mx x (Gt.L (h+1) (((⟨np,niso,ncnt,nib,nio,nic,ncb,nkb,nko,nkc⟩:Ng),X,K):Gt EJ (h+1)))=some (y,L1) from hd]
   have hlL:Gt.L (h+1) ((g',X',K'):Gt EJ (h+1))=L1:=by
    show Pl.inter X' (K'.map (Gt.L h))=L1
    rw [r6];exact dm.l
   refine ⟨((g',X',K'):Gt EJ (h+1)),rfl,hF,r4.good (by rw [r2];show ncnt_12=_;rw [show Pl.inter X' (K'.map (Gt.L h))=L1 from hlL];omega) r7 r5,r1,fun b o hb=>?_,hlL,?_,dm.sm.fin r10⟩
   · exact (r9 b o hb).elim (gall b o) (fun h=>.inr (by omega))
   ·
    show X.length≤X'.length+1
    omega
  ·
   refine Ud 18 4299228224 (by kernel_rfl) (Ul 3 rfl (show cl _ np 3=some (.pointer (some ⟨ncb,0,none⟩)) from hn.n.c3) (Ul 1 rfl (show cl _ ncb 0=some (.slice (some ⟨nkb,nko,none⟩) (os).length nkc) from hn.k.c) (Ux 1 i1 rfl (by omega) (by omega) (Ul 0 rfl (hn.k.at hok) (Ul 2 rfl (show cl _ (Gt.p h k1) 2=some (.slice (some ⟨(Gt.g h k1).ib,(Gt.g h k1).io,none⟩) (Gt.X h k1).length (Gt.g h k1).ic) from hkn.c2) (Ul 4 rfl tc.mn' (Uc 0 rfl (lssF (by omega)) (Uf 0 [0,12,13,14,15,18,206] rfl (Go'.condF rfl (Ut 2 rfl (Ur 3 9 rfl ?_)))))))))))
   refine Us 0 rfl m14 rfl (O.st rfl rfl sizeOf27 rfl rfl rfl rfl rfl w8 ?_)
   intro H10 W10
   replace hkt:=hkt.fr W10.fr (fun b o hb=>nr (.inl (by have:=(hzb b hb).2;omega)))
   replace hk:=hk.fr W10.fr (fun b o hb=>nr (.inl (fun e=>(hak b o hb).elim (fun h=>by have:=hklt hkk b o h;omega) (fun _=>hnew b o (.inl e) hb))))
   replace hn:=hn.fr W10.fr (fun b o hb=>nr (.inl (by have:=hlt b o hb;omega)))
   replace hF:=hF.trans' W10.fr (fun _ _ _ h=>h) (fun b o hb h=>by simp only [rng] at h;omega)
   have m8:Rd H10 H1.size 0 (EJ.enc y):=W10.all
   refine ⟨trivial,?_⟩
   refine Uf 1 [12,13] rfl (Go'.ret (vs:=[_,_]) func86 results86 ⟨⟨_,_,rfl,fun _ _=>run_loadVar_agg (fun w=>⟨isAgg27 w,sizeOf27 w⟩) rfl m8⟩,rfl,trivial⟩ ?_)
   refine hbase _ _ ⟨hkt,H,rfl,Fr.refl _ _,?_⟩
   unfold DelQ
   rw [show Pl.dlr OI mx x (Gt.L (h+1) (((⟨np,niso,ncnt,nib,nio,nic,ncb,nkb,nko,nkc⟩:Ng),X,K):Gt EJ (h+1)))=some (y,L1) from hd]
   have hnP:=hn.putM hn.alone (Fr.refl nowhere _) (fun _ _ _ h=>h.elim) (Gro.refl _ _) (RA:=Gt.af h k1) dkn (M:=[k1]) (fun m hm=>by
    rw [List.mem_singleton] at hm;subst hm
    exact ⟨hk,by omega,Gro.refl _ _,fun b o hb hr=>dkn b o hb (rn_innc hr)⟩) (List.pairwise_singleton _ _)
   have hKL1:(K.take i1++[k1]++K.drop (i1+1)).length=X1.length+1:=by simp only [List.length_append,List.length_take,List.length_drop,List.length_cons,List.length_nil];omega
   rw [hpk2] at hnP
   refine ⟨(((⟨np,niso,ncnt_12,nib,nio,nic,ncb,nkb,nko,nkc⟩:Ng),X1,K.take i1++[k1]++K.drop (i1+1)):Gt EJ (h+1)),rfl,hF,hnP.good (by show ncnt_12=_;rw [dm.l];omega) (by omega) hKL1,rfl,fun b o hb=>?_,dm.l,?_,dm.sm.fin RebK.same⟩
   ·
    rcases hb with hb|hb|⟨m,hm,hb⟩
    · exact .inl (.inl hb)
    · exact .inl (.inr (.inl hb))
    ·
     simp only [List.mem_append,List.mem_singleton] at hm
     rcases hm with (hm|rfl)|hm
     · exact .inl (.inr (.inr ⟨m,List.mem_of_mem_take hm,hb⟩))
     · exact (hak b o hb).imp (fun h=>.inr (.inr ⟨k,hkK,h⟩)) id
     · exact .inl (.inr (.inr ⟨m,List.mem_of_mem_drop hm,hb⟩))
   ·
    show X.length≤X1.length+1
    omega
theorem delH {B:World} {tr:Nat} {P:Ps} (hP:PsOk P):∀(h:Nat) {hv:Value} {hz:Nat→Prop} {H:Mem} {bp op dp:Nat} {mx:Bool} {x:Int×Int} {t:Gt EJ h},DPre H tr P h t bp op→HintOk H hv hz→(∀b o,Gt.af h t b o→¬hz b)→dp+h<4611686018427387904→Fn Try.prog B 86 [.pointer (some ⟨tr,0,none⟩),.pointer (some ⟨bp,op,none⟩),.bool mx,.agg (EJ.enc x).toArray,hv,.int .i64 (dp:Int)] H (DelQH H P h t mx x hv hz)
 | 0,_,_,_,_,_,_,_,_,_,hp,hk,ho,hd=>delH0 hP hp hk ho hd
 | h+1,_,_,_,_,_,_,_,_,_,hp,hk,ho,hd=>delH_step hP (fun hp hk ho hd=>delH hP h hp hk ho hd) hp hk ho hd
end
end Go.Bt.FG
namespace Go.Bt.FG
open Go Go.Proofs Go.Proofs.Try
set_option maxRecDepth 20000
set_option maxHeartbeats 4000000
set_option linter.unusedSectionVars false
section
variable [Inhabited Cx]
def EQ:Elt ((Int×Int)×Option Nat):={ enc:=fun e=>[.int .i64 e.1.1,.int .i64 e.1.2,match e.2 with|some p=>ptr p|none=>.pointer none],s:=3,len:=fun _=>rfl,one:=fun e=>by obtain ⟨x,o⟩:=e;cases o<;>rfl,pos:=by decide }
theorem EQ_ones (e:((Int×Int)×Option Nat)):ones (EQ.enc e)=true:=EQ.one e
structure LiM (H:Mem) (dl:Nat) (fn:Value) (cnt np:Nat) (Z:Nat→Prop) (q:List ((Int×Int)×Option Nat)):Prop where
 c0:cl H dl 0=some fn
 c1:cl H dl 1=some (.int .i64 (cnt:Int))
 c2:cl H dl 2=some (.int .i64 (np:Int))
 st:∃sv,cl H dl 3=some sv∧Acc EQ Z H sv q
 wr:Wr H dl 0 4
 nz:¬Z dl
 zl:∀b,Z b→b<H.size
 cb:∀sv,cl H dl 3=some sv→CapB sv
theorem LiM.fr {H H':Mem} {dl:Nat} {fn:Value} {cnt np:Nat} {Z:Nat→Prop} {q:List ((Int×Int)×Option Nat)} (h:LiM H dl fn cnt np Z q) {X:Nat→Nat→Prop} (hf:Fr X H H') (hx:∀b o,b=dl∨Z b→¬X b o):LiM H' dl fn cnt np Z q where
 c0:=hf.keep h.c0 (hx _ _ (.inl rfl))
 c1:=hf.keep h.c1 (hx _ _ (.inl rfl))
 c2:=hf.keep h.c2 (hx _ _ (.inl rfl))
 st:=have ⟨sv,h1,h2⟩:=h.st;⟨sv,hf.keep h1 (hx _ _ (.inl rfl)),h2.fr hf fun b o _ hz=>hx b o (.inr hz)⟩
 wr:=hf.wr h.wr
 nz:=h.nz
 zl:=fun b hb=>Nat.lt_of_lt_of_le (h.zl b hb) hf.size
 cb:=fun sv e=>by
  obtain ⟨s0,h1,_⟩:=h.st
  rw [hf.keep h1 (hx _ _ (.inl rfl))] at e
  cases e
  exact h.cb _ h1
theorem set_td {α:Type} {l:List α} {i:Nat} {x:α} (h:i<l.length):l.take i++x::l.drop (i+1)=l.set i x:=by rw [List.set_eq_take_append_cons_drop,if_pos h]
theorem par_tdiv (i:Nat):Int.tdiv ((i:Int)-1) 2=(((i-1) / 2:Nat):Int):=by
 rcases i with _|i
 · decide
 · rw [Int.tdiv_eq_ediv_of_nonneg (by omega)];omega
abbrev qkey (e:((Int×Int)×Option Nat)):Int×Int:=e.1
theorem push_spec {B:World} {H:Mem} {tr ii mx mn dl cnt np:Nat} {Z:Nat→Prop} {q:List ((Int×Int)×Option Nat)} (e:((Int×Int)×Option Nat)) (tc:TrC H tr ii mx mn) (hL:LiM H dl (.func (.func 72) #[] #[ptr cx.ob]) cnt np Z q) (hzb:∀b,b=dl∨Z b→¬(b<cx.base∧cx.own b)) (hq:q.length<4294967296):
  Fn Try.prog B 96 [ptr dl,.agg (EQ.enc e).toArray] H (fun r H'=>r=resVal []∧∃Z' q',LiM H' dl (.func (.func 72) #[] #[ptr cx.ob]) cnt np Z' q'∧q'.Perm (q++[e])∧(Hp.Heap OI qkey q→Hp.Heap OI qkey q')∧Fr (fun b _=>b=dl∨Z b) H H'∧(∀b,Z' b→Z b∨H.size≤b)):=by
 obtain ⟨c0,c1,c2,⟨sv,cq,hA⟩,wr,nz,zl,hcb⟩:=hL
 replace hcb:=hcb _ cq
 have hdl:=cl_lt c0
 have hb1:=tc.hb
 unfold ptr
 refine fn_of func96 rfl ntmps96 ?_
 refine (show Go' _ _ _ _ 80 [(0,_),(1,_)] [.code _] _ from ?_)
 refine Ut 1 rfl (Ur 1 2 rfl (O.box rfl rfl rfl rfl ?_))
 intro H1 M1
 refine ⟨trivial,?_⟩
 have hs1:=M1.size
 replace tc:=tc.fr (M1.fr nowhere) (fun _ _ _ _=>nw)
 replace c0:=(M1.fr nowhere).keep c0 nw
 replace c1:=(M1.fr nowhere).keep c1 nw
 replace c2:=(M1.fr nowhere).keep c2 nw
 replace cq:=(M1.fr nowhere).keep cq nw
 replace wr:=(M1.fr nowhere).wr wr
 replace hA:=hA.fr (M1.fr nowhere) (fun _ _ _ _=>nw)
 have mi:Rd H1 H.size 0 (EQ.enc e):=M1.rd _ [] (by simp [Value.cells])
 refine Uf 0 [0,3] rfl (Ut 1 rfl (UD (fun H'=>cl H' dl 3=some sv) 11 3187712 (by kernel_rfl) (cq) (UL 4 rfl (fun _ h=>h) (Us 0 rfl mi rfl (O.bsl (cs:=(EQ.enc e)) rfl rfl rfl ⟨underlying59,sizeOf133,zeroValue133,⟨_,typeInfo133,rfl⟩,rfl,by decide,by decide⟩ rfl (by decide) (by obtain ⟨x,o⟩:=e;cases o<;>kernel_rfl) ?_)))))
 intro H2 M2
 have hs2:=M2.size
 replace tc:=tc.fr (M2.fr nowhere) (fun _ _ _ _=>nw)
 replace c0:=(M2.fr nowhere).keep c0 nw
 replace c1:=(M2.fr nowhere).keep c1 nw
 replace c2:=(M2.fr nowhere).keep c2 nw
 replace cq:=(M2.fr nowhere).keep cq nw
 replace wr:=(M2.fr nowhere).wr wr
 replace hA:=hA.fr (M2.fr nowhere) (fun _ _ _ _=>nw)
 replace mi:=(M2.fr nowhere).rd mi (fun _ _=>nw)
 have m2:Rd H2 H1.size 0 (row EQ [e]):=M2.rd _ [] (by simp [row])
 refine ⟨cq,?_⟩
 refine O.appAC (E:=EQ) (Y:=[e]) rfl rfl rfl ⟨underlying59,sizeOf133,zeroValue133,⟨_,typeInfo133,rfl⟩,rfl,by decide,by decide⟩ rfl hA hcb rfl ⟨_,_,_,rfl,m2⟩ (Nat.succ_pos _) (Nat.le_trans (Nat.mul_le_mul_left _ (Nat.le_of_ble_eq_true (n:=_) (m:=4096) rfl)) (by simp only [List.length_cons,List.length_nil];omega)) (by simp only [List.length_cons,List.length_nil];omega) ?_
 intro v3 H3 hA3 hcb3 hF3 hs3
 have hg3:=hF3.size
 have hof:∀b o,b=dl∨(b<cx.base∧cx.own b)→¬(fun b (_:Nat)=>Z b) b o:=fun b o hb hz=>hb.elim (fun e=>nz (e▸hz)) (fun h=>hzb b (.inr hz) h)
 replace tc:=tc.fr hF3 (fun b o hb _=>hof b o (.inr hb))
 replace c0:=hF3.keep c0 (hof _ 0 (.inl rfl))
 replace c1:=hF3.keep c1 (hof _ 0 (.inl rfl))
 replace c2:=hF3.keep c2 (hof _ 0 (.inl rfl))
 replace cq:=hF3.keep cq (hof _ 0 (.inl rfl))
 replace mi:=hF3.rd mi (fun _ _ hz=>by have:=zl _ hz;omega)
 replace wr:=hF3.wr wr
 rcases hA3 with ⟨rfl,e0⟩|⟨b,o,c,rfl,hzq,hbl,hsl⟩
 · simp at e0
 replace hcb3:=hcb3.lt
 have hbd:b≠dl:=fun e2=>hzq.elim (fun h=>nz (e2▸h)) (fun h=>by omega)
 refine ⟨cq,?_⟩
 refine Uq 2 rfl (O.st3 rfl rfl sizeOf59 rfl rfl rfl rfl rfl (wr.at0 3 1 (by decide)) ?_)
 intro H4 W4
 have hs4:=W4.size
 replace tc:=tc.fr W4.fr (fun b o hb _=>nr (.inl (fun e2=>hzb b (.inl e2) hb)))
 replace c0:=W4.keep1 c0 (.inr (by decide))
 replace c1:=W4.keep1 c1 (.inr (by decide))
 replace c2:=W4.keep1 c2 (.inr (by decide))
 replace cq:=W4.at
 replace wr:=W4.fr.wr wr
 replace mi:=W4.fr.rd mi (fun _ _=>nr (.inl (by omega)))
 replace hsl:=hsl.fr W4.fr (fun _ _ _=>nr (.inl hbd))
 have hF:Fr (fun b _=>b=dl∨Z b) H H4:=((((M1.fr nowhere).trans (M2.fr nowhere)).trans' hF3 (Z:=fun b _=>b=dl∨Z b) (fun _ _ _ h=>h.elim) (fun b o hb hz=>.inr hz)).trans' W4.fr (fun _ _ _ h=>h) (fun b o _ h=>.inl h.1))
 have hql:(q++[e]).length=q.length+1:=by simp
 have hbz:b<H.size→Z b:=fun h=>hzq.elim id (fun h2=>by omega)
 have hbt:¬(b<cx.base∧cx.own b):=fun h=>by
  have hb0:=tc.hb
  exact hzq.elim (fun h2=>hzb b (.inr h2) h) (fun h2=>by have:=hb1;omega)
 have hbm:b≠H.size:=hzq.elim (fun h=>by have:=zl b h;omega) (fun h=>by omega)
 refine Uf 0 [0] rfl (Ut 1 rfl ?_)
 rw [hql] at cq
 refine Ur 7 64 rfl (Ul 3 rfl cq (Ub 1 (((q.length:Nat):Int)) rfl (by omega) (Uf 1 [0,4] rfl (Ut 1 rfl (Ur 4 0 rfl (Ub 1 (((q.length:Nat):Int)-1) rfl (by omega) (O.quo (((((q.length)-1) / 2:Nat):Int)) rfl rfl rfl rfl rfl rfl (by decide) (par_tdiv _) (by omega) (Uf 1 [0,4,5] rfl (Ut 1 rfl (Go'.loop (Uk [0,4,5] rfl ?_)))))))))))
 refine Go'.ind (σ:=Nat×List ((Int×Int)×Option Nat)) (fun s=>s.1) (fun s H'=>s.1<s.2.length∧s.2.length=q.length+1∧s.2.Perm (q++[e])∧(Hp.Heap OI qkey q→Hp.Up OI qkey s.2 s.1)∧SlE EQ H' b o c s.2∧TrC H' tr ii mx mn∧cl H' dl 0=some (.func (.func 72) #[] #[ptr cx.ob])∧cl H' dl 1=some (.int .i64 (cnt:Int))∧cl H' dl 2=some (.int .i64 (np:Int))∧cl H' dl 3=some (.slice (some ⟨b,o,none⟩) (q.length+1) c)∧Wr H' dl 0 4∧Fr (fun b _=>b=dl∨Z b) H H'∧H4.size≤H'.size)
  (fun s=>[(0,.pointer (some ⟨dl,0,none⟩)),(4,.int .i64 (s.1:Int)),(5,.int .i64 (((s.1-1) / 2:Nat):Int))]) (q.length,q++[e]) ⟨by simp,hql,List.Perm.refl _,fun hh=>Hp.Up.start OI qkey hh,hsl,tc,c0,c1,c2,cq,wr,hF,Nat.le_refl _⟩ rfl ?_
 clear hF wr cq c2 c1 c0 tc hsl mi
 rintro ⟨i,q1⟩ H5 ⟨hi,hl1,hpm,hup,hsl,tc,c0,c1,c2,cq,wr,hF,hs5⟩ ih
 simp only at hi hl1 hpm hup hsl
 refine Ut 2 rfl ?_
 by_cases hi0:i=0
 ·
  refine Ud 25 158398663364608 (by kernel_rfl) (Uc 1 rfl (neqF (by omega)) (Uq 21 rfl (Pl.pass2 rfl rfl rfl rfl trivial (Uf 1 [0,4,5,49] rfl (Go'.condF rfl (Ut 1 rfl (Go'.fall func96 results96 (vs:=[]) trivial ?_)))))))
  exact ⟨rfl,fun b'=>Z b'∨(b'=b∧H.size≤b'),q1,⟨c0,c1,c2,⟨_,cq,.inr ⟨b,o,c,by rw [hl1],(Nat.lt_or_ge b H.size).elim (fun h=>.inl (hbz h)) (fun h=>.inr ⟨rfl,h⟩),by omega,hsl⟩⟩,wr,fun h=>h.elim nz (fun h=>hbd h.1.symm),fun b' hb'=>hb'.elim (fun h=>by have:=zl b' h;have:=hF.size;omega) (fun h=>by omega),fun _ e2=>by rw [cq] at e2;cases e2;exact CapB.of hcb3⟩,hpm,fun hh=>Hp.Up.fin OI qkey (hup hh) (.inl hi0),hF,fun b' hb'=>hb'.imp id (fun h=>h.2)⟩
 ·
  obtain ⟨x,hx⟩:∃x,q1[i]?=some x:=⟨q1[i],List.getElem?_eq_getElem hi⟩
  obtain ⟨y,hy⟩:∃y,q1[(i-1) / 2]?=some y:=⟨q1[(i-1) / 2]'(by omega),List.getElem?_eq_getElem (by omega)⟩
  have rx:=hsl.item hx
  have ry:=hsl.item hy
  have rx1:Rd H5 b (o+i*EQ.s) (EJ.enc x.1):=fun j v hv=>rx j v (by match j,hv with|0,hv=>exact hv|1,hv=>exact hv)
  have ry1:Rd H5 b (o+(i-1) / 2*EQ.s) (EJ.enc y.1):=fun j v hv=>ry j v (by match j,hv with|0,hv=>exact hv|1,hv=>exact hv)
  cases hlt:OI.lt x.1 y.1
  ·
   refine Ud 25 158398663364608 (by kernel_rfl) (Uc 1 rfl (neqT (by omega)) (Ul 4 rfl c0 (Ul 3 rfl cq (Ux 1 i rfl (by omega) (by omega) (Us 1 rfl rx1 rfl (Ul 3 rfl cq (Ux 1 ((i-1) / 2) rfl (by omega) (by omega) (Us 1 rfl ry1 rfl (O.callC rfl rfl rfl rfl call72 rfl (less_spec tc x.1 y.1) ?_)))))))))
   rintro _ H6 ⟨rfl,hF6⟩
   rw [hlt]
   have hs6:=hF6.size
   replace tc:=tc.fr hF6 (fun _ _ _ _=>nw)
   replace c0:=hF6.keep c0 nw
   replace c1:=hF6.keep c1 nw
   replace c2:=hF6.keep c2 nw
   replace cq:=hF6.keep cq nw
   replace wr:=hF6.wr wr
   replace hF:=hF.trans' hF6 (fun _ _ _ h=>h) (fun _ _ _ h=>h.elim)
   replace hsl:=hsl.fr hF6 (fun _ _ _=>nw)
   replace rx:=hF6.rd rx (fun _ _=>nw)
   replace ry:=hF6.rd ry (fun _ _=>nw)
   replace rx1:=hF6.rd rx1 (fun _ _=>nw)
   replace ry1:=hF6.rd ry1 (fun _ _=>nw)
   refine ⟨trivial,?_⟩
   refine Uf 1 [0,4,5,49] rfl (Go'.condF rfl (Ut 1 rfl (Go'.fall func96 results96 (vs:=[]) trivial ?_)))
   exact ⟨rfl,fun b'=>Z b'∨(b'=b∧H.size≤b'),q1,⟨c0,c1,c2,⟨_,cq,.inr ⟨b,o,c,by rw [hl1],(Nat.lt_or_ge b H.size).elim (fun h=>.inl (hbz h)) (fun h=>.inr ⟨rfl,h⟩),by omega,hsl⟩⟩,wr,fun h=>h.elim nz (fun h=>hbd h.1.symm),fun b' hb'=>hb'.elim (fun h=>by have:=zl b' h;have:=hF.size;omega) (fun h=>by omega),fun _ e2=>by rw [cq] at e2;cases e2;exact CapB.of hcb3⟩,hpm,fun hh=>Hp.Up.fin OI qkey (hup hh) (.inr fun a b' ha hb'=>by rw [hx] at ha;rw [hy] at hb';cases ha;cases hb';exact hlt),hF,fun b' hb'=>hb'.imp id (fun h=>h.2)⟩
  ·
   refine Ud 25 158398663364608 (by kernel_rfl) (Uc 1 rfl (neqT (by omega)) (Ul 4 rfl c0 (Ul 3 rfl cq (Ux 1 i rfl (by omega) (by omega) (Us 1 rfl rx1 rfl (Ul 3 rfl cq (Ux 1 ((i-1) / 2) rfl (by omega) (by omega) (Us 1 rfl ry1 rfl (O.callC rfl rfl rfl rfl call72 rfl (less_spec tc x.1 y.1) ?_)))))))))
   rintro _ H6 ⟨rfl,hF6⟩
   rw [hlt]
   have hs6:=hF6.size
   replace tc:=tc.fr hF6 (fun _ _ _ _=>nw)
   replace c0:=hF6.keep c0 nw
   replace c1:=hF6.keep c1 nw
   replace c2:=hF6.keep c2 nw
   replace cq:=hF6.keep cq nw
   replace wr:=hF6.wr wr
   replace hF:=hF.trans' hF6 (fun _ _ _ h=>h) (fun _ _ _ h=>h.elim)
   replace hsl:=hsl.fr hF6 (fun _ _ _=>nw)
   replace rx:=hF6.rd rx (fun _ _=>nw)
   replace ry:=hF6.rd ry (fun _ _=>nw)
   replace rx1:=hF6.rd rx1 (fun _ _=>nw)
   replace ry1:=hF6.rd ry1 (fun _ _=>nw)
   refine ⟨trivial,?_⟩
   refine Uf 1 [0,4,5,49] rfl (Go'.condT rfl (Ut 3 rfl (Ud 28 56366467960078400 (by kernel_rfl) (Ul 3 rfl cq (Ul 4 rfl cq (Ul 4 rfl cq (Ux 1 i rfl (by omega) (by omega) (Us 0 rfl rx rfl (Ul 3 rfl cq (Ux 1 ((i-1) / 2) rfl (by omega) (by omega) (Us 0 rfl ry rfl ?_)))))))))))
   refine Ux 0 ((i-1) / 2) rfl (by omega) (by omega) (O.st (vs:=(EQ.enc x)) rfl rfl sizeOf133 rfl rfl rfl rfl (EQ_ones x) (hsl.wri (i:=(i-1) / 2) (by omega)) ?_)
   intro H7 W7
   have hs7:=W7.size
   replace tc:=tc.fr W7.fr (fun b2 o2 hb _=>nr (.inl (fun e2=>hbt (e2▸hb))))
   replace c0:=W7.fr.keep c0 (nr (.inl (Ne.symm hbd)))
   replace c1:=W7.fr.keep c1 (nr (.inl (Ne.symm hbd)))
   replace c2:=W7.fr.keep c2 (nr (.inl (Ne.symm hbd)))
   replace cq:=W7.fr.keep cq (nr (.inl (Ne.symm hbd)))
   replace wr:=W7.fr.wr wr
   replace hF:=hF.trans' W7.fr (fun _ _ _ h=>h) (fun b2 o2 hb h=>.inr (by have e2:=h.1;subst e2;exact hbz hb))
   have hsl7:=hsl.set (i:=(i-1) / 2) W7 (by omega)
   rw [set_td (show (i-1) / 2<q1.length by omega)] at hsl7
   refine ⟨trivial,?_⟩
   refine Ux 0 i rfl (by omega) (by omega) (O.st3 (vs:=(EQ.enc y)) rfl rfl sizeOf133 rfl rfl rfl rfl (EQ_ones y) (hsl7.wri (i:=i) (by rw [List.length_set];omega)) ?_)
   intro H8 W8
   have hs8:=W8.size
   replace tc:=tc.fr W8.fr (fun b2 o2 hb _=>nr (.inl (fun e2=>hbt (e2▸hb))))
   replace c0:=W8.fr.keep c0 (nr (.inl (Ne.symm hbd)))
   replace c1:=W8.fr.keep c1 (nr (.inl (Ne.symm hbd)))
   replace c2:=W8.fr.keep c2 (nr (.inl (Ne.symm hbd)))
   replace cq:=W8.fr.keep cq (nr (.inl (Ne.symm hbd)))
   replace wr:=W8.fr.wr wr
   replace hF:=hF.trans' W8.fr (fun _ _ _ h=>h) (fun b2 o2 hb h=>.inr (by have e2:=h.1;subst e2;exact hbz hb))
   have hsl8:=hsl7.set (i:=i) W8 (by rw [List.length_set];omega)
   rw [set_td (show i<(q1.set ((i-1) / 2) x).length by rw [List.length_set];omega),List.set_comm _ _ (by omega)] at hsl8
   refine Uf 0 [0,4,5,49] rfl (Ut 1 rfl (Ur 2 0 rfl (Uf 2 [0,4,5,49] rfl (Ur 4 0 rfl (Ub 1 (((((i-1) / 2:Nat)):Int)-1) rfl (by omega) (O.quo (((((i-1) / 2-1) / 2:Nat):Int)) rfl rfl rfl rfl rfl rfl (by decide) (par_tdiv _) (by omega) (Uf 1 [0,4,5,49] rfl (Ut 1 rfl (Uk [0,4,5] rfl (Go'.inLoop ?_))))))))))
   exact ih ((i-1) / 2,Hp.swp q1 i ((i-1) / 2) x y) H8 ⟨by rw [Hp.swp_len];simp only;omega,by rw [Hp.swp_len];exact hl1,(Hp.swp_perm hx hy).trans hpm,fun hh=>Hp.Up.step OI qkey (hup hh) (by omega) hx hy hlt,hsl8,tc,c0,c1,c2,cq,wr,hF,by omega⟩ (by simp only;omega)
end
end Go.Bt.FG
