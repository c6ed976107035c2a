/- Contracts of functions of the program, proved by walking through their code. Conditions: those that each theorem names. -/
import Derived.Test.YtmboghgpakhceaaTogW
import Derived.Test.YtmboghgpakhceaaTogD
import Derived.Test.YtmboghgpakhceaaToRb
import Derived.Test.YtmboghgpakhceaaToKi
import Derived.Test.YtmboghgpakhceaaToiA
import Derived.Test.YtmboghgpakhceaaTojB
set_option linter.unusedVariables false
namespace Go.Bt.FG
open Go Go.Proofs Go.Proofs.Try
set_option maxRecDepth 20000
set_option maxHeartbeats 4000000
set_option linter.unusedSectionVars false
def ok? (x:Int×Int):Bool→Option (Int×Int)
 | true=>some x
 | false=>none
theorem found_spec {B:World} {H:Mem} {x:Int×Int} {ok:Bool}:Fn Try.prog B 104 [.agg (EJ.enc x).toArray,.bool ok] H (fun r H'=>r=FV (ok? x ok)∧Fr nowhere H H'):=by
 have hF:Fr nowhere H H:=Fr.refl _ _
 refine fn_of func104 rfl ntmps104 ?_
 refine (show Go' _ _ _ _ 10 [(0,_),(1,_)] [.code _] _ from ?_)
 refine Ut 1 rfl (Ur 2 10 rfl (O.box rfl rfl rfl rfl ?_))
 intro H1 M1
 refine ⟨trivial,?_⟩
 have hs1:=M1.size
 replace hF:=hF.trans' (M1.fr nowhere) (fun _ _ _ h=>h) (fun _ _ _ h=>h.elim)
 have mi:Rd H1 H.size 0 (EJ.enc x):=M1.rd _ [] (by simp [Value.cells])
 refine O.alloc rfl rfl rfl zeroValue68 ?_
 intro H2 M2
 refine ⟨trivial,?_⟩
 have hs2:=M2.size
 replace mi:=(M2.fr nowhere).rd mi (fun _ _=>nw)
 replace hF:=hF.trans' (M2.fr nowhere) (fun _ _ _ h=>h) (fun _ _ _ h=>h.elim)
 have m4:Wr H2 H1.size 0 3:=M2.wr 3 (by decide)
 refine Uf 0 [1,2,4] rfl (Ut 2 rfl (Ur 2 0 rfl (Uf 2 [2,4,6] rfl ?_)))
 cases ok
 ·
  refine Go'.condT rfl (Ut 1 rfl (Ur 2 8 rfl (O.bld (cs:=(fvs none)) rfl rfl rfl rfl (st68) rfl (by kernel_rfl) (O.st rfl rfl sizeOf68 rfl rfl rfl rfl rfl m4 ?_))))
  intro H5 W5
  replace hF:=hF.trans' W5.fr (fun _ _ _ h=>h) (fun b o hb hz=>by have h1:=hz.1;omega)
  refine ⟨trivial,?_⟩
  refine Uf 0 [2,4] rfl (Go'.ret (vs:=[_]) func104 results104 ⟨⟨_,_,rfl,fun _ _=>run_loadVar_agg (fun w=>⟨isAgg68 w,sizeOf68 w⟩) rfl W5.all⟩,trivial⟩ ?_)
  exact ⟨rfl,hF⟩
 ·
  refine Go'.condF rfl (Ut 2 rfl (Ur 3 33 rfl (Us 0 rfl mi rfl (O.bld (cs:=(fvs (some x))) rfl rfl rfl rfl (st68) rfl (by kernel_rfl) (O.st rfl rfl sizeOf68 rfl rfl rfl rfl rfl m4 ?_)))))
  intro H5 W5
  replace hF:=hF.trans' W5.fr (fun _ _ _ h=>h) (fun b o hb hz=>by have h1:=hz.1;omega)
  refine ⟨trivial,?_⟩
  refine Uf 0 [4] rfl (Go'.ret (vs:=[_]) func104 results104 ⟨⟨_,_,rfl,fun _ _=>run_loadVar_agg (fun w=>⟨isAgg68 w,sizeOf68 w⟩) rfl W5.all⟩,trivial⟩ ?_)
  exact ⟨rfl,hF⟩
section
variable [Inhabited Cx]
theorem moved_spec {B:World} {H0 H:Mem} {it tr:Nat} {mt sk sa se:Bool} {Z:Nat→Prop} {kv:Int×Int} {P:Ps} {S:Nat→Prop} {l:List (Int×Int)} {r:Option ((h:Nat)×Gt EJ h)} (hP:PsOk P) (hI:Itr EJ H H it tr mt Z sk sa se Z [] kv) (hT:TreeR H tr P S l r) (hsi:¬S it) (hsz:∀b,S b→¬Z b) (hsrt:Pl.Srt OI l)
  {u:Value} {ms:List (Int×Int×Int)} (hu:InS EMv H0 u ms) (hml:ms.length≤4294967296) (hF0:Fr nowhere H0 H) (hit:H0.size≤it) (hZ0:∀b,Z b→H0.size≤b):
  Fn Try.prog B 117 [.pointer (some ⟨it,0,none⟩),u] H (fun v H'=>∃outs Zo,Acc EF Zo H' v outs∧(∀b,Zo b→b≠it)∧Pl.Agree outs (Pl.itRun OI l ms).2.1 (Pl.itRun OI l ms).2.2∧Fr nowhere H0 H'∧∃sk sa se Z fr kv,Itr EJ H' H' it tr mt Z sk sa se Z fr kv):=by
 obtain ⟨a,c,hue⟩:=hu.len
 subst hue
 have hbT:=hT.tc.hb
 have hsz00:=hF0.size
 refine fn_of func117 rfl ntmps117 ?_
 refine (show Go' _ _ _ _ 53 [(0,_),(1,_)] [.code _] _ from ?_)
 refine Ut 1 rfl (Ur 1 0 rfl (Uf 1 [0,1,4] rfl (Ut 1 rfl (Ur 1 2 rfl (O.alloc rfl rfl rfl zeroValue153 ?_)))))
 intro H1 M1
 refine ⟨trivial,?_⟩
 have hs1:=M1.size
 have hki:it≠H.size:=fun e=>by have:=cl_lt hI.c0;omega
 have hkZ:∀b,Z b→b≠H.size:=fun b h=>by have:=hI.zl b h;omega
 have hkS:∀b,S b→b≠H.size:=fun b h=>by have:=hT.lt b h;omega
 replace hI:=hI.box (M1.fr nowhere)
 replace hT:=hT.keep (M1.fr nowhere) (fun _ _ _=>nw)
 replace hF0:=hF0.trans (M1.fr nowhere)
 have hk:HintOk H1 (.pointer (some ⟨H.size,0,none⟩)) (fun b=>b=H.size):=.inr ⟨H.size,rfl,fun _=>Iff.rfl,by omega,fun h=>by have:=h.1;omega,(HintM.new M1 (fun i hi=>by have hi8:i=0∨i=1∨i=2∨i=3∨i=4∨i=5∨i=6∨i=7:=(by omega);rcases hi8 with rfl|rfl|rfl|rfl|rfl|rfl|rfl|rfl<;>rfl) (fun i hi=>by have hi8:i=0∨i=1∨i=2∨i=3∨i=4∨i=5∨i=6∨i=7:=(by omega);rcases hi8 with rfl|rfl|rfl|rfl|rfl|rfl|rfl|rfl<;>rfl) (by decide))⟩
 have hbl:H.size<H1.size:=by omega
 refine Uf 0 [0,1,4,5] rfl (Ut 1 rfl ?_)
 obtain ⟨hb,hbe⟩:∃z,z=H.size:=⟨_,rfl⟩
 rw [←hbe] at hki hkZ hkS hk hbl ⊢
 refine Ur 1 0 rfl (Uf 1 [0,1,4,5,6] rfl (Ut 2 rfl (Ur 3 0 rfl (Uf 3 [0,4,5,6,10,11,12] rfl (Ut 1 rfl (Go'.loop (Uk [0,5,6,10,11,12] rfl ?_)))))))
 refine Go'.ind (σ:=Nat×Value) (fun s=>ms.length-s.1) (fun s H'=>Fr nowhere H0 H'∧s.1≤ms.length∧hb<H'.size∧HintOk H' (.pointer (some ⟨hb,0,none⟩)) (fun b=>b=hb)∧∃sk sa se Z fr kv st Zo outs,Itr EJ H' H' it tr mt Z sk sa se Z fr kv∧StI r l sk fr kv st∧TreeR H' tr P S l r∧(∀b,Z b→H0.size≤b∧¬S b∧b≠hb)∧(∀q,(Pl.itRun OI l (ms.take s.1)).1=some q→st=some q)∧Acc EF Zo H' s.2 outs∧(∀b,Zo b→H0.size≤b∧b<H'.size∧¬S b∧¬Z b∧b≠it∧b≠hb)∧Pl.Agree outs (Pl.itRun OI l (ms.take s.1)).2.1 (Pl.itRun OI l (ms.take s.1)).2.2)
  (fun s=>[(0,.pointer (some ⟨it,0,none⟩)),(5,.pointer (some ⟨hb,0,none⟩)),(6,s.2),(10,.slice a ms.length c),(11,.int .i64 (ms.length:Int)),(12,.int .i64 (s.1:Int))]) (0,.slice none 0 0)
  ⟨hF0,Nat.zero_le _,hbl,hk,sk,sa,se,Z,[],kv,none,fun _=>False,[],hI,rfl,hT,fun b hb=>⟨hZ0 b hb,fun hs=>hsz b hs hb,hkZ b hb⟩,(fun q h=>by simp [Pl.itRun] at h),Acc.nil _ _ _,fun _ h=>h.elim,by rw [List.take_zero];exact Pl.Agree.nil⟩ rfl ?_
 clear hI hT hF0 hsz hZ0 hk hkZ hbl
 rintro ⟨j,sv⟩ H2 ⟨hF,hjl,hbl,hk,sk,sa,se,Z,fr,kv,st,Zo,outs,hI,hSt,hT,hZ,hsim,hA,hZo,hag⟩ ih
 simp only at hjl hsim hA hag hbl
 refine Ut 1 rfl ?_
 by_cases hlt:j<ms.length
 ·
  obtain ⟨y,hy⟩:∃y,ms[j]?=some y:=⟨ms[j],List.getElem?_eq_getElem hlt⟩
  obtain ⟨b,o,c',e,hr⟩:=(hu.fr hF).at hy
  cases e
  have hsz0:=hF.size
  have erun:Pl.itRun OI l (ms.take (j+1))=Pl.itStep OI l (Pl.itRun OI l (ms.take j)) y:=by rw [List.take_add_one,hy];exact Pl.itRun_snoc _ _ _ _
  have hlo:outs.length=j:=by rw [hag.1,(Pl.itRun_len OI l (ms.take j)).1,List.length_take];omega
  refine Ur 1 0 rfl (Uc 0 rfl (lssT (by omega)) (Uf 0 [0,5,6,10,11,12,13] rfl (Ut 1 rfl (Go'.condT rfl (Ut 4 rfl (Ur 4 164 rfl (Ux 0 j rfl (by omega) hlt (Us 0 rfl hr rfl (O.alloc rfl rfl rfl zeroValue79 ?_)))))))))
  intro H3 M3
  refine ⟨trivial,?_⟩
  have hs3:=M3.size
  have m7:Wr H3 H2.size 0 3:=M3.wr 3 (by decide)
  refine O.st rfl rfl sizeOf79 rfl rfl rfl rfl rfl m7 ?_
  intro H4 W4
  have hs4:=W4.size
  have hf4:Fr nowhere H2 H4:=(M3.fr nowhere).trans' W4.fr (fun _ _ _ h=>h) (fun b o hb hz=>by have h1:=hz.1;omega)
  replace hI:=hI.box hf4
  replace hT:=hT.keep hf4 (fun _ _ _=>nw)
  replace hk:=hk.fr hf4 (fun _ _ _=>nw)
  replace hA:=hA.fr hf4 (fun _ _ _ _=>nw)
  have hSZ:∀b,S b→¬Z b:=fun b hs hz=>(hZ b hz).2.1 hs
  have hSlt:=hT.lt
  have k0:cl H4 H2.size 0=some (.int .i64 y.1):=W4.all 0 _ rfl
  have k1:Rd H4 H2.size 1 (EJ.enc y.2):=fun i v hv=>by
   have h:=W4.all (1+i) v (by rw [←hv,Nat.add_comm];rfl)
   rwa [Nat.zero_add] at h
  clear hr hu m7 M3
  refine ⟨trivial,?_⟩
  refine Uf 0 [0,5,6,8,10,11,12,13] rfl (Ut 1 rfl (Ur 1 0 rfl (Uf 1 [0,5,6,8,9,10,11,12,13] rfl (Ut 2 rfl (Ur 2 4 rfl (Ul 1 rfl k0 (Uf 0 [0,5,6,8,9,10,11,12,13,17] rfl (Ut 2 rfl ?_))))))))
  refine Go'.cut3 (σ:=Bool×Option Nat) (fun s H'=>ItPH H4 H' it tr mt Z r l (.pointer (some ⟨hb,0,none⟩)) (fun b=>b=hb) s.2∧Pl.Res OI l y (Pl.itRun OI l (ms.take j)).1 s.1 s.2) (fun s=>[(0,.pointer (some ⟨it,0,none⟩)),(5,.pointer (some ⟨hb,0,none⟩)),(6,sv),(9,.bool s.1),(10,.slice (some ⟨b,o,none⟩) ms.length c),(11,.int .i64 (ms.length:Int)),(12,.int .i64 (j:Int))]) ?_ ?_
  ·
   rintro ⟨ok,st2⟩ H5 ⟨⟨hk5,sk5,sa5,se5,Z5,fr5,kv5,hI5,hS5,hzz⟩,hres⟩
   simp only at hres hS5
   have hs5:=hI5.f.size
   have hitlt:=cl_lt hI.c0
   have hkv5:∀q,st2=some q→l[q]?=some kv5:=fun q e=>by subst e;exact hS5.2.1
   have hT5:=hT.keep hI5.f (fun b o hs hz=>hz.elim (fun e=>hsi (e▸hs)) (fun h=>h.elim (hSZ b hs) (hkS b hs)))
   have hA5:=hA.fr hI5.f (fun b o hb hz hx=>hx.elim (fun e=>(hZo b hz).2.2.2.2.1 e) (fun h=>h.elim (hZo b hz).2.2.2.1 (hZo b hz).2.2.2.2.2))
   have hF5:Fr nowhere H0 H5:=(hF.trans hf4).trans' hI5.f (fun _ _ _ h=>h) (fun b o hb hz=>hz.elim (fun e=>by omega) (fun h=>h.elim (fun h=>by have:=(hZ b h).1;omega) (fun h=>by omega)))
   replace hI5:=hI5.re
   have hzl5:=hI5.zl
   refine Ur 8 10784 rfl (Uq 2 rfl (O.call rfl rfl rfl call164 rfl (iItem_spec hI5.kv) ?_))
   rintro _ H50 ⟨rfl,hF50⟩
   have hs50:=hF50.size
   replace hI5:=hI5.box hF50
   replace hT5:=hT5.keep hF50 (fun _ _ _=>nw)
   replace hk5:=hk5.fr hF50 (fun _ _ _=>nw)
   replace hA5:=hA5.fr hF50 (fun _ _ _ _=>nw)
   refine ⟨trivial,?_⟩
   refine Uq 1 rfl (O.call rfl rfl rfl call104 rfl (found_spec (x:=kv5) (ok:=ok)) ?_)
   rintro _ H6 ⟨rfl,hF6⟩
   have hs6:=hF6.size
   rw [FV_eq]
   replace hI5:=hI5.box hF6
   replace hT5:=hT5.keep hF6 (fun _ _ _=>nw)
   replace hk5:=hk5.fr hF6 (fun _ _ _=>nw)
   replace hA5:=hA5.fr hF6 (fun _ _ _ _=>nw)
   refine ⟨trivial,?_⟩
   refine O.bsl (cs:=(fvs (ok? kv5 ok))) rfl rfl rfl ⟨underlying64,sizeOf68,zeroValue68,⟨_,typeInfo68,rfl⟩,rfl,by decide,by decide⟩ rfl (by decide) (by cases ok<;>kernel_rfl) ?_
   intro H7 M7
   have hs7:=M7.size
   replace hI5:=hI5.box (M7.fr nowhere)
   replace hT5:=hT5.keep (M7.fr nowhere) (fun _ _ _=>nw)
   replace hk5:=hk5.fr (M7.fr nowhere) (fun _ _ _=>nw)
   replace hA5:=hA5.fr (M7.fr nowhere) (fun _ _ _ _=>nw)
   have m5:Rd H7 H6.size 0 (row EF [ok? kv5 ok]):=M7.rd _ [] (by simp [row,EF])
   refine ⟨trivial,?_⟩
   refine O.appA (E:=EF) (Y:=[ok? kv5 ok]) rfl rfl rfl ⟨underlying64,sizeOf68,zeroValue68,⟨_,typeInfo68,rfl⟩,rfl,by decide,by decide⟩ rfl hA5 rfl ⟨_,_,_,rfl,m5⟩ (Nat.succ_pos _) (Nat.le_trans (Nat.mul_le_mul_left _ (Nat.le_of_ble_eq_true (n:=_) (m:=4096) rfl)) (by rw [hlo];simp only [List.length_cons,List.length_nil];omega)) (by rw [hlo];simp only [List.length_cons,List.length_nil];omega) ?_
   intro v8 H8 hA8 hF8 hs8
   have hg8:=hF8.size
   have hzne:∀b,Zo b→¬Z5 b:=fun b hb hz=>(hzz b hz).elim (hZo b hb).2.2.2.1 (fun h=>by have:=(hZo b hb).2.1;omega)
   have hI8:=hI5.away hF8 (fun b o hz hb=>hz.elim (fun e=>(hZo b hb).2.2.2.2.1 e) (hzne b hb))
   have hT8:=hT5.keep hF8 (fun b o hs hb=>(hZo b hb).2.2.1 hs)
   have hk8:=hk5.fr hF8 (fun b o hb hb2=>(hZo b hb2).2.2.2.2.2 hb)
   refine ⟨trivial,?_⟩
   refine Uf 1 [0,5,6,9,10,11,12] rfl (Ut 1 rfl (Ur 2 0 rfl (Ua 0 (((j+1:Nat):Int)) rfl (by omega) (Uf 1 [0,5,6,9,10,11,12] rfl (Uk [0,5,6,10,11,12] rfl (Go'.inLoop ?_))))))
   exact ih (j+1,v8) H8 ⟨(((hF5.trans hF50).trans hF6).trans (M7.fr nowhere)).trans' hF8 (fun _ _ _ h=>h) (fun b o hb hz=>by have:=(hZo b hz).1;omega),hlt,by first|omega|(simp only;omega),hk8,sk5,sa5,se5,_,fr5,kv5,st2,(fun b=>Zo b∨(b=H7.size∧b<H8.size)),outs++[ok? kv5 ok],hI8,hS5,hT8,
    fun b hb=>(hzz b hb).elim (hZ b) (fun h=>⟨by omega,fun hs=>by have:=hSlt b hs;omega,by omega⟩),
    fun q hq=>hres.sim q (by rw [←hq,erun];rfl),hA8,
    fun b hb=>hb.elim (fun h=>have h1:=hZo b h;⟨h1.1,by have:=h1.2.1;omega,h1.2.2.1,hzne b h,h1.2.2.2.2⟩) (fun h=>⟨by omega,h.2,fun hs=>by have:=hSlt b hs;omega,fun hz=>by have:=hzl5 b hz;omega,by omega,by omega⟩),by
     simp only
     rw [erun]
     exact hag.snoc (fun ht=>by rw [←hres.out hkv5 ht];cases ok<;>rfl)⟩ (by simp only;omega)
  ·
   intro tail
   by_cases h1:y.1=1
   ·
    refine Ur 2 0 rfl (Uc 0 rfl (eqlT (by omega)) (Uf 1 [0,5,6,8,9,10,11,12,13,17,20] rfl (Go'.condT rfl (Ur 3 8 rfl (Uq 1 rfl (O.call rfl rfl rfl call158 rfl (iLast_spec hI hT hsi hSZ) ?_))))))
    rintro _ H5 ⟨rfl,hp⟩
    refine ⟨trivial,?_⟩
    refine Uf 1 [0,5,6,8,9,10,11,12,13,17,20] rfl (Ut 1 rfl (Uk [0,5,6,9,10,11,12] rfl ?_))
    exact tail (_,_) _ ⟨hp.ph hk (fun e=>hki e) (fun b h e=>(hZ b h).2.2 e),Pl.Res.last h1⟩
   refine Ur 2 0 rfl (Uc 0 rfl (eqlF (by omega)) (Uf 1 [0,5,6,8,9,10,11,12,13,17,20] rfl (Go'.condF rfl (Ut 1 rfl ?_))))
   by_cases h2:y.1=2
   ·
    refine Ur 2 0 rfl (Uc 0 rfl (eqlT (by omega)) (Uf 1 [0,5,6,8,9,10,11,12,13,17,20,24] rfl (Go'.condT rfl (Ur 3 8 rfl (Uq 1 rfl (O.call rfl rfl rfl call159 rfl (iNext_spec hI hT hsi hSZ hSt) ?_))))))
    rintro _ H5 ⟨ok,st2,rfl,hp,hq,hn⟩
    refine ⟨trivial,?_⟩
    refine Uf 1 [0,5,6,8,9,10,11,12,13,17,20,24] rfl (Ut 1 rfl (Uk [0,5,6,9,10,11,12] rfl ?_))
    exact tail (_,_) _ ⟨hp.ph hk (fun e=>hki e) (fun b h e=>(hZ b h).2.2 e),Pl.Res.next h2 hsim hq hn⟩
   refine Ur 2 0 rfl (Uc 0 rfl (eqlF (by omega)) (Uf 1 [0,5,6,8,9,10,11,12,13,17,20,24] rfl (Go'.condF rfl (Ut 1 rfl ?_))))
   by_cases h3:y.1=3
   ·
    refine Ur 2 0 rfl (Uc 0 rfl (eqlT (by omega)) (Uf 1 [0,5,6,8,9,10,11,12,13,17,20,24,28] rfl (Go'.condT rfl (Ur 3 8 rfl (Uq 1 rfl (O.call rfl rfl rfl call160 rfl (iPrev_spec hI hT hsi hSZ hSt) ?_))))))
    rintro _ H5 ⟨ok,st2,rfl,hp,hq,hn⟩
    refine ⟨trivial,?_⟩
    refine Uf 1 [0,5,6,8,9,10,11,12,13,17,20,24,28] rfl (Ut 1 rfl (Uk [0,5,6,9,10,11,12] rfl ?_))
    exact tail (_,_) _ ⟨hp.ph hk (fun e=>hki e) (fun b h e=>(hZ b h).2.2 e),Pl.Res.prev h3 (fun q h=>Pl.itRun_lt OI l _ h) hsim hq hn⟩
   refine Ur 2 0 rfl (Uc 0 rfl (eqlF (by omega)) (Uf 1 [0,5,6,8,9,10,11,12,13,17,20,24,28] rfl (Go'.condF rfl (Ut 1 rfl ?_))))
   by_cases h4:y.1=4
   ·
    refine Ur 2 0 rfl (Uc 0 rfl (eqlT (by omega)) (Uf 1 [0,5,6,8,9,10,11,12,13,17,20,24,28,32] rfl (Go'.condT rfl (Ur 5 144 rfl (Us 2 rfl k1 rfl (O.call rfl rfl rfl call161 rfl (iSeek_spec hP hI hT hsi hSZ hsrt y.2) ?_))))))
    rintro _ H5 ⟨rfl,hp⟩
    refine ⟨trivial,?_⟩
    refine Uf 1 [0,5,6,8,9,10,11,12,13,17,20,24,28,32] rfl (Ut 1 rfl (Uk [0,5,6,9,10,11,12] rfl ?_))
    exact tail (_,_) _ ⟨hp.ph hk (fun e=>hki e) (fun b h e=>(hZ b h).2.2 e),Pl.Res.seek (.inl h4)⟩
   refine Ur 2 0 rfl (Uc 0 rfl (eqlF (by omega)) (Uf 1 [0,5,6,8,9,10,11,12,13,17,20,24,28,32] rfl (Go'.condF rfl (Ut 1 rfl ?_))))
   by_cases h5:y.1=5
   ·
    refine Ur 2 0 rfl (Uc 0 rfl (eqlT (by omega)) (Uf 1 [0,5,6,8,9,10,11,12,13,17,20,24,28,32,38] rfl (Go'.condT rfl (Ur 5 144 rfl (Us 2 rfl k1 rfl (O.call rfl rfl rfl call162 rfl (iSeekHint_spec hP hI hT hsi hSZ hsrt y.2 hk (fun b h hs=>hkS b hs h) (fun e=>hki e) (fun b h e=>(hZ b h).2.2 e)) ?_))))))
    rintro _ H5 ⟨rfl,hp⟩
    refine ⟨trivial,?_⟩
    refine Uf 1 [0,5,6,8,9,10,11,12,13,17,20,24,28,32,38] rfl (Ut 1 rfl (Uk [0,5,6,9,10,11,12] rfl ?_))
    exact tail (_,_) _ ⟨hp,Pl.Res.seek (.inr h5)⟩
   refine Ur 2 0 rfl (Uc 0 rfl (eqlF (by omega)) (Uf 1 [0,5,6,8,9,10,11,12,13,17,20,24,28,32,38] rfl (Go'.condF rfl ?_)))
   skip
   refine Ur 3 8 rfl (Uq 1 rfl (O.call rfl rfl rfl call163 rfl (iFirst_spec hI hT hsi hSZ) ?_))
   rintro _ H5 ⟨rfl,hp⟩
   refine ⟨trivial,?_⟩
   refine Uf 1 [0,5,6,8,9,10,11,12,13,17,20,24,28,32,38] rfl (Ut 1 rfl (Uk [0,5,6,9,10,11,12] rfl ?_))
   exact tail (_,_) _ ⟨hp.ph hk (fun e=>hki e) (fun b h e=>(hZ b h).2.2 e),Pl.Res.first h1 h2 h3 h4 h5⟩
 ·
  obtain rfl:j=ms.length:=by omega
  rw [List.take_length] at hag
  refine Ur 1 0 rfl (Uc 0 rfl (lssF (by omega)) (Uf 0 [0,5,6,10,11,12,13] rfl (Ut 1 rfl (Go'.condF rfl (Ut 2 rfl (Ur 2 0 rfl (Uf 2 [4] rfl (Go'.ret (vs:=[_]) func117 results117 ⟨rfl,trivial⟩ ?_))))))))
  exact ⟨outs,Zo,hA,fun b h=>(hZo b h).2.2.2.2.1,hag,hF,_,_,_,_,_,_,hI⟩
end
end Go.Bt.FG
namespace Go.Bt.FG
open Go Go.Proofs Go.Proofs.Try
set_option maxRecDepth 20000
set_option maxHeartbeats 4000000
set_option linter.unusedSectionVars false
theorem igitermut_spec {B:World} {H:Mem} {d:Nat} {nl:Bool} {v u:Value} {ord:List Int} {l:List (Int×Int)} {um:Value} {ms:List (Int×Int×Int)} (hd:d=0∨2≤d∧d≤128) (ho:InS EN H v ord) (hol:ord.length≤4294967296) (hi:InS EJ H u l) (hll:l.length≤4294967296) (hu:InS EMv H um ms) (hml:ms.length≤4294967296):
  Fn Try.prog B 111 [.agg #[v,.int .i64 (d:Int),.bool nl],u,um] H (fun v H'=>∃outs,OutS EF H' v outs∧Pl.Agree outs (Pl.itRun (OO ord) (Pl.puts (OO ord) l) ms).2.1 (Pl.itRun (OO ord) (Pl.puts (OO ord) l) ms).2.2∧Fr nowhere H H'):=by
 obtain ⟨a,c,hu⟩:=hi.len
 subst hu
 obtain ⟨av,mv,cv,hv⟩:=InS.form ho
 subst hv
 have hF:Fr nowhere H H:=Fr.refl _ _
 have hP:=PD_ok hd
 refine fn_of func111 rfl ntmps111 ?_
 refine (show Go' _ _ _ _ 17 [(0,_),(1,_),(2,_)] [.code _] _ from ?_)
 refine Ut 1 rfl (Ur 2 2 rfl (O.box rfl rfl rfl rfl ?_))
 intro B1 MB1
 refine ⟨trivial,?_⟩
 have hsB1:=MB1.size
 replace hF:=hF.trans (MB1.fr nowhere)
 have mm:Rd B1 H.size 0 [.slice av mv cv,.int .i64 (d:Int),.bool nl]:=MB1.rd _ [] (by simp [Value.cells])
 have mm0:cl B1 H.size 0=some (.slice av mv cv):=mm 0 _ rfl
 have mm1:cl B1 H.size (0+1)=some (.int .i64 (d:Int)):=mm 1 _ rfl
 refine Uf 1 [1,2,3,6] rfl (Ut 1 rfl (Ur 6 2721 rfl (Us 0 rfl mm rfl (Uq 1 rfl (O.call rfl rfl rfl call68 rfl (grow_spec hd (ho.fr hF) hol (hi.fr hF) hll) ?_)))))
 rintro _ H3 ⟨I,hIo,hIw,hIb,tr,S,rfl,hM,hF3,hS⟩
 have hs3:=hF3.size
 replace hF:=hF.trans hF3
 replace mm:=hF3.rd mm (fun _ _=>nw)
 replace mm0:=hF3.keep mm0 nw
 replace mm1:=hF3.keep mm1 nw
 have hSb:∀b,S b∨(b<cx.base∧cx.own b)→B1.size≤b:=fun b hb=>hb.elim (hS b) (fun h=>hIw b h.2)
 have hOO:OO ord=OI:=by rw [←hIo];rfl
 have hpl:=Pl.puts_length OI l
 have hSlt:=hM.lt
 have hbs:=hM.tc.hb
 unfold ptr
 refine ⟨trivial,?_⟩
 refine O.call rfl rfl rfl call156 rfl IterMut_spec ?_
 rintro _ H4 ⟨kb,rfl,hF4,hwk,hkl,hkg⟩
 have hs4:=hF4.size
 replace hM:=hM.fr hF4 (fun _ _ _=>nw)
 replace hF:=hF.trans hF4
 replace mm:=hF4.rd mm (fun _ _=>nw)
 replace mm0:=hF4.keep mm0 nw
 replace mm1:=hF4.keep mm1 nw
 refine ⟨trivial,?_⟩
 refine O.alloc rfl rfl rfl zeroValue135 ?_
 intro H5 M5
 refine ⟨trivial,?_⟩
 have hs5:=M5.size
 replace hM:=hM.fr (M5.fr nowhere) (fun _ _ _=>nw)
 replace hF:=hF.trans (M5.fr nowhere)
 replace mm:=(M5.fr nowhere).rd mm (fun _ _=>nw)
 replace mm0:=(M5.fr nowhere).keep mm0 nw
 replace mm1:=(M5.fr nowhere).keep mm1 nw
 replace hwk:=(M5.fr nowhere).wr hwk
 have m7:Wr H5 H4.size 0 17:=M5.wr 17 (by decide)
 refine O.st (vs:=(itv tr true kb)) rfl rfl sizeOf135 rfl rfl rfl rfl rfl m7 ?_
 intro H6 W6
 have hs6:=W6.size
 replace hM:=hM.fr W6.fr (fun b o hb=>nr (.inl (hb.elim (fun hb=>by have:=hSlt b hb;omega) (fun hb=>by have:=hb.1;omega))))
 replace hF:=hF.trans' W6.fr (fun _ _ _ h=>h) (fun b o hb h=>by have h':=h.1;omega)
 replace mm:=W6.fr.rd mm (fun _ _=>nr (.inl (by omega)))
 replace mm0:=W6.fr.keep mm0 (nr (.inl (by omega)))
 replace mm1:=W6.fr.keep mm1 (nr (.inl (by omega)))
 have hI:=itr_new W6 m7 hwk (by omega) (by omega)
 obtain ⟨r,hT⟩:=hM.treeR hP (by omega)
 refine ⟨trivial,?_⟩
 refine Uf 0 [2,6,7] rfl (Ut 1 rfl (Ur 3 8 rfl (Uq 1 rfl (O.call rfl rfl rfl call117 rfl (moved_spec hP hI hT (fun h=>h.elim (fun h=>by have:=hSlt _ h;omega) (fun h=>by have:=h.1;omega)) (fun b h e=>h.elim (fun h=>by have:=hSlt _ h;have e':b=kb:=e;omega) (fun h=>by have:=h.1;have e':b=kb:=e;omega)) (Pl.puts_srt OI l) hu hml hF (by have:=hF.size;omega) (fun b h=>by have h':b=kb:=h;omega)) ?_))))
 rintro _ H7 ⟨outs,Zo,hA,hZi,hag,hF7,sk,sa,se,Z,fr,kv,hI7⟩
 refine ⟨trivial,?_⟩
 refine Uf 1 [6,7,8] rfl (Ut 1 rfl (Ur 1 2 rfl (O.call rfl rfl rfl call118 rfl (iRelease_spec hI7) ?_)))
 rintro _ H8 ⟨rfl,hF8⟩
 refine ⟨trivial,?_⟩
 refine Uf 0 [6,8] rfl (Ut 1 rfl (Ur 2 0 rfl (Uf 2 [6] rfl (Go'.ret (vs:=[_]) func111 results111 ⟨rfl,trivial⟩ ?_))))
 rw [hOO]
 exact ⟨outs,(hA.fr hF8 (fun b o _ hb=>hZi b hb)).out,hag,hF7.trans' hF8 (fun _ _ _ h=>h) (fun b o hb h=>by have h':b=H4.size:=h;omega)⟩
theorem ath_cut (l:List (Int×Int)) (z:Int):(Pl.cut l.length z).bind (l[·]?)=ath l z:=by
 unfold Pl.cut ath
 by_cases h:z<0
 · rw [if_neg (by omega),if_pos h];rfl
 ·
  rw [if_neg h]
  by_cases h2:z<(l.length:Int)
  · rw [if_pos ⟨by omega,h2⟩];rfl
  · rw [if_neg (by omega),List.getElem?_eq_none (by omega)];rfl
theorem atz_none {l:List (Int×Int)} {z:Int} (h:ath l z=none):Pl.atz (Pl.cut l.length z)=-1:=by
 cases hc:Pl.cut l.length z with
 | none=>rfl
 | some q=>
  have hq:=Pl.cut_lt hc
  rw [←ath_cut,hc] at h
  have:l[q]?=none:=h
  rw [List.getElem?_eq_none_iff] at this
  omega
theorem atz_some {l:List (Int×Int)} {z:Int} {y:Int×Int} (h:ath l z=some y):Pl.atz (Pl.cut l.length z)=z:=by
 cases hc:Pl.cut l.length z with
 | none=>rw [←ath_cut,hc] at h;cases h
 | some q=>
  unfold Pl.cut at hc
  split at hc
  ·
   cases hc
   show ((z.toNat:Nat):Int)=z
   omega
  · cases hc
theorem giter_spec {B:World} {H:Mem} {v u um:Value} {ord:List Int} {l:List (Int×Int)} {ms:List (Int×Int×Int)} (ho:InS EN H v ord) (hl:ord.length<4611686018427387904) (hi:InS EJ H u l) (hs:Pl.Srt (OO ord) l) (hll:l.length≤4294967296) (hu:InS EMv H um ms) (hml:ms.length≤4294967296):
  Fn Try.prog B 112 [v,u,um] H (fun r H'=>∃v1 v2,r=.tuple #[v1,v2]∧OutS EF H' v1 (Pl.itRun (OO ord) l ms).2.1∧OutS EB H' v2 (Pl.itRun (OO ord) l ms).2.2∧Fr nowhere H H'):=by
 obtain ⟨a,c,hue⟩:=hi.len
 subst hue
 obtain ⟨am,cm,hue⟩:=hu.len
 subst hue
 refine fn_of func112 rfl ntmps112 ?_
 refine (show Go' _ _ _ _ 79 [(0,_),(1,_),(2,_)] [.code _] _ from ?_)
 refine Ut 1 rfl (Ur 2 0 rfl (Uf 2 [0,1,2,6,7] rfl (Ut 1 rfl (Ur 1 0 rfl (Uf 1 [0,1,2,6,7,8] rfl (Ut 1 rfl (Ur 1 0 rfl (Uf 1 [0,1,2,6,7,8,9] rfl (Ut 1 rfl (Ur 1 0 rfl (Uf 1 [0,1,2,6,7,8,9,10] rfl ?_)))))))))))
 refine Ut 2 rfl (Ur 3 0 rfl (Uf 3 [0,1,6,7,8,9,10,15,16,17] rfl (Ut 1 rfl (Go'.loop (Uk [0,1,8,9,10,15,16,17] rfl ?_)))))
 refine Go'.ind (σ:=Nat×Value×Value) (fun s=>ms.length-s.1) (fun s H'=>Fr nowhere H H'∧s.1≤ms.length∧∃Zo Zt,Acc EF Zo H' s.2.1 (Pl.itRun (OO ord) l (ms.take s.1)).2.1∧Acc EB Zt H' s.2.2 (Pl.itRun (OO ord) l (ms.take s.1)).2.2∧(∀b,Zo b→H.size≤b∧b<H'.size∧¬Zt b)∧∀b,Zt b→H.size≤b∧b<H'.size)
  (fun s=>[(0,v),(1,.slice a l.length c),(8,s.2.1),(9,s.2.2),(10,.int .i64 (Pl.atz (Pl.itRun (OO ord) l (ms.take s.1)).1)),(15,.slice am ms.length cm),(16,.int .i64 (ms.length:Int)),(17,.int .i64 (s.1:Int))]) (0,.slice none 0 0,.slice none 0 0)
  ⟨Fr.refl _ _,Nat.zero_le _,fun _=>False,fun _=>False,Acc.nil _ _ _,Acc.nil _ _ _,fun _ h=>h.elim,fun _ h=>h.elim⟩ rfl ?_
 rintro ⟨j,sv,tv⟩ H2 ⟨hF,hjl,Zo,Zt,hA,hB,hZo,hZt⟩ ih
 simp only at hjl hA hB
 have ho2:=ho.fr hF
 have hi2:=hi.fr hF
 refine Ut 1 rfl ?_
 by_cases hlt:j<ms.length
 ·
  obtain ⟨y,hy⟩:∃y,ms[j]?=some y:=⟨ms[j],List.getElem?_eq_getElem hlt⟩
  obtain ⟨b,o,c',e,hr⟩:=(hu.fr hF).at hy
  cases e
  have hsz0:=hF.size
  have erun:Pl.itRun (OO ord) l (ms.take (j+1))=Pl.itStep (OO ord) l (Pl.itRun (OO ord) l (ms.take j)) y:=by rw [List.take_add_one,hy];exact Pl.itRun_snoc _ _ _ _
  have hlA:(Pl.itRun (OO ord) l (ms.take j)).2.1.length=j:=by rw [(Pl.itRun_len (OO ord) l (ms.take j)).1,List.length_take];omega
  have hlB:(Pl.itRun (OO ord) l (ms.take j)).2.2.length=j:=by rw [(Pl.itRun_len (OO ord) l (ms.take j)).2,List.length_take];omega
  refine Ur 1 0 rfl (Uc 0 rfl (lssT (by omega)) (Uf 0 [0,1,8,9,10,15,16,17,18] rfl (Ut 1 rfl (Go'.condT rfl (Ut 4 rfl (Ur 4 164 rfl (Ux 0 j rfl (by omega) hlt (Us 0 rfl hr rfl (O.alloc rfl rfl rfl zeroValue79 ?_)))))))))
  intro H3 M3
  refine ⟨trivial,?_⟩
  have hs3:=M3.size
  have m7:Wr H3 H2.size 0 3:=M3.wr 3 (by decide)
  refine O.st rfl rfl sizeOf79 rfl rfl rfl rfl rfl m7 ?_
  intro H4 W4
  have hs4:=W4.size
  have hf4:Fr nowhere H2 H4:=(M3.fr nowhere).trans' W4.fr (fun _ _ _ h=>h) (fun b o hb hz=>by have h1:=hz.1;omega)
  replace ho2:=ho2.fr hf4
  replace hi2:=hi2.fr hf4
  replace hA:=hA.fr hf4 (fun _ _ _ _=>nw)
  replace hB:=hB.fr hf4 (fun _ _ _ _=>nw)
  have k0:cl H4 H2.size 0=some (.int .i64 y.1):=W4.all 0 _ rfl
  have k2:Rd H4 H2.size 1 (EJ.enc y.2):=fun i v hv=>by
   have h:=W4.all (1+i) v (by rw [←hv,Nat.add_comm];rfl)
   rwa [Nat.zero_add] at h
  clear hr m7 M3
  refine ⟨trivial,?_⟩
  refine Uf 0 [0,1,8,9,10,12,15,16,17,18] rfl (Ut 1 rfl (Ur 1 0 rfl (Uf 1 [0,1,8,9,10,12,13,15,16,17,18] rfl (Ut 2 rfl (Ur 2 4 rfl (Ul 1 rfl k0 (Uf 0 [0,1,8,9,10,12,13,15,16,17,18,22] rfl (Ut 3 rfl ?_))))))))
  refine Go'.cut4 (σ:=Int×Bool) (fun s H'=>Fr nowhere H4 H'∧s.1=Pl.mvTo (OO ord) l y (Pl.itRun (OO ord) l (ms.take j)).1∧s.2=Pl.mvTold l y (Pl.itRun (OO ord) l (ms.take j)).1) (fun s=>[(0,v),(1,.slice a l.length c),(8,sv),(9,tv),(10,.int .i64 s.1),(13,.bool s.2),(15,.slice (some ⟨b,o,none⟩) ms.length cm),(16,.int .i64 (ms.length:Int)),(17,.int .i64 (j:Int))]) ?_ ?_
  ·
   rintro ⟨z,k⟩ H5 ⟨hf5,ez,ek⟩
   simp only at ez ek
   replace hi2:=hi2.fr hf5
   replace hA:=hA.fr hf5 (fun _ _ _ _=>nw)
   replace hB:=hB.fr hf5 (fun _ _ _ _=>nw)
   replace hf5:=hf4.trans hf5
   have hs5:=hf5.size
   have e1:(Pl.itRun (OO ord) l (ms.take (j+1))).1=Pl.cut l.length z:=by rw [erun,ez];rfl
   have e2:(Pl.itRun (OO ord) l (ms.take (j+1))).2.1=(Pl.itRun (OO ord) l (ms.take j)).2.1++[ath l z]:=by rw [erun,←ath_cut,ez];rfl
   have e3:(Pl.itRun (OO ord) l (ms.take (j+1))).2.2=(Pl.itRun (OO ord) l (ms.take j)).2.2++[k]:=by rw [erun,ek];rfl
   refine Ut 1 rfl ?_
   cases hath:ath l z
   ·
    refine Ur 5 672 rfl (Uq 2 rfl (O.call rfl rfl rfl call136 rfl (at_spec z hi2 hll) ?_))
    rintro _ H6 ⟨rfl,hF6⟩
    rw [hath]
    unfold FV
    have hs6:=hF6.size
    replace hA:=hA.fr hF6 (fun _ _ _ _=>nw)
    replace hB:=hB.fr hF6 (fun _ _ _ _=>nw)
    refine ⟨trivial,?_⟩
    refine O.alloc rfl rfl rfl zeroValue68 ?_
    intro H7 M7
    refine ⟨trivial,?_⟩
    have hs7:=M7.size
    have m14:Wr H7 H6.size 0 3:=M7.wr 3 (by decide)
    replace hA:=hA.fr (M7.fr nowhere) (fun _ _ _ _=>nw)
    replace hB:=hB.fr (M7.fr nowhere) (fun _ _ _ _=>nw)
    refine O.st (vs:=(fvs none)) rfl rfl sizeOf68 rfl rfl rfl rfl rfl m14 ?_
    intro H8 W8
    have hs8:=W8.size
    have f8:Rd H8 H6.size 0 (fvs none):=W8.all
    have hf8:Fr nowhere H2 H8:=((hf5.trans hF6).trans (M7.fr nowhere)).trans' W8.fr (fun _ _ _ h=>h) (fun b o hb hz=>by have h1:=hz.1;omega)
    replace hA:=hA.fr W8.fr (fun b o _ hz hx=>by have h1:=hx.1;have h2:=hZo b hz;omega)
    replace hB:=hB.fr W8.fr (fun b o _ hz hx=>by have h1:=hx.1;have h2:=hZt b hz;omega)
    refine ⟨trivial,?_⟩
    refine Uf 0 [0,1,8,9,10,13,14,15,16,17] rfl (Ut 2 rfl (Ur 3 4 rfl (Ul 1 rfl (f8 2 _ rfl) (Uf 1 [0,1,8,9,10,13,14,15,16,17,67] rfl (Go'.condT rfl (Ur 1 0 rfl (Uf 1 [0,1,8,9,10,13,14,15,16,17,67] rfl (Ur 10 41124 rfl (Us 1 rfl f8 rfl (O.bsl (cs:=(fvs none)) rfl rfl rfl ⟨underlying64,sizeOf68,zeroValue68,⟨_,typeInfo68,rfl⟩,rfl,by decide,by decide⟩ rfl (by decide) (by kernel_rfl) ?_))))))))))
    intro H9 M9
    have hs9:=M9.size
    replace hA:=hA.fr (M9.fr nowhere) (fun _ _ _ _=>nw)
    replace hB:=hB.fr (M9.fr nowhere) (fun _ _ _ _=>nw)
    have m5:Rd H9 H8.size 0 (row EF [none]):=M9.rd _ [] (by simp [row,EF,fvs])
    refine ⟨trivial,?_⟩
    refine O.appA (E:=EF) (Y:=[none]) rfl rfl rfl ⟨underlying64,sizeOf68,zeroValue68,⟨_,typeInfo68,rfl⟩,rfl,by decide,by decide⟩ rfl hA rfl ⟨_,_,_,rfl,m5⟩ (Nat.succ_pos _) (Nat.le_trans (Nat.mul_le_mul_left _ (Nat.le_of_ble_eq_true (n:=_) (m:=4096) rfl)) (by rw [hlA];simp only [List.length_cons,List.length_nil];omega)) (by rw [hlA];simp only [List.length_cons,List.length_nil];omega) ?_
    intro v10 H10 hA10 hF10 hs10
    have hg10:=hF10.size
    replace hB:=hB.fr hF10 (fun b o _ hz hx=>(hZo b hx).2.2 hz)
    refine ⟨trivial,?_⟩
    refine Uq 2 rfl (O.bsl (cs:=[.bool k]) rfl rfl rfl ⟨underlying75,sizeOf4,zeroValue4,⟨_,typeInfo4,rfl⟩,rfl,by decide,by decide⟩ rfl (by decide) (by kernel_rfl) ?_)
    intro H11 M11
    have hs11:=M11.size
    have hA11:=hA10.fr (M11.fr nowhere) (fun _ _ _ _=>nw)
    replace hB:=hB.fr (M11.fr nowhere) (fun _ _ _ _=>nw)
    have m6:Rd H11 H10.size 0 (row EB [k]):=M11.rd _ [] (by simp [row,EB])
    refine ⟨trivial,?_⟩
    refine O.appA (E:=EB) (Y:=[k]) rfl rfl rfl ⟨underlying75,sizeOf4,zeroValue4,⟨_,typeInfo4,rfl⟩,rfl,by decide,by decide⟩ rfl hB rfl ⟨_,_,_,rfl,m6⟩ (Nat.succ_pos _) (Nat.le_trans (Nat.mul_le_mul_left _ (Nat.le_of_ble_eq_true (n:=_) (m:=4096) rfl)) (by rw [hlB];simp only [List.length_cons,List.length_nil];omega)) (by rw [hlB];simp only [List.length_cons,List.length_nil];omega) ?_
    intro v12 H12 hB12 hF12 hs12
    have hg12:=hF12.size
    have hA12:=hA11.fr hF12 (fun b o _ hz hx=>by
     have h2:=hZt b hx
     rcases hz with hz|hz
     · exact (hZo b hz).2.2 hx
     · omega)
    rw [hath] at e2
    refine ⟨trivial,?_⟩
    refine Uf 2 [0,1,8,9,10,13,14,15,16,17,67] rfl (Ut 1 rfl (Ur 2 0 rfl (Ua 0 (((j+1:Nat):Int)) rfl (by omega) (Uf 1 [0,1,8,9,10,13,14,15,16,17,67] rfl (Uk [0,1,8,9,10,15,16,17] rfl (Go'.inLoop ?_))))))
    have hn:=ih (j+1,v10,v12) H12 ⟨((((hF.trans hf8).trans (M9.fr nowhere)).trans' hF10 (fun _ _ _ h=>h) (fun b o hb hz=>by have:=(hZo b hz).1;omega)).trans (M11.fr nowhere)).trans' hF12 (fun _ _ _ h=>h) (fun b o hb hz=>by have:=(hZt b hz).1;omega),hlt,(fun b=>Zo b∨(b=H9.size∧b<H10.size)),(fun b=>Zt b∨(b=H11.size∧b<H12.size)),by
     simp only
     rw [e2]
     exact hA12,by
     simp only
     rw [e3]
     exact hB12,fun b hb=>hb.elim (fun h=>⟨(hZo b h).1,by have:=(hZo b h).2.1;omega,fun hx=>hx.elim (hZo b h).2.2 (fun h2=>by have:=(hZo b h).2.1;omega)⟩) (fun h=>⟨by omega,by omega,fun hx=>hx.elim (fun h2=>by have:=(hZt b h2).2;omega) (fun h2=>by omega)⟩),fun b hb=>hb.elim (fun h=>⟨(hZt b h).1,by have:=(hZt b h).2;omega⟩) (fun h=>⟨by omega,h.2⟩)⟩ (by simp only;omega)
    simp only [e1,atz_none hath] at hn
    exact hn
   ·
    rename_i y2
    refine Ur 5 672 rfl (Uq 2 rfl (O.call rfl rfl rfl call136 rfl (at_spec z hi2 hll) ?_))
    rintro _ H6 ⟨rfl,hF6⟩
    rw [hath]
    unfold FV
    have hs6:=hF6.size
    replace hA:=hA.fr hF6 (fun _ _ _ _=>nw)
    replace hB:=hB.fr hF6 (fun _ _ _ _=>nw)
    refine ⟨trivial,?_⟩
    refine O.alloc rfl rfl rfl zeroValue68 ?_
    intro H7 M7
    refine ⟨trivial,?_⟩
    have hs7:=M7.size
    have m14:Wr H7 H6.size 0 3:=M7.wr 3 (by decide)
    replace hA:=hA.fr (M7.fr nowhere) (fun _ _ _ _=>nw)
    replace hB:=hB.fr (M7.fr nowhere) (fun _ _ _ _=>nw)
    refine O.st (vs:=(fvs (some y2))) rfl rfl sizeOf68 rfl rfl rfl rfl rfl m14 ?_
    intro H8 W8
    have hs8:=W8.size
    have f8:Rd H8 H6.size 0 (fvs (some y2)):=W8.all
    have hf8:Fr nowhere H2 H8:=((hf5.trans hF6).trans (M7.fr nowhere)).trans' W8.fr (fun _ _ _ h=>h) (fun b o hb hz=>by have h1:=hz.1;omega)
    replace hA:=hA.fr W8.fr (fun b o _ hz hx=>by have h1:=hx.1;have h2:=hZo b hz;omega)
    replace hB:=hB.fr W8.fr (fun b o _ hz hx=>by have h1:=hx.1;have h2:=hZt b hz;omega)
    refine ⟨trivial,?_⟩
    refine Uf 0 [0,1,8,9,10,13,14,15,16,17] rfl (Ut 2 rfl (Ur 3 4 rfl (Ul 1 rfl (f8 2 _ rfl) (Uf 1 [0,1,8,9,10,13,14,15,16,17,67] rfl (Go'.condF rfl (Ut 1 rfl (Ur 10 41124 rfl (Us 1 rfl f8 rfl (O.bsl (cs:=(fvs (some y2))) rfl rfl rfl ⟨underlying64,sizeOf68,zeroValue68,⟨_,typeInfo68,rfl⟩,rfl,by decide,by decide⟩ rfl (by decide) (by kernel_rfl) ?_)))))))))
    intro H9 M9
    have hs9:=M9.size
    replace hA:=hA.fr (M9.fr nowhere) (fun _ _ _ _=>nw)
    replace hB:=hB.fr (M9.fr nowhere) (fun _ _ _ _=>nw)
    have m5:Rd H9 H8.size 0 (row EF [(some y2)]):=M9.rd _ [] (by simp [row,EF,fvs])
    refine ⟨trivial,?_⟩
    refine O.appA (E:=EF) (Y:=[(some y2)]) rfl rfl rfl ⟨underlying64,sizeOf68,zeroValue68,⟨_,typeInfo68,rfl⟩,rfl,by decide,by decide⟩ rfl hA rfl ⟨_,_,_,rfl,m5⟩ (Nat.succ_pos _) (Nat.le_trans (Nat.mul_le_mul_left _ (Nat.le_of_ble_eq_true (n:=_) (m:=4096) rfl)) (by rw [hlA];simp only [List.length_cons,List.length_nil];omega)) (by rw [hlA];simp only [List.length_cons,List.length_nil];omega) ?_
    intro v10 H10 hA10 hF10 hs10
    have hg10:=hF10.size
    replace hB:=hB.fr hF10 (fun b o _ hz hx=>(hZo b hx).2.2 hz)
    refine ⟨trivial,?_⟩
    refine Uq 2 rfl (O.bsl (cs:=[.bool k]) rfl rfl rfl ⟨underlying75,sizeOf4,zeroValue4,⟨_,typeInfo4,rfl⟩,rfl,by decide,by decide⟩ rfl (by decide) (by kernel_rfl) ?_)
    intro H11 M11
    have hs11:=M11.size
    have hA11:=hA10.fr (M11.fr nowhere) (fun _ _ _ _=>nw)
    replace hB:=hB.fr (M11.fr nowhere) (fun _ _ _ _=>nw)
    have m6:Rd H11 H10.size 0 (row EB [k]):=M11.rd _ [] (by simp [row,EB])
    refine ⟨trivial,?_⟩
    refine O.appA (E:=EB) (Y:=[k]) rfl rfl rfl ⟨underlying75,sizeOf4,zeroValue4,⟨_,typeInfo4,rfl⟩,rfl,by decide,by decide⟩ rfl hB rfl ⟨_,_,_,rfl,m6⟩ (Nat.succ_pos _) (Nat.le_trans (Nat.mul_le_mul_left _ (Nat.le_of_ble_eq_true (n:=_) (m:=4096) rfl)) (by rw [hlB];simp only [List.length_cons,List.length_nil];omega)) (by rw [hlB];simp only [List.length_cons,List.length_nil];omega) ?_
    intro v12 H12 hB12 hF12 hs12
    have hg12:=hF12.size
    have hA12:=hA11.fr hF12 (fun b o _ hz hx=>by
     have h2:=hZt b hx
     rcases hz with hz|hz
     · exact (hZo b hz).2.2 hx
     · omega)
    rw [hath] at e2
    refine ⟨trivial,?_⟩
    refine Uf 2 [0,1,8,9,10,13,14,15,16,17,67] rfl (Ut 1 rfl (Ur 2 0 rfl (Ua 0 (((j+1:Nat):Int)) rfl (by omega) (Uf 1 [0,1,8,9,10,13,14,15,16,17,67] rfl (Uk [0,1,8,9,10,15,16,17] rfl (Go'.inLoop ?_))))))
    have hn:=ih (j+1,v10,v12) H12 ⟨((((hF.trans hf8).trans (M9.fr nowhere)).trans' hF10 (fun _ _ _ h=>h) (fun b o hb hz=>by have:=(hZo b hz).1;omega)).trans (M11.fr nowhere)).trans' hF12 (fun _ _ _ h=>h) (fun b o hb hz=>by have:=(hZt b hz).1;omega),hlt,(fun b=>Zo b∨(b=H9.size∧b<H10.size)),(fun b=>Zt b∨(b=H11.size∧b<H12.size)),by
     simp only
     rw [e2]
     exact hA12,by
     simp only
     rw [e3]
     exact hB12,fun b hb=>hb.elim (fun h=>⟨(hZo b h).1,by have:=(hZo b h).2.1;omega,fun hx=>hx.elim (hZo b h).2.2 (fun h2=>by have:=(hZo b h).2.1;omega)⟩) (fun h=>⟨by omega,by omega,fun hx=>hx.elim (fun h2=>by have:=(hZt b h2).2;omega) (fun h2=>by omega)⟩),fun b hb=>hb.elim (fun h=>⟨(hZt b h).1,by have:=(hZt b h).2;omega⟩) (fun h=>⟨by omega,h.2⟩)⟩ (by simp only;omega)
    simp only [e1,atz_some hath] at hn
    exact hn
  ·
   intro tail
   have hqlt:∀q,(Pl.itRun (OO ord) l (ms.take j)).1=some q→q<l.length:=fun q h=>Pl.itRun_lt (OO ord) l _ h
   generalize (Pl.itRun (OO ord) l (ms.take j)).1=s0 at*
   by_cases h2:y.1=2
   ·
    refine Ur 2 0 rfl (Uc 0 rfl (eqlT (by omega)) (Uf 1 [0,1,8,9,10,12,13,15,16,17,18,22,23] rfl (Go'.condT rfl (Ut 1 rfl (Go'.condT rfl (Ut 1 rfl ?_))))))
    rcases s0 with _|q
    ·
     by_cases hl0:l.length=0
     ·
      refine Ur 8 0 rfl (Uc 1 rfl (geqF (by decide)) (Uc 3 rfl (eqlT (by omega)) (Uf 2 [0,1,8,9,10,12,13,15,16,17,18,22,23] rfl (Ut 1 rfl (Ur 7 256 rfl (Uc 1 rfl (geqF (by decide)) (Uf 5 [0,1,8,9,10,12,13,15,16,17,18,22,23,39] rfl (Go'.condF rfl (Ut 1 rfl (Ur 2 0 rfl (Uc 1 rfl (geqF (by decide)) ?_)))))))))))
      refine Uf 0 [0,1,8,9,10,12,13,15,16,17,18,22,23,39,43] rfl (Go'.condF rfl (Ut 2 rfl (Uk [0,1,8,9,10,13,15,16,17] rfl ?_)))
      exact tail (-1,true) _ ⟨Fr.refl _ _,by unfold Pl.mvTo;rw [if_pos (.inl h2)],by unfold Pl.mvTold;rw [if_pos (.inl h2)];rw [List.length_eq_zero_iff.1 hl0];rfl⟩
     ·
      refine Ur 8 0 rfl (Uc 1 rfl (geqF (by decide)) (Uc 3 rfl (eqlF (by omega)) (Uf 2 [0,1,8,9,10,12,13,15,16,17,18,22,23] rfl (Ut 1 rfl (Ur 7 256 rfl (Uc 1 rfl (geqF (by decide)) (Uf 5 [0,1,8,9,10,12,13,15,16,17,18,22,23,39] rfl (Go'.condF rfl (Ut 1 rfl (Ur 2 0 rfl (Uc 1 rfl (geqF (by decide)) ?_)))))))))))
      refine Uf 0 [0,1,8,9,10,12,13,15,16,17,18,22,23,39,43] rfl (Go'.condF rfl (Ut 2 rfl (Uk [0,1,8,9,10,13,15,16,17] rfl ?_)))
      exact tail (-1,false) _ ⟨Fr.refl _ _,by unfold Pl.mvTo;rw [if_pos (.inl h2)],by unfold Pl.mvTold;rw [if_pos (.inl h2)];cases l with|nil=>exact absurd rfl hl0|cons=>rfl⟩
    ·
     have hql:=hqlt q rfl
     refine Ur 8 0 rfl (Uc 1 rfl (geqT (Int.natCast_nonneg q)) (Uf 6 [0,1,8,9,10,12,13,15,16,17,18,22,23] rfl (Ut 1 rfl (Ur 7 256 rfl (Uc 1 rfl (geqT (Int.natCast_nonneg q)) (Ul 2 rfl k0 (Uc 0 rfl (eqlT (by omega)) (Uf 1 [0,1,8,9,10,12,13,15,16,17,18,22,23,39] rfl (Go'.condT rfl (Ur 3 0 rfl (Uq 1 rfl ?_)))))))))))
     refine O.add ((q:Int)+1) rfl rfl rfl rfl rfl rfl (show (q:Int)+1=(q:Int)+1 from rfl) (by omega) (Uf 1 [0,1,8,9,10,12,13,15,16,17,18,22,23,39] rfl (Ut 1 rfl (Uk [0,1,8,9,10,13,15,16,17] rfl ?_)))
     exact tail ((q:Int)+1,true) _ ⟨Fr.refl _ _,by unfold Pl.mvTo;rw [if_pos (.inl h2)];simp only;rw [if_pos h2],by unfold Pl.mvTold;rw [if_pos (.inl h2)];rfl⟩
   refine Ur 2 0 rfl (Uc 0 rfl (eqlF (by omega)) (Uf 1 [0,1,8,9,10,12,13,15,16,17,18,22,23] rfl (Go'.condF rfl ?_)))
   by_cases h3:y.1=3
   ·
    refine Ur 2 0 rfl (Uc 0 rfl (eqlT (by omega)) (Uf 1 [0,1,8,9,10,12,13,15,16,17,18,22,23] rfl (Go'.condT rfl (Ut 1 rfl ?_))))
    rcases s0 with _|q
    ·
     by_cases hl0:l.length=0
     ·
      refine Ur 8 0 rfl (Uc 1 rfl (geqF (by decide)) (Uc 3 rfl (eqlT (by omega)) (Uf 2 [0,1,8,9,10,12,13,15,16,17,18,22,23] rfl (Ut 1 rfl (Ur 7 256 rfl (Uc 1 rfl (geqF (by decide)) (Uf 5 [0,1,8,9,10,12,13,15,16,17,18,22,23,39] rfl (Go'.condF rfl (Ut 1 rfl (Ur 2 0 rfl (Uc 1 rfl (geqF (by decide)) ?_)))))))))))
      refine Uf 0 [0,1,8,9,10,12,13,15,16,17,18,22,23,39,43] rfl (Go'.condF rfl (Ut 2 rfl (Uk [0,1,8,9,10,13,15,16,17] rfl ?_)))
      exact tail (-1,true) _ ⟨Fr.refl _ _,by unfold Pl.mvTo;rw [if_pos (.inr h3)],by unfold Pl.mvTold;rw [if_pos (.inr h3)];rw [List.length_eq_zero_iff.1 hl0];rfl⟩
     ·
      refine Ur 8 0 rfl (Uc 1 rfl (geqF (by decide)) (Uc 3 rfl (eqlF (by omega)) (Uf 2 [0,1,8,9,10,12,13,15,16,17,18,22,23] rfl (Ut 1 rfl (Ur 7 256 rfl (Uc 1 rfl (geqF (by decide)) (Uf 5 [0,1,8,9,10,12,13,15,16,17,18,22,23,39] rfl (Go'.condF rfl (Ut 1 rfl (Ur 2 0 rfl (Uc 1 rfl (geqF (by decide)) ?_)))))))))))
      refine Uf 0 [0,1,8,9,10,12,13,15,16,17,18,22,23,39,43] rfl (Go'.condF rfl (Ut 2 rfl (Uk [0,1,8,9,10,13,15,16,17] rfl ?_)))
      exact tail (-1,false) _ ⟨Fr.refl _ _,by unfold Pl.mvTo;rw [if_pos (.inr h3)],by unfold Pl.mvTold;rw [if_pos (.inr h3)];cases l with|nil=>exact absurd rfl hl0|cons=>rfl⟩
    ·
     have hql:=hqlt q rfl
     refine Ur 8 0 rfl (Uc 1 rfl (geqT (Int.natCast_nonneg q)) (Uf 6 [0,1,8,9,10,12,13,15,16,17,18,22,23] rfl (Ut 1 rfl (Ur 7 256 rfl (Uc 1 rfl (geqT (Int.natCast_nonneg q)) (Ul 2 rfl k0 (Uc 0 rfl (eqlF (by omega)) (Uf 1 [0,1,8,9,10,12,13,15,16,17,18,22,23,39] rfl (Go'.condF rfl (Ut 1 rfl (Ur 2 0 rfl ?_)))))))))))
     refine Uc 1 rfl (geqT (Int.natCast_nonneg q)) (Uf 0 [0,1,8,9,10,12,13,15,16,17,18,22,23,39,43] rfl (Go'.condT rfl (Ur 3 0 rfl (Uq 1 rfl (O.sub ((q:Int)-1) rfl rfl rfl rfl rfl rfl (show (q:Int)-1=(q:Int)-1 from rfl) (by omega) (Uf 1 [0,1,8,9,10,12,13,15,16,17,18,22,23,39,43] rfl (Ut 1 rfl (Uk [0,1,8,9,10,13,15,16,17] rfl ?_))))))))
     exact tail ((q:Int)-1,true) _ ⟨Fr.refl _ _,by unfold Pl.mvTo;rw [if_pos (.inr h3)];simp only;rw [if_neg (by omega)],by unfold Pl.mvTold;rw [if_pos (.inr h3)];rfl⟩
   have eT:Pl.mvTold l y s0=true:=by unfold Pl.mvTold;rw [if_neg (by omega)]
   refine Ur 2 0 rfl (Uc 0 rfl (eqlF (by omega)) (Uf 1 [0,1,8,9,10,12,13,15,16,17,18,22,23] rfl (Go'.condF rfl (Ut 1 rfl ?_))))
   by_cases h1:y.1=1
   ·
    refine Ur 2 0 rfl (Uc 0 rfl (eqlT (by omega)) (Uf 1 [0,1,8,9,10,12,13,15,16,17,18,22,23,46] rfl (Go'.condT rfl (Ur 4 0 rfl (Ub 2 ((l.length:Int)-1) rfl (by omega) (Uf 1 [0,1,8,9,10,12,13,15,16,17,18,22,23,46] rfl (Ut 1 rfl (Uk [0,1,8,9,10,13,15,16,17] rfl ?_))))))))
    exact tail ((l.length:Int)-1,true) _ ⟨Fr.refl _ _,by unfold Pl.mvTo;rw [if_neg (by omega),if_pos h1],eT.symm⟩
   refine Ur 2 0 rfl (Uc 0 rfl (eqlF (by omega)) (Uf 1 [0,1,8,9,10,12,13,15,16,17,18,22,23,46] rfl (Go'.condF rfl (Ut 2 rfl ?_))))
   by_cases h4:y.1=4
   ·
    refine Ur 2 0 rfl (Uc 0 rfl (eqlT (by omega)) (Uf 1 [0,1,8,9,10,12,13,15,16,17,18,22,23,46,51] rfl (Go'.condT rfl (Ut 1 rfl (Go'.condT rfl (Ur 9 576 rfl (Us 3 rfl k2 rfl (O.call rfl rfl rfl call143 rfl (place_spec (x:=y.2) ho2 hl hi2 hs (by omega)) ?_))))))))
    rintro _ H5 ⟨rfl,hf5⟩
    refine ⟨trivial,?_⟩
    refine Uf 4 [0,1,8,9,10,12,13,15,16,17,18,22,23,46,51] rfl (Ut 1 rfl (Uk [0,1,8,9,10,13,15,16,17] rfl ?_))
    exact tail (_,true) _ ⟨hf5,by unfold Pl.mvTo;rw [if_neg (by omega),if_neg h1,if_pos (.inl h4)],eT.symm⟩
   refine Ur 2 0 rfl (Uc 0 rfl (eqlF (by omega)) (Uf 1 [0,1,8,9,10,12,13,15,16,17,18,22,23,46,51] rfl (Go'.condF rfl ?_)))
   by_cases h5:y.1=5
   ·
    refine Ur 2 0 rfl (Uc 0 rfl (eqlT (by omega)) (Uf 1 [0,1,8,9,10,12,13,15,16,17,18,22,23,46,51] rfl (Go'.condT rfl (Ur 9 576 rfl (Us 3 rfl k2 rfl (O.call rfl rfl rfl call143 rfl (place_spec (x:=y.2) ho2 hl hi2 hs (by omega)) ?_))))))
    rintro _ H5 ⟨rfl,hf5⟩
    refine ⟨trivial,?_⟩
    refine Uf 4 [0,1,8,9,10,12,13,15,16,17,18,22,23,46,51] rfl (Ut 1 rfl (Uk [0,1,8,9,10,13,15,16,17] rfl ?_))
    exact tail (_,true) _ ⟨hf5,by unfold Pl.mvTo;rw [if_neg (by omega),if_neg h1,if_pos (.inr h5)],eT.symm⟩
   ·
    refine Ur 2 0 rfl (Uc 0 rfl (eqlF (by omega)) (Uf 1 [0,1,8,9,10,12,13,15,16,17,18,22,23,46,51] rfl (Go'.condF rfl (Ur 1 0 rfl (Uf 1 [0,1,8,9,10,12,13,15,16,17,18,22,23,46,51] rfl (Ut 1 rfl (Uk [0,1,8,9,10,13,15,16,17] rfl ?_)))))))
    exact tail (0,true) _ ⟨Fr.refl _ _,by unfold Pl.mvTo;rw [if_neg (by omega),if_neg h1,if_neg (by omega)],eT.symm⟩
 ·
  obtain rfl:j=ms.length:=by omega
  rw [List.take_length] at hA hB
  refine Ur 1 0 rfl (Uc 0 rfl (lssF (by omega)) (Uf 0 [0,1,8,9,10,15,16,17,18] rfl (Ut 1 rfl (Go'.condF rfl (Ut 2 rfl (Ur 4 0 rfl (Uf 4 [6,7] rfl (Go'.ret (vs:=[_,_]) func112 results112 ⟨rfl,rfl,trivial⟩ ?_))))))))
  exact ⟨_,_,rfl,hA.out,hB.out,hF⟩
end Go.Bt.FG
namespace Go.Bt.FG
open Go Go.Proofs Go.Proofs.Try
set_option maxRecDepth 20000
set_option maxHeartbeats 4000000
set_option linter.unusedSectionVars false
theorem st79:StT Try.prog 79 [(0,1),(1,2)] [.int .i64 0,.int .i64 0,.int .i64 0]:=⟨⟨_,underlying79,fun w=>by simp [Array.mapM_eq_mapM_toList,sizeOf3,sizeOf27]⟩,zeroValue79⟩
def exml:List (Int×Int×Int):=[(1,0,0),(3,0,0),(4,4,0),(2,0,0),(5,1,0),(0,0,0)]
theorem exMoves_spec {B:World} {H:Mem}:Fn Try.prog B 62 [] H (fun r H'=>InS EMv H' r exml∧Fr nowhere H H'):=by
 refine fn_of func62 rfl ntmps62 ?_
 refine (show Go' _ _ _ _ 10 [] [.code _] _ from ?_)
 refine Ut 1 rfl (Ur 1 0 rfl (Uf 1 [0] rfl (Ut 1 rfl (Ur 10 131072 rfl (O.bld (cs:=[.int .i64 1,.int .i64 0,.int .i64 0]) rfl rfl rfl rfl (st79) rfl (by kernel_rfl) (O.bld (cs:=[.int .i64 3,.int .i64 0,.int .i64 0]) rfl rfl rfl rfl (st79) rfl (by kernel_rfl) (O.bld (cs:=[.int .i64 4,.int .i64 0]) rfl rfl rfl rfl (st27) rfl (by kernel_rfl) (O.bld (cs:=[.int .i64 4,.int .i64 4,.int .i64 0]) rfl rfl rfl rfl (st79) rfl (by kernel_rfl) (O.bld (cs:=[.int .i64 2,.int .i64 0,.int .i64 0]) rfl rfl rfl rfl (st79) rfl (by kernel_rfl) (O.bld (cs:=[.int .i64 1,.int .i64 0]) rfl rfl rfl rfl (st27) rfl (by kernel_rfl) (O.bld (cs:=[.int .i64 5,.int .i64 1,.int .i64 0]) rfl rfl rfl rfl (st79) rfl (by kernel_rfl) ?_)))))))))))
 refine O.bld (cs:=[.int .i64 0,.int .i64 0,.int .i64 0]) rfl rfl rfl rfl (st79) rfl (by kernel_rfl) (O.bsl (cs:=(row EMv exml)) rfl rfl rfl ⟨underlying72,sizeOf79,zeroValue79,⟨_,typeInfo79,rfl⟩,rfl,by decide,by decide⟩ rfl (by decide) (by kernel_rfl) ?_)
 intro H1 M1
 refine ⟨trivial,?_⟩
 refine Uf 1 [0] rfl (Go'.ret (vs:=[_]) func62 results62 ⟨rfl,trivial⟩ ?_)
 exact ⟨.inl ⟨H.size,0,6,rfl,by decide,M1.rd _ [] (by simp)⟩,M1.fr nowhere⟩
theorem sameMoves_spec {B:World} {H:Mem} {u v t:Value} {a b:List (Option (Int×Int))} {tl:List Bool} (hu:InS EF H u a) (hv:InS EF H v b) (ht:InS EB H t tl) (hag:Pl.Agree a b tl) (hll:b.length≤4294967296):
  Fn Try.prog B 113 [u,v,t] H (fun r H'=>r=.bool true∧H'=H):=by
 obtain ⟨hab,htb,hag⟩:=hag
 obtain ⟨a1,c1,e⟩:=hu.len
 subst e
 obtain ⟨a2,c2,e⟩:=hv.len
 subst e
 obtain ⟨a3,c3,e⟩:=ht.len
 subst e
 rw [hab,htb]
 rw [hab] at hu
 rw [htb] at ht
 refine fn_of func113 rfl ntmps113 ?_
 refine (show Go' _ _ _ _ 34 [(0,_),(1,_),(2,_)] [.code _] _ from ?_)
 refine Ut 1 rfl (Ur 1 0 rfl (Uf 1 [0,1,2,6] rfl (Ut 2 rfl (Ur 5 0 rfl (Uc 4 rfl (neqF (by omega)) (Uf 0 [0,1,2,6,12] rfl (Go'.condF rfl (Ut 3 rfl (Ur 3 0 rfl (Uf 3 [0,1,2,6,14,15] rfl (Ut 1 rfl ?_)))))))))))
 refine Go'.loop (Uk [0,1,2,14,15] rfl ?_)
 refine Go'.ind (σ:=Nat) (fun j=>b.length-j) (fun j H'=>H'=H∧j≤b.length)
  (fun j=>[(0,.slice a1 b.length c1),(1,.slice a2 b.length c2),(2,.slice a3 b.length c3),(14,.int .i64 (b.length:Int)),(15,.int .i64 (j:Int))]) 0 ⟨rfl,Nat.zero_le _⟩ rfl ?_
 rintro j H2 ⟨hHH,hjl⟩ ih
 have eH:H=H2:=hHH.symm
 subst eH
 clear hHH
 refine Ut 1 rfl ?_
 by_cases hlt:j<b.length
 ·
  obtain ⟨y,hy⟩:∃y,b[j]?=some y:=⟨b[j],List.getElem?_eq_getElem hlt⟩
  obtain ⟨x,hx⟩:∃x,a[j]?=some x:=⟨a[j]'(by omega),List.getElem?_eq_getElem (by omega)⟩
  obtain ⟨k,hk⟩:∃k,tl[j]?=some k:=⟨tl[j]'(by omega),List.getElem?_eq_getElem (by omega)⟩
  obtain ⟨b1,o1,cc1,e,hr1⟩:=hu.at hx
  rw [hab] at e
  cases e
  obtain ⟨b2,o2,cc2,e,hr2⟩:=hv.at hy
  cases e
  obtain ⟨b3,o3,cc3,e,hr3⟩:=ht.at hk
  rw [htb] at e
  cases e
  refine Ur 1 0 rfl (Uc 0 rfl (lssT (by omega)) (Uf 0 [0,1,2,14,15,16] rfl (Ut 1 rfl (Go'.condT rfl (Ut 4 rfl (Ur 2 0 rfl (Uf 2 [0,1,2,7,14,15,16] rfl (Ut 1 rfl ?_))))))))
  rcases k with _|_
  ·
   refine Ud 15 16842816 (by kernel_rfl) (Ux 2 j rfl (by omega) hlt (Ul 0 rfl (hr3 0 _ rfl) (Uf 11 [0,1,2,7,14,15,16,32] rfl (Go'.condF rfl (Ut 2 rfl (Ur 2 0 rfl (Ua 0 (((j+1:Nat):Int)) rfl (by omega) (Uf 1 [0,1,2,7,14,15,16,32] rfl (Uk [0,1,2,14,15] rfl (Go'.inLoop ?_))))))))))
   exact ih (j+1) H ⟨rfl,hlt⟩ (by omega)
  ·
   have exy:x=y:=by
    have h:=hag j hk
    rw [hx,hy] at h
    exact Option.some.inj h
   subst exy
   refine Ud 15 16842816 (by kernel_rfl) (Ux 2 j rfl (by omega) hlt (Ul 0 rfl (hr3 0 _ rfl) (Ux 3 j rfl (by omega) hlt (O.lds rfl rfl rfl (fun w=>⟨isAgg68 w,sizeOf68 w⟩) rfl (by cases x<;>rfl) hr1 (Ux 2 j rfl (by omega) hlt (O.lds rfl rfl rfl (fun w=>⟨isAgg68 w,sizeOf68 w⟩) rfl (by cases x<;>rfl) hr2 (O.bin rfl rfl rfl rfl rfl rfl (found_neq x _ _) (Uf 1 [0,1,2,7,14,15,16,32] rfl (Go'.condF rfl (Ut 2 rfl (Ur 2 0 rfl ?_)))))))))))
   refine Ua 0 (((j+1:Nat):Int)) rfl (by omega) (Uf 1 [0,1,2,7,14,15,16,32] rfl (Uk [0,1,2,14,15] rfl (Go'.inLoop ?_)))
   exact ih (j+1) H ⟨rfl,hlt⟩ (by omega)
 ·
  refine Ur 1 0 rfl (Uc 0 rfl (lssF (by omega)) (Uf 0 [0,1,2,14,15,16] rfl (Ut 1 rfl (Go'.condF rfl (Ut 2 rfl (Ur 1 0 rfl (Uf 1 [6] rfl (Go'.ret (vs:=[_]) func113 results113 ⟨rfl,trivial⟩ ?_))))))))
  exact ⟨rfl,rfl⟩
theorem lawGIterMut_spec {B:World} {H:Mem} {d:Nat} {nl:Bool} {v u:Value} {ord:List Int} {l:List (Int×Int)} {um:Value} {ms:List (Int×Int×Int)} (hd:d=0∨2≤d∧d≤128) (ho:InS EN H v ord) (hol:ord.length≤4294967296) (hi:InS EJ H u l) (hll:l.length≤4294967296) (hu:InS EMv H um ms) (hml:ms.length≤4294967296):
  Fn Try.prog B 61 [.agg #[v,.int .i64 (d:Int),.bool nl],u,um] H (fun r H'=>r=.bool true∧Fr nowhere H H'):=by
 obtain ⟨a,c,hu⟩:=hi.len
 subst hu
 obtain ⟨av,mv,cv,hv⟩:=InS.form ho
 subst hv
 have hF:Fr nowhere H H:=Fr.refl _ _
 have hP:=PD_ok hd
 refine fn_of func61 rfl ntmps61 ?_
 refine (show Go' _ _ _ _ 29 [(0,_),(1,_),(2,_)] [.code _] _ from ?_)
 refine Ut 1 rfl (Ur 2 2 rfl (O.box rfl rfl rfl rfl ?_))
 intro B1 MB1
 refine ⟨trivial,?_⟩
 have hsB1:=MB1.size
 replace hF:=hF.trans (MB1.fr nowhere)
 have mm:Rd B1 H.size 0 [.slice av mv cv,.int .i64 (d:Int),.bool nl]:=MB1.rd _ [] (by simp [Value.cells])
 have mm0:cl B1 H.size 0=some (.slice av mv cv):=mm 0 _ rfl
 have mm1:cl B1 H.size (0+1)=some (.int .i64 (d:Int)):=mm 1 _ rfl
 refine Uf 1 [1,2,3,6] rfl (Ut 1 rfl ?_)
 have hpl:=Pl.puts_length (OO ord) l
 have hpl2:=(Pl.itRun_len (OO ord) (Pl.puts (OO ord) l) ms).1
 have hsrt:=Pl.puts_srt (OO ord) l
 refine Ur 5 129 rfl (Us 0 rfl mm rfl (Uq 2 rfl (O.call rfl rfl rfl call111 rfl (igitermut_spec hd (ho.fr hF) hol (hi.fr hF) hll (hu.fr hF) hml) ?_)))
 rintro _ H3 ⟨outs,hA,hag,hF3⟩
 replace hF:=hF.trans hF3
 replace mm:=hF3.rd mm (fun _ _=>nw)
 replace mm0:=hF3.keep mm0 nw
 replace mm1:=hF3.keep mm1 nw
 refine ⟨trivial,?_⟩
 refine Uf 1 [1,2,3,6,7] rfl (Ut 1 rfl (Go'.draw (fun H'=>cl H' H.size 0=some (.slice av mv cv)) [(0,0),(1,0),(2,0),(3,1),(4,0),(6,0),(5,2),(7,2),(8,0),(9,0),(10,0),(11,0),(12,0)] (by kernel_rfl) (by kernel_rfl) (mm0) (UL 1 rfl (fun _ h=>h) (Ul 1 rfl mm0 (Uq 2 rfl (O.call rfl rfl rfl call42 rfl (tree_spec (ho.fr hF) (by omega) (hi.fr hF) hll) ?_))))))
 rintro r2 H4 ⟨hr2,hF4⟩
 replace hF:=hF.trans hF4
 replace mm:=hF4.rd mm (fun _ _=>nw)
 replace mm0:=hF4.keep mm0 nw
 replace mm1:=hF4.keep mm1 nw
 refine ⟨mm0,?_⟩
 refine O.call rfl rfl rfl call112 rfl (giter_spec (ho.fr hF) (by omega) hr2.inS hsrt (by omega) (hu.fr hF) hml) ?_
 rintro _ H5 ⟨v1,v2,rfl,h1,h2,hF5⟩
 replace hF:=hF.trans hF5
 replace mm:=hF5.rd mm (fun _ _=>nw)
 replace mm0:=hF5.keep mm0 nw
 replace mm1:=hF5.keep mm1 nw
 refine ⟨mm0,?_⟩
 refine Uf 5 [6,7,8,9] rfl (Ut 1 rfl (Ur 5 128 rfl (Uq 3 rfl (O.callQ rfl rfl rfl call113 rfl (sameMoves_spec (hA.inS.fr (hF4.trans hF5)) h1.inS h2.inS hag (by omega)) trivial (Uf 1 [6] rfl (Go'.ret (vs:=[_]) func61 results61 ⟨rfl,trivial⟩ ?_))))))
 exact ⟨rfl,hF⟩
theorem fnExactGIterMut {B:World} {H:Mem} {z:Int} {nl:Bool} {v u:Value} {ord:List Int} {l:List (Int×Int)} {um:Value} {ms:List (Int×Int×Int)} (ho:InS EN H v ord) (hi:InS EJ H u l) (hu:InS EMv H um ms):
  Fn Try.prog B 18 [.agg #[v,.int .i64 z,.bool nl],u,um] H (fun r H'=>r=.bool true∧Fr nowhere H H'):=by
 obtain ⟨a,c,hu⟩:=hi.len
 subst hu
 obtain ⟨av,mv,cv,hv⟩:=InS.form ho
 subst hv
 obtain ⟨ua,uc,hu0⟩:=hu.len
 subst hu0
 have hF:Fr nowhere H H:=Fr.refl _ _
 refine fn_of func18 rfl ntmps18 ?_
 refine (show Go' _ _ _ _ 36 [(0,_),(1,_),(2,_)] [.code _] _ from ?_)
 refine Ut 1 rfl (Ur 2 2 rfl (O.box rfl rfl rfl rfl ?_))
 intro B1 MB1
 refine ⟨trivial,?_⟩
 have hsB1:=MB1.size
 replace hF:=hF.trans (MB1.fr nowhere)
 have mm:Rd B1 H.size 0 [.slice av mv cv,.int .i64 z,.bool nl]:=MB1.rd _ [] (by simp [Value.cells])
 have mm0:cl B1 H.size 0=some (.slice av mv cv):=mm 0 _ rfl
 have mm1:cl B1 H.size (0+1)=some (.int .i64 z):=mm 1 _ rfl
 refine Uf 1 [1,2,3,6] rfl (Ut 2 rfl ?_)
 cases hoz:decide (ord.length≤2147483647)
 ·
  refine Ur 13 9 rfl (Us 0 rfl mm rfl (O.call rfl rfl rfl call23 rfl (zzFits1_spec (ho.fr hF) hoz) ?_))
  rintro _ H1 ⟨rfl,hF1⟩
  replace hF:=hF.trans hF1
  replace mm:=hF1.rd mm (fun _ _=>nw)
  replace mm0:=hF1.keep mm0 nw
  replace mm1:=hF1.keep mm1 nw
  refine ⟨trivial,?_⟩
  refine Uf 11 [1,2,3,6,19] rfl (Go'.condT rfl (Ut 1 rfl (Ur 1 0 rfl (Uf 1 [1,2,3,6] rfl (Go'.ret (vs:=[_]) func18 results18 ⟨rfl,trivial⟩ ?_)))))
  exact ⟨rfl,hF⟩
 ·
  have hoz2:=of_decide_eq_true hoz
  by_cases hb_lenl:(2147483647:Int)<(l.length:Int)
  ·
   refine Ur 13 9 rfl (Us 0 rfl mm rfl (O.call rfl rfl rfl call23 rfl (zzFits1_spec (ho.fr hF) hoz) ?_))
   rintro _ H1 ⟨rfl,hF1⟩
   replace hF:=hF.trans hF1
   replace mm:=hF1.rd mm (fun _ _=>nw)
   replace mm0:=hF1.keep mm0 nw
   replace mm1:=hF1.keep mm1 nw
   refine ⟨trivial,?_⟩
   refine Uc 4 rfl (gtrT (by omega)) (Uf 6 [1,2,3,6,19] rfl (Go'.condT rfl (Ut 1 rfl (Ur 1 0 rfl (Uf 1 [1,2,3,6] rfl (Go'.ret (vs:=[_]) func18 results18 ⟨rfl,trivial⟩ ?_))))))
   exact ⟨rfl,hF⟩
  ·
   by_cases hb_lenmoves:(2147483647:Int)<(ms.length:Int)
   ·
    refine Ur 13 9 rfl (Us 0 rfl mm rfl (O.call rfl rfl rfl call23 rfl (zzFits1_spec (ho.fr hF) hoz) ?_))
    rintro _ H1 ⟨rfl,hF1⟩
    replace hF:=hF.trans hF1
    replace mm:=hF1.rd mm (fun _ _=>nw)
    replace mm0:=hF1.keep mm0 nw
    replace mm1:=hF1.keep mm1 nw
    refine ⟨trivial,?_⟩
    refine Uc 4 rfl (gtrF (by omega)) (Uc 4 rfl (gtrT (by omega)) (Uf 1 [1,2,3,6,19] rfl (Go'.condT rfl (Ut 1 rfl (Ur 1 0 rfl (Uf 1 [1,2,3,6] rfl (Go'.ret (vs:=[_]) func18 results18 ⟨rfl,trivial⟩ ?_)))))))
    exact ⟨rfl,hF⟩
   ·
    refine Ur 13 9 rfl (Us 0 rfl mm rfl (O.call rfl rfl rfl call23 rfl (zzFits1_spec (ho.fr hF) hoz) ?_))
    rintro _ H1 ⟨rfl,hF1⟩
    replace hF:=hF.trans hF1
    replace mm:=hF1.rd mm (fun _ _=>nw)
    replace mm0:=hF1.keep mm0 nw
    replace mm1:=hF1.keep mm1 nw
    refine ⟨trivial,?_⟩
    refine Uc 4 rfl (gtrF (by omega)) (Uc 4 rfl (gtrF (by omega)) (Uf 1 [1,2,3,6,19] rfl (Go'.condF rfl (Ut 2 rfl ?_))))
    cases hfz:fitsb z
    ·
     refine Ur 17 135303338 rfl (O.call rfl rfl rfl call30 rfl exMake_spec ?_)
     rintro _ H2 ⟨rfl,hF2⟩
     replace hF:=hF.trans hF2
     replace mm:=hF2.rd mm (fun _ _=>nw)
     replace mm0:=hF2.keep mm0 nw
     replace mm1:=hF2.keep mm1 nw
     refine ⟨trivial,?_⟩
     refine O.call rfl rfl rfl call32 rfl exItems_spec ?_
     rintro ev H3 ⟨hev,hF3⟩
     replace hF:=hF.trans hF3
     replace mm:=hF3.rd mm (fun _ _=>nw)
     replace mm0:=hF3.keep mm0 nw
     replace mm1:=hF3.keep mm1 nw
     refine ⟨trivial,?_⟩
     refine O.call rfl rfl rfl call62 rfl exMoves_spec ?_
     rintro em H4 ⟨hem,hF4⟩
     replace hF:=hF.trans hF4
     replace mm:=hF4.rd mm (fun _ _=>nw)
     replace mm0:=hF4.keep mm0 nw
     replace mm1:=hF4.keep mm1 nw
     replace hev:=hev.fr hF4
     refine ⟨trivial,?_⟩
     refine O.call rfl rfl rfl call61 rfl (lawGIterMut_spec (d:=2) (by decide) (InS.nil EN _) (by decide) hev (by decide) hem (by decide)) ?_
     rintro _ H5 ⟨rfl,hF5⟩
     replace hF:=hF.trans hF5
     replace mm:=hF5.rd mm (fun _ _=>nw)
     replace mm0:=hF5.keep mm0 nw
     replace mm1:=hF5.keep mm1 nw
     refine ⟨trivial,?_⟩
     refine Ul 2 rfl mm1 (O.callQ rfl rfl rfl call33 rfl (fits_spec' hfz) trivial (Uq 5 rfl (Pl.pass2 rfl rfl rfl rfl trivial (Uf 3 [6] rfl (Go'.ret (vs:=[_]) func18 results18 ⟨rfl,trivial⟩ ?_)))))
     exact ⟨rfl,hF⟩
    ·
     obtain ⟨d,rfl,hd⟩:=fitsb_nat hfz
     refine Ur 17 135303338 rfl (O.call rfl rfl rfl call30 rfl exMake_spec ?_)
     rintro _ H2 ⟨rfl,hF2⟩
     replace hF:=hF.trans hF2
     replace mm:=hF2.rd mm (fun _ _=>nw)
     replace mm0:=hF2.keep mm0 nw
     replace mm1:=hF2.keep mm1 nw
     refine ⟨trivial,?_⟩
     refine O.call rfl rfl rfl call32 rfl exItems_spec ?_
     rintro ev H3 ⟨hev,hF3⟩
     replace hF:=hF.trans hF3
     replace mm:=hF3.rd mm (fun _ _=>nw)
     replace mm0:=hF3.keep mm0 nw
     replace mm1:=hF3.keep mm1 nw
     refine ⟨trivial,?_⟩
     refine O.call rfl rfl rfl call62 rfl exMoves_spec ?_
     rintro em H4 ⟨hem,hF4⟩
     replace hF:=hF.trans hF4
     replace mm:=hF4.rd mm (fun _ _=>nw)
     replace mm0:=hF4.keep mm0 nw
     replace mm1:=hF4.keep mm1 nw
     replace hev:=hev.fr hF4
     refine ⟨trivial,?_⟩
     refine O.call rfl rfl rfl call61 rfl (lawGIterMut_spec (d:=2) (by decide) (InS.nil EN _) (by decide) hev (by decide) hem (by decide)) ?_
     rintro _ H5 ⟨rfl,hF5⟩
     replace hF:=hF.trans hF5
     replace mm:=hF5.rd mm (fun _ _=>nw)
     replace mm0:=hF5.keep mm0 nw
     replace mm1:=hF5.keep mm1 nw
     refine ⟨trivial,?_⟩
     refine Ul 2 rfl mm1 (O.callQ rfl rfl rfl call33 rfl (fits_spec' hfz) trivial (Us 2 rfl mm rfl (Uq 2 rfl (O.call rfl rfl rfl call61 rfl (lawGIterMut_spec hd (ho.fr hF) (by omega) (hi.fr hF) (by omega) (hu.fr hF) (by omega)) ?_))))
     rintro _ H6 ⟨rfl,hF6⟩
     replace hF:=hF.trans hF6
     replace mm:=hF6.rd mm (fun _ _=>nw)
     replace mm0:=hF6.keep mm0 nw
     replace mm1:=hF6.keep mm1 nw
     refine ⟨trivial,?_⟩
     refine Uf 3 [6] rfl (Go'.ret (vs:=[_]) func18 results18 ⟨rfl,trivial⟩ ?_)
     exact ⟨rfl,hF⟩
end Go.Bt.FG
namespace Go.Bt.FG
open Go Go.Proofs Go.Proofs.Try
set_option maxRecDepth 20000
set_option maxHeartbeats 4000000
set_option linter.unusedSectionVars false
theorem up_first {O:Pl.Swo (Int×Int)} {x:Int×Int} {L:List (Int×Int)} (hs:Pl.Srt O L) (h:L[0]?=some x):Pl.up O x L=L:=by
 have hi:O.lt x x=false:=by
  cases h:O.lt x x with
  | false=>rfl
  | true=>have h2:=O.asy h;rw [h] at h2;cases h2
 obtain ⟨e1,_⟩:=Pl.search_found O hs h hi hi
 unfold Pl.up;rw [e1];rfl
theorem dn_last {O:Pl.Swo (Int×Int)} {x:Int×Int} {L:List (Int×Int)} (hs:Pl.Srt O L) (h:L[L.length-1]?=some x):Pl.dn O x L=L:=by
 have hi:O.lt x x=false:=by
  cases h:O.lt x x with
  | false=>rfl
  | true=>have h2:=O.asy h;rw [h] at h2;cases h2
 obtain ⟨e1,e2⟩:=Pl.search_found O hs h hi hi
 have hl:=(List.getElem?_eq_some_iff.1 h).1
 unfold Pl.dn;rw [e1,e2,show L.length-1+true.toNat=L.length by simp;omega,List.take_length]
theorem firstN_0 {α:Type} (m:List α):firstN m 0=m:=by unfold firstN;simp
theorem igscan_spec {B:World} {H:Mem} {d:Nat} {nl:Bool} {v u:Value} {ord:List Int} {l:List (Int×Int)} (hd:d=0∨2≤d∧d≤128) (ho:InS EN H v ord) (hol:ord.length≤4294967296) (hi:InS EJ H u l) (hll:l.length≤4294967296) {n:Int}:
  Fn Try.prog B 57 [.agg #[v,.int .i64 (d:Int),.bool nl],u,.int .i64 n] H (fun r H'=>OutS EJ H' r (firstN (Pl.puts (OO ord) l) n)∧Fr nowhere H H'):=by
 obtain ⟨a,c,hu⟩:=hi.len
 subst hu
 obtain ⟨av,mv,cv,hv⟩:=InS.form ho
 subst hv
 have hF:Fr nowhere H H:=Fr.refl _ _
 have hP:=PD_ok hd
 refine fn_of func57 rfl ntmps57 ?_
 refine (show Go' _ _ _ _ 15 [(0,_),(1,_),(2,_)] [.code _] _ from ?_)
 refine Ut 1 rfl (Ur 2 2 rfl (O.box rfl rfl rfl rfl ?_))
 intro B1 MB1
 refine ⟨trivial,?_⟩
 have hsB1:=MB1.size
 replace hF:=hF.trans (MB1.fr nowhere)
 have mm:Rd B1 H.size 0 [.slice av mv cv,.int .i64 (d:Int),.bool nl]:=MB1.rd _ [] (by simp [Value.cells])
 have mm0:cl B1 H.size 0=some (.slice av mv cv):=mm 0 _ rfl
 have mm1:cl B1 H.size (0+1)=some (.int .i64 (d:Int)):=mm 1 _ rfl
 refine Uf 1 [1,2,3,6] rfl (Ut 1 rfl (Ur 1 2 rfl (O.alloc rfl rfl rfl zeroValue25 ?_)))
 intro H2 M2
 refine ⟨trivial,?_⟩
 have hs2:=M2.size
 replace hF:=hF.trans (M2.fr nowhere)
 replace mm:=(M2.fr nowhere).rd mm (fun _ _=>nw)
 replace mm0:=(M2.fr nowhere).keep mm0 nw
 replace mm1:=(M2.fr nowhere).keep mm1 nw
 have hD:cl H2 B1.size 0=some (.slice none 0 0):=(M2.cl 0).trans rfl
 have hw:Wr H2 B1.size 0 1:=M2.wr 1 (by decide)
 refine Uf 0 [1,2,3,6,7] rfl (Ut 1 rfl (Ur 6 2593 rfl (Us 0 rfl mm rfl (Uq 1 rfl (O.call rfl rfl rfl call68 rfl (grow_spec hd (ho.fr hF) hol (hi.fr hF) hll) ?_)))))
 rintro _ H3 ⟨I,hIo,hIw,hIb,tr,S,rfl,hM,hF3,hS⟩
 have hs3:=hF3.size
 replace hF:=hF.trans hF3
 replace mm:=hF3.rd mm (fun _ _=>nw)
 replace mm0:=hF3.keep mm0 nw
 replace mm1:=hF3.keep mm1 nw
 replace hD:=hF3.keep hD nw
 replace hw:=hF3.wr hw
 have hSb:∀b,S b∨(b<cx.base∧cx.own b)→H2.size≤b:=fun b hb=>hb.elim (hS b) (fun h=>hIw b h.2)
 have hOO:OO ord=OI:=by rw [←hIo];rfl
 have hpl:=Pl.puts_length OI l
 have hSlt:=hM.lt
 have hbs:=hM.tc.hb
 unfold ptr
 refine ⟨trivial,?_⟩
 refine Uq 1 rfl (O.call rfl rfl rfl call107 rfl (taker_spec (n:=n) hD hw) ?_)
 rintro _ H4 ⟨b2,b3,rfl,hT,hF4⟩
 have hs4:=hF4.size
 replace hF:=hF.trans hF4
 replace hM:=hM.fr hF4 (fun _ _ _=>nw)
 refine ⟨trivial,?_⟩
 refine O.call rfl rfl rfl call106 rfl (Scan_spec (cbTk B b2 b3 B1.size n) call152 hP hM hT (fun b hb hz=>hz.elim (fun h=>by have:=hSb b (.inl hb);omega) (fun h=>by have:=hSlt b hb;omega)) (fun b hz hb=>hz.elim (fun h=>by have:=hSb b (.inr hb);omega) (fun h=>by omega)) (by omega)) ?_
 rintro _ H5 ⟨Z5,hT5,hF5,hZ5⟩
 obtain ⟨ov,hv,hov⟩:=TkT.out hT5
 rw [takes_first] at hov
 replace hF:=hF.trans' hF5 (fun _ _ _ h=>h) (fun b o hb hz=>hz.elim (fun h=>by omega) (fun h=>by omega))
 refine ⟨trivial,?_⟩
 refine Uf 0 [6,7] rfl (Ut 1 rfl (Ur 2 1 rfl (Ul 0 rfl hv (Uf 1 [6] rfl (Go'.ret (vs:=[_]) func57 results57 ⟨rfl,trivial⟩ ?_)))))
 rw [hOO];exact ⟨hov,hF⟩
theorem fnGScans {B:World} {H:Mem} {z:Int} {nl:Bool} {v u:Value} {ord:List Int} {l:List (Int×Int)} (ho:InS EN H v ord) (hi:InS EJ H u l):
  Fn Try.prog B 17 [.agg #[v,.int .i64 z,.bool nl],u] H (fun r H'=>r=.bool true∧Fr nowhere H H'):=by
 obtain ⟨a,c,hu⟩:=hi.len
 subst hu
 obtain ⟨av,mv,cv,hv⟩:=InS.form ho
 subst hv
 have hF:Fr nowhere H H:=Fr.refl _ _
 refine fn_of func17 rfl ntmps17 ?_
 refine (show Go' _ _ _ _ 65 [(0,_),(1,_)] [.code _] _ from ?_)
 refine Ut 1 rfl (Ur 2 2 rfl (O.box rfl rfl rfl rfl ?_))
 intro B1 MB1
 refine ⟨trivial,?_⟩
 have hsB1:=MB1.size
 replace hF:=hF.trans (MB1.fr nowhere)
 have mm:Rd B1 H.size 0 [.slice av mv cv,.int .i64 z,.bool nl]:=MB1.rd _ [] (by simp [Value.cells])
 have mm0:cl B1 H.size 0=some (.slice av mv cv):=mm 0 _ rfl
 have mm1:cl B1 H.size (0+1)=some (.int .i64 z):=mm 1 _ rfl
 refine Uf 1 [1,2,4] rfl (Ut 2 rfl ?_)
 cases hoz:decide (ord.length≤2147483647)
 ·
  refine Ur 8 9 rfl (Us 0 rfl mm rfl (O.call rfl rfl rfl call23 rfl (zzFits1_spec (ho.fr hF) hoz) ?_))
  rintro _ Hz ⟨rfl,hFz⟩
  replace hF:=hF.trans hFz
  replace mm:=hFz.rd mm (fun _ _=>nw)
  replace mm0:=hFz.keep mm0 nw
  replace mm1:=hFz.keep mm1 nw
  refine ⟨trivial,?_⟩
  refine Uf 6 [1,2,4,13] rfl (Go'.condT rfl (Ut 1 rfl (Ur 1 0 rfl (Uf 1 [1,2,4] rfl (Go'.ret (vs:=[_]) func17 results17 ⟨rfl,trivial⟩ ?_)))))
  exact ⟨rfl,hF⟩
 ·
  have hoz2:=of_decide_eq_true hoz
  by_cases hb_lenl:(2147483647:Int)<(l.length:Int)
  ·
   refine Ur 8 9 rfl (Us 0 rfl mm rfl (O.call rfl rfl rfl call23 rfl (zzFits1_spec (ho.fr hF) hoz) ?_))
   rintro _ Hz ⟨rfl,hFz⟩
   replace hF:=hF.trans hFz
   replace mm:=hFz.rd mm (fun _ _=>nw)
   replace mm0:=hFz.keep mm0 nw
   replace mm1:=hFz.keep mm1 nw
   refine ⟨trivial,?_⟩
   refine Uc 4 rfl (gtrT (by omega)) (Uf 1 [1,2,4,13] rfl (Go'.condT rfl (Ut 1 rfl (Ur 1 0 rfl (Uf 1 [1,2,4] rfl (Go'.ret (vs:=[_]) func17 results17 ⟨rfl,trivial⟩ ?_))))))
   exact ⟨rfl,hF⟩
  ·
   refine Ur 8 9 rfl (Us 0 rfl mm rfl (O.call rfl rfl rfl call23 rfl (zzFits1_spec (ho.fr hF) hoz) ?_))
   rintro _ Hz ⟨rfl,hFz⟩
   replace hF:=hF.trans hFz
   replace mm:=hFz.rd mm (fun _ _=>nw)
   replace mm0:=hFz.keep mm0 nw
   replace mm1:=hFz.keep mm1 nw
   refine ⟨trivial,?_⟩
   refine Uc 4 rfl (gtrF (by omega)) (Uf 1 [1,2,4,13] rfl (Go'.condF rfl (Ut 3 rfl ?_)))
   have hpl:=Pl.puts_length (OO ord) l
   have hsrt:=Pl.puts_srt (OO ord) l
   cases hfz:fitsb z
   ·
    refine Ur 3 9 rfl (Us 0 rfl mm rfl (O.call rfl rfl rfl call24 rfl (lfits_spec ⟨_,_,_,rfl⟩ hfz) ?_))
    rintro _ H6 ⟨rfl,hF6⟩
    replace hF:=hF.trans hF6
    replace mm:=hF6.rd mm (fun _ _=>nw)
    replace mm0:=hF6.keep mm0 nw
    replace mm1:=hF6.keep mm1 nw
    refine ⟨trivial,?_⟩
    refine Uf 1 [1,2,4,16] rfl (Go'.condT rfl (Ut 1 rfl (Ur 2 2 rfl (O.call rfl rfl rfl call25 rfl alive_spec ?_))))
    rintro _ Hv ⟨rfl,hFv⟩
    replace hF:=hF.trans hFv
    replace mm:=hFv.rd mm (fun _ _=>nw)
    replace mm0:=hFv.keep mm0 nw
    replace mm1:=hFv.keep mm1 nw
    refine ⟨trivial,?_⟩
    refine Uf 1 [1,2,4] rfl (Go'.ret (vs:=[_]) func17 results17 ⟨rfl,trivial⟩ ?_)
    exact ⟨rfl,hF⟩
   ·
    obtain ⟨d,rfl,hd⟩:=fitsb_nat hfz
    refine Ur 3 9 rfl (Us 0 rfl mm rfl (O.call rfl rfl rfl call24 rfl (lfits_spec ⟨_,_,_,rfl⟩ hfz) ?_))
    rintro _ H6 ⟨rfl,hF6⟩
    replace hF:=hF.trans hF6
    replace mm:=hF6.rd mm (fun _ _=>nw)
    replace mm0:=hF6.keep mm0 nw
    replace mm1:=hF6.keep mm1 nw
    refine ⟨trivial,?_⟩
    refine Uf 1 [1,2,4,16] rfl (Go'.condF rfl (Ut 2 rfl (Ur 4 33 rfl (Us 0 rfl mm rfl (Uq 1 rfl (O.call rfl rfl rfl call43 rfl (igitems_spec hd (ho.fr hF) (by omega) (hi.fr hF) (by omega)) ?_))))))
    rintro g8 H8 ⟨hg8,hF8⟩
    replace hF:=hF.trans hF8
    replace mm:=hF8.rd mm (fun _ _=>nw)
    replace mm0:=hF8.keep mm0 nw
    replace mm1:=hF8.keep mm1 nw
    have hI:=hg8.inS
    obtain ⟨ga,gc,hge⟩:=hI.len
    subst hge
    generalize hL:Pl.puts (OO ord) l=L at*
    refine ⟨trivial,?_⟩
    refine Uf 1 [1,2,4,5] rfl (Ut 2 rfl ?_)
    have hrl:L.reverse.length=L.length:=List.length_reverse
    refine Ur 15 42484257 rfl (Us 0 rfl mm rfl (Uq 1 rfl (O.call rfl rfl rfl call57 rfl (igscan_spec hd (ho.fr hF) (by omega) (hi.fr hF) (by omega) (n:=0)) ?_)))
    rintro v9 H9 ⟨h9,hF9⟩
    replace hF:=hF.trans hF9
    replace mm:=hF9.rd mm (fun _ _=>nw)
    replace mm0:=hF9.keep mm0 nw
    replace mm1:=hF9.keep mm1 nw
    replace hI:=hI.fr hF9
    rw [firstN_0,hL] at h9
    refine ⟨trivial,?_⟩
    refine Uq 1 rfl (O.callQ rfl rfl rfl call28 rfl (eqItems_spec h9.inS hI (by omega)) trivial (Us 2 rfl mm rfl (Uq 1 rfl (O.call rfl rfl rfl call58 rfl (igreverse_spec hd (ho.fr hF) (by omega) (hi.fr hF) (by omega) (n:=0)) ?_))))
    rintro v10 H10 ⟨h10,hF10⟩
    replace hF:=hF.trans hF10
    replace mm:=hF10.rd mm (fun _ _=>nw)
    replace mm0:=hF10.keep mm0 nw
    replace mm1:=hF10.keep mm1 nw
    replace hI:=hI.fr hF10
    rw [firstN_0,hL] at h10
    refine ⟨trivial,?_⟩
    refine Uq 1 rfl (O.call rfl rfl rfl call44 rfl (SI.turnedA_spec hI (by omega)) ?_)
    rintro v11 H11 ⟨h11,hF11⟩
    replace hF:=hF.trans hF11
    replace mm:=hF11.rd mm (fun _ _=>nw)
    replace mm0:=hF11.keep mm0 nw
    replace mm1:=hF11.keep mm1 nw
    replace hI:=hI.fr hF11
    refine ⟨trivial,?_⟩
    refine O.callQ rfl rfl rfl call28 rfl (eqItems_spec (h10.inS.fr hF11) h11.inS (by omega)) trivial (Uf 2 [1,2,4,5,35] rfl (Go'.condF rfl (Ut 3 rfl ?_)))
    by_cases h0:L.length=0
    ·
     refine Ur 3 0 rfl (Uc 2 rfl (eqlT (by omega)) (Uf 0 [1,2,4,5,38] rfl (Go'.condT rfl (Ut 1 rfl (Ur 2 2 rfl (O.call rfl rfl rfl call25 rfl alive_spec ?_))))))
     rintro _ Hv ⟨rfl,hFv⟩
     replace hF:=hF.trans hFv
     replace mm:=hFv.rd mm (fun _ _=>nw)
     replace mm0:=hFv.keep mm0 nw
     replace mm1:=hFv.keep mm1 nw
     refine ⟨trivial,?_⟩
     refine Uf 1 [1,2,4,5] rfl (Go'.ret (vs:=[_]) func17 results17 ⟨rfl,trivial⟩ ?_)
     exact ⟨rfl,hF⟩
    ·
     refine Ur 3 0 rfl (Uc 2 rfl (eqlF (by omega)) (Uf 0 [1,2,4,5,38] rfl (Go'.condF rfl (Ut 2 rfl ?_))))
     obtain ⟨x0,hx0⟩:∃x,L[0]?=some x:=⟨L[0]'(by omega),List.getElem?_eq_getElem (by omega)⟩
     obtain ⟨xn,hxn⟩:∃x,L[L.length-1]?=some x:=⟨L[L.length-1]'(by omega),List.getElem?_eq_getElem (by omega)⟩
     obtain ⟨b,o,c',e,hr0⟩:=hI.at hx0
     cases e
     obtain ⟨b',o',c',e,hrn⟩:=hI.at hxn
     cases e
     have hu0:=up_first hsrt hx0
     have hdn:=dn_last hsrt hxn
     refine Go'.draw (fun _=>True) [(0,1),(1,0),(2,0),(3,0),(4,1),(6,0),(5,2),(7,2),(8,0),(9,1),(10,0),(11,0),(12,0),(13,0),(14,0),(15,0),(16,1),(18,0),(17,2),(19,2),(20,2),(21,0),(22,0),(23,2),(24,0),(25,0)] (by kernel_rfl) (by kernel_rfl) (trivial) (Us 0 rfl mm rfl (Ux 2 0 rfl rfl (by omega) (Us 0 rfl hr0 rfl (Uq 1 rfl (O.call rfl rfl rfl call59 rfl (igascend_spec hd (ho.fr hF) (by omega) (hi.fr hF) (by omega) x0 (n:=0)) ?_)))))
     rintro v12 H12 ⟨h12,hF12⟩
     replace hF:=hF.trans hF12
     replace mm:=hF12.rd mm (fun _ _=>nw)
     replace mm0:=hF12.keep mm0 nw
     replace mm1:=hF12.keep mm1 nw
     replace hI:=hI.fr hF12
     replace hr0:=hF12.rd hr0 (fun _ _=>nw)
     replace hrn:=hF12.rd hrn (fun _ _=>nw)
     rw [firstN_0,hL,hu0] at h12
     refine ⟨trivial,?_⟩
     refine O.callQ rfl rfl rfl call28 rfl (eqItems_spec h12.inS hI (by omega)) trivial (Us 1 rfl mm rfl (Ub 4 (((L.length-1:Nat):Int)) rfl (by omega) (Ux 0 (L.length-1) rfl (by omega) (by omega) (Us 0 rfl hrn rfl (Uq 1 rfl (O.call rfl rfl rfl call60 rfl (igdescend_spec hd (ho.fr hF) (by omega) (hi.fr hF) (by omega) xn (n:=0)) ?_))))))
     rintro v13 H13 ⟨h13,hF13⟩
     replace hF:=hF.trans hF13
     replace mm:=hF13.rd mm (fun _ _=>nw)
     replace mm0:=hF13.keep mm0 nw
     replace mm1:=hF13.keep mm1 nw
     replace hI:=hI.fr hF13
     replace hr0:=hF13.rd hr0 (fun _ _=>nw)
     replace hrn:=hF13.rd hrn (fun _ _=>nw)
     rw [firstN_0,hL,hdn] at h13
     refine ⟨trivial,?_⟩
     refine O.call rfl rfl rfl call44 rfl (SI.turnedA_spec hI (by omega)) ?_
     rintro v14 H14 ⟨h14,hF14⟩
     replace hF:=hF.trans hF14
     replace mm:=hF14.rd mm (fun _ _=>nw)
     replace mm0:=hF14.keep mm0 nw
     replace mm1:=hF14.keep mm1 nw
     replace hI:=hI.fr hF14
     replace hr0:=hF14.rd hr0 (fun _ _=>nw)
     replace hrn:=hF14.rd hrn (fun _ _=>nw)
     refine ⟨trivial,?_⟩
     refine O.callQ rfl rfl rfl call28 rfl (eqItems_spec (h13.inS.fr hF14) h14.inS (by omega)) trivial (Uq 2 rfl (O.call rfl rfl rfl call25 rfl alive_spec ?_))
     rintro _ Hv ⟨rfl,hFv⟩
     replace hF:=hF.trans hFv
     replace mm:=hFv.rd mm (fun _ _=>nw)
     replace mm0:=hFv.keep mm0 nw
     replace mm1:=hFv.keep mm1 nw
     replace hI:=hI.fr hFv
     replace hr0:=hFv.rd hr0 (fun _ _=>nw)
     replace hrn:=hFv.rd hrn (fun _ _=>nw)
     refine ⟨trivial,?_⟩
     refine Uf 2 [4] rfl (Go'.ret (vs:=[_]) func17 results17 ⟨rfl,trivial⟩ ?_)
     exact ⟨rfl,hF⟩
end Go.Bt.FG
