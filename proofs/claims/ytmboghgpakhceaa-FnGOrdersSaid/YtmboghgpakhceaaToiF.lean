/- Contracts of functions of the program, proved by walking through their code. Conditions: those that each theorem names. -/
import Derived.Test.YtmboghgpakhceaaTogM
import Derived.Test.YtmboghgpakhceaaTogD
import Derived.Test.YtmboghgpakhceaaToiA
import Derived.Test.YtmboghgpakhceaaTojB
import Derived.Test.YtmboghgpakhceaaToRb
set_option linter.unusedVariables false
namespace Go.Bt.FG
open Go Go.Proofs Go.Proofs.Try
set_option maxRecDepth 20000
set_option maxHeartbeats 4000000
set_option linter.unusedSectionVars false
theorem gless_spec {B:World} {H:Mem} {d:Nat} {nl:Bool} {v:Value} {ord:List Int} (hd:d=0∨2≤d∧d≤128) (ho:InS EN H v ord) (hol:ord.length≤4294967296) (x y:Int×Int):
  Fn Try.prog B 29 [.agg #[v,.int .i64 (d:Int),.bool nl],.agg (EJ.enc x).toArray,.agg (EJ.enc y).toArray] H (fun r H'=>r=.bool ((OO ord).lt x y)∧Fr nowhere H H'):=by
 obtain ⟨av,mv,cv,hv⟩:=InS.form ho
 subst hv
 have hF:Fr nowhere H H:=Fr.refl _ _
 have hi:=InS.nil EJ H
 have hll:([]:List (Int×Int)).length≤4294967296:=by decide
 have hP:=PD_ok hd
 refine fn_of func29 rfl ntmps29 ?_
 refine (show Go' _ _ _ _ 12 [(0,_),(1,_),(2,_)] [.code _] _ from ?_)
 refine Ut 1 rfl (Ur 4 42 rfl (O.box rfl rfl rfl rfl ?_))
 intro B1 MB1
 refine ⟨trivial,?_⟩
 have hsB1:=MB1.size
 replace hF:=hF.trans (MB1.fr nowhere)
 have mm:Rd B1 H.size 0 [.slice av mv cv,.int .i64 (d:Int),.bool nl]:=MB1.rd _ [] (by simp [Value.cells])
 have mm0:cl B1 H.size 0=some (.slice av mv cv):=mm 0 _ rfl
 have mm1:cl B1 H.size (0+1)=some (.int .i64 (d:Int)):=mm 1 _ rfl
 refine O.box rfl rfl rfl rfl ?_
 intro B2 MB2
 refine ⟨trivial,?_⟩
 have hsB2:=MB2.size
 replace hF:=hF.trans (MB2.fr nowhere)
 replace mm:=(MB2.fr nowhere).rd mm (fun _ _=>nw)
 replace mm0:=(MB2.fr nowhere).keep mm0 nw
 replace mm1:=(MB2.fr nowhere).keep mm1 nw
 have ma:Rd B2 B1.size 0 (EJ.enc x):=MB2.rd _ [] (by simp [Value.cells])
 refine O.box rfl rfl rfl rfl ?_
 intro B3 MB3
 refine ⟨trivial,?_⟩
 have hsB3:=MB3.size
 replace hF:=hF.trans (MB3.fr nowhere)
 replace mm:=(MB3.fr nowhere).rd mm (fun _ _=>nw)
 replace mm0:=(MB3.fr nowhere).keep mm0 nw
 replace mm1:=(MB3.fr nowhere).keep mm1 nw
 replace ma:=(MB3.fr nowhere).rd ma (fun _ _=>nw)
 have mb:Rd B3 B2.size 0 (EJ.enc y):=MB3.rd _ [] (by simp [Value.cells])
 refine Uf 1 [3,4,5,6] rfl (Ut 1 rfl (Go'.draw (fun H'=>Rd H' B1.size 0 (EJ.enc x)∧Rd H' B2.size 0 (EJ.enc y)) [(0,1),(2,0),(3,0),(1,2),(4,2),(5,0)] (by kernel_rfl) (by kernel_rfl) (⟨ma,mb⟩) (Us 0 rfl mm rfl (US 0 rfl (fun _ h=>h.1) rfl (US 0 rfl (fun _ h=>h.2) rfl (O.call rfl rfl rfl call68 rfl (grow_spec hd (ho.fr hF) hol (InS.nil EJ _) hll) ?_))))))
 rintro _ H4 ⟨I,hIo,hIw,hIb,tr,S,rfl,hM,hF4,hS⟩
 have hs4:=hF4.size
 replace hF:=hF.trans hF4
 replace mm:=hF4.rd mm (fun _ _=>nw)
 replace mm0:=hF4.keep mm0 nw
 replace mm1:=hF4.keep mm1 nw
 replace ma:=hF4.rd ma (fun _ _=>nw)
 replace mb:=hF4.rd mb (fun _ _=>nw)
 have hSb:∀b,S b∨(b<cx.base∧cx.own b)→B3.size≤b:=fun b hb=>hb.elim (hS b) (fun h=>hIw b h.2)
 have hOO:OO ord=OI:=by rw [←hIo];rfl
 have hSlt:=hM.lt
 have hbs:=hM.tc.hb
 unfold ptr
 refine ⟨⟨ma,mb⟩,?_⟩
 refine O.call rfl rfl rfl call77 rfl (Less_spec hM.tc x y) ?_
 rintro _ H5 ⟨rfl,hF5⟩
 replace hF:=hF.trans hF5
 replace mm:=hF5.rd mm (fun _ _=>nw)
 replace mm0:=hF5.keep mm0 nw
 replace mm1:=hF5.keep mm1 nw
 replace ma:=hF5.rd ma (fun _ _=>nw)
 replace mb:=hF5.rd mb (fun _ _=>nw)
 refine ⟨⟨ma,mb⟩,?_⟩
 refine Uf 1 [6] rfl (Go'.ret (vs:=[_]) func29 results29 ⟨rfl,trivial⟩ ?_)
 rw [hOO];exact ⟨rfl,hF⟩
theorem fnGLessOrders {B:World} {H:Mem} {z:Int} {nl:Bool} {v:Value} {ord:List Int} {y1 y2 y3:Int×Int} (ho:InS EN H v ord):
  Fn Try.prog B 4 [.agg #[v,.int .i64 z,.bool nl],.agg (EJ.enc y1).toArray,.agg (EJ.enc y2).toArray,.agg (EJ.enc y3).toArray] H (fun r H'=>r=.bool true∧Fr nowhere H H'):=by
 obtain ⟨av,mv,cv,hv⟩:=InS.form ho
 subst hv
 have hF:Fr nowhere H H:=Fr.refl _ _
 refine fn_of func4 rfl ntmps4 ?_
 refine (show Go' _ _ _ _ 66 [(0,_),(1,_),(2,_),(3,_)] [.code _] _ from ?_)
 refine Ut 1 rfl (Ur 5 170 rfl (O.box rfl rfl rfl rfl ?_))
 intro B1 MB1
 refine ⟨trivial,?_⟩
 have hsB1:=MB1.size
 replace hF:=hF.trans (MB1.fr nowhere)
 have mm:Rd B1 H.size 0 [.slice av mv cv,.int .i64 z,.bool nl]:=MB1.rd _ [] (by simp [Value.cells])
 have mm0:cl B1 H.size 0=some (.slice av mv cv):=mm 0 _ rfl
 have mm1:cl B1 H.size (0+1)=some (.int .i64 z):=mm 1 _ rfl
 refine O.box rfl rfl rfl rfl ?_
 intro B2 MB2
 refine ⟨trivial,?_⟩
 have hsB2:=MB2.size
 replace hF:=hF.trans (MB2.fr nowhere)
 replace mm:=(MB2.fr nowhere).rd mm (fun _ _=>nw)
 replace mm0:=(MB2.fr nowhere).keep mm0 nw
 replace mm1:=(MB2.fr nowhere).keep mm1 nw
 have ma:Rd B2 B1.size 0 (EJ.enc y1):=MB2.rd _ [] (by simp [Value.cells])
 refine O.box rfl rfl rfl rfl ?_
 intro B3 MB3
 refine ⟨trivial,?_⟩
 have hsB3:=MB3.size
 replace hF:=hF.trans (MB3.fr nowhere)
 replace mm:=(MB3.fr nowhere).rd mm (fun _ _=>nw)
 replace mm0:=(MB3.fr nowhere).keep mm0 nw
 replace mm1:=(MB3.fr nowhere).keep mm1 nw
 replace ma:=(MB3.fr nowhere).rd ma (fun _ _=>nw)
 have mb:Rd B3 B2.size 0 (EJ.enc y2):=MB3.rd _ [] (by simp [Value.cells])
 refine O.box rfl rfl rfl rfl ?_
 intro B4 MB4
 refine ⟨trivial,?_⟩
 have hsB4:=MB4.size
 replace hF:=hF.trans (MB4.fr nowhere)
 replace mm:=(MB4.fr nowhere).rd mm (fun _ _=>nw)
 replace mm0:=(MB4.fr nowhere).keep mm0 nw
 replace mm1:=(MB4.fr nowhere).keep mm1 nw
 replace ma:=(MB4.fr nowhere).rd ma (fun _ _=>nw)
 replace mb:=(MB4.fr nowhere).rd mb (fun _ _=>nw)
 have mc:Rd B4 B3.size 0 (EJ.enc y3):=MB4.rd _ [] (by simp [Value.cells])
 refine Uf 1 [4,5,6,7,8] rfl (Ut 2 rfl ?_)
 cases hoz:decide (ord.length≤2147483647)
 ·
  refine Ur 3 9 rfl (Us 0 rfl mm rfl (O.call rfl rfl rfl call23 rfl (zzFits1_spec (ho.fr hF) hoz) ?_))
  rintro _ H5 ⟨rfl,hF5⟩
  replace hF:=hF.trans hF5
  replace mm:=hF5.rd mm (fun _ _=>nw)
  replace mm0:=hF5.keep mm0 nw
  replace mm1:=hF5.keep mm1 nw
  replace ma:=hF5.rd ma (fun _ _=>nw)
  replace mb:=hF5.rd mb (fun _ _=>nw)
  replace mc:=hF5.rd mc (fun _ _=>nw)
  refine ⟨trivial,?_⟩
  refine Uf 1 [4,5,6,7,8,14] rfl (Go'.condT rfl (Ut 1 rfl (Ur 1 0 rfl (Uf 1 [4,5,6,7,8] rfl (Go'.ret (vs:=[_]) func4 results4 ⟨rfl,trivial⟩ ?_)))))
  exact ⟨rfl,hF⟩
 ·
  have hoz2:=of_decide_eq_true hoz
  refine Ur 3 9 rfl (Us 0 rfl mm rfl (O.call rfl rfl rfl call23 rfl (zzFits1_spec (ho.fr hF) hoz) ?_))
  rintro _ H5 ⟨rfl,hF5⟩
  replace hF:=hF.trans hF5
  replace mm:=hF5.rd mm (fun _ _=>nw)
  replace mm0:=hF5.keep mm0 nw
  replace mm1:=hF5.keep mm1 nw
  replace ma:=hF5.rd ma (fun _ _=>nw)
  replace mb:=hF5.rd mb (fun _ _=>nw)
  replace mc:=hF5.rd mc (fun _ _=>nw)
  refine ⟨trivial,?_⟩
  refine Uf 1 [4,5,6,7,8,14] rfl (Go'.condF rfl (Ut 3 rfl ?_))
  cases hfz:fitsb z
  ·
   refine Ur 3 9 rfl (Us 0 rfl mm rfl (O.call rfl rfl rfl call24 rfl (lfits_spec ⟨_,_,_,rfl⟩ hfz) ?_))
   rintro _ H6 ⟨rfl,hF6⟩
   replace hF:=hF.trans hF6
   replace mm:=hF6.rd mm (fun _ _=>nw)
   replace mm0:=hF6.keep mm0 nw
   replace mm1:=hF6.keep mm1 nw
   replace ma:=hF6.rd ma (fun _ _=>nw)
   replace mb:=hF6.rd mb (fun _ _=>nw)
   replace mc:=hF6.rd mc (fun _ _=>nw)
   refine ⟨trivial,?_⟩
   refine Uf 1 [4,5,6,7,8,17] rfl (Go'.condT rfl (Ut 1 rfl (Ur 5 130 rfl (O.call rfl rfl rfl call30 rfl exMake_spec ?_))))
   rintro _ H7 ⟨rfl,hF7⟩
   replace hF:=hF.trans hF7
   replace mm:=hF7.rd mm (fun _ _=>nw)
   replace mm0:=hF7.keep mm0 nw
   replace mm1:=hF7.keep mm1 nw
   replace ma:=hF7.rd ma (fun _ _=>nw)
   replace mb:=hF7.rd mb (fun _ _=>nw)
   replace mc:=hF7.rd mc (fun _ _=>nw)
   refine ⟨trivial,?_⟩
   refine O.bld (cs:=[.int .i64 1,.int .i64 0]) rfl rfl rfl rfl (st27) rfl (by kernel_rfl) (O.bld (cs:=[.int .i64 2,.int .i64 0]) rfl rfl rfl rfl (st27) rfl (by kernel_rfl) (O.call rfl rfl rfl call29 rfl (gless_spec (d:=2) (by decide) (InS.nil EN _) (by decide) (1,0) (2,0)) ?_))
   rintro _ H8 ⟨rfl,hF8⟩
   replace hF:=hF.trans hF8
   replace mm:=hF8.rd mm (fun _ _=>nw)
   replace mm0:=hF8.keep mm0 nw
   replace mm1:=hF8.keep mm1 nw
   replace ma:=hF8.rd ma (fun _ _=>nw)
   replace mb:=hF8.rd mb (fun _ _=>nw)
   replace mc:=hF8.rd mc (fun _ _=>nw)
   rw [show (OO []).lt ((1:Int),(0:Int)) (2,0)=true by decide]
   refine ⟨trivial,?_⟩
   refine Uf 1 [4,5,6,7,8] rfl (Go'.ret (vs:=[_]) func4 results4 ⟨rfl,trivial⟩ ?_)
   exact ⟨rfl,hF⟩
  ·
   obtain ⟨d,rfl,hd⟩:=fitsb_nat hfz
   have hex:(OO []).lt ((1:Int),(0:Int)) (2,0)=true:=by decide
   refine Ur 3 9 rfl (Us 0 rfl mm rfl (O.call rfl rfl rfl call24 rfl (lfits_spec ⟨_,_,_,rfl⟩ hfz) ?_))
   rintro _ H6 ⟨rfl,hF6⟩
   replace hF:=hF.trans hF6
   replace mm:=hF6.rd mm (fun _ _=>nw)
   replace mm0:=hF6.keep mm0 nw
   replace mm1:=hF6.keep mm1 nw
   replace ma:=hF6.rd ma (fun _ _=>nw)
   replace mb:=hF6.rd mb (fun _ _=>nw)
   replace mc:=hF6.rd mc (fun _ _=>nw)
   refine ⟨trivial,?_⟩
   refine Uf 1 [4,5,6,7,8,17] rfl (Go'.condF rfl (Ut 2 rfl ?_))
   have hsa:=(OO ord).asy (x:=y1) (y:=y2)
   have htr:=(OO ord).trans (x:=y1) (y:=y2) (z:=y3)
   have hir:(OO ord).lt y1 y1=false:=by
    cases h:(OO ord).lt y1 y1 with
    | false=>rfl
    | true=>have h2:=(OO ord).asy h;rw [h] at h2;cases h2
   cases hab:(OO ord).lt y1 y2<;>cases hbc:(OO ord).lt y2 y3<;>cases hac:(OO ord).lt y1 y3
   ·
    refine Go'.draw (fun H'=>Rd H' H.size 0 [.slice av mv cv,.int .i64 (d:Int),.bool nl]∧Rd H' B2.size 0 (EJ.enc y2)∧Rd H' B3.size 0 (EJ.enc y3)∧Rd H' B1.size 0 (EJ.enc y1)) [(0,1),(1,1),(2,1),(4,0),(5,0),(6,0),(8,0),(9,0),(10,0),(3,2),(7,2),(11,2),(12,0),(13,0),(14,0)] (by kernel_rfl) (by kernel_rfl) (⟨mm,mb,mc,ma⟩) (Us 0 rfl mm rfl (Us 0 rfl ma rfl (Us 0 rfl mb rfl (US 0 rfl (fun _ h=>h.1) rfl (US 0 rfl (fun _ h=>h.2.1) rfl (US 0 rfl (fun _ h=>h.2.2.1) rfl (US 0 rfl (fun _ h=>h.1) rfl (US 0 rfl (fun _ h=>h.2.2.2) rfl (US 0 rfl (fun _ h=>h.2.2.1) rfl (O.call rfl rfl rfl call29 rfl (gless_spec hd (ho.fr hF) (by omega) y1 y2) ?_))))))))))
    rintro _ H8 ⟨rfl,hF8⟩
    replace hF:=hF.trans hF8
    replace mm:=hF8.rd mm (fun _ _=>nw)
    replace mm0:=hF8.keep mm0 nw
    replace mm1:=hF8.keep mm1 nw
    replace ma:=hF8.rd ma (fun _ _=>nw)
    replace mb:=hF8.rd mb (fun _ _=>nw)
    replace mc:=hF8.rd mc (fun _ _=>nw)
    refine ⟨⟨mm,mb,mc,ma⟩,?_⟩
    refine O.call rfl rfl rfl call29 rfl (gless_spec hd (ho.fr hF) (by omega) y2 y3) ?_
    rintro _ H9 ⟨rfl,hF9⟩
    replace hF:=hF.trans hF9
    replace mm:=hF9.rd mm (fun _ _=>nw)
    replace mm0:=hF9.keep mm0 nw
    replace mm1:=hF9.keep mm1 nw
    replace ma:=hF9.rd ma (fun _ _=>nw)
    replace mb:=hF9.rd mb (fun _ _=>nw)
    replace mc:=hF9.rd mc (fun _ _=>nw)
    refine ⟨⟨mm,mb,mc,ma⟩,?_⟩
    refine O.call rfl rfl rfl call29 rfl (gless_spec hd (ho.fr hF) (by omega) y1 y3) ?_
    rintro _ H10 ⟨rfl,hF10⟩
    replace hF:=hF.trans hF10
    replace mm:=hF10.rd mm (fun _ _=>nw)
    replace mm0:=hF10.keep mm0 nw
    replace mm1:=hF10.keep mm1 nw
    replace ma:=hF10.rd ma (fun _ _=>nw)
    replace mb:=hF10.rd mb (fun _ _=>nw)
    replace mc:=hF10.rd mc (fun _ _=>nw)
    refine ⟨⟨mm,mb,mc,ma⟩,?_⟩
    refine Uf 3 [4,5,6,8,9,10,11] rfl (Ut 1 rfl ?_)
    rw [hab,hbc,hac]
    refine Ur 33 2341871806242422933 rfl (Us 0 rfl mm rfl (Us 0 rfl ma rfl (Us 0 rfl ma rfl (O.call rfl rfl rfl call29 rfl (gless_spec hd (ho.fr hF) (by omega) y1 y1) ?_))))
    rintro _ H11 ⟨rfl,hF11⟩
    replace hF:=hF.trans hF11
    replace mm:=hF11.rd mm (fun _ _=>nw)
    replace mm0:=hF11.keep mm0 nw
    replace mm1:=hF11.keep mm1 nw
    replace ma:=hF11.rd ma (fun _ _=>nw)
    replace mb:=hF11.rd mb (fun _ _=>nw)
    replace mc:=hF11.rd mc (fun _ _=>nw)
    rw [hir]
    refine ⟨trivial,?_⟩
    refine Uq 7 rfl (Pl.pass2 rfl rfl rfl rfl trivial (Uq 15 rfl (O.call rfl rfl rfl call30 rfl exMake_spec ?_)))
    rintro _ H13 ⟨rfl,hF13⟩
    replace hF:=hF.trans hF13
    replace mm:=hF13.rd mm (fun _ _=>nw)
    replace mm0:=hF13.keep mm0 nw
    replace mm1:=hF13.keep mm1 nw
    replace ma:=hF13.rd ma (fun _ _=>nw)
    replace mb:=hF13.rd mb (fun _ _=>nw)
    replace mc:=hF13.rd mc (fun _ _=>nw)
    refine ⟨trivial,?_⟩
    refine O.bld (cs:=[.int .i64 1,.int .i64 0]) rfl rfl rfl rfl (st27) rfl (by kernel_rfl) (O.bld (cs:=[.int .i64 2,.int .i64 0]) rfl rfl rfl rfl (st27) rfl (by kernel_rfl) (O.call rfl rfl rfl call29 rfl (gless_spec (d:=2) (by decide) (InS.nil EN _) (by decide) (1,0) (2,0)) ?_))
    rintro _ H14 ⟨rfl,hF14⟩
    replace hF:=hF.trans hF14
    replace mm:=hF14.rd mm (fun _ _=>nw)
    replace mm0:=hF14.keep mm0 nw
    replace mm1:=hF14.keep mm1 nw
    replace ma:=hF14.rd ma (fun _ _=>nw)
    replace mb:=hF14.rd mb (fun _ _=>nw)
    replace mc:=hF14.rd mc (fun _ _=>nw)
    rw [hex]
    refine ⟨trivial,?_⟩
    refine Uf 2 [8] rfl (Go'.ret (vs:=[_]) func4 results4 ⟨rfl,trivial⟩ ?_)
    exact ⟨rfl,hF⟩
   ·
    refine Go'.draw (fun H'=>Rd H' H.size 0 [.slice av mv cv,.int .i64 (d:Int),.bool nl]∧Rd H' B2.size 0 (EJ.enc y2)∧Rd H' B3.size 0 (EJ.enc y3)∧Rd H' B1.size 0 (EJ.enc y1)) [(0,1),(1,1),(2,1),(4,0),(5,0),(6,0),(8,0),(9,0),(10,0),(3,2),(7,2),(11,2),(12,0),(13,0),(14,0)] (by kernel_rfl) (by kernel_rfl) (⟨mm,mb,mc,ma⟩) (Us 0 rfl mm rfl (Us 0 rfl ma rfl (Us 0 rfl mb rfl (US 0 rfl (fun _ h=>h.1) rfl (US 0 rfl (fun _ h=>h.2.1) rfl (US 0 rfl (fun _ h=>h.2.2.1) rfl (US 0 rfl (fun _ h=>h.1) rfl (US 0 rfl (fun _ h=>h.2.2.2) rfl (US 0 rfl (fun _ h=>h.2.2.1) rfl (O.call rfl rfl rfl call29 rfl (gless_spec hd (ho.fr hF) (by omega) y1 y2) ?_))))))))))
    rintro _ H8 ⟨rfl,hF8⟩
    replace hF:=hF.trans hF8
    replace mm:=hF8.rd mm (fun _ _=>nw)
    replace mm0:=hF8.keep mm0 nw
    replace mm1:=hF8.keep mm1 nw
    replace ma:=hF8.rd ma (fun _ _=>nw)
    replace mb:=hF8.rd mb (fun _ _=>nw)
    replace mc:=hF8.rd mc (fun _ _=>nw)
    refine ⟨⟨mm,mb,mc,ma⟩,?_⟩
    refine O.call rfl rfl rfl call29 rfl (gless_spec hd (ho.fr hF) (by omega) y2 y3) ?_
    rintro _ H9 ⟨rfl,hF9⟩
    replace hF:=hF.trans hF9
    replace mm:=hF9.rd mm (fun _ _=>nw)
    replace mm0:=hF9.keep mm0 nw
    replace mm1:=hF9.keep mm1 nw
    replace ma:=hF9.rd ma (fun _ _=>nw)
    replace mb:=hF9.rd mb (fun _ _=>nw)
    replace mc:=hF9.rd mc (fun _ _=>nw)
    refine ⟨⟨mm,mb,mc,ma⟩,?_⟩
    refine O.call rfl rfl rfl call29 rfl (gless_spec hd (ho.fr hF) (by omega) y1 y3) ?_
    rintro _ H10 ⟨rfl,hF10⟩
    replace hF:=hF.trans hF10
    replace mm:=hF10.rd mm (fun _ _=>nw)
    replace mm0:=hF10.keep mm0 nw
    replace mm1:=hF10.keep mm1 nw
    replace ma:=hF10.rd ma (fun _ _=>nw)
    replace mb:=hF10.rd mb (fun _ _=>nw)
    replace mc:=hF10.rd mc (fun _ _=>nw)
    refine ⟨⟨mm,mb,mc,ma⟩,?_⟩
    refine Uf 3 [4,5,6,8,9,10,11] rfl (Ut 1 rfl ?_)
    rw [hab,hbc,hac]
    refine Ur 33 2341871806242422933 rfl (Us 0 rfl mm rfl (Us 0 rfl ma rfl (Us 0 rfl ma rfl (O.call rfl rfl rfl call29 rfl (gless_spec hd (ho.fr hF) (by omega) y1 y1) ?_))))
    rintro _ H11 ⟨rfl,hF11⟩
    replace hF:=hF.trans hF11
    replace mm:=hF11.rd mm (fun _ _=>nw)
    replace mm0:=hF11.keep mm0 nw
    replace mm1:=hF11.keep mm1 nw
    replace ma:=hF11.rd ma (fun _ _=>nw)
    replace mb:=hF11.rd mb (fun _ _=>nw)
    replace mc:=hF11.rd mc (fun _ _=>nw)
    rw [hir]
    refine ⟨trivial,?_⟩
    refine Uq 7 rfl (Pl.pass2 rfl rfl rfl rfl trivial (Uq 15 rfl (O.call rfl rfl rfl call30 rfl exMake_spec ?_)))
    rintro _ H13 ⟨rfl,hF13⟩
    replace hF:=hF.trans hF13
    replace mm:=hF13.rd mm (fun _ _=>nw)
    replace mm0:=hF13.keep mm0 nw
    replace mm1:=hF13.keep mm1 nw
    replace ma:=hF13.rd ma (fun _ _=>nw)
    replace mb:=hF13.rd mb (fun _ _=>nw)
    replace mc:=hF13.rd mc (fun _ _=>nw)
    refine ⟨trivial,?_⟩
    refine O.bld (cs:=[.int .i64 1,.int .i64 0]) rfl rfl rfl rfl (st27) rfl (by kernel_rfl) (O.bld (cs:=[.int .i64 2,.int .i64 0]) rfl rfl rfl rfl (st27) rfl (by kernel_rfl) (O.call rfl rfl rfl call29 rfl (gless_spec (d:=2) (by decide) (InS.nil EN _) (by decide) (1,0) (2,0)) ?_))
    rintro _ H14 ⟨rfl,hF14⟩
    replace hF:=hF.trans hF14
    replace mm:=hF14.rd mm (fun _ _=>nw)
    replace mm0:=hF14.keep mm0 nw
    replace mm1:=hF14.keep mm1 nw
    replace ma:=hF14.rd ma (fun _ _=>nw)
    replace mb:=hF14.rd mb (fun _ _=>nw)
    replace mc:=hF14.rd mc (fun _ _=>nw)
    rw [hex]
    refine ⟨trivial,?_⟩
    refine Uf 2 [8] rfl (Go'.ret (vs:=[_]) func4 results4 ⟨rfl,trivial⟩ ?_)
    exact ⟨rfl,hF⟩
   ·
    refine Go'.draw (fun H'=>Rd H' H.size 0 [.slice av mv cv,.int .i64 (d:Int),.bool nl]∧Rd H' B2.size 0 (EJ.enc y2)∧Rd H' B3.size 0 (EJ.enc y3)∧Rd H' B1.size 0 (EJ.enc y1)) [(0,1),(1,1),(2,1),(4,0),(5,0),(6,0),(8,0),(9,0),(10,0),(3,2),(7,2),(11,2),(12,0),(13,0),(14,0)] (by kernel_rfl) (by kernel_rfl) (⟨mm,mb,mc,ma⟩) (Us 0 rfl mm rfl (Us 0 rfl ma rfl (Us 0 rfl mb rfl (US 0 rfl (fun _ h=>h.1) rfl (US 0 rfl (fun _ h=>h.2.1) rfl (US 0 rfl (fun _ h=>h.2.2.1) rfl (US 0 rfl (fun _ h=>h.1) rfl (US 0 rfl (fun _ h=>h.2.2.2) rfl (US 0 rfl (fun _ h=>h.2.2.1) rfl (O.call rfl rfl rfl call29 rfl (gless_spec hd (ho.fr hF) (by omega) y1 y2) ?_))))))))))
    rintro _ H8 ⟨rfl,hF8⟩
    replace hF:=hF.trans hF8
    replace mm:=hF8.rd mm (fun _ _=>nw)
    replace mm0:=hF8.keep mm0 nw
    replace mm1:=hF8.keep mm1 nw
    replace ma:=hF8.rd ma (fun _ _=>nw)
    replace mb:=hF8.rd mb (fun _ _=>nw)
    replace mc:=hF8.rd mc (fun _ _=>nw)
    refine ⟨⟨mm,mb,mc,ma⟩,?_⟩
    refine O.call rfl rfl rfl call29 rfl (gless_spec hd (ho.fr hF) (by omega) y2 y3) ?_
    rintro _ H9 ⟨rfl,hF9⟩
    replace hF:=hF.trans hF9
    replace mm:=hF9.rd mm (fun _ _=>nw)
    replace mm0:=hF9.keep mm0 nw
    replace mm1:=hF9.keep mm1 nw
    replace ma:=hF9.rd ma (fun _ _=>nw)
    replace mb:=hF9.rd mb (fun _ _=>nw)
    replace mc:=hF9.rd mc (fun _ _=>nw)
    refine ⟨⟨mm,mb,mc,ma⟩,?_⟩
    refine O.call rfl rfl rfl call29 rfl (gless_spec hd (ho.fr hF) (by omega) y1 y3) ?_
    rintro _ H10 ⟨rfl,hF10⟩
    replace hF:=hF.trans hF10
    replace mm:=hF10.rd mm (fun _ _=>nw)
    replace mm0:=hF10.keep mm0 nw
    replace mm1:=hF10.keep mm1 nw
    replace ma:=hF10.rd ma (fun _ _=>nw)
    replace mb:=hF10.rd mb (fun _ _=>nw)
    replace mc:=hF10.rd mc (fun _ _=>nw)
    refine ⟨⟨mm,mb,mc,ma⟩,?_⟩
    refine Uf 3 [4,5,6,8,9,10,11] rfl (Ut 1 rfl ?_)
    rw [hab,hbc,hac]
    refine Ur 33 2341871806242422933 rfl (Us 0 rfl mm rfl (Us 0 rfl ma rfl (Us 0 rfl ma rfl (O.call rfl rfl rfl call29 rfl (gless_spec hd (ho.fr hF) (by omega) y1 y1) ?_))))
    rintro _ H11 ⟨rfl,hF11⟩
    replace hF:=hF.trans hF11
    replace mm:=hF11.rd mm (fun _ _=>nw)
    replace mm0:=hF11.keep mm0 nw
    replace mm1:=hF11.keep mm1 nw
    replace ma:=hF11.rd ma (fun _ _=>nw)
    replace mb:=hF11.rd mb (fun _ _=>nw)
    replace mc:=hF11.rd mc (fun _ _=>nw)
    rw [hir]
    refine ⟨trivial,?_⟩
    refine Uq 7 rfl (Pl.pass2 rfl rfl rfl rfl trivial (Uq 15 rfl (O.call rfl rfl rfl call30 rfl exMake_spec ?_)))
    rintro _ H13 ⟨rfl,hF13⟩
    replace hF:=hF.trans hF13
    replace mm:=hF13.rd mm (fun _ _=>nw)
    replace mm0:=hF13.keep mm0 nw
    replace mm1:=hF13.keep mm1 nw
    replace ma:=hF13.rd ma (fun _ _=>nw)
    replace mb:=hF13.rd mb (fun _ _=>nw)
    replace mc:=hF13.rd mc (fun _ _=>nw)
    refine ⟨trivial,?_⟩
    refine O.bld (cs:=[.int .i64 1,.int .i64 0]) rfl rfl rfl rfl (st27) rfl (by kernel_rfl) (O.bld (cs:=[.int .i64 2,.int .i64 0]) rfl rfl rfl rfl (st27) rfl (by kernel_rfl) (O.call rfl rfl rfl call29 rfl (gless_spec (d:=2) (by decide) (InS.nil EN _) (by decide) (1,0) (2,0)) ?_))
    rintro _ H14 ⟨rfl,hF14⟩
    replace hF:=hF.trans hF14
    replace mm:=hF14.rd mm (fun _ _=>nw)
    replace mm0:=hF14.keep mm0 nw
    replace mm1:=hF14.keep mm1 nw
    replace ma:=hF14.rd ma (fun _ _=>nw)
    replace mb:=hF14.rd mb (fun _ _=>nw)
    replace mc:=hF14.rd mc (fun _ _=>nw)
    rw [hex]
    refine ⟨trivial,?_⟩
    refine Uf 2 [8] rfl (Go'.ret (vs:=[_]) func4 results4 ⟨rfl,trivial⟩ ?_)
    exact ⟨rfl,hF⟩
   ·
    refine Go'.draw (fun H'=>Rd H' H.size 0 [.slice av mv cv,.int .i64 (d:Int),.bool nl]∧Rd H' B2.size 0 (EJ.enc y2)∧Rd H' B3.size 0 (EJ.enc y3)∧Rd H' B1.size 0 (EJ.enc y1)) [(0,1),(1,1),(2,1),(4,0),(5,0),(6,0),(8,0),(9,0),(10,0),(3,2),(7,2),(11,2),(12,0),(13,0),(14,0)] (by kernel_rfl) (by kernel_rfl) (⟨mm,mb,mc,ma⟩) (Us 0 rfl mm rfl (Us 0 rfl ma rfl (Us 0 rfl mb rfl (US 0 rfl (fun _ h=>h.1) rfl (US 0 rfl (fun _ h=>h.2.1) rfl (US 0 rfl (fun _ h=>h.2.2.1) rfl (US 0 rfl (fun _ h=>h.1) rfl (US 0 rfl (fun _ h=>h.2.2.2) rfl (US 0 rfl (fun _ h=>h.2.2.1) rfl (O.call rfl rfl rfl call29 rfl (gless_spec hd (ho.fr hF) (by omega) y1 y2) ?_))))))))))
    rintro _ H8 ⟨rfl,hF8⟩
    replace hF:=hF.trans hF8
    replace mm:=hF8.rd mm (fun _ _=>nw)
    replace mm0:=hF8.keep mm0 nw
    replace mm1:=hF8.keep mm1 nw
    replace ma:=hF8.rd ma (fun _ _=>nw)
    replace mb:=hF8.rd mb (fun _ _=>nw)
    replace mc:=hF8.rd mc (fun _ _=>nw)
    refine ⟨⟨mm,mb,mc,ma⟩,?_⟩
    refine O.call rfl rfl rfl call29 rfl (gless_spec hd (ho.fr hF) (by omega) y2 y3) ?_
    rintro _ H9 ⟨rfl,hF9⟩
    replace hF:=hF.trans hF9
    replace mm:=hF9.rd mm (fun _ _=>nw)
    replace mm0:=hF9.keep mm0 nw
    replace mm1:=hF9.keep mm1 nw
    replace ma:=hF9.rd ma (fun _ _=>nw)
    replace mb:=hF9.rd mb (fun _ _=>nw)
    replace mc:=hF9.rd mc (fun _ _=>nw)
    refine ⟨⟨mm,mb,mc,ma⟩,?_⟩
    refine O.call rfl rfl rfl call29 rfl (gless_spec hd (ho.fr hF) (by omega) y1 y3) ?_
    rintro _ H10 ⟨rfl,hF10⟩
    replace hF:=hF.trans hF10
    replace mm:=hF10.rd mm (fun _ _=>nw)
    replace mm0:=hF10.keep mm0 nw
    replace mm1:=hF10.keep mm1 nw
    replace ma:=hF10.rd ma (fun _ _=>nw)
    replace mb:=hF10.rd mb (fun _ _=>nw)
    replace mc:=hF10.rd mc (fun _ _=>nw)
    refine ⟨⟨mm,mb,mc,ma⟩,?_⟩
    refine Uf 3 [4,5,6,8,9,10,11] rfl (Ut 1 rfl ?_)
    rw [hab,hbc,hac]
    refine Ur 33 2341871806242422933 rfl (Us 0 rfl mm rfl (Us 0 rfl ma rfl (Us 0 rfl ma rfl (O.call rfl rfl rfl call29 rfl (gless_spec hd (ho.fr hF) (by omega) y1 y1) ?_))))
    rintro _ H11 ⟨rfl,hF11⟩
    replace hF:=hF.trans hF11
    replace mm:=hF11.rd mm (fun _ _=>nw)
    replace mm0:=hF11.keep mm0 nw
    replace mm1:=hF11.keep mm1 nw
    replace ma:=hF11.rd ma (fun _ _=>nw)
    replace mb:=hF11.rd mb (fun _ _=>nw)
    replace mc:=hF11.rd mc (fun _ _=>nw)
    rw [hir]
    refine ⟨trivial,?_⟩
    refine Uq 7 rfl (Pl.pass2 rfl rfl rfl rfl trivial (Uq 15 rfl (O.call rfl rfl rfl call30 rfl exMake_spec ?_)))
    rintro _ H13 ⟨rfl,hF13⟩
    replace hF:=hF.trans hF13
    replace mm:=hF13.rd mm (fun _ _=>nw)
    replace mm0:=hF13.keep mm0 nw
    replace mm1:=hF13.keep mm1 nw
    replace ma:=hF13.rd ma (fun _ _=>nw)
    replace mb:=hF13.rd mb (fun _ _=>nw)
    replace mc:=hF13.rd mc (fun _ _=>nw)
    refine ⟨trivial,?_⟩
    refine O.bld (cs:=[.int .i64 1,.int .i64 0]) rfl rfl rfl rfl (st27) rfl (by kernel_rfl) (O.bld (cs:=[.int .i64 2,.int .i64 0]) rfl rfl rfl rfl (st27) rfl (by kernel_rfl) (O.call rfl rfl rfl call29 rfl (gless_spec (d:=2) (by decide) (InS.nil EN _) (by decide) (1,0) (2,0)) ?_))
    rintro _ H14 ⟨rfl,hF14⟩
    replace hF:=hF.trans hF14
    replace mm:=hF14.rd mm (fun _ _=>nw)
    replace mm0:=hF14.keep mm0 nw
    replace mm1:=hF14.keep mm1 nw
    replace ma:=hF14.rd ma (fun _ _=>nw)
    replace mb:=hF14.rd mb (fun _ _=>nw)
    replace mc:=hF14.rd mc (fun _ _=>nw)
    rw [hex]
    refine ⟨trivial,?_⟩
    refine Uf 2 [8] rfl (Go'.ret (vs:=[_]) func4 results4 ⟨rfl,trivial⟩ ?_)
    exact ⟨rfl,hF⟩
   ·
    refine Go'.draw (fun H'=>Rd H' H.size 0 [.slice av mv cv,.int .i64 (d:Int),.bool nl]∧Rd H' B2.size 0 (EJ.enc y2)∧Rd H' B3.size 0 (EJ.enc y3)∧Rd H' B1.size 0 (EJ.enc y1)) [(0,1),(1,1),(2,1),(4,0),(5,0),(6,0),(8,0),(9,0),(10,0),(3,2),(7,2),(11,2),(12,0),(13,0),(14,0)] (by kernel_rfl) (by kernel_rfl) (⟨mm,mb,mc,ma⟩) (Us 0 rfl mm rfl (Us 0 rfl ma rfl (Us 0 rfl mb rfl (US 0 rfl (fun _ h=>h.1) rfl (US 0 rfl (fun _ h=>h.2.1) rfl (US 0 rfl (fun _ h=>h.2.2.1) rfl (US 0 rfl (fun _ h=>h.1) rfl (US 0 rfl (fun _ h=>h.2.2.2) rfl (US 0 rfl (fun _ h=>h.2.2.1) rfl (O.call rfl rfl rfl call29 rfl (gless_spec hd (ho.fr hF) (by omega) y1 y2) ?_))))))))))
    rintro _ H8 ⟨rfl,hF8⟩
    replace hF:=hF.trans hF8
    replace mm:=hF8.rd mm (fun _ _=>nw)
    replace mm0:=hF8.keep mm0 nw
    replace mm1:=hF8.keep mm1 nw
    replace ma:=hF8.rd ma (fun _ _=>nw)
    replace mb:=hF8.rd mb (fun _ _=>nw)
    replace mc:=hF8.rd mc (fun _ _=>nw)
    refine ⟨⟨mm,mb,mc,ma⟩,?_⟩
    refine O.call rfl rfl rfl call29 rfl (gless_spec hd (ho.fr hF) (by omega) y2 y3) ?_
    rintro _ H9 ⟨rfl,hF9⟩
    replace hF:=hF.trans hF9
    replace mm:=hF9.rd mm (fun _ _=>nw)
    replace mm0:=hF9.keep mm0 nw
    replace mm1:=hF9.keep mm1 nw
    replace ma:=hF9.rd ma (fun _ _=>nw)
    replace mb:=hF9.rd mb (fun _ _=>nw)
    replace mc:=hF9.rd mc (fun _ _=>nw)
    refine ⟨⟨mm,mb,mc,ma⟩,?_⟩
    refine O.call rfl rfl rfl call29 rfl (gless_spec hd (ho.fr hF) (by omega) y1 y3) ?_
    rintro _ H10 ⟨rfl,hF10⟩
    replace hF:=hF.trans hF10
    replace mm:=hF10.rd mm (fun _ _=>nw)
    replace mm0:=hF10.keep mm0 nw
    replace mm1:=hF10.keep mm1 nw
    replace ma:=hF10.rd ma (fun _ _=>nw)
    replace mb:=hF10.rd mb (fun _ _=>nw)
    replace mc:=hF10.rd mc (fun _ _=>nw)
    refine ⟨⟨mm,mb,mc,ma⟩,?_⟩
    refine Uf 3 [4,5,6,8,9,10,11] rfl (Ut 1 rfl ?_)
    rw [hab,hbc,hac]
    refine Ur 33 2341871806242422933 rfl (Us 0 rfl mm rfl (Us 0 rfl ma rfl (Us 0 rfl ma rfl (O.call rfl rfl rfl call29 rfl (gless_spec hd (ho.fr hF) (by omega) y1 y1) ?_))))
    rintro _ H11 ⟨rfl,hF11⟩
    replace hF:=hF.trans hF11
    replace mm:=hF11.rd mm (fun _ _=>nw)
    replace mm0:=hF11.keep mm0 nw
    replace mm1:=hF11.keep mm1 nw
    replace ma:=hF11.rd ma (fun _ _=>nw)
    replace mb:=hF11.rd mb (fun _ _=>nw)
    replace mc:=hF11.rd mc (fun _ _=>nw)
    rw [hir]
    refine ⟨trivial,?_⟩
    refine Us 4 rfl mm rfl (Us 0 rfl mb rfl (Us 0 rfl ma rfl (O.call rfl rfl rfl call29 rfl (gless_spec hd (ho.fr hF) (by omega) y2 y1) ?_)))
    rintro _ H12 ⟨rfl,hF12⟩
    replace hF:=hF.trans hF12
    replace mm:=hF12.rd mm (fun _ _=>nw)
    replace mm0:=hF12.keep mm0 nw
    replace mm1:=hF12.keep mm1 nw
    replace ma:=hF12.rd ma (fun _ _=>nw)
    replace mb:=hF12.rd mb (fun _ _=>nw)
    replace mc:=hF12.rd mc (fun _ _=>nw)
    rw [hsa hab]
    refine ⟨trivial,?_⟩
    refine Uq 15 rfl (O.call rfl rfl rfl call30 rfl exMake_spec ?_)
    rintro _ H13 ⟨rfl,hF13⟩
    replace hF:=hF.trans hF13
    replace mm:=hF13.rd mm (fun _ _=>nw)
    replace mm0:=hF13.keep mm0 nw
    replace mm1:=hF13.keep mm1 nw
    replace ma:=hF13.rd ma (fun _ _=>nw)
    replace mb:=hF13.rd mb (fun _ _=>nw)
    replace mc:=hF13.rd mc (fun _ _=>nw)
    refine ⟨trivial,?_⟩
    refine O.bld (cs:=[.int .i64 1,.int .i64 0]) rfl rfl rfl rfl (st27) rfl (by kernel_rfl) (O.bld (cs:=[.int .i64 2,.int .i64 0]) rfl rfl rfl rfl (st27) rfl (by kernel_rfl) (O.call rfl rfl rfl call29 rfl (gless_spec (d:=2) (by decide) (InS.nil EN _) (by decide) (1,0) (2,0)) ?_))
    rintro _ H14 ⟨rfl,hF14⟩
    replace hF:=hF.trans hF14
    replace mm:=hF14.rd mm (fun _ _=>nw)
    replace mm0:=hF14.keep mm0 nw
    replace mm1:=hF14.keep mm1 nw
    replace ma:=hF14.rd ma (fun _ _=>nw)
    replace mb:=hF14.rd mb (fun _ _=>nw)
    replace mc:=hF14.rd mc (fun _ _=>nw)
    rw [hex]
    refine ⟨trivial,?_⟩
    refine Uf 2 [8] rfl (Go'.ret (vs:=[_]) func4 results4 ⟨rfl,trivial⟩ ?_)
    exact ⟨rfl,hF⟩
   ·
    refine Go'.draw (fun H'=>Rd H' H.size 0 [.slice av mv cv,.int .i64 (d:Int),.bool nl]∧Rd H' B2.size 0 (EJ.enc y2)∧Rd H' B3.size 0 (EJ.enc y3)∧Rd H' B1.size 0 (EJ.enc y1)) [(0,1),(1,1),(2,1),(4,0),(5,0),(6,0),(8,0),(9,0),(10,0),(3,2),(7,2),(11,2),(12,0),(13,0),(14,0)] (by kernel_rfl) (by kernel_rfl) (⟨mm,mb,mc,ma⟩) (Us 0 rfl mm rfl (Us 0 rfl ma rfl (Us 0 rfl mb rfl (US 0 rfl (fun _ h=>h.1) rfl (US 0 rfl (fun _ h=>h.2.1) rfl (US 0 rfl (fun _ h=>h.2.2.1) rfl (US 0 rfl (fun _ h=>h.1) rfl (US 0 rfl (fun _ h=>h.2.2.2) rfl (US 0 rfl (fun _ h=>h.2.2.1) rfl (O.call rfl rfl rfl call29 rfl (gless_spec hd (ho.fr hF) (by omega) y1 y2) ?_))))))))))
    rintro _ H8 ⟨rfl,hF8⟩
    replace hF:=hF.trans hF8
    replace mm:=hF8.rd mm (fun _ _=>nw)
    replace mm0:=hF8.keep mm0 nw
    replace mm1:=hF8.keep mm1 nw
    replace ma:=hF8.rd ma (fun _ _=>nw)
    replace mb:=hF8.rd mb (fun _ _=>nw)
    replace mc:=hF8.rd mc (fun _ _=>nw)
    refine ⟨⟨mm,mb,mc,ma⟩,?_⟩
    refine O.call rfl rfl rfl call29 rfl (gless_spec hd (ho.fr hF) (by omega) y2 y3) ?_
    rintro _ H9 ⟨rfl,hF9⟩
    replace hF:=hF.trans hF9
    replace mm:=hF9.rd mm (fun _ _=>nw)
    replace mm0:=hF9.keep mm0 nw
    replace mm1:=hF9.keep mm1 nw
    replace ma:=hF9.rd ma (fun _ _=>nw)
    replace mb:=hF9.rd mb (fun _ _=>nw)
    replace mc:=hF9.rd mc (fun _ _=>nw)
    refine ⟨⟨mm,mb,mc,ma⟩,?_⟩
    refine O.call rfl rfl rfl call29 rfl (gless_spec hd (ho.fr hF) (by omega) y1 y3) ?_
    rintro _ H10 ⟨rfl,hF10⟩
    replace hF:=hF.trans hF10
    replace mm:=hF10.rd mm (fun _ _=>nw)
    replace mm0:=hF10.keep mm0 nw
    replace mm1:=hF10.keep mm1 nw
    replace ma:=hF10.rd ma (fun _ _=>nw)
    replace mb:=hF10.rd mb (fun _ _=>nw)
    replace mc:=hF10.rd mc (fun _ _=>nw)
    refine ⟨⟨mm,mb,mc,ma⟩,?_⟩
    refine Uf 3 [4,5,6,8,9,10,11] rfl (Ut 1 rfl ?_)
    rw [hab,hbc,hac]
    refine Ur 33 2341871806242422933 rfl (Us 0 rfl mm rfl (Us 0 rfl ma rfl (Us 0 rfl ma rfl (O.call rfl rfl rfl call29 rfl (gless_spec hd (ho.fr hF) (by omega) y1 y1) ?_))))
    rintro _ H11 ⟨rfl,hF11⟩
    replace hF:=hF.trans hF11
    replace mm:=hF11.rd mm (fun _ _=>nw)
    replace mm0:=hF11.keep mm0 nw
    replace mm1:=hF11.keep mm1 nw
    replace ma:=hF11.rd ma (fun _ _=>nw)
    replace mb:=hF11.rd mb (fun _ _=>nw)
    replace mc:=hF11.rd mc (fun _ _=>nw)
    rw [hir]
    refine ⟨trivial,?_⟩
    refine Us 4 rfl mm rfl (Us 0 rfl mb rfl (Us 0 rfl ma rfl (O.call rfl rfl rfl call29 rfl (gless_spec hd (ho.fr hF) (by omega) y2 y1) ?_)))
    rintro _ H12 ⟨rfl,hF12⟩
    replace hF:=hF.trans hF12
    replace mm:=hF12.rd mm (fun _ _=>nw)
    replace mm0:=hF12.keep mm0 nw
    replace mm1:=hF12.keep mm1 nw
    replace ma:=hF12.rd ma (fun _ _=>nw)
    replace mb:=hF12.rd mb (fun _ _=>nw)
    replace mc:=hF12.rd mc (fun _ _=>nw)
    rw [hsa hab]
    refine ⟨trivial,?_⟩
    refine Uq 15 rfl (O.call rfl rfl rfl call30 rfl exMake_spec ?_)
    rintro _ H13 ⟨rfl,hF13⟩
    replace hF:=hF.trans hF13
    replace mm:=hF13.rd mm (fun _ _=>nw)
    replace mm0:=hF13.keep mm0 nw
    replace mm1:=hF13.keep mm1 nw
    replace ma:=hF13.rd ma (fun _ _=>nw)
    replace mb:=hF13.rd mb (fun _ _=>nw)
    replace mc:=hF13.rd mc (fun _ _=>nw)
    refine ⟨trivial,?_⟩
    refine O.bld (cs:=[.int .i64 1,.int .i64 0]) rfl rfl rfl rfl (st27) rfl (by kernel_rfl) (O.bld (cs:=[.int .i64 2,.int .i64 0]) rfl rfl rfl rfl (st27) rfl (by kernel_rfl) (O.call rfl rfl rfl call29 rfl (gless_spec (d:=2) (by decide) (InS.nil EN _) (by decide) (1,0) (2,0)) ?_))
    rintro _ H14 ⟨rfl,hF14⟩
    replace hF:=hF.trans hF14
    replace mm:=hF14.rd mm (fun _ _=>nw)
    replace mm0:=hF14.keep mm0 nw
    replace mm1:=hF14.keep mm1 nw
    replace ma:=hF14.rd ma (fun _ _=>nw)
    replace mb:=hF14.rd mb (fun _ _=>nw)
    replace mc:=hF14.rd mc (fun _ _=>nw)
    rw [hex]
    refine ⟨trivial,?_⟩
    refine Uf 2 [8] rfl (Go'.ret (vs:=[_]) func4 results4 ⟨rfl,trivial⟩ ?_)
    exact ⟨rfl,hF⟩
   ·
    exact absurd (htr hab hbc) (by rw [hac];decide)
   ·
    refine Go'.draw (fun H'=>Rd H' H.size 0 [.slice av mv cv,.int .i64 (d:Int),.bool nl]∧Rd H' B2.size 0 (EJ.enc y2)∧Rd H' B3.size 0 (EJ.enc y3)∧Rd H' B1.size 0 (EJ.enc y1)) [(0,1),(1,1),(2,1),(4,0),(5,0),(6,0),(8,0),(9,0),(10,0),(3,2),(7,2),(11,2),(12,0),(13,0),(14,0)] (by kernel_rfl) (by kernel_rfl) (⟨mm,mb,mc,ma⟩) (Us 0 rfl mm rfl (Us 0 rfl ma rfl (Us 0 rfl mb rfl (US 0 rfl (fun _ h=>h.1) rfl (US 0 rfl (fun _ h=>h.2.1) rfl (US 0 rfl (fun _ h=>h.2.2.1) rfl (US 0 rfl (fun _ h=>h.1) rfl (US 0 rfl (fun _ h=>h.2.2.2) rfl (US 0 rfl (fun _ h=>h.2.2.1) rfl (O.call rfl rfl rfl call29 rfl (gless_spec hd (ho.fr hF) (by omega) y1 y2) ?_))))))))))
    rintro _ H8 ⟨rfl,hF8⟩
    replace hF:=hF.trans hF8
    replace mm:=hF8.rd mm (fun _ _=>nw)
    replace mm0:=hF8.keep mm0 nw
    replace mm1:=hF8.keep mm1 nw
    replace ma:=hF8.rd ma (fun _ _=>nw)
    replace mb:=hF8.rd mb (fun _ _=>nw)
    replace mc:=hF8.rd mc (fun _ _=>nw)
    refine ⟨⟨mm,mb,mc,ma⟩,?_⟩
    refine O.call rfl rfl rfl call29 rfl (gless_spec hd (ho.fr hF) (by omega) y2 y3) ?_
    rintro _ H9 ⟨rfl,hF9⟩
    replace hF:=hF.trans hF9
    replace mm:=hF9.rd mm (fun _ _=>nw)
    replace mm0:=hF9.keep mm0 nw
    replace mm1:=hF9.keep mm1 nw
    replace ma:=hF9.rd ma (fun _ _=>nw)
    replace mb:=hF9.rd mb (fun _ _=>nw)
    replace mc:=hF9.rd mc (fun _ _=>nw)
    refine ⟨⟨mm,mb,mc,ma⟩,?_⟩
    refine O.call rfl rfl rfl call29 rfl (gless_spec hd (ho.fr hF) (by omega) y1 y3) ?_
    rintro _ H10 ⟨rfl,hF10⟩
    replace hF:=hF.trans hF10
    replace mm:=hF10.rd mm (fun _ _=>nw)
    replace mm0:=hF10.keep mm0 nw
    replace mm1:=hF10.keep mm1 nw
    replace ma:=hF10.rd ma (fun _ _=>nw)
    replace mb:=hF10.rd mb (fun _ _=>nw)
    replace mc:=hF10.rd mc (fun _ _=>nw)
    refine ⟨⟨mm,mb,mc,ma⟩,?_⟩
    refine Uf 3 [4,5,6,8,9,10,11] rfl (Ut 1 rfl ?_)
    rw [hab,hbc,hac]
    refine Ur 33 2341871806242422933 rfl (Us 0 rfl mm rfl (Us 0 rfl ma rfl (Us 0 rfl ma rfl (O.call rfl rfl rfl call29 rfl (gless_spec hd (ho.fr hF) (by omega) y1 y1) ?_))))
    rintro _ H11 ⟨rfl,hF11⟩
    replace hF:=hF.trans hF11
    replace mm:=hF11.rd mm (fun _ _=>nw)
    replace mm0:=hF11.keep mm0 nw
    replace mm1:=hF11.keep mm1 nw
    replace ma:=hF11.rd ma (fun _ _=>nw)
    replace mb:=hF11.rd mb (fun _ _=>nw)
    replace mc:=hF11.rd mc (fun _ _=>nw)
    rw [hir]
    refine ⟨trivial,?_⟩
    refine Us 4 rfl mm rfl (Us 0 rfl mb rfl (Us 0 rfl ma rfl (O.call rfl rfl rfl call29 rfl (gless_spec hd (ho.fr hF) (by omega) y2 y1) ?_)))
    rintro _ H12 ⟨rfl,hF12⟩
    replace hF:=hF.trans hF12
    replace mm:=hF12.rd mm (fun _ _=>nw)
    replace mm0:=hF12.keep mm0 nw
    replace mm1:=hF12.keep mm1 nw
    replace ma:=hF12.rd ma (fun _ _=>nw)
    replace mb:=hF12.rd mb (fun _ _=>nw)
    replace mc:=hF12.rd mc (fun _ _=>nw)
    rw [hsa hab]
    refine ⟨trivial,?_⟩
    refine Uq 15 rfl (O.call rfl rfl rfl call30 rfl exMake_spec ?_)
    rintro _ H13 ⟨rfl,hF13⟩
    replace hF:=hF.trans hF13
    replace mm:=hF13.rd mm (fun _ _=>nw)
    replace mm0:=hF13.keep mm0 nw
    replace mm1:=hF13.keep mm1 nw
    replace ma:=hF13.rd ma (fun _ _=>nw)
    replace mb:=hF13.rd mb (fun _ _=>nw)
    replace mc:=hF13.rd mc (fun _ _=>nw)
    refine ⟨trivial,?_⟩
    refine O.bld (cs:=[.int .i64 1,.int .i64 0]) rfl rfl rfl rfl (st27) rfl (by kernel_rfl) (O.bld (cs:=[.int .i64 2,.int .i64 0]) rfl rfl rfl rfl (st27) rfl (by kernel_rfl) (O.call rfl rfl rfl call29 rfl (gless_spec (d:=2) (by decide) (InS.nil EN _) (by decide) (1,0) (2,0)) ?_))
    rintro _ H14 ⟨rfl,hF14⟩
    replace hF:=hF.trans hF14
    replace mm:=hF14.rd mm (fun _ _=>nw)
    replace mm0:=hF14.keep mm0 nw
    replace mm1:=hF14.keep mm1 nw
    replace ma:=hF14.rd ma (fun _ _=>nw)
    replace mb:=hF14.rd mb (fun _ _=>nw)
    replace mc:=hF14.rd mc (fun _ _=>nw)
    rw [hex]
    refine ⟨trivial,?_⟩
    refine Uf 2 [8] rfl (Go'.ret (vs:=[_]) func4 results4 ⟨rfl,trivial⟩ ?_)
    exact ⟨rfl,hF⟩
end Go.Bt.FG
namespace Go.Bt.FG
open Go Go.Proofs Go.Proofs.Try
set_option maxRecDepth 20000
set_option maxHeartbeats 4000000
set_option linter.unusedSectionVars false
theorem newTree0_spec {B:World} {H:Mem} {nl:Bool} {g:FuncId} {ob:Nat}:
  Fn Try.prog B 121 [.func (.func g) #[] #[ptr ob],.agg #[.int .i64 0,.bool nl]] H (fun r H'=>∃tr,r=ptr tr∧H.size≤tr∧tr<H'.size∧Fr nowhere H H'∧TrN H' tr 1 63 31 (.func (.func g) #[] #[ptr ob])):=newTree_spec (d:=0) (.inl rfl)
theorem st175:StT Try.prog 175 [(0,1)] [.pointer none]:=⟨⟨_,underlying175,fun w=>by simp [Array.mapM_eq_mapM_toList,sizeOf86]⟩,zeroValue175⟩
theorem newBTreeG_spec {B:World} {H:Mem} {g:FuncId} {ob:Nat}:Fn Try.prog B 139 [.func (.func g) #[] #[ptr ob]] H (fun r H'=>∃tr,r=ptr tr∧H.size≤tr∧tr<H'.size∧Fr nowhere H H'∧TrN H' tr 1 63 31 (.func (.func g) #[] #[ptr ob])):=by
 refine fn_of func139 rfl ntmps139 ?_
 refine (show Go' _ _ _ _ 6 [(0,_)] [.code _] _ from ?_)
 refine Ut 1 rfl (Ur 1 0 rfl (Uf 1 [0,2] rfl (Ut 1 rfl (Ur 4 32 rfl (Uq 1 rfl (O.bld (cs:=[.int .i64 0,.bool false]) rfl rfl rfl rfl (st142) rfl (by kernel_rfl) (O.call rfl rfl rfl call121 rfl newTree0_spec ?_)))))))
 rintro _ H1 ⟨tr,rfl,h1,h2,hF,hT⟩
 refine ⟨trivial,?_⟩
 refine Uf 1 [2] rfl (Go'.ret (vs:=[_]) func139 results139 ⟨rfl,trivial⟩ ?_)
 exact ⟨tr,rfl,h1,h2,hF,hT⟩
theorem nNewGeneric_spec {B:World} {H:Mem} {g:FuncId} {ob:Nat}:Fn Try.prog B 140 [.func (.func g) #[] #[ptr ob]] H (fun r H'=>∃p tr,r=ptr p∧cl H' p 0=some (ptr tr)∧H.size≤tr∧tr<H'.size∧Fr nowhere H H'∧TrN H' tr 1 63 31 (.func (.func g) #[] #[ptr ob])):=by
 have hF:Fr nowhere H H:=Fr.refl _ _
 refine fn_of func140 rfl ntmps140 ?_
 refine (show Go' _ _ _ _ 8 [(0,_)] [.code _] _ from ?_)
 refine Ut 1 rfl (Ur 1 0 rfl (Uf 1 [0,2] rfl (Ut 1 rfl (Ur 6 544 rfl (Uq 1 rfl (O.bld (cs:=[.int .i64 0,.bool false]) rfl rfl rfl rfl (st142) rfl (by kernel_rfl) (O.call rfl rfl rfl call121 rfl newTree0_spec ?_)))))))
 rintro _ H1 ⟨tr,rfl,h1,h2,hF1,hT⟩
 have hs1:=hF1.size
 refine ⟨trivial,?_⟩
 refine O.bld (cs:=[ptr tr]) rfl rfl rfl rfl (st175) rfl (by kernel_rfl) (O.box rfl rfl rfl rfl ?_)
 intro H2 M2
 refine ⟨trivial,?_⟩
 have hs2:=M2.size
 refine Uf 1 [2] rfl (Go'.ret (vs:=[_]) func140 results140 ⟨rfl,trivial⟩ ?_)
 exact ⟨_,tr,rfl,(M2.cl 0).trans rfl,by omega,by omega,(hF.trans hF1).trans (M2.fr nowhere),hT.fr (M2.fr nowhere) (fun _=>nw)⟩
theorem nNewGenericOptions_spec {B:World} {H:Mem} {g:FuncId} {ob:Nat}:Fn Try.prog B 141 [.func (.func g) #[] #[ptr ob],.agg #[.int .i64 0,.bool false]] H (fun r H'=>∃p tr,r=ptr p∧cl H' p 0=some (ptr tr)∧H.size≤tr∧tr<H'.size∧Fr nowhere H H'∧TrN H' tr 1 63 31 (.func (.func g) #[] #[ptr ob])):=by
 have hF:Fr nowhere H H:=Fr.refl _ _
 refine fn_of func141 rfl ntmps141 ?_
 refine (show Go' _ _ _ _ 10 [(0,_),(1,_)] [.code _] _ from ?_)
 refine Ut 1 rfl (Ur 2 2 rfl (O.box rfl rfl rfl rfl ?_))
 intro H0 M0
 refine ⟨trivial,?_⟩
 replace hF:=hF.trans (M0.fr nowhere)
 have mo:Rd H0 H.size 0 [.int .i64 0,.bool false]:=M0.rd _ [] (by simp [Value.cells])
 have hs0:=M0.size
 refine Uf 1 [0,3,4] rfl (Ut 1 rfl (Ur 6 548 rfl (Us 1 rfl mo rfl (O.call rfl rfl rfl call121 rfl newTree0_spec ?_))))
 rintro _ H1 ⟨tr,rfl,h1,h2,hF1,hT⟩
 have hs1:=hF1.size
 refine ⟨trivial,?_⟩
 refine O.bld (cs:=[ptr tr]) rfl rfl rfl rfl (st175) rfl (by kernel_rfl) (O.box rfl rfl rfl rfl ?_)
 intro H2 M2
 refine ⟨trivial,?_⟩
 have hs2:=M2.size
 refine Uf 1 [4] rfl (Go'.ret (vs:=[_]) func141 results141 ⟨rfl,trivial⟩ ?_)
 exact ⟨_,tr,rfl,(M2.cl 0).trans rfl,by omega,by omega,(hF.trans hF1).trans (M2.fr nowhere),hT.fr (M2.fr nowhere) (fun _=>nw)⟩
theorem ignew_spec {B:World} {H:Mem} {kd:Int} {v u:Value} {ord:List Int} {l:List (Int×Int)} (ho:InS EN H v ord) (hol:ord.length≤4294967296) (hi:InS EJ H u l) (hll:l.length≤4294967296):
  Fn Try.prog B 86 [.int .i64 kd,v,u] H (fun r H'=>OutS EJ H' r (Pl.puts (OO ord) l)∧Fr nowhere H H'):=by
 have hP:=PD_ok (d:=0) (.inl rfl)
 obtain ⟨a,c,hu⟩:=hi.len
 subst hu
 obtain ⟨av,mv,cv,hv⟩:=InS.form ho
 subst hv
 refine fn_of func86 rfl ntmps86 ?_
 refine (show Go' _ _ _ _ 48 [(0,_),(1,_),(2,_)] [.code _] _ from ?_)
 refine Ut 1 rfl (Ur 1 0 rfl (Uf 1 [0,1,2,6] rfl (Ut 1 rfl (Ur 1 0 rfl (Uf 1 [0,1,2,6,7] rfl (Ut 1 rfl (Ur 3 8 rfl (Uq 1 rfl (O.call rfl rfl rfl call122 rfl (ibefore_spec ho hol) ?_)))))))))
 rintro _ H2 ⟨ob,ov,rfl,hob,hob1,hob2,hA2,hF2⟩
 have hs2:=hF2.size
 refine ⟨trivial,?_⟩
 refine Uf 1 [0,2,6,7,8] rfl (Ut 2 rfl (Ur 1 0 rfl (Uf 1 [2,6,7,8,13] rfl (Ut 2 rfl ?_))))
 refine Go'.share3 (σ:=Nat) (fun tr H'=>Fr nowhere H H'∧∃I:Inhabited Cx,(@cx I).ord=ord∧(∀b,(@cx I).own b→H.size≤b)∧H.size≤(@cx I).base∧∃S,@MapM I H' tr (PD 0) S []∧∀b,S b→H.size≤b) (fun tr=>[(2,.slice a l.length c),(6,.slice none 0 0),(7,.pointer (some ⟨tr,0,none⟩))]) ?_ ?_
 rotate_left
 ·
  intro tail
  have fin:∀{H3 H4:Mem} {tr:Nat},Fr nowhere H2 H3→H2.size≤tr→tr<H3.size→TrN H3 tr 1 63 31 (.func (.func 170) #[] #[ptr ob])→Fr nowhere H H3∧∃I:Inhabited Cx,(@cx I).ord=ord∧(∀b,(@cx I).own b→H.size≤b)∧H.size≤(@cx I).base∧∃S,@MapM I H3 tr (PD 0) S []∧∀b,S b→H.size≤b:=by
   intro H3 H4 tr hF3 h1 h2 hT
   have hs3:=hF3.size
   have hA3:=(hA2.mono (Y:=fun b=>H.size≤b∧b≠ob∧b≠tr) (fun b hb hz=>⟨hz.1,hz.2,by omega⟩)).fr hF3 (fun _ _ _ _=>nw)
   obtain ⟨I,hIo,hIw,hIb,hM⟩:=hT.mapM (H0:=H.size) (hF3.keep hob nw) hA3 (by omega) (by omega) hob1 (by omega) h2
   exact ⟨hF2.trans hF3,I,hIo,fun b hb=>(hIw b).1 hb,by rw [hIb];omega,_,hM.1,fun b hb=>by have hb':b=tr:=hb;omega⟩
  by_cases h1:kd=1
  ·
   refine Ur 2 0 rfl (Uc 0 rfl (eqlT (by omega)) (Uf 1 [2,6,7,8,13,17] rfl (Go'.condT rfl (Ur 3 8 rfl (Uq 1 rfl (O.call rfl rfl rfl call139 rfl newBTreeG_spec ?_))))))
   rintro _ H3 ⟨tr,rfl,ht1,ht2,hF3,hT⟩
   unfold ptr
   refine ⟨trivial,?_⟩
   refine Uf 1 [2,6,7] rfl (Ut 1 rfl (Uk [2,6,7] rfl ?_))
   exact tail tr H3 (fin (H4:=H) hF3 ht1 ht2 hT)
  ·
   refine Ur 2 0 rfl (Uc 0 rfl (eqlF (by omega)) (Uf 1 [2,6,7,8,13,17] rfl (Go'.condF rfl (Ut 1 rfl ?_))))
   by_cases h2:kd=2
   ·
    refine Ur 2 0 rfl (Uc 0 rfl (eqlT (by omega)) (Uf 1 [2,6,7,8,13,21] rfl (Go'.condT rfl (Ur 6 264 rfl (Uq 1 rfl (O.call rfl rfl rfl call140 rfl nNewGeneric_spec ?_))))))
    rintro _ H3 ⟨gp,tr,rfl,hgp,ht1,ht2,hF3,hT⟩
    unfold ptr at hgp ⊢
    refine ⟨trivial,?_⟩
    refine Ul 2 rfl hgp (Uf 1 [2,6,7] rfl (Ut 1 rfl (Uk [2,6,7] rfl ?_)))
    exact tail tr H3 (fin (H4:=H) hF3 ht1 ht2 hT)
   ·
    refine Ur 2 0 rfl (Uc 0 rfl (eqlF (by omega)) (Uf 1 [2,6,7,8,13,21] rfl (Go'.condF rfl (Ut 1 rfl ?_))))
    by_cases h3:kd=3
    ·
     refine Ur 2 0 rfl (Uc 0 rfl (eqlT (by omega)) (Uf 1 [2,6,7,8,28] rfl (Go'.condT rfl (Ur 7 1056 rfl (Uq 1 rfl (O.bld (cs:=[.int .i64 0,.bool false]) rfl rfl rfl rfl (st142) rfl (by kernel_rfl) (O.call rfl rfl rfl call141 rfl nNewGenericOptions_spec ?_)))))))
     rintro _ H3 ⟨gp,tr,rfl,hgp,ht1,ht2,hF3,hT⟩
     unfold ptr at hgp ⊢
     refine ⟨trivial,?_⟩
     refine Ul 2 rfl hgp (Uf 1 [2,6,7] rfl (Ut 1 rfl (Uk [2,6,7] rfl ?_)))
     exact tail tr H3 (fin (H4:=H) hF3 ht1 ht2 hT)
    ·
     refine Ur 2 0 rfl (Uc 0 rfl (eqlF (by omega)) (Uf 1 [2,6,7,8,28] rfl (Go'.condF rfl (Ur 4 32 rfl (Uq 1 rfl (O.bld (cs:=[.int .i64 0,.bool false]) rfl rfl rfl rfl (st142) rfl (by kernel_rfl) (O.call rfl rfl rfl call121 rfl newTree0_spec ?_)))))))
     rintro _ H3 ⟨tr,rfl,ht1,ht2,hF3,hT⟩
     unfold ptr
     refine ⟨trivial,?_⟩
     refine Uf 1 [2,6,7] rfl (Ut 1 rfl (Uk [2,6,7] rfl ?_))
     exact tail tr H3 (fin (H4:=H) hF3 ht1 ht2 hT)
 clear hA2 hob hob1 hob2 ob ov hF2 hs2 H2
 rintro tr H4 ⟨hFa,I,hIo,hIw,hIb,S,hM1,hS⟩
 have hOI:OO ord=OI:=by rw [←hIo];rfl
 refine Ut 2 rfl (Ur 3 0 rfl (Uf 3 [6,7,36,37,38] rfl (Ut 1 rfl (Go'.loop (Uk [6,7,36,37,38] rfl ?_)))))
 refine Go'.ind (σ:=Nat) (fun j=>l.length-j) (fun j H'=>Fr nowhere H H'∧j≤l.length∧∃S,MapM H' tr (PD 0) S (Pl.puts OI (l.take j))∧∀b,S b→H.size≤b)
  (fun j=>[(6,.slice none 0 0),(7,.pointer (some ⟨tr,0,none⟩)),(36,.slice a l.length c),(37,.int .i64 (l.length:Int)),(38,.int .i64 (j:Int))]) 0 ⟨hFa,Nat.zero_le _,_,hM1,hS⟩ rfl ?_
 clear hM1 hS S
 rintro j H2 ⟨hF,hjl,S,hM,hS⟩ ih
 have hi2:=hi.fr hF
 refine Ut 1 rfl ?_
 by_cases hlt:j<l.length
 ·
  obtain ⟨y,hy⟩:∃y,l[j]?=some y:=⟨l[j],List.getElem?_eq_getElem hlt⟩
  obtain ⟨b,o,c',e,hr⟩:=hi2.at hy
  cases e
  have hpl:=Pl.puts_length OI (l.take j)
  rw [List.length_take] at hpl
  have hlt2:=hM.lt
  have hbs:=hM.tc.hb
  have hH2:=hF.size
  refine Ur 1 0 rfl (Uc 0 rfl (lssT (by omega)) (Uf 0 [6,7,36,37,38,39] rfl (Ut 1 rfl (Go'.condT rfl (Ut 4 rfl (Ur 4 164 rfl (Ux 0 j rfl (by omega) hlt (Us 0 rfl hr rfl (O.alloc rfl rfl rfl zeroValue27 ?_)))))))))
  intro H5 M5
  refine ⟨trivial,?_⟩
  have hs5:=M5.size
  replace hM:=hM.fr (M5.fr nowhere) (fun _ _ _=>nw)
  have m7:Wr H5 H2.size 0 2:=M5.wr 2 (by decide)
  refine O.st rfl rfl sizeOf27 rfl rfl rfl rfl rfl m7 ?_
  intro H6 W6
  have hs6:=W6.size
  replace hM:=hM.fr W6.fr (fun b o hb hz=>by have h1:=hz.1;exact hb.elim (fun hb=>by have h2:=hlt2 b hb;omega) (fun hb=>by omega))
  have hf6:Fr nowhere H H6:=hF.trans' ((M5.fr nowhere).trans' W6.fr (Z:=nowhere) (fun _ _ _ h=>h) (fun b o hb hz=>by have h1:=hz.1;omega)) (fun _ _ _ h=>h) (fun _ _ _ h=>h)
  have k0:Rd H6 H2.size 0 (EJ.enc y):=W6.all
  refine ⟨trivial,?_⟩
  refine Uf 0 [6,7,10,36,37,38,39] rfl (Ur 3 36 rfl (Us 1 rfl k0 rfl (O.call rfl rfl rfl call124 rfl (set_spec hP (x:=y) hM (by omega)) ?_)))
  rintro _ H7 ⟨_,rfl,S',hM',hF',hS'⟩
  refine ⟨trivial,?_⟩
  refine Uf 0 [6,7,10,36,37,38,39] rfl (Ut 1 rfl (Ur 2 0 rfl (Ua 0 (((j+1:Nat):Int)) rfl (by omega) (Uf 1 [6,7,10,36,37,38,39] rfl (Uk [6,7,36,37,38] rfl (Go'.inLoop ?_))))))
  exact ih (j+1) H7 ⟨hf6.trans' hF' (fun _ _ _ h=>h) (fun b o hb hz=>hz.elim (fun hz=>by have h1:=hS b hz;omega) id),hlt,S',by
   rw [List.take_add_one,hy]
   rw [←Pl.puts_snoc] at hM'
   exact hM',fun b hb=>(hS' b hb).elim (hS b) (fun h=>by have:=hf6.size;omega)⟩ (by omega)
 ·
  obtain rfl:j=l.length:=by omega
  rw [List.take_length] at hM
  have hpl:=Pl.puts_length OI l
  refine Ur 1 0 rfl (Uc 0 rfl (lssF (by omega)) (Uf 0 [6,7,36,37,38,39] rfl (Ut 1 rfl (Go'.condF rfl (Ut 2 rfl (Ur 3 8 rfl (Uq 1 rfl (O.call rfl rfl rfl call73 rfl (Items_spec hP hM (by omega)) ?_))))))))
  rintro v9 H5 ⟨hv9,hF5⟩
  refine ⟨trivial,?_⟩
  refine Uf 1 [6] rfl (Go'.ret (vs:=[_]) func86 results86 ⟨rfl,trivial⟩ ?_)
  rw [hOI];exact ⟨hv9,hF.trans hF5⟩
theorem lawGNew_spec {B:World} {H:Mem} {kd:Int} {v u:Value} {ord:List Int} {l:List (Int×Int)} (ho:InS EN H v ord) (hol:ord.length≤4294967296) (hi:InS EJ H u l) (hll:l.length≤4294967296):
  Fn Try.prog B 38 [.int .i64 kd,v,u] H (fun r H'=>r=.bool true∧Fr nowhere H H'):=by
 have hpl:=Pl.puts_length (OO ord) l
 obtain ⟨a,c,hu⟩:=hi.len
 subst hu
 obtain ⟨av,mv,cv,hv⟩:=InS.form ho
 subst hv
 refine fn_of func38 rfl ntmps38 ?_
 refine (show Go' _ _ _ _ 15 [(0,_),(1,_),(2,_)] [.code _] _ from ?_)
 refine Ut 1 rfl (Ur 1 0 rfl (Uf 1 [0,1,2,6] rfl (Ut 1 rfl (Ur 9 41088 rfl (Uq 3 rfl (O.call rfl rfl rfl call86 rfl (ignew_spec ho hol hi hll) ?_))))))
 rintro v1 H1 ⟨h1,hF1⟩
 refine ⟨trivial,?_⟩
 refine Uq 2 rfl (O.call rfl rfl rfl call42 rfl (tree_spec (ho.fr hF1) (by omega) (hi.fr hF1) hll) ?_)
 rintro v2 H2 ⟨h2,hF2⟩
 refine ⟨trivial,?_⟩
 refine O.callQ rfl rfl rfl call28 rfl (eqItems_spec (h1.inS.fr hF2) h2.inS (by omega)) trivial (Uf 1 [6] rfl (Go'.ret (vs:=[_]) func38 results38 ⟨rfl,trivial⟩ ?_))
 exact ⟨rfl,hF1.trans hF2⟩
theorem fnExactGNew {B:World} {H:Mem} {kd:Int} {v u:Value} {ord:List Int} {l:List (Int×Int)} (ho:InS EN H v ord) (hi:InS EJ H u l):
  Fn Try.prog B 9 [.int .i64 kd,v,u] H (fun r H'=>r=.bool true∧Fr nowhere H H'):=by
 obtain ⟨a,c,hu⟩:=hi.len
 subst hu
 obtain ⟨av,cv,hv⟩:=ho.len
 subst hv
 refine fn_of func9 rfl ntmps9 ?_
 refine (show Go' _ _ _ _ 23 [(0,_),(1,_),(2,_)] [.code _] _ from ?_)
 refine Ut 1 rfl (Ur 1 0 rfl (Uf 1 [0,1,2,6] rfl (Ut 2 rfl ?_)))
 by_cases ho1:(2147483647:Int)<(ord.length:Int)
 ·
  refine Ur 8 0 rfl (Uc 2 rfl (gtrT (by omega)) (Uf 5 [0,1,2,6,14] rfl (Go'.condT rfl (Ut 1 rfl (Ur 1 0 rfl (Uf 1 [0,1,2,6] rfl (Go'.ret (vs:=[_]) func9 results9 ⟨rfl,trivial⟩ ?_)))))))
  exact ⟨rfl,Fr.refl _ _⟩
 ·
  by_cases hl1:(2147483647:Int)<(l.length:Int)
  ·
   refine Ur 8 0 rfl (Uc 2 rfl (gtrF (by omega)) (Uc 3 rfl (gtrT (by omega)) (Uf 1 [0,1,2,6,14] rfl (Go'.condT rfl (Ut 1 rfl (Ur 1 0 rfl (Uf 1 [0,1,2,6] rfl (Go'.ret (vs:=[_]) func9 results9 ⟨rfl,trivial⟩ ?_))))))))
   exact ⟨rfl,Fr.refl _ _⟩
  ·
   refine Ur 8 0 rfl (Uc 2 rfl (gtrF (by omega)) (Uc 3 rfl (gtrF (by omega)) (Uf 1 [0,1,2,6,14] rfl (Go'.condF rfl (Ut 2 rfl (Ur 9 8202 rfl (O.call rfl rfl rfl call32 rfl exItems_spec ?_)))))))
   rintro ev H1 ⟨hev,hF1⟩
   refine ⟨trivial,?_⟩
   refine O.call rfl rfl rfl call38 rfl (lawGNew_spec (InS.nil EN _) (by decide) hev (by decide)) ?_
   rintro _ H2 ⟨rfl,hF2⟩
   refine ⟨trivial,?_⟩
   refine Uq 4 rfl (O.call rfl rfl rfl call38 rfl (lawGNew_spec (ho.fr (hF1.trans hF2)) (by omega) (hi.fr (hF1.trans hF2)) (by omega)) ?_)
   rintro _ H3 ⟨rfl,hF3⟩
   refine ⟨trivial,?_⟩
   refine Uf 2 [6] rfl (Go'.ret (vs:=[_]) func9 results9 ⟨rfl,trivial⟩ ?_)
   exact ⟨rfl,(hF1.trans hF2).trans hF3⟩
end Go.Bt.FG
namespace Go.Bt.FG
open Go Go.Proofs Go.Proofs.Try
set_option maxRecDepth 20000
set_option maxHeartbeats 4000000
set_option linter.unusedSectionVars false
theorem wf_u8 {z:Int} (h:(Lit.int .u8 z).wf=true):0≤z∧z<256:=by
 have e1:IntKind.u8.min=0:=rfl
 have e2:IntKind.u8.max=255:=rfl
 unfold Lit.wf at h
 rw [Bool.and_eq_true,decide_eq_true_eq,decide_eq_true_eq,e1,e2] at h
 omega
theorem fnGOrders {B:World} {H:Mem} {z:Int} {nl:Bool} {v u:Value} {ord:List Int} {l:List (Int×Int)} {kk:Int} (ho:InS EN H v ord) (hi:InS EJ H u l) (hkk:0≤kk∧kk<256):
  Fn Try.prog B 12 [.agg #[v,.int .i64 z,.bool nl],u,.int .u8 kk] H (fun r H'=>r=.bool true∧Fr nowhere H H'):=by
 obtain ⟨a,c,hu⟩:=hi.len
 subst hu
 obtain ⟨av,mv,cv,hv⟩:=InS.form ho
 subst hv
 have hF:Fr nowhere H H:=Fr.refl _ _
 refine fn_of func12 rfl ntmps12 ?_
 refine (show Go' _ _ _ _ 67 [(0,_),(1,_),(2,_)] [.code _] _ from ?_)
 refine Ut 1 rfl (Ur 2 2 rfl (O.box rfl rfl rfl rfl ?_))
 intro B1 MB1
 refine ⟨trivial,?_⟩
 have hsB1:=MB1.size
 replace hF:=hF.trans (MB1.fr nowhere)
 have mm:Rd B1 H.size 0 [.slice av mv cv,.int .i64 z,.bool nl]:=MB1.rd _ [] (by simp [Value.cells])
 have mm0:cl B1 H.size 0=some (.slice av mv cv):=mm 0 _ rfl
 have mm1:cl B1 H.size (0+1)=some (.int .i64 z):=mm 1 _ rfl
 refine Uf 1 [1,2,3,6] rfl (Ut 2 rfl ?_)
 cases hoz:decide (ord.length≤2147483647)
 ·
  refine Ur 8 9 rfl (Us 0 rfl mm rfl (O.call rfl rfl rfl call23 rfl (zzFits1_spec (ho.fr hF) hoz) ?_))
  rintro _ Hz ⟨rfl,hFz⟩
  replace hF:=hF.trans hFz
  replace mm:=hFz.rd mm (fun _ _=>nw)
  replace mm0:=hFz.keep mm0 nw
  replace mm1:=hFz.keep mm1 nw
  refine ⟨trivial,?_⟩
  refine Uf 6 [1,2,3,6,16] rfl (Go'.condT rfl (Ut 1 rfl (Ur 1 0 rfl (Uf 1 [1,2,3,6] rfl (Go'.ret (vs:=[_]) func12 results12 ⟨rfl,trivial⟩ ?_)))))
  exact ⟨rfl,hF⟩
 ·
  have hoz2:=of_decide_eq_true hoz
  by_cases hb_lenl:(2147483647:Int)<(l.length:Int)
  ·
   refine Ur 8 9 rfl (Us 0 rfl mm rfl (O.call rfl rfl rfl call23 rfl (zzFits1_spec (ho.fr hF) hoz) ?_))
   rintro _ Hz ⟨rfl,hFz⟩
   replace hF:=hF.trans hFz
   replace mm:=hFz.rd mm (fun _ _=>nw)
   replace mm0:=hFz.keep mm0 nw
   replace mm1:=hFz.keep mm1 nw
   refine ⟨trivial,?_⟩
   refine Uc 4 rfl (gtrT (by omega)) (Uf 1 [1,2,3,6,16] rfl (Go'.condT rfl (Ut 1 rfl (Ur 1 0 rfl (Uf 1 [1,2,3,6] rfl (Go'.ret (vs:=[_]) func12 results12 ⟨rfl,trivial⟩ ?_))))))
   exact ⟨rfl,hF⟩
  ·
   refine Ur 8 9 rfl (Us 0 rfl mm rfl (O.call rfl rfl rfl call23 rfl (zzFits1_spec (ho.fr hF) hoz) ?_))
   rintro _ Hz ⟨rfl,hFz⟩
   replace hF:=hF.trans hFz
   replace mm:=hFz.rd mm (fun _ _=>nw)
   replace mm0:=hFz.keep mm0 nw
   replace mm1:=hFz.keep mm1 nw
   refine ⟨trivial,?_⟩
   refine Uc 4 rfl (gtrF (by omega)) (Uf 1 [1,2,3,6,16] rfl (Go'.condF rfl (Ut 3 rfl ?_)))
   have hpl:=Pl.puts_length (OO ord) l
   cases hfz:fitsb z
   ·
    refine Ur 18 33801 rfl (Us 0 rfl mm rfl (O.call rfl rfl rfl call24 rfl (lfits_spec ⟨_,_,_,rfl⟩ hfz) ?_))
    rintro _ H6 ⟨rfl,hF6⟩
    replace hF:=hF.trans hF6
    replace mm:=hF6.rd mm (fun _ _=>nw)
    replace mm0:=hF6.keep mm0 nw
    replace mm1:=hF6.keep mm1 nw
    refine ⟨trivial,?_⟩
    refine Uq 5 rfl (Pl.pass2 rfl rfl rfl rfl trivial (Uf 10 [1,2,3,6,34] rfl (Go'.condT rfl (Ut 1 rfl (Ur 2 2 rfl (O.call rfl rfl rfl call25 rfl alive_spec ?_))))))
    rintro _ Hv ⟨rfl,hFv⟩
    replace hF:=hF.trans hFv
    replace mm:=hFv.rd mm (fun _ _=>nw)
    replace mm0:=hFv.keep mm0 nw
    replace mm1:=hFv.keep mm1 nw
    refine ⟨trivial,?_⟩
    refine Uf 1 [1,2,3,6] rfl (Go'.ret (vs:=[_]) func12 results12 ⟨rfl,trivial⟩ ?_)
    exact ⟨rfl,hF⟩
   ·
    obtain ⟨d,rfl,hd⟩:=fitsb_nat hfz
    by_cases hne:(Pl.puts (OO ord) l).length=l.length
    rotate_left
    ·
     refine Ur 18 33801 rfl (Us 0 rfl mm rfl (O.call rfl rfl rfl call24 rfl (lfits_spec ⟨_,_,_,rfl⟩ hfz) ?_))
     rintro _ H6 ⟨rfl,hF6⟩
     replace hF:=hF.trans hF6
     replace mm:=hF6.rd mm (fun _ _=>nw)
     replace mm0:=hF6.keep mm0 nw
     replace mm1:=hF6.keep mm1 nw
     refine ⟨trivial,?_⟩
     refine Ul 3 rfl mm0 (Uq 1 rfl (O.call rfl rfl rfl call42 rfl (tree_spec (ho.fr hF) (by omega) (hi.fr hF) (by omega)) ?_))
     rintro tv H7 ⟨hA7,hF7⟩
     replace hF:=hF.trans hF7
     replace mm:=hF7.rd mm (fun _ _=>nw)
     replace mm0:=hF7.keep mm0 nw
     replace mm1:=hF7.keep mm1 nw
     obtain ⟨ta,tc,htv⟩:=hA7.inS.len
     subst htv
     refine ⟨trivial,?_⟩
     refine Uc 3 rfl (neqT (by omega)) (Uf 6 [1,2,3,6,34] rfl (Go'.condT rfl (Ut 1 rfl (Ur 2 2 rfl (O.call rfl rfl rfl call25 rfl alive_spec ?_)))))
     rintro _ Hv ⟨rfl,hFv⟩
     replace hF:=hF.trans hFv
     replace mm:=hFv.rd mm (fun _ _=>nw)
     replace mm0:=hFv.keep mm0 nw
     replace mm1:=hFv.keep mm1 nw
     refine ⟨trivial,?_⟩
     refine Uf 1 [1,2,3,6] rfl (Go'.ret (vs:=[_]) func12 results12 ⟨rfl,trivial⟩ ?_)
     exact ⟨rfl,hF⟩
    ·
     by_cases h0:l.length=0
     ·
      refine Ur 18 33801 rfl (Us 0 rfl mm rfl (O.call rfl rfl rfl call24 rfl (lfits_spec ⟨_,_,_,rfl⟩ hfz) ?_))
      rintro _ H6 ⟨rfl,hF6⟩
      replace hF:=hF.trans hF6
      replace mm:=hF6.rd mm (fun _ _=>nw)
      replace mm0:=hF6.keep mm0 nw
      replace mm1:=hF6.keep mm1 nw
      refine ⟨trivial,?_⟩
      refine Ul 3 rfl mm0 (Uq 1 rfl (O.call rfl rfl rfl call42 rfl (tree_spec (ho.fr hF) (by omega) (hi.fr hF) (by omega)) ?_))
      rintro tv H7 ⟨hA7,hF7⟩
      replace hF:=hF.trans hF7
      replace mm:=hF7.rd mm (fun _ _=>nw)
      replace mm0:=hF7.keep mm0 nw
      replace mm1:=hF7.keep mm1 nw
      obtain ⟨ta,tc,htv⟩:=hA7.inS.len
      subst htv
      refine ⟨trivial,?_⟩
      refine Uc 3 rfl (neqF (by omega)) (Uc 4 rfl (eqlT (by omega)) (Uf 1 [1,2,3,6,34] rfl (Go'.condT rfl (Ut 1 rfl (Ur 2 2 rfl (O.call rfl rfl rfl call25 rfl alive_spec ?_))))))
      rintro _ Hv ⟨rfl,hFv⟩
      replace hF:=hF.trans hFv
      replace mm:=hFv.rd mm (fun _ _=>nw)
      replace mm0:=hFv.keep mm0 nw
      replace mm1:=hFv.keep mm1 nw
      refine ⟨trivial,?_⟩
      refine Uf 1 [1,2,3,6] rfl (Go'.ret (vs:=[_]) func12 results12 ⟨rfl,trivial⟩ ?_)
      exact ⟨rfl,hF⟩
     ·
      refine Ur 18 33801 rfl (Us 0 rfl mm rfl (O.call rfl rfl rfl call24 rfl (lfits_spec ⟨_,_,_,rfl⟩ hfz) ?_))
      rintro _ H6 ⟨rfl,hF6⟩
      replace hF:=hF.trans hF6
      replace mm:=hF6.rd mm (fun _ _=>nw)
      replace mm0:=hF6.keep mm0 nw
      replace mm1:=hF6.keep mm1 nw
      refine ⟨trivial,?_⟩
      refine Ul 3 rfl mm0 (Uq 1 rfl (O.call rfl rfl rfl call42 rfl (tree_spec (ho.fr hF) (by omega) (hi.fr hF) (by omega)) ?_))
      rintro tv H7 ⟨hA7,hF7⟩
      replace hF:=hF.trans hF7
      replace mm:=hF7.rd mm (fun _ _=>nw)
      replace mm0:=hF7.keep mm0 nw
      replace mm1:=hF7.keep mm1 nw
      obtain ⟨ta,tc,htv⟩:=hA7.inS.len
      subst htv
      refine ⟨trivial,?_⟩
      refine Uc 3 rfl (neqF (by omega)) (Uc 4 rfl (eqlF (by omega)) (Uf 1 [1,2,3,6,34] rfl (Go'.condF rfl (Ut 2 rfl ?_))))
      obtain ⟨kn,rfl⟩:=Int.eq_ofNat_of_zero_le hkk.1
      obtain ⟨i,hi'⟩:∃i,i=kn % l.length:=⟨_,rfl⟩
      have hil:i<l.length:=by rw [hi'];exact Nat.mod_lt _ (by omega)
      have hir:((kn:Int)).tmod (l.length:Int)=(i:Int):=by rw [Int.tmod_eq_emod_of_nonneg (by omega),hi'];rfl
      refine Ur 6 8 rfl (Uq 1 rfl (O.cvi (v:=((kn:Nat):Int)) rfl rfl rfl (by rw [underlying5];rfl) underlying3 rfl rfl (wrap_id (by omega)) trivial (Uq 2 rfl (O.rem (((i:Nat):Int)) rfl rfl rfl rfl rfl rfl (by omega) hir (Uf 1 [1,3,6,7] rfl (Ut 1 rfl (Ur 4 33 rfl (Us 0 rfl mm rfl (Uq 1 rfl (O.call rfl rfl rfl call43 rfl (igitems_spec hd (ho.fr hF) (by omega) (hi.fr hF) (by omega)) ?_))))))))))
      rintro g8 H8 ⟨hg8,hF8⟩
      replace hF:=hF.trans hF8
      replace mm:=hF8.rd mm (fun _ _=>nw)
      replace mm0:=hF8.keep mm0 nw
      replace mm1:=hF8.keep mm1 nw
      have hI8:=hg8.inS
      obtain ⟨ga,gc,hge⟩:=hI8.len
      subst hge
      refine ⟨trivial,?_⟩
      refine Uf 1 [1,3,6,7,8] rfl (Ut 1 rfl ?_)
      have hp1:Pl.puts (OO ord) l.reverse=Pl.puts (OO ord) l:=Pl.puts_perm (OO ord) hne l.reverse_perm.symm
      have hp2:Pl.puts (OO ord) (l.drop i++l.take i)=Pl.puts (OO ord) l:=Pl.puts_perm (OO ord) hne (by
       have h:=List.perm_append_comm (l₁:=l.take i) (l₂:=l.drop i)
       rwa [List.take_append_drop] at h)
      have hrl:l.reverse.length=l.length:=List.length_reverse
      refine Go'.draw (fun H'=>Rd H' H.size 0 [.slice av mv cv,.int .i64 (d:Int),.bool nl]) [(0,0),(1,0),(4,0),(2,2),(3,2),(5,2),(6,0),(7,0),(8,0),(9,0),(10,0),(11,0),(12,0),(13,0),(17,0),(14,2),(15,2),(16,2),(18,2),(19,0),(20,0),(21,2),(22,0),(23,0)] (by kernel_rfl) (by kernel_rfl) (mm) (US 0 rfl (fun _ h=>h) rfl (Uq 2 rfl (O.call rfl rfl rfl call44 rfl (SI.turnedA_spec (hi.fr hF) (by omega)) ?_)))
      rintro tv9 H9 ⟨h9,hF9⟩
      replace hF:=hF.trans hF9
      replace mm:=hF9.rd mm (fun _ _=>nw)
      replace mm0:=hF9.keep mm0 nw
      replace mm1:=hF9.keep mm1 nw
      replace hI8:=hI8.fr hF9
      try replace hx1:=hx1.fr hF9
      try replace hx2:=hx2.fr hF9
      refine ⟨mm,?_⟩
      refine O.call rfl rfl rfl call43 rfl (igitems_spec hd (ho.fr hF) (by omega) h9.inS (by (try simp only [List.length_reverse]);(try simp only [List.length_append,List.length_drop,List.length_take]);omega)) ?_
      rintro g10 H10 ⟨hg10,hF10⟩
      replace hF:=hF.trans hF10
      replace mm:=hF10.rd mm (fun _ _=>nw)
      replace mm0:=hF10.keep mm0 nw
      replace mm1:=hF10.keep mm1 nw
      replace hI8:=hI8.fr hF10
      try replace hx1:=hx1.fr hF10
      try replace hx2:=hx2.fr hF10
      rw [hp1] at hg10
      refine ⟨mm,?_⟩
      refine O.callQ rfl rfl rfl call28 rfl (eqItems_spec hg10.inS hI8 (by omega)) mm (US 1 rfl (fun _ h=>h) rfl (Uq 2 rfl (O.slcIn (E:=EJ) (jl:=i) rfl rfl rfl rfl underlying25 sizeOf27 rfl (hi.fr hF) rfl ⟨_,by rfl⟩ (by omega) (by omega) ?_)))
      intro x1 hx1
      rw [List.take_of_length_le (by rw [List.length_drop];omega)] at hx1
      obtain ⟨xa1,xc1,hxe1⟩:=hx1.len
      subst hxe1
      refine Uq 2 rfl (O.slcIn (E:=EJ) (jh:=i) rfl rfl rfl rfl underlying25 sizeOf27 rfl (hi.fr hF) ⟨_,by rfl⟩ rfl (by omega) (by omega) ?_)
      intro x2 hx2
      rw [List.drop_zero,Nat.sub_zero] at hx2
      obtain ⟨xa2,xc2,hxe2⟩:=hx2.len
      subst hxe2
      refine Uq 1 rfl (O.bsl (cs:=(row SI.ESl [(xa1,(l.drop i).length,xc1),(xa2,(l.take i).length,xc2)])) rfl rfl rfl ⟨underlying55,sizeOf25,zeroValue25,⟨_,typeInfo25,rfl⟩,rfl,by decide,by decide⟩ rfl (by decide) (by kernel_rfl) ?_)
      intro Ha Ma
      have hFa:=Ma.fr nowhere
      replace hF:=hF.trans hFa
      replace mm:=hFa.rd mm (fun _ _=>nw)
      replace mm0:=hFa.keep mm0 nw
      replace mm1:=hFa.keep mm1 nw
      replace hI8:=hI8.fr hFa
      try replace hx1:=hx1.fr hFa
      try replace hx2:=hx2.fr hFa
      have hev:InS SI.ESl Ha (.slice (some ⟨H10.size,0,none⟩) 2 2) [(xa1,(l.drop i).length,xc1),(xa2,(l.take i).length,xc2)]:=.inl ⟨H10.size,0,2,rfl,Nat.le_refl _,Ma.rd _ [] (by simp [row,SI.ESl])⟩
      have hess:SI.InSS EJ Ha [(xa1,(l.drop i).length,xc1),(xa2,(l.take i).length,xc2)] [l.drop i,l.take i]:=⟨hx1,hx2,trivial⟩
      have hcl:([l.drop i,l.take i].flatten:List (Int×Int))=l.drop i++l.take i:=by simp
      refine ⟨mm,?_⟩
      refine O.call rfl rfl rfl call45 rfl (SI.concatA_spec hev hess (by rw [hcl,List.length_append,List.length_drop,List.length_take];omega) (by simp only [List.length_cons,List.length_nil];omega)) ?_
      rintro vb Hb ⟨hb,hFb⟩
      rw [hcl] at hb
      replace hF:=hF.trans hFb
      replace mm:=hFb.rd mm (fun _ _=>nw)
      replace mm0:=hFb.keep mm0 nw
      replace mm1:=hFb.keep mm1 nw
      replace hI8:=hI8.fr hFb
      try replace hx1:=hx1.fr hFb
      try replace hx2:=hx2.fr hFb
      refine ⟨mm,?_⟩
      refine O.call rfl rfl rfl call43 rfl (igitems_spec hd (ho.fr hF) (by omega) hb.inS (by (try simp only [List.length_reverse]);(try simp only [List.length_append,List.length_drop,List.length_take]);omega)) ?_
      rintro g11 H11 ⟨hg11,hF11⟩
      replace hF:=hF.trans hF11
      replace mm:=hF11.rd mm (fun _ _=>nw)
      replace mm0:=hF11.keep mm0 nw
      replace mm1:=hF11.keep mm1 nw
      replace hI8:=hI8.fr hF11
      try replace hx1:=hx1.fr hF11
      try replace hx2:=hx2.fr hF11
      rw [hp2] at hg11
      refine ⟨mm,?_⟩
      refine O.callQ rfl rfl rfl call28 rfl (eqItems_spec hg11.inS hI8 (by omega)) mm (Uq 2 rfl (O.call rfl rfl rfl call25 rfl alive_spec ?_))
      rintro _ Hv ⟨rfl,hFv⟩
      replace hF:=hF.trans hFv
      replace mm:=hFv.rd mm (fun _ _=>nw)
      replace mm0:=hFv.keep mm0 nw
      replace mm1:=hFv.keep mm1 nw
      refine ⟨mm,?_⟩
      refine Uf 2 [6] rfl (Go'.ret (vs:=[_]) func12 results12 ⟨rfl,trivial⟩ ?_)
      exact ⟨rfl,hF⟩
end Go.Bt.FG
