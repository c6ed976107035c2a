/- Contracts of functions of the program, proved by walking through their code. Conditions: those that each theorem names. -/
import Derived.Test.YtnlempnbagoipaaTocG
import Derived.Test.YtnlempnbagoipaaTocA
namespace Go.Bt.FB
open Go Go.Proofs Go.Proofs.Try
set_option maxRecDepth 20000
set_option maxHeartbeats 4000000
set_option linter.unusedVariables false
set_option linter.unusedSectionVars false


theorem ifrom_spec {B : World} {H : Mem} {al : Bool} {x : Int × Int} : Fn Try.prog B 53 [.bool al,.agg (EJ.enc x).toArray] H (fun r H' => r = cond al .nilIface (iv x) ∧ Fr nowhere H H') := by
  have hF : Fr nowhere H H := Fr.refl _ _
  refine fn_of func53 rfl ntmps53 ?_
  refine (show Go' _ _ _ _ 8 [(0,_),(1,_)] [.code _] _ from ?_)
  refine Go'.seq ?_
  refine Go'.region [(0,2),(1,0)] rfl ?_
  refine O.box rfl rfl rfl rfl ?_
  intro B1 MB1
  refine ⟨trivial,?_⟩
  have hsB1 := MB1.size
  replace hF := hF.trans (MB1.fr nowhere)
  have mpivot : Rd B1 H.size 0 (EJ.enc x) := MB1.rd _ [] (by simp [Value.cells])
  refine O.asg rfl rfl rfl rfl rfl ?_
  refine Pl.fin [(0,_),(3,_),(4,_)] ⟨rfl,rfl,rfl,trivial⟩ ?_
  refine Go'.seq ?_
  refine Go'.seq ?_
  refine Go'.region [(0,0)] rfl ?_
  refine O.mv rfl rfl rfl rfl rfl ?_
  refine Pl.fin [(3,_),(4,_),(5,_)] ⟨rfl,rfl,rfl,trivial⟩ ?_
  cases al
  · skip
    refine Go'.condF rfl ?_
    refine Go'.skip ?_
    refine Go'.seq ?_
    refine Go'.region [(0,1),(1,0),(2,0)] rfl ?_
    refine O.lds rfl rfl rfl (fun w => ⟨isAgg35 w,sizeOf35 w⟩) rfl rfl mpivot ?_
    refine O.mki rfl rfl rfl rfl underlying35 rfl rfl ?_
    refine O.asg rfl rfl rfl rfl rfl ?_
    refine Pl.fin [(4,_)] ⟨rfl,trivial⟩ ?_
    refine Go'.ret (vs := [_]) func53 results53 ⟨rfl,trivial⟩ ?_
    exact ⟨rfl,hF⟩
  · skip
    refine Go'.condT rfl ?_
    refine Go'.seq ?_
    refine Go'.region [(0,0)] rfl ?_
    refine O.asg rfl rfl rfl rfl rfl ?_
    refine Pl.fin [(3,_),(4,_)] ⟨rfl,rfl,trivial⟩ ?_
    refine Go'.ret (vs := [_]) func53 results53 ⟨rfl,trivial⟩ ?_
    exact ⟨rfl,hF⟩

section
variable [Inhabited Cx]
theorem bAscend_spec {B : World} {g : FuncId} {us cs : List Value} {go : List (Int × Int) → Bool} {M : Nat} (cb : Cb Try.prog B encIt g us cs go M) (hcall : ∀ (args : Array Value) (w : World),(callFunc g args).run Try.prog w = .ok (.enter g args) w) {tr : Nat} {P : Ps} (hP : PsOk P) {al : Bool} (x : Int × Int) {H : Mem} {bt : Nat} {S : Nat → Prop} {l : List (Int × Int)} {Z : Nat → Prop} (hM : MapM H tr P S l) (hb : cl H bt 0 = some (ptr tr)) (hT : cb.T [] Z H) (hd : ∀ b,S b → ¬ Z b) (hnb : ∀ b,Z b → ¬ (b < cx.base ∧ cx.own b)) (hl : l.length ≤ M) (hM6 : M ≤ 4294967296) :
    Fn Try.prog B 52 [ptr bt,cond al .nilIface (iv x),.func (.func g) us.toArray cs.toArray] H (fun _ H' => ∃ Z',cb.T (takes go [] (cond al l (Pl.up OI x l))).1 Z' H' ∧ Fr (fun b _ => Z b) H H' ∧ ∀ b,Z' b → Z b ∨ H.size ≤ b) := by
  unfold ptr at hb ⊢
  cases al
  · skip
    show Fn _ _ _ [_,iv x,_] _ _
    refine fn_of func52 rfl ntmps52 ?_
    refine (show Go' _ _ _ _ 21 [(0,_),(1,_),(2,_)] [.code _] _ from ?_)
    refine Go'.seq ?_
    refine Go'.region [(0,0),(1,0)] rfl ?_
    refine O.mv rfl rfl rfl rfl rfl ?_
    refine O.bin rfl rfl rfl rfl rfl rfl (run_eqNil_iface underlying20) ?_
    refine Pl.fin [(0,_),(1,_),(2,_),(7,_)] ⟨rfl,rfl,rfl,rfl,trivial⟩ ?_
    refine Go'.condF rfl ?_
    refine Go'.region [(0,0),(1,0),(2,0),(3,1),(4,0),(5,0),(6,2)] rfl ?_
    refine O.mv rfl rfl rfl rfl rfl ?_
    refine O.nc rfl rfl rfl rfl rfl ?_
    refine O.faz rfl rfl rfl rfl ⟨_,_,_,underlying115,rfl,rfl,sizeOf95⟩ rfl ?_
    refine O.ld rfl rfl rfl (fun w => ⟨isAgg95 w,sizeOf95 w⟩) rfl hb ?_
    refine O.mv rfl rfl rfl rfl rfl ?_
    refine O.mv rfl rfl rfl rfl rfl ?_
    refine O.call rfl rfl rfl call78 rfl (Ascend_spec cb hcall hP x hM hT hd hnb hl hM6) ?_
    rintro _ H2 hq
    refine ⟨trivial,?_⟩
    refine Pl.fin [] trivial ?_
    refine Go'.fall func52 results52 (vs := []) trivial ?_
    exact hq
  · skip
    show Fn _ _ _ [_,.nilIface,_] _ _
    refine fn_of func52 rfl ntmps52 ?_
    refine (show Go' _ _ _ _ 21 [(0,_),(1,_),(2,_)] [.code _] _ from ?_)
    refine Go'.seq ?_
    refine Go'.region [(0,0),(1,0)] rfl ?_
    refine O.mv rfl rfl rfl rfl rfl ?_
    refine O.bin rfl rfl rfl rfl rfl rfl (run_eqNil_nil underlying20) ?_
    refine Pl.fin [(0,_),(1,_),(2,_),(7,_)] ⟨rfl,rfl,rfl,rfl,trivial⟩ ?_
    refine Go'.condT rfl ?_
    refine Go'.region [(0,0),(1,0),(2,0),(3,1),(4,0),(5,2)] rfl ?_
    refine O.mv rfl rfl rfl rfl rfl ?_
    refine O.nc rfl rfl rfl rfl rfl ?_
    refine O.faz rfl rfl rfl rfl ⟨_,_,_,underlying115,rfl,rfl,sizeOf95⟩ rfl ?_
    refine O.ld rfl rfl rfl (fun w => ⟨isAgg95 w,sizeOf95 w⟩) rfl hb ?_
    refine O.mv rfl rfl rfl rfl rfl ?_
    refine O.call rfl rfl rfl call77 rfl (Scan_spec cb hcall hP hM hT hd hnb hl) ?_
    rintro _ H2 ⟨Z2,hT2,hF2,hZ2⟩
    refine ⟨trivial,?_⟩
    refine Pl.fin [] trivial ?_
    refine Go'.fall func52 results52 (vs := []) trivial ?_
    exact ⟨Z2,hT2,hF2,hZ2⟩
end
end Go.Bt.FB
namespace Go.Bt.FB
open Go Go.Proofs Go.Proofs.Try
set_option maxRecDepth 20000
set_option maxHeartbeats 4000000
set_option linter.unusedVariables false
set_option linter.unusedSectionVars false

section
variable [Inhabited Cx]
theorem firstN_0 {α : Type} (m : List α) : firstN m 0 = m := by unfold firstN; simp
theorem allOf_spec {B : World} {H : Mem} {tr bt : Nat} {P : Ps} (hP : PsOk P) {S : Nat → Prop} {l : List (Int × Int)} (hM : MapM H tr P S l) (hb : cl H bt 0 = some (ptr tr)) (hll : l.length ≤ 4294967296) :
    Fn Try.prog B 67 [ptr bt] H (fun r H' => OutS EJ H' r l ∧ Fr nowhere H H') := by
  have hSlt := hM.lt
  have hb0 := hM.tc.hb
  have hbl := cl_lt hb
  refine fn_of func67 rfl ntmps67 ?_
  refine (show Go' _ _ _ _ 8 [(0,_)] [.code _] _ from ?_)
  refine Go'.seq ?_
  refine Go'.region [(0,0)] rfl ?_
  refine O.asg rfl rfl rfl rfl rfl ?_
  refine Pl.fin [(0,_),(2,_)] ⟨rfl,rfl,trivial⟩ ?_
  refine Go'.seq ?_
  refine Go'.region [(0,2)] rfl ?_
  refine O.alloc rfl rfl rfl zeroValue25 ?_
  intro H1 M1
  refine ⟨trivial,?_⟩
  have hs1 := M1.size
  have hD : cl H1 H.size 0 = some (.slice none 0 0) := (M1.cl 0).trans rfl
  have hw : Wr H1 H.size 0 1 := M1.wr 1 (by decide)
  replace hM := hM.fr (M1.fr nowhere) (fun _ _ _ => nw)
  replace hb := M1.keep hb
  refine Pl.fin [(0,_),(2,_),(3,_)] ⟨rfl,rfl,rfl,trivial⟩ ?_
  refine Go'.seq ?_
  refine Go'.region [(0,0),(1,2),(2,2)] rfl ?_
  refine O.mv rfl rfl rfl rfl rfl ?_
  refine O.call rfl rfl rfl call54 rfl (takerAny_spec (n := 0) hD hw) ?_
  rintro _ H2 ⟨pb,b2,b3,rfl,hT,hF2⟩
  have hs2 := hF2.size
  replace hM := hM.fr hF2 (fun _ _ _ => nw)
  replace hb := hF2.keep hb nw
  refine ⟨trivial,?_⟩
  refine O.call rfl rfl rfl call52 rfl (bAscend_spec (al := true) (cbAny B pb b2 b3 H.size 0) call80 hP (0,0) hM hb hT (fun b hb hz => hz.elim (fun h => by have := hSlt b hb; omega) (fun h => by have := hSlt b hb; omega)) (fun b hz hb => by have h1 := hb.1; exact hz.elim (fun h => by omega) (fun h => by omega)) hll (Nat.le_refl _)) ?_
  rintro _ H3 ⟨Z3,hT3,hF3,hZ3⟩
  obtain ⟨ov,hv,hov⟩ := PrT.out hT3
  rw [takes_first,firstN_0] at hov
  refine ⟨trivial,?_⟩
  refine Pl.fin [(2,_),(3,_)] ⟨rfl,rfl,trivial⟩ ?_
  refine Go'.seq ?_
  refine Go'.region [(0,1),(1,0)] rfl ?_
  refine O.ld rfl rfl rfl (fun w => ⟨isAgg25 w,sizeOf25 w⟩) rfl hv ?_
  refine O.asg rfl rfl rfl rfl rfl ?_
  refine Pl.fin [(2,_)] ⟨rfl,trivial⟩ ?_
  refine Go'.ret (vs := [_]) func67 results67 ⟨rfl,trivial⟩ ?_
  exact ⟨hov,((M1.fr nowhere).trans hF2).trans' hF3 (fun _ _ _ h => h) (fun b o hb hz => hz.elim (fun h => by omega) (fun h => by omega))⟩
end
end Go.Bt.FB
namespace Go.Bt.FB
open Go Go.Proofs Go.Proofs.Try
set_option maxRecDepth 20000
set_option maxHeartbeats 4000000
set_option linter.unusedVariables false
set_option linter.unusedSectionVars false

end Go.Bt.FB
namespace Go.Bt.FB
open Go Go.Proofs Go.Proofs.Try
set_option maxRecDepth 20000
set_option maxHeartbeats 4000000
set_option linter.unusedVariables false
set_option linter.unusedSectionVars false

end Go.Bt.FB
