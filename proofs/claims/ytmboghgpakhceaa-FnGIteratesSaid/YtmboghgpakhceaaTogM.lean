/- Contracts of functions of the program, proved by walking through their code. Conditions: those that each theorem names. -/
import Derived.Test.YtmboghgpakhceaaTohB
import Derived.Test.YtmboghgpakhceaaTogL
namespace Go.Bt
open Go Go.Proofs
set_option maxRecDepth 20000
set_option maxHeartbeats 4000000
set_option linter.unusedVariables false

end Go.Bt
namespace Go.Bt.FG
open Go Go.Proofs
set_option maxRecDepth 20000
set_option maxHeartbeats 4000000
set_option linter.unusedVariables false
set_option linter.unusedSectionVars false

@[reducible] def nilCx : Inhabited Cx := ⟨⟨[], 0, .bool false, 0, fun _ => False⟩⟩
def exl : List (Int × Int) := [(5, 1), (3, 2), (9, 3), (3, 4), (1, 5), (7, 6), (8, 7)]
theorem exItems_spec {B : World} {H : Mem} : Fn Try.prog B 32 [] H (fun r H' => InS EJ H' r exl ∧ Fr nowhere H H') := by
  refine fn_of Try.func32 rfl Try.ntmps32 ?_
  refine (show Go' _ _ _ _ 9 [] [.code _] _ from ?_)
  refine Go'.seq ?_
  -- region 0 (help.go:72)
  refine Go'.region [(0, 0)] rfl ?_
  refine O.asg rfl rfl rfl rfl rfl ?_
  refine Pl.fin [(0, _)] ⟨rfl, trivial⟩ ?_
  refine Go'.seq ?_
  -- region 1 (help.go:73)
  refine Go'.region [(0, 0), (1, 0), (2, 0), (3, 0), (4, 0), (5, 0), (6, 0), (7, 2), (8, 0)] rfl ?_
  refine O.bld (cs := [.int .i64 5, .int .i64 1]) rfl rfl rfl rfl (st27) rfl (by kernel_rfl) ?_
  refine O.bld (cs := [.int .i64 3, .int .i64 2]) rfl rfl rfl rfl (st27) rfl (by kernel_rfl) ?_
  refine O.bld (cs := [.int .i64 9, .int .i64 3]) rfl rfl rfl rfl (st27) rfl (by kernel_rfl) ?_
  refine O.bld (cs := [.int .i64 3, .int .i64 4]) rfl rfl rfl rfl (st27) rfl (by kernel_rfl) ?_
  refine O.bld (cs := [.int .i64 1, .int .i64 5]) rfl rfl rfl rfl (st27) rfl (by kernel_rfl) ?_
  refine O.bld (cs := [.int .i64 7, .int .i64 6]) rfl rfl rfl rfl (st27) rfl (by kernel_rfl) ?_
  refine O.bld (cs := [.int .i64 8, .int .i64 7]) rfl rfl rfl rfl (st27) rfl (by kernel_rfl) ?_
  refine O.bsl (cs := (row EJ exl)) rfl rfl rfl ⟨Try.underlying25, Try.sizeOf27, Try.zeroValue27, ⟨_, Try.typeInfo27, rfl⟩, rfl, by decide, by decide⟩ rfl (by decide) (by kernel_rfl) ?_
  intro H1 M1
  refine ⟨trivial, ?_⟩
  refine O.asg rfl rfl rfl rfl rfl ?_
  refine Pl.fin [(0, _)] ⟨rfl, trivial⟩ ?_
  refine Go'.ret (vs := [_]) Try.func32 Try.results32 ⟨rfl, trivial⟩ ?_
  exact ⟨.inl ⟨H.size, 0, 7, rfl, by decide, M1.rd _ [] (by simp)⟩, M1.fr nowhere⟩

def fitsb (z : Int) : Bool := decide (z = 0) || (decide (2 ≤ z) && decide (z ≤ 128))
theorem fits_spec {B : World} {H : Mem} {z : Int} : Fn Try.prog B 33 [.int .i64 z] H (fun r H' => r = .bool (fitsb z) ∧ H' = H) := by
  refine fn_of Try.func33 rfl Try.ntmps33 ?_
  refine (show Go' _ _ _ _ 13 [(0, _)] [.code _] _ from ?_)
  refine Go'.seq ?_
  -- region 0 (tree.go:291)
  refine Go'.region [(0, 0)] rfl ?_
  refine O.asg rfl rfl rfl rfl rfl ?_
  refine Pl.fin [(0, _), (2, _)] ⟨rfl, rfl, trivial⟩ ?_
  refine Go'.seq ?_
  by_cases h0 : z = 0
  · skip
    -- region 1 (tree.go:291)
    refine Go'.region [(0, 0), (1, 0), (2, 0), (3, 0), (4, 0), (5, 0), (6, 0), (7, 0), (8, 0), (9, 0), (10, 0)] rfl ?_
    refine O.mv rfl rfl rfl rfl rfl ?_
    refine O.cmp rfl rfl rfl rfl rfl rfl (eqlT (by omega)) ?_
    refine O.mv rfl rfl rfl rfl rfl ?_
    refine Pl.pass rfl rfl rfl rfl ?_
    refine Pl.pass rfl rfl rfl rfl ?_
    refine Pl.pass rfl rfl rfl rfl ?_
    refine Pl.pass rfl rfl rfl rfl ?_
    refine Pl.pass rfl rfl rfl rfl ?_
    refine Pl.pass rfl rfl rfl rfl ?_
    refine O.pick rfl rfl rfl rfl rfl rfl ?_
    refine O.asg rfl rfl rfl rfl rfl ?_
    refine Pl.fin [(2, _)] ⟨rfl, trivial⟩ ?_
    refine Go'.ret (vs := [_]) Try.func33 Try.results33 ⟨rfl, trivial⟩ ?_
    subst h0; exact ⟨rfl, rfl⟩
  by_cases h2 : 2 ≤ z
  · skip
    by_cases h3 : z ≤ 128
    · skip
      -- region 1 (tree.go:291)
      refine Go'.region [(0, 0), (1, 0), (2, 0), (3, 0), (4, 0), (5, 0), (6, 0), (7, 0), (8, 0), (9, 0), (10, 0)] rfl ?_
      refine O.mv rfl rfl rfl rfl rfl ?_
      refine O.cmp rfl rfl rfl rfl rfl rfl (eqlF (by omega)) ?_
      refine O.mv rfl rfl rfl rfl rfl ?_
      refine O.mv rfl rfl rfl rfl rfl ?_
      refine O.cmp rfl rfl rfl rfl rfl rfl (geqT (by omega)) ?_
      refine O.mv rfl rfl rfl rfl rfl ?_
      refine O.mv rfl rfl rfl rfl rfl ?_
      refine O.cmp rfl rfl rfl rfl rfl rfl (leqT (by omega)) ?_
      refine O.pick rfl rfl rfl rfl rfl rfl ?_
      refine O.pick rfl rfl rfl rfl rfl rfl ?_
      refine O.asg rfl rfl rfl rfl rfl ?_
      refine Pl.fin [(2, _)] ⟨rfl, trivial⟩ ?_
      refine Go'.ret (vs := [_]) Try.func33 Try.results33 ⟨rfl, trivial⟩ ?_
      exact ⟨by unfold fitsb; rw [decide_eq_false h0, decide_eq_true h2, decide_eq_true h3]; rfl, rfl⟩
    · skip
      -- region 1 (tree.go:291)
      refine Go'.region [(0, 0), (1, 0), (2, 0), (3, 0), (4, 0), (5, 0), (6, 0), (7, 0), (8, 0), (9, 0), (10, 0)] rfl ?_
      refine O.mv rfl rfl rfl rfl rfl ?_
      refine O.cmp rfl rfl rfl rfl rfl rfl (eqlF (by omega)) ?_
      refine O.mv rfl rfl rfl rfl rfl ?_
      refine O.mv rfl rfl rfl rfl rfl ?_
      refine O.cmp rfl rfl rfl rfl rfl rfl (geqT (by omega)) ?_
      refine O.mv rfl rfl rfl rfl rfl ?_
      refine O.mv rfl rfl rfl rfl rfl ?_
      refine O.cmp rfl rfl rfl rfl rfl rfl (leqF (by omega)) ?_
      refine O.pick rfl rfl rfl rfl rfl rfl ?_
      refine O.pick rfl rfl rfl rfl rfl rfl ?_
      refine O.asg rfl rfl rfl rfl rfl ?_
      refine Pl.fin [(2, _)] ⟨rfl, trivial⟩ ?_
      refine Go'.ret (vs := [_]) Try.func33 Try.results33 ⟨rfl, trivial⟩ ?_
      exact ⟨by unfold fitsb; rw [decide_eq_false h0, decide_eq_true h2, decide_eq_false h3]; rfl, rfl⟩
  · skip
    -- region 1 (tree.go:291)
    refine Go'.region [(0, 0), (1, 0), (2, 0), (3, 0), (4, 0), (5, 0), (6, 0), (7, 0), (8, 0), (9, 0), (10, 0)] rfl ?_
    refine O.mv rfl rfl rfl rfl rfl ?_
    refine O.cmp rfl rfl rfl rfl rfl rfl (eqlF (by omega)) ?_
    refine O.mv rfl rfl rfl rfl rfl ?_
    refine O.mv rfl rfl rfl rfl rfl ?_
    refine O.cmp rfl rfl rfl rfl rfl rfl (geqF (by omega)) ?_
    refine O.mv rfl rfl rfl rfl rfl ?_
    refine Pl.pass rfl rfl rfl rfl ?_
    refine Pl.pass rfl rfl rfl rfl ?_
    refine O.pick rfl rfl rfl rfl rfl rfl ?_
    refine O.pick rfl rfl rfl rfl rfl rfl ?_
    refine O.asg rfl rfl rfl rfl rfl ?_
    refine Pl.fin [(2, _)] ⟨rfl, trivial⟩ ?_
    refine Go'.ret (vs := [_]) Try.func33 Try.results33 ⟨rfl, trivial⟩ ?_
    exact ⟨by unfold fitsb; rw [decide_eq_false h0, decide_eq_false h2]; rfl, rfl⟩

theorem fits_spec' {B : World} {H : Mem} {z : Int} {b : Bool} (h : fitsb z = b) : Fn Try.prog B 33 [.int .i64 z] H (fun r H' => r = .bool b ∧ H' = H) := h ▸ fits_spec
theorem fitsb_nat {z : Int} (h : fitsb z = true) : ∃ d : Nat, z = (d : Int) ∧ (d = 0 ∨ 2 ≤ d ∧ d ≤ 128) := by
  unfold fitsb at h
  simp only [Bool.or_eq_true, Bool.and_eq_true, decide_eq_true_eq] at h
  exact ⟨z.toNat, by omega, by omega⟩

theorem st24 : StT Try.prog 24 [(0, 1), (1, 1), (2, 1)] [.slice none 0 0, .int .i64 0, .bool false] := ⟨⟨_, Try.underlying24, fun w => by simp [Array.mapM_eq_mapM_toList, Try.sizeOf3, Try.sizeOf4, Try.sizeOf22]⟩, Try.zeroValue24⟩

theorem exMake_spec {B : World} {H : Mem} : Fn Try.prog B 30 [] H (fun r H' => r = .agg #[.slice none 0 0, .int .i64 ((2 : Nat) : Int), .bool false] ∧ Fr nowhere H H') := by
  refine fn_of Try.func30 rfl Try.ntmps30 ?_
  refine (show Go' _ _ _ _ 2 [] [.code _] _ from ?_)
  refine Go'.seq ?_
  -- region 0 (help.go:70)
  refine Go'.region [(0, 2)] rfl ?_
  refine O.alloc rfl rfl rfl Try.zeroValue24 ?_
  intro H1 M1
  refine ⟨trivial, ?_⟩
  have mw : Wr H1 H.size 0 3 := M1.wr 3 (by decide)
  refine Pl.fin [(0, _)] ⟨rfl, trivial⟩ ?_
  refine Go'.seq ?_
  -- region 1 (help.go:70)
  refine Go'.region [(0, 0), (1, 2)] rfl ?_
  refine O.bld (cs := [.slice none 0 0, .int .i64 ((2 : Nat) : Int), .bool false]) rfl rfl rfl rfl (st24) rfl (by kernel_rfl) ?_
  refine O.st rfl rfl Try.sizeOf24 rfl rfl rfl rfl rfl mw ?_
  intro H2 W2
  refine ⟨trivial, ?_⟩
  refine Pl.fin [(0, _)] ⟨rfl, trivial⟩ ?_
  refine Go'.ret (vs := [_]) Try.func30 Try.results30 ⟨⟨_, _, rfl, fun _ _ => run_loadVar_agg (fun w => ⟨Try.isAgg24 w, Try.sizeOf24 w⟩) rfl W2.all⟩, trivial⟩ ?_
  exact ⟨rfl, (M1.fr nowhere).trans' W2.fr (fun _ _ _ h => h) (fun b o hb h => by have h' := h.1; omega)⟩

theorem zzFits1_spec {B : World} {H : Mem} {v : Value} {z : Int} {nl : Bool} {ord : List Int} {b : Bool} (ho : InS EN H v ord) (hb : decide (ord.length ≤ 2147483647) = b) : Fn Try.prog B 23 [.agg #[v, .int .i64 z, .bool nl]] H (fun r H' => r = .bool b ∧ Fr nowhere H H') := by
  obtain ⟨av, cv, hv⟩ := ho.len
  generalize hmv : ord.length = mv at *
  subst hv
  have hF : Fr nowhere H H := Fr.refl _ _
  refine fn_of Try.func23 rfl Try.ntmps23 ?_
  refine (show Go' _ _ _ _ 7 [(0, _)] [.code _] _ from ?_)
  refine Go'.seq ?_
  -- region 0 (zz_fits.go:11)
  refine Go'.region [(0, 2), (1, 0)] rfl ?_
  refine O.box rfl rfl rfl rfl ?_
  intro B1 MB1
  refine ⟨trivial, ?_⟩
  have hsB1 := MB1.size
  replace hF := hF.trans (MB1.fr nowhere)
  have mx : Rd B1 H.size 0 [.slice av mv cv, .int .i64 z, .bool nl] := MB1.rd _ [] (by simp [Value.cells])
  have mx0 : cl B1 H.size 0 = some (.slice av mv cv) := mx 0 _ rfl
  have mx1 : cl B1 H.size (0 + 1) = some (.int .i64 z) := mx 1 _ rfl
  refine O.asg rfl rfl rfl rfl rfl ?_
  refine Pl.fin [(1, _), (2, _)] ⟨rfl, rfl, trivial⟩ ?_
  refine Go'.seq ?_
  refine Go'.seq ?_
  cases b
  · skip
    -- region 1 (zz_fits.go:12)
    refine Go'.region [(0, 0), (1, 1), (2, 0), (3, 0)] rfl ?_
    refine O.faz rfl rfl rfl rfl ⟨_, _, _, Try.underlying24, rfl, rfl, Try.sizeOf22⟩ rfl ?_
    refine O.ld rfl rfl rfl (fun w => ⟨Try.isAgg22 w, Try.sizeOf22 w⟩) rfl mx0 ?_
    refine O.len rfl rfl rfl rfl Try.underlying22 rfl ?_
    refine O.cmp rfl rfl rfl rfl rfl rfl (gtrT (by have := of_decide_eq_false hb; omega)) ?_
    refine Pl.fin [(2, _), (6, _)] ⟨rfl, rfl, trivial⟩ ?_
    refine Go'.condT rfl ?_
    refine Go'.seq ?_
    -- region 2 (zz_fits.go:13)
    refine Go'.region [(0, 0)] rfl ?_
    refine O.asg rfl rfl rfl rfl rfl ?_
    refine Pl.fin [(2, _)] ⟨rfl, trivial⟩ ?_
    refine Go'.ret (vs := [_]) Try.func23 Try.results23 ⟨rfl, trivial⟩ ?_
    exact ⟨rfl, hF⟩
  · skip
    -- region 1 (zz_fits.go:12)
    refine Go'.region [(0, 0), (1, 1), (2, 0), (3, 0)] rfl ?_
    refine O.faz rfl rfl rfl rfl ⟨_, _, _, Try.underlying24, rfl, rfl, Try.sizeOf22⟩ rfl ?_
    refine O.ld rfl rfl rfl (fun w => ⟨Try.isAgg22 w, Try.sizeOf22 w⟩) rfl mx0 ?_
    refine O.len rfl rfl rfl rfl Try.underlying22 rfl ?_
    refine O.cmp rfl rfl rfl rfl rfl rfl (gtrF (by have := of_decide_eq_true hb; omega)) ?_
    refine Pl.fin [(2, _), (6, _)] ⟨rfl, rfl, trivial⟩ ?_
    refine Go'.condF rfl ?_
    refine Go'.skip ?_
    refine Go'.seq ?_
    -- region 3 (zz_fits.go:15)
    refine Go'.region [(0, 0)] rfl ?_
    refine O.asg rfl rfl rfl rfl rfl ?_
    refine Pl.fin [(2, _)] ⟨rfl, trivial⟩ ?_
    refine Go'.ret (vs := [_]) Try.func23 Try.results23 ⟨rfl, trivial⟩ ?_
    exact ⟨rfl, hF⟩

theorem lfits_spec {B : World} {H : Mem} {v : Value} {z : Int} {nl b : Bool} (hv : ∃ a m c, v = .slice a m c) (h : fitsb z = b) : Fn Try.prog B 24 [.agg #[v, .int .i64 z, .bool nl]] H (fun r H' => r = .bool b ∧ Fr nowhere H H') := by
  obtain ⟨av, mv, cv, rfl⟩ := hv
  have hF : Fr nowhere H H := Fr.refl _ _
  refine fn_of Try.func24 rfl Try.ntmps24 ?_
  refine (show Go' _ _ _ _ 6 [(0, _)] [.code _] _ from ?_)
  refine Go'.seq ?_
  -- region 0 (trees.go:11)
  refine Go'.region [(0, 2), (1, 0)] rfl ?_
  refine O.box rfl rfl rfl rfl ?_
  intro B1 MB1
  refine ⟨trivial, ?_⟩
  have hsB1 := MB1.size
  replace hF := hF.trans (MB1.fr nowhere)
  have mm : Rd B1 H.size 0 [.slice av mv cv, .int .i64 z, .bool nl] := MB1.rd _ [] (by simp [Value.cells])
  have mm0 : cl B1 H.size 0 = some (.slice av mv cv) := mm 0 _ rfl
  have mm1 : cl B1 H.size (0 + 1) = some (.int .i64 z) := mm 1 _ rfl
  refine O.asg rfl rfl rfl rfl rfl ?_
  refine Pl.fin [(1, _), (2, _)] ⟨rfl, rfl, trivial⟩ ?_
  refine Go'.seq ?_
  -- region 1 (trees.go:12)
  refine Go'.region [(0, 0), (1, 1), (2, 2), (3, 0)] rfl ?_
  refine O.fa0 (off := 1) rfl rfl rfl rfl ⟨_, _, _, Try.underlying24, rfl, rfl, Try.sizeOf3⟩ rfl ?_
  refine O.ld rfl rfl rfl (fun w => ⟨Try.isAgg3 w, Try.sizeOf3 w⟩) rfl mm1 ?_
  refine O.callQ rfl rfl rfl Try.call33 rfl (fits_spec' h) trivial ?_
  refine O.asg rfl rfl rfl rfl rfl ?_
  refine Pl.fin [(2, _)] ⟨rfl, trivial⟩ ?_
  refine Go'.ret (vs := [_]) Try.func24 Try.results24 ⟨rfl, trivial⟩ ?_
  exact ⟨rfl, hF⟩

end Go.Bt.FG
