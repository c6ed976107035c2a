/- Contracts of functions of the program, proved by walking through their code. Conditions: those that each theorem names. -/
import Derived.Test.YtmboghgpakhceaaToiJ
import Derived.Test.YtmboghgpakhceaaToPe
namespace Go.Bt.FG
open Go Go.Proofs
set_option maxRecDepth 20000
set_option maxHeartbeats 4000000
set_option linter.unusedVariables false
set_option linter.unusedSectionVars false

theorem wf_u8 {z : Int} (h : (Lit.int .u8 z).wf = true) : 0 ≤ z ∧ z < 256 := by
  have e1 : IntKind.u8.min = 0 := rfl
  have e2 : IntKind.u8.max = 255 := rfl
  unfold Lit.wf at h
  rw [Bool.and_eq_true, decide_eq_true_eq, decide_eq_true_eq, e1, e2] at h
  omega
theorem fnGOrders {B : World} {H : Mem} {z : Int} {nl : Bool} {v u : Value} {ord : List Int} {l : List (Int × Int)} {kk : Int} (ho : InS EN H v ord) (hi : InS EJ H u l) (hkk : 0 ≤ kk ∧ kk < 256) :
    Fn Try.prog B 12 [.agg #[v, .int .i64 z, .bool nl], u, .int .u8 kk] H (fun r H' => r = .bool true ∧ Fr nowhere H H') := by
  obtain ⟨a, c, hu⟩ := hi.len
  subst hu
  obtain ⟨av, mv, cv, hv⟩ := InS.form ho
  subst hv
  have hF : Fr nowhere H H := Fr.refl _ _
  refine fn_of Go.Proofs.Try.func12 rfl Go.Proofs.Try.ntmps12 ?_
  refine (show Go' _ _ _ _ 67 [(0, _), (1, _), (2, _)] [.code _] _ from ?_)
  refine Go'.seq ?_
  -- region 0 (trees.go:80)
  refine Go'.region [(0, 2), (1, 0)] rfl ?_
  refine O.box rfl rfl rfl rfl ?_
  intro B1 MB1
  refine ⟨trivial, ?_⟩
  have hsB1 := MB1.size
  replace hF := hF.trans (MB1.fr nowhere)
  have mm : Rd B1 H.size 0 [.slice av mv cv, .int .i64 z, .bool nl] := MB1.rd _ [] (by simp [Value.cells])
  have mm0 : cl B1 H.size 0 = some (.slice av mv cv) := mm 0 _ rfl
  have mm1 : cl B1 H.size (0 + 1) = some (.int .i64 z) := mm 1 _ rfl
  refine O.asg rfl rfl rfl rfl rfl ?_
  refine Pl.fin [(1, _), (2, _), (3, _), (6, _)] ⟨rfl, rfl, rfl, rfl, trivial⟩ ?_
  refine Go'.seq ?_
  refine Go'.seq ?_
  cases hoz : decide (ord.length ≤ 2147483647)
  · skip
    -- region 1 (trees.go:81)
    refine Go'.region [(0, 1), (1, 2), (2, 0), (3, 0), (4, 0), (5, 0), (6, 0), (7, 0)] rfl ?_
    refine O.lds rfl rfl rfl (fun w => ⟨Go.Proofs.Try.isAgg24 w, Go.Proofs.Try.sizeOf24 w⟩) rfl rfl mm ?_
    refine O.call rfl rfl rfl Go.Proofs.Try.call23 rfl (zzFits1_spec (ho.fr hF) hoz) ?_
    rintro _ Hz ⟨rfl, hFz⟩
    replace hF := hF.trans hFz
    replace mm := hFz.rd mm (fun _ _ => nw)
    replace mm0 := hFz.keep mm0 nw
    replace mm1 := hFz.keep mm1 nw
    refine ⟨trivial, ?_⟩
    refine O.not rfl rfl rfl rfl rfl ?_
    refine O.mv rfl rfl rfl rfl rfl ?_
    refine Pl.pass rfl rfl rfl rfl ?_
    refine Pl.pass rfl rfl rfl rfl ?_
    refine Pl.pass rfl rfl rfl rfl ?_
    refine O.pick rfl rfl rfl rfl rfl rfl ?_
    refine Pl.fin [(1, _), (2, _), (3, _), (6, _), (16, _)] ⟨rfl, rfl, rfl, rfl, rfl, trivial⟩ ?_
    refine Go'.condT rfl ?_
    refine Go'.seq ?_
    -- region 2 (trees.go:82)
    refine Go'.region [(0, 0)] rfl ?_
    refine O.asg rfl rfl rfl rfl rfl ?_
    refine Pl.fin [(1, _), (2, _), (3, _), (6, _)] ⟨rfl, rfl, rfl, rfl, trivial⟩ ?_
    refine Go'.ret (vs := [_]) Go.Proofs.Try.func12 Go.Proofs.Try.results12 ⟨rfl, trivial⟩ ?_
    exact ⟨rfl, hF⟩
  · skip
    have hoz2 := of_decide_eq_true hoz
    by_cases hb_lenl : (2147483647 : Int) < (l.length : Int)
    · skip
      -- region 1 (trees.go:81)
      refine Go'.region [(0, 1), (1, 2), (2, 0), (3, 0), (4, 0), (5, 0), (6, 0), (7, 0)] rfl ?_
      refine O.lds rfl rfl rfl (fun w => ⟨Go.Proofs.Try.isAgg24 w, Go.Proofs.Try.sizeOf24 w⟩) rfl rfl mm ?_
      refine O.call rfl rfl rfl Go.Proofs.Try.call23 rfl (zzFits1_spec (ho.fr hF) hoz) ?_
      rintro _ Hz ⟨rfl, hFz⟩
      replace hF := hF.trans hFz
      replace mm := hFz.rd mm (fun _ _ => nw)
      replace mm0 := hFz.keep mm0 nw
      replace mm1 := hFz.keep mm1 nw
      refine ⟨trivial, ?_⟩
      refine O.not rfl rfl rfl rfl rfl ?_
      refine O.mv rfl rfl rfl rfl rfl ?_
      refine O.mv rfl rfl rfl rfl rfl ?_
      refine O.len rfl rfl rfl rfl Go.Proofs.Try.underlying25 rfl ?_
      refine O.cmp rfl rfl rfl rfl rfl rfl (gtrT (by omega)) ?_
      refine O.pick rfl rfl rfl rfl rfl rfl ?_
      refine Pl.fin [(1, _), (2, _), (3, _), (6, _), (16, _)] ⟨rfl, rfl, rfl, rfl, rfl, trivial⟩ ?_
      refine Go'.condT rfl ?_
      refine Go'.seq ?_
      -- region 2 (trees.go:82)
      refine Go'.region [(0, 0)] rfl ?_
      refine O.asg rfl rfl rfl rfl rfl ?_
      refine Pl.fin [(1, _), (2, _), (3, _), (6, _)] ⟨rfl, rfl, rfl, rfl, trivial⟩ ?_
      refine Go'.ret (vs := [_]) Go.Proofs.Try.func12 Go.Proofs.Try.results12 ⟨rfl, trivial⟩ ?_
      exact ⟨rfl, hF⟩
    · skip
      -- region 1 (trees.go:81)
      refine Go'.region [(0, 1), (1, 2), (2, 0), (3, 0), (4, 0), (5, 0), (6, 0), (7, 0)] rfl ?_
      refine O.lds rfl rfl rfl (fun w => ⟨Go.Proofs.Try.isAgg24 w, Go.Proofs.Try.sizeOf24 w⟩) rfl rfl mm ?_
      refine O.call rfl rfl rfl Go.Proofs.Try.call23 rfl (zzFits1_spec (ho.fr hF) hoz) ?_
      rintro _ Hz ⟨rfl, hFz⟩
      replace hF := hF.trans hFz
      replace mm := hFz.rd mm (fun _ _ => nw)
      replace mm0 := hFz.keep mm0 nw
      replace mm1 := hFz.keep mm1 nw
      refine ⟨trivial, ?_⟩
      refine O.not rfl rfl rfl rfl rfl ?_
      refine O.mv rfl rfl rfl rfl rfl ?_
      refine O.mv rfl rfl rfl rfl rfl ?_
      refine O.len rfl rfl rfl rfl Go.Proofs.Try.underlying25 rfl ?_
      refine O.cmp rfl rfl rfl rfl rfl rfl (gtrF (by omega)) ?_
      refine O.pick rfl rfl rfl rfl rfl rfl ?_
      refine Pl.fin [(1, _), (2, _), (3, _), (6, _), (16, _)] ⟨rfl, rfl, rfl, rfl, rfl, trivial⟩ ?_
      refine Go'.condF rfl ?_
      refine Go'.skip ?_
      refine Go'.seq ?_
      refine Go'.seq ?_
      have hpl := Pl.puts_length (OO ord) l
      cases hfz : fitsb z
      · skip
        -- region 3 (trees.go:84)
        refine Go'.region [(0, 1), (1, 2), (2, 0), (3, 0), (4, 0), (5, 1), (6, 0), (7, 2), (8, 0), (9, 0), (10, 0), (11, 0), (12, 0), (13, 0), (14, 0), (15, 0), (16, 0), (17, 0)] rfl ?_
        refine O.lds rfl rfl rfl (fun w => ⟨Go.Proofs.Try.isAgg24 w, Go.Proofs.Try.sizeOf24 w⟩) rfl rfl mm ?_
        refine O.call rfl rfl rfl Go.Proofs.Try.call24 rfl (lfits_spec ⟨_, _, _, rfl⟩ hfz) ?_
        rintro _ H6 ⟨rfl, hF6⟩
        replace hF := hF.trans hF6
        replace mm := hF6.rd mm (fun _ _ => nw)
        replace mm0 := hF6.keep mm0 nw
        replace mm1 := hF6.keep mm1 nw
        refine ⟨trivial, ?_⟩
        refine O.not rfl rfl rfl rfl rfl ?_
        refine O.mv rfl rfl rfl rfl rfl ?_
        refine Pl.pass rfl rfl rfl rfl ?_
        refine Pl.pass rfl rfl rfl rfl ?_
        refine Pl.pass rfl rfl rfl rfl ?_
        refine Pl.pass2 rfl rfl rfl rfl trivial ?_
        refine Pl.pass rfl rfl rfl rfl ?_
        refine Pl.pass rfl rfl rfl rfl ?_
        refine Pl.pass rfl rfl rfl rfl ?_
        refine Pl.pass rfl rfl rfl rfl ?_
        refine O.pick rfl rfl rfl rfl rfl rfl ?_
        refine O.mv rfl rfl rfl rfl rfl ?_
        refine Pl.pass rfl rfl rfl rfl ?_
        refine Pl.pass rfl rfl rfl rfl ?_
        refine Pl.pass rfl rfl rfl rfl ?_
        refine O.pick rfl rfl rfl rfl rfl rfl ?_
        refine Pl.fin [(1, _), (2, _), (3, _), (6, _), (34, _)] ⟨rfl, rfl, rfl, rfl, rfl, trivial⟩ ?_
        refine Go'.condT rfl ?_
        refine Go'.seq ?_
        -- region 4 (trees.go:85)
        refine Go'.region [(0, 2), (1, 0)] rfl ?_
        refine O.call rfl rfl rfl Go.Proofs.Try.call25 rfl alive_spec ?_
        rintro _ Hv ⟨rfl, hFv⟩
        replace hF := hF.trans hFv
        replace mm := hFv.rd mm (fun _ _ => nw)
        replace mm0 := hFv.keep mm0 nw
        replace mm1 := hFv.keep mm1 nw
        refine ⟨trivial, ?_⟩
        refine O.asg rfl rfl rfl rfl rfl ?_
        refine Pl.fin [(1, _), (2, _), (3, _), (6, _)] ⟨rfl, rfl, rfl, rfl, trivial⟩ ?_
        refine Go'.ret (vs := [_]) Go.Proofs.Try.func12 Go.Proofs.Try.results12 ⟨rfl, trivial⟩ ?_
        exact ⟨rfl, hF⟩
      · skip
        obtain ⟨d, rfl, hd⟩ := fitsb_nat hfz
        by_cases hne : (Pl.puts (OO ord) l).length = l.length
        rotate_left
        · skip
          -- region 3 (trees.go:84)
          refine Go'.region [(0, 1), (1, 2), (2, 0), (3, 0), (4, 0), (5, 1), (6, 0), (7, 2), (8, 0), (9, 0), (10, 0), (11, 0), (12, 0), (13, 0), (14, 0), (15, 0), (16, 0), (17, 0)] rfl ?_
          refine O.lds rfl rfl rfl (fun w => ⟨Go.Proofs.Try.isAgg24 w, Go.Proofs.Try.sizeOf24 w⟩) rfl rfl mm ?_
          refine O.call rfl rfl rfl Go.Proofs.Try.call24 rfl (lfits_spec ⟨_, _, _, rfl⟩ hfz) ?_
          rintro _ H6 ⟨rfl, hF6⟩
          replace hF := hF.trans hF6
          replace mm := hF6.rd mm (fun _ _ => nw)
          replace mm0 := hF6.keep mm0 nw
          replace mm1 := hF6.keep mm1 nw
          refine ⟨trivial, ?_⟩
          refine O.not rfl rfl rfl rfl rfl ?_
          refine O.mv rfl rfl rfl rfl rfl ?_
          refine O.faz rfl rfl rfl rfl ⟨_, _, _, Go.Proofs.Try.underlying24, rfl, rfl, Go.Proofs.Try.sizeOf22⟩ rfl ?_
          refine O.ld rfl rfl rfl (fun w => ⟨Go.Proofs.Try.isAgg22 w, Go.Proofs.Try.sizeOf22 w⟩) rfl mm0 ?_
          refine O.mv rfl rfl rfl rfl rfl ?_
          refine O.call rfl rfl rfl Go.Proofs.Try.call42 rfl (tree_spec (ho.fr hF) (by omega) (hi.fr hF) (by omega)) ?_
          rintro tv H7 ⟨hA7, hF7⟩
          replace hF := hF.trans hF7
          replace mm := hF7.rd mm (fun _ _ => nw)
          replace mm0 := hF7.keep mm0 nw
          replace mm1 := hF7.keep mm1 nw
          obtain ⟨ta, tc, htv⟩ := hA7.inS.len
          subst htv
          refine ⟨trivial, ?_⟩
          refine O.len rfl rfl rfl rfl Go.Proofs.Try.underlying25 rfl ?_
          refine O.mv rfl rfl rfl rfl rfl ?_
          refine O.len rfl rfl rfl rfl Go.Proofs.Try.underlying25 rfl ?_
          refine O.cmp rfl rfl rfl rfl rfl rfl (neqT (by omega)) ?_
          refine O.pick rfl rfl rfl rfl rfl rfl ?_
          refine O.mv rfl rfl rfl rfl rfl ?_
          refine Pl.pass rfl rfl rfl rfl ?_
          refine Pl.pass rfl rfl rfl rfl ?_
          refine Pl.pass rfl rfl rfl rfl ?_
          refine O.pick rfl rfl rfl rfl rfl rfl ?_
          refine Pl.fin [(1, _), (2, _), (3, _), (6, _), (34, _)] ⟨rfl, rfl, rfl, rfl, rfl, trivial⟩ ?_
          refine Go'.condT rfl ?_
          refine Go'.seq ?_
          -- region 4 (trees.go:85)
          refine Go'.region [(0, 2), (1, 0)] rfl ?_
          refine O.call rfl rfl rfl Go.Proofs.Try.call25 rfl alive_spec ?_
          rintro _ Hv ⟨rfl, hFv⟩
          replace hF := hF.trans hFv
          replace mm := hFv.rd mm (fun _ _ => nw)
          replace mm0 := hFv.keep mm0 nw
          replace mm1 := hFv.keep mm1 nw
          refine ⟨trivial, ?_⟩
          refine O.asg rfl rfl rfl rfl rfl ?_
          refine Pl.fin [(1, _), (2, _), (3, _), (6, _)] ⟨rfl, rfl, rfl, rfl, trivial⟩ ?_
          refine Go'.ret (vs := [_]) Go.Proofs.Try.func12 Go.Proofs.Try.results12 ⟨rfl, trivial⟩ ?_
          exact ⟨rfl, hF⟩
        · skip
          by_cases h0 : l.length = 0
          · skip
            -- region 3 (trees.go:84)
            refine Go'.region [(0, 1), (1, 2), (2, 0), (3, 0), (4, 0), (5, 1), (6, 0), (7, 2), (8, 0), (9, 0), (10, 0), (11, 0), (12, 0), (13, 0), (14, 0), (15, 0), (16, 0), (17, 0)] rfl ?_
            refine O.lds rfl rfl rfl (fun w => ⟨Go.Proofs.Try.isAgg24 w, Go.Proofs.Try.sizeOf24 w⟩) rfl rfl mm ?_
            refine O.call rfl rfl rfl Go.Proofs.Try.call24 rfl (lfits_spec ⟨_, _, _, rfl⟩ hfz) ?_
            rintro _ H6 ⟨rfl, hF6⟩
            replace hF := hF.trans hF6
            replace mm := hF6.rd mm (fun _ _ => nw)
            replace mm0 := hF6.keep mm0 nw
            replace mm1 := hF6.keep mm1 nw
            refine ⟨trivial, ?_⟩
            refine O.not rfl rfl rfl rfl rfl ?_
            refine O.mv rfl rfl rfl rfl rfl ?_
            refine O.faz rfl rfl rfl rfl ⟨_, _, _, Go.Proofs.Try.underlying24, rfl, rfl, Go.Proofs.Try.sizeOf22⟩ rfl ?_
            refine O.ld rfl rfl rfl (fun w => ⟨Go.Proofs.Try.isAgg22 w, Go.Proofs.Try.sizeOf22 w⟩) rfl mm0 ?_
            refine O.mv rfl rfl rfl rfl rfl ?_
            refine O.call rfl rfl rfl Go.Proofs.Try.call42 rfl (tree_spec (ho.fr hF) (by omega) (hi.fr hF) (by omega)) ?_
            rintro tv H7 ⟨hA7, hF7⟩
            replace hF := hF.trans hF7
            replace mm := hF7.rd mm (fun _ _ => nw)
            replace mm0 := hF7.keep mm0 nw
            replace mm1 := hF7.keep mm1 nw
            obtain ⟨ta, tc, htv⟩ := hA7.inS.len
            subst htv
            refine ⟨trivial, ?_⟩
            refine O.len rfl rfl rfl rfl Go.Proofs.Try.underlying25 rfl ?_
            refine O.mv rfl rfl rfl rfl rfl ?_
            refine O.len rfl rfl rfl rfl Go.Proofs.Try.underlying25 rfl ?_
            refine O.cmp rfl rfl rfl rfl rfl rfl (neqF (by omega)) ?_
            refine O.pick rfl rfl rfl rfl rfl rfl ?_
            refine O.mv rfl rfl rfl rfl rfl ?_
            refine O.mv rfl rfl rfl rfl rfl ?_
            refine O.len rfl rfl rfl rfl Go.Proofs.Try.underlying25 rfl ?_
            refine O.cmp rfl rfl rfl rfl rfl rfl (eqlT (by omega)) ?_
            refine O.pick rfl rfl rfl rfl rfl rfl ?_
            refine Pl.fin [(1, _), (2, _), (3, _), (6, _), (34, _)] ⟨rfl, rfl, rfl, rfl, rfl, trivial⟩ ?_
            refine Go'.condT rfl ?_
            refine Go'.seq ?_
            -- region 4 (trees.go:85)
            refine Go'.region [(0, 2), (1, 0)] rfl ?_
            refine O.call rfl rfl rfl Go.Proofs.Try.call25 rfl alive_spec ?_
            rintro _ Hv ⟨rfl, hFv⟩
            replace hF := hF.trans hFv
            replace mm := hFv.rd mm (fun _ _ => nw)
            replace mm0 := hFv.keep mm0 nw
            replace mm1 := hFv.keep mm1 nw
            refine ⟨trivial, ?_⟩
            refine O.asg rfl rfl rfl rfl rfl ?_
            refine Pl.fin [(1, _), (2, _), (3, _), (6, _)] ⟨rfl, rfl, rfl, rfl, trivial⟩ ?_
            refine Go'.ret (vs := [_]) Go.Proofs.Try.func12 Go.Proofs.Try.results12 ⟨rfl, trivial⟩ ?_
            exact ⟨rfl, hF⟩
          · skip
            -- region 3 (trees.go:84)
            refine Go'.region [(0, 1), (1, 2), (2, 0), (3, 0), (4, 0), (5, 1), (6, 0), (7, 2), (8, 0), (9, 0), (10, 0), (11, 0), (12, 0), (13, 0), (14, 0), (15, 0), (16, 0), (17, 0)] rfl ?_
            refine O.lds rfl rfl rfl (fun w => ⟨Go.Proofs.Try.isAgg24 w, Go.Proofs.Try.sizeOf24 w⟩) rfl rfl mm ?_
            refine O.call rfl rfl rfl Go.Proofs.Try.call24 rfl (lfits_spec ⟨_, _, _, rfl⟩ hfz) ?_
            rintro _ H6 ⟨rfl, hF6⟩
            replace hF := hF.trans hF6
            replace mm := hF6.rd mm (fun _ _ => nw)
            replace mm0 := hF6.keep mm0 nw
            replace mm1 := hF6.keep mm1 nw
            refine ⟨trivial, ?_⟩
            refine O.not rfl rfl rfl rfl rfl ?_
            refine O.mv rfl rfl rfl rfl rfl ?_
            refine O.faz rfl rfl rfl rfl ⟨_, _, _, Go.Proofs.Try.underlying24, rfl, rfl, Go.Proofs.Try.sizeOf22⟩ rfl ?_
            refine O.ld rfl rfl rfl (fun w => ⟨Go.Proofs.Try.isAgg22 w, Go.Proofs.Try.sizeOf22 w⟩) rfl mm0 ?_
            refine O.mv rfl rfl rfl rfl rfl ?_
            refine O.call rfl rfl rfl Go.Proofs.Try.call42 rfl (tree_spec (ho.fr hF) (by omega) (hi.fr hF) (by omega)) ?_
            rintro tv H7 ⟨hA7, hF7⟩
            replace hF := hF.trans hF7
            replace mm := hF7.rd mm (fun _ _ => nw)
            replace mm0 := hF7.keep mm0 nw
            replace mm1 := hF7.keep mm1 nw
            obtain ⟨ta, tc, htv⟩ := hA7.inS.len
            subst htv
            refine ⟨trivial, ?_⟩
            refine O.len rfl rfl rfl rfl Go.Proofs.Try.underlying25 rfl ?_
            refine O.mv rfl rfl rfl rfl rfl ?_
            refine O.len rfl rfl rfl rfl Go.Proofs.Try.underlying25 rfl ?_
            refine O.cmp rfl rfl rfl rfl rfl rfl (neqF (by omega)) ?_
            refine O.pick rfl rfl rfl rfl rfl rfl ?_
            refine O.mv rfl rfl rfl rfl rfl ?_
            refine O.mv rfl rfl rfl rfl rfl ?_
            refine O.len rfl rfl rfl rfl Go.Proofs.Try.underlying25 rfl ?_
            refine O.cmp rfl rfl rfl rfl rfl rfl (eqlF (by omega)) ?_
            refine O.pick rfl rfl rfl rfl rfl rfl ?_
            refine Pl.fin [(1, _), (2, _), (3, _), (6, _), (34, _)] ⟨rfl, rfl, rfl, rfl, rfl, trivial⟩ ?_
            refine Go'.condF rfl ?_
            refine Go'.skip ?_
            refine Go'.seq ?_
            obtain ⟨kn, rfl⟩ := Int.eq_ofNat_of_zero_le hkk.1
            obtain ⟨i, hi'⟩ : ∃ i, i = kn % l.length := ⟨_, rfl⟩
            have hil : i < l.length := by rw [hi']; exact Nat.mod_lt _ (by omega)
            have hir : ((kn : Int)).tmod (l.length : Int) = (i : Int) := by rw [Int.tmod_eq_emod_of_nonneg (by omega), hi']; rfl
            -- region 5 (trees.go:87)
            refine Go'.region [(0, 0), (1, 2), (2, 0), (3, 0), (4, 0), (5, 0)] rfl ?_
            refine O.mv rfl rfl rfl rfl rfl ?_
            refine O.cvi (v := ((kn : Nat) : Int)) rfl rfl rfl (by rw [Go.Proofs.Try.underlying5]; rfl) Go.Proofs.Try.underlying3 rfl rfl (wrap_id (by omega)) trivial ?_
            refine O.mv rfl rfl rfl rfl rfl ?_
            refine O.len rfl rfl rfl rfl Go.Proofs.Try.underlying25 rfl ?_
            refine O.rem (((i : Nat) : Int)) rfl rfl rfl rfl rfl rfl (by omega) hir ?_
            refine O.asg rfl rfl rfl rfl rfl ?_
            refine Pl.fin [(1, _), (3, _), (6, _), (7, _)] ⟨rfl, rfl, rfl, rfl, trivial⟩ ?_
            refine Go'.seq ?_
            -- region 6 (trees.go:88)
            refine Go'.region [(0, 1), (1, 0), (2, 2), (3, 0)] rfl ?_
            refine O.lds rfl rfl rfl (fun w => ⟨Go.Proofs.Try.isAgg24 w, Go.Proofs.Try.sizeOf24 w⟩) rfl rfl mm ?_
            refine O.mv rfl rfl rfl rfl rfl ?_
            refine O.call rfl rfl rfl Go.Proofs.Try.call43 rfl (igitems_spec hd (ho.fr hF) (by omega) (hi.fr hF) (by omega)) ?_
            rintro g8 H8 ⟨hg8, hF8⟩
            replace hF := hF.trans hF8
            replace mm := hF8.rd mm (fun _ _ => nw)
            replace mm0 := hF8.keep mm0 nw
            replace mm1 := hF8.keep mm1 nw
            have hI8 := hg8.inS
            obtain ⟨ga, gc, hge⟩ := hI8.len
            subst hge
            refine ⟨trivial, ?_⟩
            refine O.asg rfl rfl rfl rfl rfl ?_
            refine Pl.fin [(1, _), (3, _), (6, _), (7, _), (8, _)] ⟨rfl, rfl, rfl, rfl, rfl, trivial⟩ ?_
            refine Go'.seq ?_
            have hp1 : Pl.puts (OO ord) l.reverse = Pl.puts (OO ord) l := Pl.puts_perm (OO ord) hne l.reverse_perm.symm
            have hp2 : Pl.puts (OO ord) (l.drop i ++ l.take i) = Pl.puts (OO ord) l := Pl.puts_perm (OO ord) hne (by
              have h := List.perm_append_comm (l₁ := l.take i) (l₂ := l.drop i)
              rwa [List.take_append_drop] at h)
            have hrl : l.reverse.length = l.length := List.length_reverse
            -- region 7 (trees.go:89)
            refine Go'.draw (fun H' => Rd H' H.size 0 [.slice av mv cv, .int .i64 (d : Int), .bool nl]) [(0, 0), (1, 0), (4, 0), (2, 2), (3, 2), (5, 2), (6, 0), (7, 0), (8, 0), (9, 0), (10, 0), (11, 0), (12, 0), (13, 0), (17, 0), (14, 2), (15, 2), (16, 2), (18, 2), (19, 0), (20, 0), (21, 2), (22, 0), (23, 0)] (by kernel_rfl) (by kernel_rfl) (mm) ?_
            refine O.ldsC rfl rfl rfl (fun w => ⟨Go.Proofs.Try.isAgg24 w, Go.Proofs.Try.sizeOf24 w⟩) rfl rfl (fun _ h => h) ?_
            refine O.mv rfl rfl rfl rfl rfl ?_
            refine O.mv rfl rfl rfl rfl rfl ?_
            refine O.call rfl rfl rfl Go.Proofs.Try.call44 rfl (SI.turnedA_spec (hi.fr hF) (by omega)) ?_
            rintro tv9 H9 ⟨h9, hF9⟩
            replace hF := hF.trans hF9
            replace mm := hF9.rd mm (fun _ _ => nw)
            replace mm0 := hF9.keep mm0 nw
            replace mm1 := hF9.keep mm1 nw
            replace hI8 := hI8.fr hF9
            try replace hx1 := hx1.fr hF9
            try replace hx2 := hx2.fr hF9
            refine ⟨mm, ?_⟩
            refine O.call rfl rfl rfl Go.Proofs.Try.call43 rfl (igitems_spec hd (ho.fr hF) (by omega) h9.inS (by simp only [List.length_reverse, List.length_append, List.length_drop, List.length_take]; omega)) ?_
            rintro g10 H10 ⟨hg10, hF10⟩
            replace hF := hF.trans hF10
            replace mm := hF10.rd mm (fun _ _ => nw)
            replace mm0 := hF10.keep mm0 nw
            replace mm1 := hF10.keep mm1 nw
            replace hI8 := hI8.fr hF10
            try replace hx1 := hx1.fr hF10
            try replace hx2 := hx2.fr hF10
            rw [hp1] at hg10
            refine ⟨mm, ?_⟩
            refine O.callQ rfl rfl rfl Go.Proofs.Try.call28 rfl (eqItems_spec hg10.inS hI8 (by omega)) mm ?_
            refine O.mv rfl rfl rfl rfl rfl ?_
            refine O.ldsC rfl rfl rfl (fun w => ⟨Go.Proofs.Try.isAgg24 w, Go.Proofs.Try.sizeOf24 w⟩) rfl rfl (fun _ h => h) ?_
            refine O.mv rfl rfl rfl rfl rfl ?_
            refine O.mv rfl rfl rfl rfl rfl ?_
            refine O.slcIn (E := EJ) (jl := i) rfl rfl rfl rfl Go.Proofs.Try.underlying25 Go.Proofs.Try.sizeOf27 rfl (hi.fr hF) rfl ⟨_, by rfl⟩ (by omega) (by omega) ?_
            intro x1 hx1
            rw [List.take_of_length_le (by rw [List.length_drop]; omega)] at hx1
            obtain ⟨xa1, xc1, hxe1⟩ := hx1.len
            subst hxe1
            refine O.mv rfl rfl rfl rfl rfl ?_
            refine O.mv rfl rfl rfl rfl rfl ?_
            refine O.slcIn (E := EJ) (jh := i) rfl rfl rfl rfl Go.Proofs.Try.underlying25 Go.Proofs.Try.sizeOf27 rfl (hi.fr hF) ⟨_, by rfl⟩ rfl (by omega) (by omega) ?_
            intro x2 hx2
            rw [List.drop_zero, Nat.sub_zero] at hx2
            obtain ⟨xa2, xc2, hxe2⟩ := hx2.len
            subst hxe2
            refine O.mv rfl rfl rfl rfl rfl ?_
            refine O.bsl (cs := (row SI.ESl [(xa1, (l.drop i).length, xc1), (xa2, (l.take i).length, xc2)])) rfl rfl rfl ⟨Go.Proofs.Try.underlying55, Go.Proofs.Try.sizeOf25, Go.Proofs.Try.zeroValue25, ⟨_, Go.Proofs.Try.typeInfo25, rfl⟩, rfl, by decide, by decide⟩ rfl (by decide) (by kernel_rfl) ?_
            intro Ha Ma
            have hFa := Ma.fr nowhere
            replace hF := hF.trans hFa
            replace mm := hFa.rd mm (fun _ _ => nw)
            replace mm0 := hFa.keep mm0 nw
            replace mm1 := hFa.keep mm1 nw
            replace hI8 := hI8.fr hFa
            try replace hx1 := hx1.fr hFa
            try replace hx2 := hx2.fr hFa
            have hev : InS SI.ESl Ha (.slice (some ⟨H10.size, 0, none⟩) 2 2) [(xa1, (l.drop i).length, xc1), (xa2, (l.take i).length, xc2)] := .inl ⟨H10.size, 0, 2, rfl, Nat.le_refl _, Ma.rd _ [] (by simp [row, SI.ESl])⟩
            have hess : SI.InSS EJ Ha [(xa1, (l.drop i).length, xc1), (xa2, (l.take i).length, xc2)] [l.drop i, l.take i] := ⟨hx1, hx2, trivial⟩
            have hcl : ([l.drop i, l.take i].flatten : List (Int × Int)) = l.drop i ++ l.take i := by simp
            refine ⟨mm, ?_⟩
            refine O.call rfl rfl rfl Go.Proofs.Try.call45 rfl (SI.concatA_spec hev hess (by rw [hcl, List.length_append, List.length_drop, List.length_take]; omega) (by simp only [List.length_cons, List.length_nil]; omega)) ?_
            rintro vb Hb ⟨hb, hFb⟩
            rw [hcl] at hb
            replace hF := hF.trans hFb
            replace mm := hFb.rd mm (fun _ _ => nw)
            replace mm0 := hFb.keep mm0 nw
            replace mm1 := hFb.keep mm1 nw
            replace hI8 := hI8.fr hFb
            try replace hx1 := hx1.fr hFb
            try replace hx2 := hx2.fr hFb
            refine ⟨mm, ?_⟩
            refine O.call rfl rfl rfl Go.Proofs.Try.call43 rfl (igitems_spec hd (ho.fr hF) (by omega) hb.inS (by simp only [List.length_reverse, List.length_append, List.length_drop, List.length_take]; omega)) ?_
            rintro g11 H11 ⟨hg11, hF11⟩
            replace hF := hF.trans hF11
            replace mm := hF11.rd mm (fun _ _ => nw)
            replace mm0 := hF11.keep mm0 nw
            replace mm1 := hF11.keep mm1 nw
            replace hI8 := hI8.fr hF11
            try replace hx1 := hx1.fr hF11
            try replace hx2 := hx2.fr hF11
            rw [hp2] at hg11
            refine ⟨mm, ?_⟩
            refine O.callQ rfl rfl rfl Go.Proofs.Try.call28 rfl (eqItems_spec hg11.inS hI8 (by omega)) mm ?_
            refine O.pick rfl rfl rfl rfl rfl rfl ?_
            refine O.mv rfl rfl rfl rfl rfl ?_
            refine O.call rfl rfl rfl Go.Proofs.Try.call25 rfl alive_spec ?_
            rintro _ Hv ⟨rfl, hFv⟩
            replace hF := hF.trans hFv
            replace mm := hFv.rd mm (fun _ _ => nw)
            replace mm0 := hFv.keep mm0 nw
            replace mm1 := hFv.keep mm1 nw
            refine ⟨mm, ?_⟩
            refine O.pick rfl rfl rfl rfl rfl rfl ?_
            refine O.asg rfl rfl rfl rfl rfl ?_
            refine Pl.fin [(6, _)] ⟨rfl, trivial⟩ ?_
            refine Go'.ret (vs := [_]) Go.Proofs.Try.func12 Go.Proofs.Try.results12 ⟨rfl, trivial⟩ ?_
            exact ⟨rfl, hF⟩

end Go.Bt.FG
