/- Contracts of functions of the program, proved by walking through their code. Conditions: those that each theorem names. -/
import Derived.Test.YtknkmaigdgfhlaavH
namespace Go.Bt.FZ
open Go Go.Proofs
set_option maxRecDepth 20000
set_option maxHeartbeats 4000000
set_option linter.unusedVariables false

theorem wf_u8 {z : Int} (h : (Lit.int .u8 z).wf = true) : 0 ≤ z ∧ z < 256 := by
  have e1 : IntKind.u8.min = 0 := rfl
  have e2 : IntKind.u8.max = 255 := rfl
  unfold Lit.wf at h
  rw [Bool.and_eq_true, decide_eq_true_eq, decide_eq_true_eq, e1, e2] at h
  omega
theorem anti_OI : Pl.Anti OI := fun x y h1 h2 => by
  have h1 := of_decide_eq_false h1
  have h2 := of_decide_eq_false h2
  have : ¬ (x : Int) < y := h1
  have : ¬ (y : Int) < x := h2
  omega
theorem aliveS_spec {B : World} {H : Mem} : Fn Try.prog B 21 [] H (fun r H' => r = .bool true ∧ Fr nowhere H H') := by
  refine fn_of Go.Proofs.Try.func21 rfl Go.Proofs.Try.ntmps21 ?_
  refine (show Go' _ _ _ _ 5 [] [.code _] _ from ?_)
  refine Go'.seq ?_
  -- region 0 (help.go:117)
  refine Go'.region [(0, 0)] rfl ?_
  refine O.asg rfl rfl rfl rfl rfl ?_
  refine Pl.fin [(0, _)] ⟨rfl, trivial⟩ ?_
  refine Go'.seq ?_
  -- region 1 (help.go:117)
  refine Go'.region [(0, 2), (1, 2), (2, 0), (3, 0), (4, 0)] rfl ?_
  refine O.bsl (cs := (row EN [5, 3, 9])) rfl rfl rfl ⟨Go.Proofs.Try.underlying22, Go.Proofs.Try.sizeOf3, Go.Proofs.Try.zeroValue3, ⟨_, Go.Proofs.Try.typeInfo3, rfl⟩, rfl, by decide, by decide⟩ rfl (by decide) (by kernel_rfl) ?_
  intro H1 M1
  have hev : InS EN H1 (.slice (some ⟨H.size, 0, none⟩) 3 3) [5, 3, 9] := .inl ⟨H.size, 0, 3, rfl, by decide, M1.rd _ [] (by simp)⟩
  refine ⟨trivial, ?_⟩
  refine O.call rfl rfl rfl Go.Proofs.Try.call23 rfl (sinsert_spec hev (by decide)) ?_
  rintro _ H2 ⟨h2, hF2⟩
  obtain ⟨a2, c2, e2⟩ := h2.inS.len
  subst e2
  have e3 : (Pl.puts OI [5, 3, 9]).length = 3 := by decide
  rw [e3]
  refine ⟨trivial, ?_⟩
  refine O.len rfl rfl rfl rfl Go.Proofs.Try.underlying22 rfl ?_
  refine O.cmp rfl rfl rfl rfl rfl rfl (eqlT (by omega)) ?_
  refine O.asg rfl rfl rfl rfl rfl ?_
  refine Pl.fin [(0, _)] ⟨rfl, trivial⟩ ?_
  refine Go'.ret (vs := [_]) Go.Proofs.Try.func21 Go.Proofs.Try.results21 ⟨rfl, trivial⟩ ?_
  exact ⟨rfl, (M1.fr nowhere).trans hF2⟩

theorem fnSOrders {B : World} {H : Mem} {u : Value} {l : List Int} {z : Int} (hi : InS EN H u l) (hz : 0 ≤ z ∧ z < 256) :
    Fn Try.prog B 7 [u, .int .u8 z] H (fun r H' => r = .bool true ∧ Fr nowhere H H') := by
  obtain ⟨a, c, hu⟩ := hi.len
  subst hu
  have hi0 := hi
  refine fn_of Go.Proofs.Try.func7 rfl Go.Proofs.Try.ntmps7 ?_
  refine (show Go' _ _ _ _ 39 [(0, _), (1, _)] [.code _] _ from ?_)
  refine Go'.seq ?_
  -- region 0 (others.go:394)
  refine Go'.region [(0, 0)] rfl ?_
  refine O.asg rfl rfl rfl rfl rfl ?_
  refine Pl.fin [(0, _), (1, _), (4, _)] ⟨rfl, rfl, rfl, trivial⟩ ?_
  refine Go'.seq ?_
  refine Go'.seq ?_
  by_cases hbig : (2147483647 : Int) < (l.length : Int)
  · skip
    -- region 1 (others.go:395)
    refine Go'.region [(0, 0), (1, 0), (2, 0)] rfl ?_
    refine O.mv rfl rfl rfl rfl rfl ?_
    refine O.len rfl rfl rfl rfl Go.Proofs.Try.underlying22 rfl ?_
    refine O.cmp rfl rfl rfl rfl rfl rfl (gtrT (by omega)) ?_
    refine Pl.fin [(0, _), (1, _), (4, _), (8, _)] ⟨rfl, rfl, rfl, rfl, trivial⟩ ?_
    refine Go'.condT rfl ?_
    refine Go'.seq ?_
    -- region 2 (others.go:396)
    refine Go'.region [(0, 0)] rfl ?_
    refine O.asg rfl rfl rfl rfl rfl ?_
    refine Pl.fin [(0, _), (1, _), (4, _)] ⟨rfl, rfl, rfl, trivial⟩ ?_
    refine Go'.ret (vs := [_]) Go.Proofs.Try.func7 Go.Proofs.Try.results7 ⟨rfl, trivial⟩ ?_
    exact ⟨rfl, Fr.refl _ _⟩
  · skip
    -- region 1 (others.go:395)
    refine Go'.region [(0, 0), (1, 0), (2, 0)] rfl ?_
    refine O.mv rfl rfl rfl rfl rfl ?_
    refine O.len rfl rfl rfl rfl Go.Proofs.Try.underlying22 rfl ?_
    refine O.cmp rfl rfl rfl rfl rfl rfl (gtrF (by omega)) ?_
    refine Pl.fin [(0, _), (1, _), (4, _), (8, _)] ⟨rfl, rfl, rfl, rfl, trivial⟩ ?_
    refine Go'.condF rfl ?_
    refine Go'.skip ?_
    refine Go'.seq ?_
    refine Go'.seq ?_
    by_cases h0 : l.length = 0
    · skip
      -- region 3 (others.go:398)
      refine Go'.region [(0, 0), (1, 0), (2, 0)] rfl ?_
      refine O.mv rfl rfl rfl rfl rfl ?_
      refine O.len rfl rfl rfl rfl Go.Proofs.Try.underlying22 rfl ?_
      refine O.cmp rfl rfl rfl rfl rfl rfl (eqlT (by omega)) ?_
      refine Pl.fin [(0, _), (1, _), (4, _), (11, _)] ⟨rfl, rfl, rfl, rfl, trivial⟩ ?_
      refine Go'.condT rfl ?_
      refine Go'.seq ?_
      -- region 4 (others.go:399)
      refine Go'.region [(0, 2), (1, 0)] rfl ?_
      refine O.call rfl rfl rfl Go.Proofs.Try.call21 rfl aliveS_spec ?_
      rintro _ H1 ⟨rfl, hF1⟩
      refine ⟨trivial, ?_⟩
      refine O.asg rfl rfl rfl rfl rfl ?_
      refine Pl.fin [(0, _), (1, _), (4, _)] ⟨rfl, rfl, rfl, trivial⟩ ?_
      refine Go'.ret (vs := [_]) Go.Proofs.Try.func7 Go.Proofs.Try.results7 ⟨rfl, trivial⟩ ?_
      exact ⟨rfl, hF1⟩
    · skip
      obtain ⟨i, hil, hi1⟩ : ∃ i : Nat, i < l.length ∧ z.tmod (l.length : Int) = (i : Int) := by
        have h1 := Int.tmod_nonneg (l.length : Int) hz.1
        have h2 := Int.tmod_lt_of_pos z (show (0 : Int) < (l.length : Int) by omega)
        exact ⟨(z.tmod (l.length : Int)).toNat, by omega, by omega⟩
      have p1 : Pl.puts OI (l.drop i ++ l) = Pl.puts OI l := Pl.puts_ext anti_OI fun y => by
        rw [List.mem_append]
        exact ⟨fun h => h.elim List.mem_of_mem_drop id, .inr⟩
      have p2 : Pl.puts OI l.reverse = Pl.puts OI l := Pl.puts_ext anti_OI fun y => List.mem_reverse
      have hpl := Pl.puts_length OI l
      have hcl : ([l.drop i, l].flatten : List Int) = l.drop i ++ l := by simp
      have hcll : ([l.drop i, l].flatten : List Int).length = l.length - i + l.length := by rw [hcl, List.length_append, List.length_drop]
      have hrl : l.reverse.length = l.length := List.length_reverse
      -- region 3 (others.go:398)
      refine Go'.region [(0, 0), (1, 0), (2, 0)] rfl ?_
      refine O.mv rfl rfl rfl rfl rfl ?_
      refine O.len rfl rfl rfl rfl Go.Proofs.Try.underlying22 rfl ?_
      refine O.cmp rfl rfl rfl rfl rfl rfl (eqlF (by omega)) ?_
      refine Pl.fin [(0, _), (1, _), (4, _), (11, _)] ⟨rfl, rfl, rfl, rfl, trivial⟩ ?_
      refine Go'.condF rfl ?_
      refine Go'.skip ?_
      refine Go'.seq ?_
      -- region 5 (others.go:401)
      refine Go'.region [(0, 0), (1, 2), (2, 0), (3, 0), (4, 0), (5, 0)] rfl ?_
      refine O.mv rfl rfl rfl rfl rfl ?_
      refine O.cvi (v := z) rfl rfl rfl (by rw [Go.Proofs.Try.underlying5]; rfl) Go.Proofs.Try.underlying3 rfl rfl (wrap_id (by omega)) trivial ?_
      refine O.mv rfl rfl rfl rfl rfl ?_
      refine O.len rfl rfl rfl rfl Go.Proofs.Try.underlying22 rfl ?_
      refine O.rem ((i : Int)) rfl rfl rfl rfl rfl rfl (by omega) (by omega) ?_
      refine O.asg rfl rfl rfl rfl rfl ?_
      refine Pl.fin [(0, _), (4, _), (5, _)] ⟨rfl, rfl, rfl, trivial⟩ ?_
      refine Go'.seq ?_
      -- region 6 (others.go:402)
      refine Go'.region [(0, 0), (1, 0), (2, 0), (3, 0), (4, 2), (5, 2), (6, 2), (7, 0), (8, 2), (9, 2), (10, 0), (11, 0), (12, 2), (13, 2), (14, 0), (15, 2), (16, 2), (17, 0), (18, 0), (19, 2), (20, 0), (21, 0)] rfl ?_
      refine O.mv rfl rfl rfl rfl rfl ?_
      refine O.mv rfl rfl rfl rfl rfl ?_
      refine O.slcIn (E := EN) (jl := i) (jh := l.length) rfl rfl rfl rfl Go.Proofs.Try.underlying22 Go.Proofs.Try.sizeOf3 rfl hi rfl ⟨_, by rfl⟩ (by omega) (by omega) ?_
      intro v1 hv1
      rw [List.take_of_length_le (by rw [List.length_drop]; omega)] at hv1
      obtain ⟨a1, c1, e1⟩ := hv1.len
      subst e1
      refine O.mv rfl rfl rfl rfl rfl ?_
      refine O.bsl (cs := (row ESl [(a1, (l.drop i).length, c1), (a, l.length, c)])) rfl rfl rfl ⟨Go.Proofs.Try.underlying92, Go.Proofs.Try.sizeOf22, Go.Proofs.Try.zeroValue22, ⟨_, Go.Proofs.Try.typeInfo22, rfl⟩, rfl, by decide, by decide⟩ rfl (by decide) (by kernel_rfl) ?_
      intro H1 M1
      have hev : InS ESl H1 (.slice (some ⟨H.size, 0, none⟩) 2 2) [(a1, (l.drop i).length, c1), (a, l.length, c)] := .inl ⟨H.size, 0, 2, rfl, Nat.le_refl _, M1.rd _ [] (by simp)⟩
      have hF1 := M1.fr nowhere
      have hess : InSS EN H1 [(a1, (l.drop i).length, c1), (a, l.length, c)] [l.drop i, l] := ⟨hv1.fr hF1, hi.fr hF1, trivial⟩
      refine ⟨trivial, ?_⟩
      refine O.call rfl rfl rfl Go.Proofs.Try.call24 rfl (concat_spec hev hess (by omega) (by omega) (by simp only [List.length_cons, List.length_nil]; omega)) ?_
      rintro v2 H2 ⟨h2, hF2⟩
      refine ⟨trivial, ?_⟩
      refine O.call rfl rfl rfl Go.Proofs.Try.call23 rfl (sinsert_spec h2.acc.inS (by omega)) ?_
      rintro v3 H3 ⟨h3, hF3⟩
      rw [hcl, p1] at h3
      have hF03 := (hF1.trans hF2).trans hF3
      refine ⟨trivial, ?_⟩
      refine O.mv rfl rfl rfl rfl rfl ?_
      refine O.call rfl rfl rfl Go.Proofs.Try.call23 rfl (sinsert_spec (hi.fr hF03) (by omega)) ?_
      rintro v4 H4 ⟨h4, hF4⟩
      refine ⟨trivial, ?_⟩
      refine O.callQ rfl rfl rfl Go.Proofs.Try.call22 rfl (eqInts_spec (h3.inS.fr hF4) h4.inS (by omega)) trivial ?_
      have hF04 := hF03.trans hF4
      refine O.mv rfl rfl rfl rfl rfl ?_
      refine O.mv rfl rfl rfl rfl rfl ?_
      refine O.call rfl rfl rfl Go.Proofs.Try.call25 rfl (turned_spec (hi.fr hF04) (by omega) (by omega)) ?_
      rintro v5 H5 ⟨h5, hF5⟩
      have hF05 := hF04.trans hF5
      refine ⟨trivial, ?_⟩
      refine O.call rfl rfl rfl Go.Proofs.Try.call23 rfl (sinsert_spec h5.acc.inS (by omega)) ?_
      rintro v6 H6 ⟨h6, hF6⟩
      rw [p2] at h6
      have hF06 := hF05.trans hF6
      refine ⟨trivial, ?_⟩
      refine O.mv rfl rfl rfl rfl rfl ?_
      refine O.call rfl rfl rfl Go.Proofs.Try.call23 rfl (sinsert_spec (hi.fr hF06) (by omega)) ?_
      rintro v7 H7 ⟨h7, hF7⟩
      have hF07 := hF06.trans hF7
      refine ⟨trivial, ?_⟩
      refine O.callQ rfl rfl rfl Go.Proofs.Try.call22 rfl (eqInts_spec (h6.inS.fr hF7) h7.inS (by omega)) trivial ?_
      refine O.pick rfl rfl rfl rfl rfl rfl ?_
      refine O.mv rfl rfl rfl rfl rfl ?_
      refine O.call rfl rfl rfl Go.Proofs.Try.call21 rfl aliveS_spec ?_
      rintro _ H8 ⟨rfl, hF8⟩
      refine ⟨trivial, ?_⟩
      refine O.pick rfl rfl rfl rfl rfl rfl ?_
      refine O.asg rfl rfl rfl rfl rfl ?_
      refine Pl.fin [(4, _)] ⟨rfl, trivial⟩ ?_
      refine Go'.ret (vs := [_]) Go.Proofs.Try.func7 Go.Proofs.Try.results7 ⟨rfl, trivial⟩ ?_
      exact ⟨rfl, hF07.trans hF8⟩

end Go.Bt.FZ