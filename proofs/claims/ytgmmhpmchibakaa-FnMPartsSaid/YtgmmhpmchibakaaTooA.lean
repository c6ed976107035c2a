/- Contracts of functions of the program, proved by walking through their code. Conditions: those that each theorem names. -/
import Derived.Test.YtgmmhpmchibakaaTomL
import Derived.Test.YtgmmhpmchibakaaTonG
import Derived.Test.YtgmmhpmchibakaaTonC
import Derived.Test.YtgmmhpmchibakaaTonO
namespace Go.Bt
open Go Go.Proofs
set_option maxRecDepth 20000
set_option maxHeartbeats 4000000
set_option linter.unusedVariables false

def fitb (z : Int) : Bool := decide (2 ≤ z) && decide (z ≤ 128)
theorem fit_spec {B : World} {H : Mem} {z : Int} : Fn Try.prog B 21 [.int .i64 z] H (fun r H' => r = .bool (fitb z) ∧ H' = H) := by
  refine fn_of Go.Proofs.Try.func21 rfl Go.Proofs.Try.ntmps21 ?_
  refine (show Go' _ _ _ _ 9 [(0, _)] [.code _] _ from ?_)
  refine Go'.seq ?_
  -- region 0 (others.go:116)
  refine Go'.region [(0, 0)] rfl ?_
  refine O.asg rfl rfl rfl rfl rfl ?_
  refine Pl.fin [(0, _), (2, _)] ⟨rfl, rfl, trivial⟩ ?_
  refine Go'.seq ?_
  by_cases hp : 0 < z
  · skip
    have hf : fitsb z = fitb z := by
      unfold fitsb fitb
      have : decide (z = 0) = false := by simp; omega
      rw [this, Bool.false_or]
    -- region 1 (others.go:117)
    refine Go'.region [(0, 0), (1, 0), (2, 0), (3, 0), (4, 2), (5, 0), (6, 0)] rfl ?_
    refine O.mv rfl rfl rfl rfl rfl ?_
    refine O.cmp rfl rfl rfl rfl rfl rfl (gtrT (by omega)) ?_
    refine O.mv rfl rfl rfl rfl rfl ?_
    refine O.mv rfl rfl rfl rfl rfl ?_
    refine O.callQ rfl rfl rfl Go.Proofs.Try.call16 rfl (fits_spec' hf) trivial ?_
    refine O.pick rfl rfl rfl rfl rfl rfl ?_
    refine O.asg rfl rfl rfl rfl rfl ?_
    refine Pl.fin [(2, _)] ⟨rfl, trivial⟩ ?_
    refine Go'.ret (vs := [_]) Go.Proofs.Try.func21 Go.Proofs.Try.results21 ⟨rfl, trivial⟩ ?_
    exact ⟨rfl, rfl⟩
  · skip
    have hf : fitb z = false := by
      unfold fitb
      have : decide (2 ≤ z) = false := by simp; omega
      rw [this, Bool.false_and]
    -- region 1 (others.go:117)
    refine Go'.region [(0, 0), (1, 0), (2, 0), (3, 0), (4, 2), (5, 0), (6, 0)] rfl ?_
    refine O.mv rfl rfl rfl rfl rfl ?_
    refine O.cmp rfl rfl rfl rfl rfl rfl (gtrF (by omega)) ?_
    refine O.mv rfl rfl rfl rfl rfl ?_
    refine Pl.pass rfl rfl rfl rfl ?_
    refine Pl.pass2 rfl rfl rfl rfl trivial ?_
    refine O.pick rfl rfl rfl rfl rfl rfl ?_
    refine O.asg rfl rfl rfl rfl rfl ?_
    refine Pl.fin [(2, _)] ⟨rfl, trivial⟩ ?_
    refine Go'.ret (vs := [_]) Go.Proofs.Try.func21 Go.Proofs.Try.results21 ⟨rfl, trivial⟩ ?_
    exact ⟨by rw [hf]; rfl, rfl⟩

theorem fitb_nat {z : Int} (h : fitb z = true) : ∃ d : Nat, z = (d : Int) ∧ 2 ≤ d ∧ d ≤ 128 := by
  unfold fitb at h
  rw [Bool.and_eq_true, decide_eq_true_eq, decide_eq_true_eq] at h
  exact ⟨z.toNat, by omega, by omega, by omega⟩
theorem fit_spec' {B : World} {H : Mem} {z : Int} {b : Bool} (h : fitb z = b) : Fn Try.prog B 21 [.int .i64 z] H (fun r H' => r = .bool b ∧ H' = H) := h ▸ fit_spec
end Go.Bt
namespace Go.Bt
open Go Go.Proofs
set_option maxRecDepth 20000
set_option maxHeartbeats 4000000
set_option linter.unusedVariables false

end Go.Bt
namespace Go.Bt
open Go Go.Proofs
set_option maxRecDepth 20000
set_option maxHeartbeats 4000000
set_option linter.unusedVariables false

theorem fnMParts {B : World} {H : Mem} {z : Int} {u : Value} {l : List (Int × Int)} (hi : InS EJ H u l) :
    Fn Try.prog B 9 [.int .i64 z, u] H (fun r H' => r = .bool true ∧ Fr nowhere H H') := by
  obtain ⟨a, c, hu⟩ := hi.len
  subst hu
  have hpl := Pl.puts_length OI l
  have hf0 : ∀ m : List (Int × Int), firstN m 0 = m := fun m => by unfold firstN; simp
  have hl1 : ((Pl.puts OI l).map k1).length = (Pl.puts OI l).length := List.length_map _
  have hl2 : ((Pl.puts OI l).map k2).length = (Pl.puts OI l).length := List.length_map _
  have hl3 : (Pl.puts OI l).reverse.length = (Pl.puts OI l).length := List.length_reverse
  refine fn_of Go.Proofs.Try.func9 rfl Go.Proofs.Try.ntmps9 ?_
  refine (show Go' _ _ _ _ 59 [(0, _), (1, _)] [.code _] _ from ?_)
  refine Go'.seq ?_
  -- region 0 (others.go:166)
  refine Go'.region [(0, 0)] rfl ?_
  refine O.asg rfl rfl rfl rfl rfl ?_
  refine Pl.fin [(0, _), (1, _), (4, _)] ⟨rfl, rfl, rfl, trivial⟩ ?_
  refine Go'.seq ?_
  refine Go'.seq ?_
  by_cases hbig : (2147483647 : Int) < (l.length : Int)
  · skip
    -- region 1 (others.go:167)
    refine Go'.region [(0, 0), (1, 0), (2, 0)] rfl ?_
    refine O.mv rfl rfl rfl rfl rfl ?_
    refine O.len rfl rfl rfl rfl Go.Proofs.Try.underlying22 rfl ?_
    refine O.cmp rfl rfl rfl rfl rfl rfl (gtrT (by omega)) ?_
    refine Pl.fin [(0, _), (1, _), (4, _), (10, _)] ⟨rfl, rfl, rfl, rfl, trivial⟩ ?_
    refine Go'.condT rfl ?_
    refine Go'.seq ?_
    -- region 2 (others.go:168)
    refine Go'.region [(0, 0)] rfl ?_
    refine O.asg rfl rfl rfl rfl rfl ?_
    refine Pl.fin [(0, _), (1, _), (4, _)] ⟨rfl, rfl, rfl, trivial⟩ ?_
    refine Go'.ret (vs := [_]) Go.Proofs.Try.func9 Go.Proofs.Try.results9 ⟨rfl, trivial⟩ ?_
    exact ⟨rfl, Fr.refl _ _⟩
  · skip
    -- region 1 (others.go:167)
    refine Go'.region [(0, 0), (1, 0), (2, 0)] rfl ?_
    refine O.mv rfl rfl rfl rfl rfl ?_
    refine O.len rfl rfl rfl rfl Go.Proofs.Try.underlying22 rfl ?_
    refine O.cmp rfl rfl rfl rfl rfl rfl (gtrF (by omega)) ?_
    refine Pl.fin [(0, _), (1, _), (4, _), (10, _)] ⟨rfl, rfl, rfl, rfl, trivial⟩ ?_
    refine Go'.condF rfl ?_
    refine Go'.skip ?_
    refine Go'.seq ?_
    refine Go'.seq ?_
    cases hfz : fitb z
    · skip
      -- region 3 (others.go:170)
      refine Go'.region [(0, 0), (1, 2), (2, 0)] rfl ?_
      refine O.mv rfl rfl rfl rfl rfl ?_
      refine O.callQ rfl rfl rfl Go.Proofs.Try.call21 rfl (fit_spec' hfz) trivial ?_
      refine O.not rfl rfl rfl rfl rfl ?_
      refine Pl.fin [(0, _), (1, _), (4, _), (13, _)] ⟨rfl, rfl, rfl, rfl, trivial⟩ ?_
      refine Go'.condT rfl ?_
      refine Go'.seq ?_
      -- region 4 (others.go:171)
      refine Go'.region [(0, 2), (1, 0)] rfl ?_
      refine O.call rfl rfl rfl Go.Proofs.Try.call23 rfl aliveM_spec ?_
      rintro _ H1 ⟨rfl, hF1⟩
      refine ⟨trivial, ?_⟩
      refine O.asg rfl rfl rfl rfl rfl ?_
      refine Pl.fin [(0, _), (1, _), (4, _)] ⟨rfl, rfl, rfl, trivial⟩ ?_
      refine Go'.ret (vs := [_]) Go.Proofs.Try.func9 Go.Proofs.Try.results9 ⟨rfl, trivial⟩ ?_
      exact ⟨rfl, hF1⟩
    · skip
      obtain ⟨d, rfl, hd⟩ := fitb_nat hfz
      -- region 3 (others.go:170)
      refine Go'.region [(0, 0), (1, 2), (2, 0)] rfl ?_
      refine O.mv rfl rfl rfl rfl rfl ?_
      refine O.callQ rfl rfl rfl Go.Proofs.Try.call21 rfl (fit_spec' hfz) trivial ?_
      refine O.not rfl rfl rfl rfl rfl ?_
      refine Pl.fin [(0, _), (1, _), (4, _), (13, _)] ⟨rfl, rfl, rfl, rfl, trivial⟩ ?_
      refine Go'.condF rfl ?_
      refine Go'.skip ?_
      refine Go'.seq ?_
      -- region 5 (others.go:173)
      refine Go'.region [(0, 0), (1, 0), (2, 2), (3, 0), (4, 0), (5, 0), (6, 0), (7, 0)] rfl ?_
      refine O.mv rfl rfl rfl rfl rfl ?_
      refine O.mv rfl rfl rfl rfl rfl ?_
      refine O.call rfl rfl rfl Go.Proofs.Try.call28 rfl (mkeyValues_spec hd hi (by omega)) ?_
      rintro _ H1 ⟨v1, v2, rfl, h1, h2, hF1⟩
      replace hi := hi.fr hF1
      refine ⟨trivial, ?_⟩
      refine O.mv rfl rfl rfl rfl rfl ?_
      refine O.ext rfl rfl rfl rfl rfl rfl ?_
      refine O.ext rfl rfl rfl rfl rfl rfl ?_
      refine O.asg rfl rfl rfl rfl rfl ?_
      refine O.asg rfl rfl rfl rfl rfl ?_
      refine Pl.fin [(0, _), (1, _), (4, _), (5, _), (6, _)] ⟨rfl, rfl, rfl, rfl, rfl, trivial⟩ ?_
      refine Go'.seq ?_
      -- region 6 (others.go:174)
      refine Go'.region [(0, 0), (1, 0), (2, 2), (3, 0)] rfl ?_
      refine O.mv rfl rfl rfl rfl rfl ?_
      refine O.mv rfl rfl rfl rfl rfl ?_
      refine O.call rfl rfl rfl Go.Proofs.Try.call29 rfl (mscan_spec hd hi (by omega)) ?_
      rintro v3 H2 ⟨h3, hF2⟩
      replace hi := hi.fr hF2
      rw [hf0] at h3
      have g1 := h1.inS.fr hF2
      have g2 := h2.inS.fr hF2
      have g3 := h3.inS
      have hF := hF1.trans hF2
      refine ⟨trivial, ?_⟩
      refine O.asg rfl rfl rfl rfl rfl ?_
      refine Pl.fin [(0, _), (1, _), (4, _), (5, _), (6, _), (7, _)] ⟨rfl, rfl, rfl, rfl, rfl, rfl, trivial⟩ ?_
      refine Go'.seq ?_
      -- region 7 (others.go:175)
      refine Go'.region [(0, 0), (1, 0), (2, 2), (3, 0), (4, 2), (5, 0), (6, 0), (7, 0), (8, 2), (9, 0), (10, 2), (11, 0), (12, 0), (13, 0), (14, 2), (15, 0), (16, 2), (17, 0), (18, 0), (19, 0), (20, 2), (21, 0), (22, 2), (23, 0), (24, 0), (25, 0), (26, 0), (27, 2), (28, 0), (29, 2), (30, 2), (31, 0), (32, 0), (33, 2), (34, 0), (35, 0)] rfl ?_
      refine O.mv rfl rfl rfl rfl rfl ?_
      refine O.mv rfl rfl rfl rfl rfl ?_
      refine O.call rfl rfl rfl Go.Proofs.Try.call31 rfl (mkeys_spec hd hi (by omega)) ?_
      rintro v4 H4 ⟨h4, hF4⟩
      replace hi := hi.fr hF4
      replace g1 := g1.fr hF4
      replace g2 := g2.fr hF4
      replace g3 := g3.fr hF4
      replace hF := hF.trans hF4
      refine ⟨trivial, ?_⟩
      refine O.mv rfl rfl rfl rfl rfl ?_
      refine O.callQ rfl rfl rfl Go.Proofs.Try.call30 rfl (eqInts_spec h4.inS g1 (by omega)) trivial ?_
      refine O.mv rfl rfl rfl rfl rfl ?_
      refine O.mv rfl rfl rfl rfl rfl ?_
      refine O.mv rfl rfl rfl rfl rfl ?_
      refine O.call rfl rfl rfl Go.Proofs.Try.call32 rfl (mvalues_spec hd hi (by omega)) ?_
      rintro v5 H5 ⟨h5, hF5⟩
      replace hi := hi.fr hF5
      replace g1 := g1.fr hF5
      replace g2 := g2.fr hF5
      replace g3 := g3.fr hF5
      replace hF := hF.trans hF5
      refine ⟨trivial, ?_⟩
      refine O.mv rfl rfl rfl rfl rfl ?_
      refine O.callQ rfl rfl rfl Go.Proofs.Try.call30 rfl (eqInts_spec h5.inS g2 (by omega)) trivial ?_
      refine O.pick rfl rfl rfl rfl rfl rfl ?_
      refine O.mv rfl rfl rfl rfl rfl ?_
      refine O.mv rfl rfl rfl rfl rfl ?_
      refine O.call rfl rfl rfl Go.Proofs.Try.call33 rfl (specKeys_spec g3 (by omega)) ?_
      rintro v6 H6 ⟨h6, hF6⟩
      replace hi := hi.fr hF6
      replace g1 := g1.fr hF6
      replace g2 := g2.fr hF6
      replace g3 := g3.fr hF6
      replace hF := hF.trans hF6
      replace h6 : OutS EN H6 v6 ((Pl.puts OI l).map k1) := h6
      refine ⟨trivial, ?_⟩
      refine O.mv rfl rfl rfl rfl rfl ?_
      refine O.callQ rfl rfl rfl Go.Proofs.Try.call30 rfl (eqInts_spec h6.inS g1 (by omega)) trivial ?_
      refine O.pick rfl rfl rfl rfl rfl rfl ?_
      refine O.mv rfl rfl rfl rfl rfl ?_
      refine O.mv rfl rfl rfl rfl rfl ?_
      refine O.call rfl rfl rfl Go.Proofs.Try.call34 rfl (specValues_spec g3 (by omega)) ?_
      rintro v7 H7 ⟨h7, hF7⟩
      replace hi := hi.fr hF7
      replace g1 := g1.fr hF7
      replace g2 := g2.fr hF7
      replace g3 := g3.fr hF7
      replace hF := hF.trans hF7
      replace h7 : OutS EN H7 v7 ((Pl.puts OI l).map k2) := h7
      refine ⟨trivial, ?_⟩
      refine O.mv rfl rfl rfl rfl rfl ?_
      refine O.callQ rfl rfl rfl Go.Proofs.Try.call30 rfl (eqInts_spec h7.inS g2 (by omega)) trivial ?_
      refine O.pick rfl rfl rfl rfl rfl rfl ?_
      refine O.mv rfl rfl rfl rfl rfl ?_
      refine O.mv rfl rfl rfl rfl rfl ?_
      refine O.mv rfl rfl rfl rfl rfl ?_
      refine O.call rfl rfl rfl Go.Proofs.Try.call35 rfl (mreverse_spec hd hi (by omega)) ?_
      rintro v8 H8 ⟨h8, hF8⟩
      replace hi := hi.fr hF8
      replace g1 := g1.fr hF8
      replace g2 := g2.fr hF8
      replace g3 := g3.fr hF8
      replace hF := hF.trans hF8
      rw [hf0] at h8
      refine ⟨trivial, ?_⟩
      refine O.mv rfl rfl rfl rfl rfl ?_
      refine O.call rfl rfl rfl Go.Proofs.Try.call36 rfl (SI.turnedA_spec g3 (by omega)) ?_
      rintro v9 H9 ⟨h9, hF9⟩
      replace hi := hi.fr hF9
      
      replace hF := hF.trans hF9
      refine ⟨trivial, ?_⟩
      refine O.callQ rfl rfl rfl Go.Proofs.Try.call27 rfl (eqItems_spec (h8.inS.fr hF9) h9.inS (by omega)) trivial ?_
      refine O.pick rfl rfl rfl rfl rfl rfl ?_
      refine O.mv rfl rfl rfl rfl rfl ?_
      refine O.call rfl rfl rfl Go.Proofs.Try.call23 rfl aliveM_spec ?_
      rintro _ H10 ⟨rfl, hF10⟩
      refine ⟨trivial, ?_⟩
      refine O.pick rfl rfl rfl rfl rfl rfl ?_
      refine O.asg rfl rfl rfl rfl rfl ?_
      refine Pl.fin [(4, _)] ⟨rfl, trivial⟩ ?_
      refine Go'.ret (vs := [_]) Go.Proofs.Try.func9 Go.Proofs.Try.results9 ⟨rfl, trivial⟩ ?_
      exact ⟨rfl, hF.trans hF10⟩

end Go.Bt
