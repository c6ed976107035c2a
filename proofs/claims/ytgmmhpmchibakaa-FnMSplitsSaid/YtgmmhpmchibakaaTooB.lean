/- Contracts of functions of the program, proved by walking through their code. Conditions: those that each theorem names. -/
import Derived.Test.YtgmmhpmchibakaaTomL
import Derived.Test.YtgmmhpmchibakaaTonG
import Derived.Test.YtgmmhpmchibakaaTonC
import Derived.Test.YtgmmhpmchibakaaTonO
import Derived.Test.YtgmmhpmchibakaaToAe
namespace Go.Bt
open Go Go.Proofs
set_option maxRecDepth 20000
set_option maxHeartbeats 4000000
set_option linter.unusedVariables false

def fitb (z : Int) : Bool := decide (2 ≤ z) && decide (z ≤ 128)
theorem fit_spec {B : World} {H : Mem} {z : Int} : Fn Try.prog B 21 [.int .i64 z] H (fun r H' => r = .bool (fitb z) ∧ H' = H) := by
  refine fn_of Go.Proofs.Try.func21 rfl Go.Proofs.Try.ntmps21 ?_
  refine (show Go' _ _ _ _ 9 [(0, _)] [.code _] _ from ?_)
  refine Go'.seq ?_
  -- region 0 (others.go:116)
  refine Go'.region [(0, 0)] rfl ?_
  refine O.asg rfl rfl rfl rfl rfl ?_
  refine Pl.fin [(0, _), (2, _)] ⟨rfl, rfl, trivial⟩ ?_
  refine Go'.seq ?_
  by_cases hp : 0 < z
  · skip
    have hf : fitsb z = fitb z := by
      unfold fitsb fitb
      have : decide (z = 0) = false := by simp; omega
      rw [this, Bool.false_or]
    -- region 1 (others.go:117)
    refine Go'.region [(0, 0), (1, 0), (2, 0), (3, 0), (4, 2), (5, 0), (6, 0)] rfl ?_
    refine O.mv rfl rfl rfl rfl rfl ?_
    refine O.cmp rfl rfl rfl rfl rfl rfl (gtrT (by omega)) ?_
    refine O.mv rfl rfl rfl rfl rfl ?_
    refine O.mv rfl rfl rfl rfl rfl ?_
    refine O.callQ rfl rfl rfl Go.Proofs.Try.call16 rfl (fits_spec' hf) trivial ?_
    refine O.pick rfl rfl rfl rfl rfl rfl ?_
    refine O.asg rfl rfl rfl rfl rfl ?_
    refine Pl.fin [(2, _)] ⟨rfl, trivial⟩ ?_
    refine Go'.ret (vs := [_]) Go.Proofs.Try.func21 Go.Proofs.Try.results21 ⟨rfl, trivial⟩ ?_
    exact ⟨rfl, rfl⟩
  · skip
    have hf : fitb z = false := by
      unfold fitb
      have : decide (2 ≤ z) = false := by simp; omega
      rw [this, Bool.false_and]
    -- region 1 (others.go:117)
    refine Go'.region [(0, 0), (1, 0), (2, 0), (3, 0), (4, 2), (5, 0), (6, 0)] rfl ?_
    refine O.mv rfl rfl rfl rfl rfl ?_
    refine O.cmp rfl rfl rfl rfl rfl rfl (gtrF (by omega)) ?_
    refine O.mv rfl rfl rfl rfl rfl ?_
    refine Pl.pass rfl rfl rfl rfl ?_
    refine Pl.pass2 rfl rfl rfl rfl trivial ?_
    refine O.pick rfl rfl rfl rfl rfl rfl ?_
    refine O.asg rfl rfl rfl rfl rfl ?_
    refine Pl.fin [(2, _)] ⟨rfl, trivial⟩ ?_
    refine Go'.ret (vs := [_]) Go.Proofs.Try.func21 Go.Proofs.Try.results21 ⟨rfl, trivial⟩ ?_
    exact ⟨by rw [hf]; rfl, rfl⟩

theorem fitb_nat {z : Int} (h : fitb z = true) : ∃ d : Nat, z = (d : Int) ∧ 2 ≤ d ∧ d ≤ 128 := by
  unfold fitb at h
  rw [Bool.and_eq_true, decide_eq_true_eq, decide_eq_true_eq] at h
  exact ⟨z.toNat, by omega, by omega, by omega⟩
theorem fit_spec' {B : World} {H : Mem} {z : Int} {b : Bool} (h : fitb z = b) : Fn Try.prog B 21 [.int .i64 z] H (fun r H' => r = .bool b ∧ H' = H) := h ▸ fit_spec
end Go.Bt
namespace Go.Bt
open Go Go.Proofs
set_option maxRecDepth 20000
set_option maxHeartbeats 4000000
set_option linter.unusedVariables false

end Go.Bt
namespace Go.Bt
open Go Go.Proofs
set_option maxRecDepth 20000
set_option maxHeartbeats 4000000
set_option linter.unusedVariables false

end Go.Bt
namespace Go.Bt
open Go Go.Proofs
set_option maxRecDepth 20000
set_option maxHeartbeats 4000000
set_option linter.unusedVariables false

namespace SI
theorem growA_spec {B : World} {H : Mem} {n : Nat} (hll : n ≤ 4294967296) :
    Fn Try.prog B 73 [.slice none 0 0, .int .i64 (n : Int)] H (fun r H' => Acc EJ (fun b => H.size ≤ b) H' r [] ∧ Fr nowhere H H') := by
  rcases Nat.eq_zero_or_pos n with rfl | hn
  rotate_left
  · exact (grow_spec hn hll).mono fun _ _ h => ⟨h.1.acc, h.2⟩
  refine fn_of Go.Proofs.Try.func73 rfl Go.Proofs.Try.ntmps73 ?_
  refine (show Go' _ _ _ _ 27 [(0, _), (1, _)] [.code _] _ from ?_)
  refine Go'.seq ?_
  -- region 0 (slices.go:422)
  refine Go'.region [(0, 0)] rfl ?_
  refine O.asg rfl rfl rfl rfl rfl ?_
  refine Pl.fin [(0, _), (1, _), (4, _)] ⟨rfl, rfl, rfl, trivial⟩ ?_
  refine Go'.seq ?_
  refine Go'.seq ?_
  -- region 1 (slices.go:423)
  refine Go'.region [(0, 0), (1, 0)] rfl ?_
  refine O.mv rfl rfl rfl rfl rfl ?_
  refine O.cmp rfl rfl rfl rfl rfl rfl (lssF (by omega)) ?_
  refine Pl.fin [(0, _), (1, _), (4, _), (6, _)] ⟨rfl, rfl, rfl, rfl, trivial⟩ ?_
  refine Go'.condF rfl ?_
  refine Go'.skip ?_
  refine Go'.seq ?_
  refine Go'.seq ?_
  -- region 3 (slices.go:426)
  refine Go'.region [(0, 0), (1, 0), (2, 0), (3, 0), (4, 0), (5, 0), (6, 0), (7, 0)] rfl ?_
  refine O.mv rfl rfl rfl rfl rfl ?_
  refine O.mv rfl rfl rfl rfl rfl ?_
  refine O.cap rfl rfl rfl rfl Go.Proofs.Try.underlying22 rfl ?_
  refine O.mv rfl rfl rfl rfl rfl ?_
  refine O.len rfl rfl rfl rfl Go.Proofs.Try.underlying22 rfl ?_
  refine O.sub ((0 : Int)) rfl rfl rfl rfl rfl rfl (by omega) (by omega) ?_
  refine O.sub ((0 : Int)) rfl rfl rfl rfl rfl rfl (by omega) (by omega) ?_
  refine O.asg rfl rfl rfl rfl rfl ?_
  refine Pl.fin [(0, _), (1, _), (4, _)] ⟨rfl, rfl, rfl, trivial⟩ ?_
  refine Go'.seq ?_
  -- region 4 (slices.go:426)
  refine Go'.region [(0, 0), (1, 0)] rfl ?_
  refine O.mv rfl rfl rfl rfl rfl ?_
  refine O.cmp rfl rfl rfl rfl rfl rfl (gtrF (by omega)) ?_
  refine Pl.fin [(0, _), (1, _), (4, _), (16, _)] ⟨rfl, rfl, rfl, rfl, trivial⟩ ?_
  refine Go'.condF rfl ?_
  refine Go'.skip ?_
  refine Go'.seq ?_
  -- region 6 (slices.go:430)
  refine Go'.region [(0, 0), (1, 0)] rfl ?_
  refine O.mv rfl rfl rfl rfl rfl ?_
  refine O.asg rfl rfl rfl rfl rfl ?_
  refine Pl.fin [(4, _)] ⟨rfl, trivial⟩ ?_
  refine Go'.ret (vs := [_]) Go.Proofs.Try.func73 Go.Proofs.Try.results73 ⟨rfl, trivial⟩ ?_
  exact ⟨Acc.nil _ _ _, Fr.refl _ _⟩

theorem concatA_spec {B : World} {H : Mem} {v : Value} {us : List (Option Addr × Nat × Nat)} {ls : List (List (Int × Int))} (hi : InS ESl H v us) (hs : InSS EJ H us ls) (hll : ls.flatten.length ≤ 4294967296) (hul : us.length ≤ 4294967296) :
    Fn Try.prog B 42 [v] H (fun r H' => Acc EJ (fun b => H.size ≤ b) H' r ls.flatten ∧ Fr nowhere H H') := by
  obtain ⟨a, c, hu⟩ := hi.len
  subst hu
  have hlen := hs.len
  have hi00 := hi
  have hs00 := hs
  refine fn_of Go.Proofs.Try.func42 rfl Go.Proofs.Try.ntmps42 ?_
  refine (show Go' _ _ _ _ 36 [(0, _)] [.code _] _ from ?_)
  refine Go'.seq ?_
  -- region 0 (slices.go:491)
  refine Go'.region [(0, 0)] rfl ?_
  refine O.asg rfl rfl rfl rfl rfl ?_
  refine Pl.fin [(0, _), (2, _)] ⟨rfl, rfl, trivial⟩ ?_
  refine Go'.seq ?_
  -- region 1 (slices.go:492)
  refine Go'.region [(0, 0)] rfl ?_
  refine O.asg rfl rfl rfl rfl rfl ?_
  refine Pl.fin [(0, _), (2, _), (3, _)] ⟨rfl, rfl, rfl, trivial⟩ ?_
  refine Go'.seq ?_
  refine Go'.seq ?_
  -- region 2 (slices.go:493)
  refine Go'.region [(0, 0), (1, 0), (2, 0)] rfl ?_
  refine O.mv rfl rfl rfl rfl rfl ?_
  refine O.len rfl rfl rfl rfl Go.Proofs.Try.underlying87 rfl ?_
  refine O.mv rfl rfl rfl rfl rfl ?_
  refine Pl.fin [(0, _), (2, _), (3, _), (9, _), (10, _), (11, _)] ⟨rfl, rfl, rfl, rfl, rfl, rfl, trivial⟩ ?_
  refine Go'.block ?_
  refine Go'.loop ?_
  refine Go'.keep [(0, _), (3, _), (9, _), (10, _), (11, _)] ⟨rfl, rfl, rfl, rfl, rfl, trivial⟩ ?_
  refine Go'.ind (σ := Nat) (fun j => us.length - j) (fun j H' => H' = H ∧ j ≤ us.length)
    (fun j => [(0, .slice a us.length c), (3, .int .i64 ((ls.take j).flatten.length : Int)), (9, .slice a us.length c), (10, .int .i64 (us.length : Int)), (11, .int .i64 (j : Int))]) 0 ⟨rfl, Nat.zero_le _⟩ rfl ?_
  rintro j H2 ⟨hHH, hjl⟩ ih
  have eH : H = H2 := hHH.symm
  subst eH
  clear hHH
  refine Go'.seq ?_
  by_cases hlt : j < us.length
  · skip
    obtain ⟨u, hu⟩ : ∃ u, us[j]? = some u := ⟨us[j], List.getElem?_eq_getElem hlt⟩
    obtain ⟨b, o, cc, e, hr⟩ := hi.at hu
    cases e
    obtain ⟨l, hl, hul2⟩ := hs.at hu
    obtain ⟨a', c', e⟩ := hul2.len
    have e2 : u.2.1 = l.length := by injection e
    have hx : (ls.take (j + 1)).flatten.length = (ls.take j).flatten.length + l.length := by rw [List.take_add_one, hl, List.flatten_append, List.length_append]; simp
    have hft := flat_take ls (j + 1)
    -- region 3 (slices.go:493)
    refine Go'.region [(0, 0)] rfl ?_
    refine O.cmp rfl rfl rfl rfl rfl rfl (lssT (by omega)) ?_
    refine Pl.fin [(0, _), (3, _), (9, _), (10, _), (11, _), (12, _)] ⟨rfl, rfl, rfl, rfl, rfl, rfl, trivial⟩ ?_
    refine Go'.seq ?_
    refine Go'.condT rfl ?_
    refine Go'.skip ?_
    refine Go'.seq ?_
    refine Go'.block ?_
    refine Go'.seq ?_
    -- region 4 (slices.go:493)
    refine Go'.region [(0, 0), (1, 1), (2, 0)] rfl ?_
    refine O.ix (j := j) rfl rfl rfl rfl Go.Proofs.Try.underlying87 Go.Proofs.Try.sizeOf22 rfl rfl (by omega) hlt ?_
    refine O.ld rfl rfl rfl (fun w => ⟨Go.Proofs.Try.isAgg22 w, Go.Proofs.Try.sizeOf22 w⟩) rfl (hr 0 _ rfl) ?_
    refine O.asg rfl rfl rfl rfl rfl ?_
    refine Pl.fin [(0, _), (3, _), (5, _), (9, _), (10, _), (11, _), (12, _)] ⟨rfl, rfl, rfl, rfl, rfl, rfl, rfl, trivial⟩ ?_
    refine Go'.seq ?_
    -- region 5 (slices.go:494)
    refine Go'.region [(0, 0), (1, 0), (2, 0), (3, 0), (4, 0)] rfl ?_
    refine O.mv rfl rfl rfl rfl rfl ?_
    refine O.mv rfl rfl rfl rfl rfl ?_
    refine O.len rfl rfl rfl rfl Go.Proofs.Try.underlying22 rfl ?_
    refine O.add (((ls.take (j + 1)).flatten.length : Int)) rfl rfl rfl rfl rfl rfl (by omega) (by omega) ?_
    refine O.asg rfl rfl rfl rfl rfl ?_
    refine Pl.fin [(0, _), (3, _), (5, _), (9, _), (10, _), (11, _), (12, _)] ⟨rfl, rfl, rfl, rfl, rfl, rfl, rfl, trivial⟩ ?_
    refine Go'.seq ?_
    -- region 6 (slices.go:495)
    refine Go'.region [(0, 0), (1, 0)] rfl ?_
    refine O.mv rfl rfl rfl rfl rfl ?_
    refine O.cmp rfl rfl rfl rfl rfl rfl (lssF (by omega)) ?_
    refine Pl.fin [(0, _), (3, _), (5, _), (9, _), (10, _), (11, _), (12, _), (20, _)] ⟨rfl, rfl, rfl, rfl, rfl, rfl, rfl, rfl, trivial⟩ ?_
    refine Go'.condF rfl ?_
    refine Go'.skip ?_
    refine Go'.inBlock ?_
    -- region 8 (slices.go:493)
    refine Go'.region [(0, 0), (1, 0)] rfl ?_
    refine O.add (((j + 1 : Nat) : Int)) rfl rfl rfl rfl rfl rfl (by omega) (by omega) ?_
    refine O.mv rfl rfl rfl rfl rfl ?_
    refine Pl.fin [(0, _), (3, _), (5, _), (9, _), (10, _), (11, _), (12, _), (20, _)] ⟨rfl, rfl, rfl, rfl, rfl, rfl, rfl, rfl, trivial⟩ ?_
    refine Go'.keep [(0, _), (3, _), (9, _), (10, _), (11, _)] ⟨rfl, rfl, rfl, rfl, rfl, trivial⟩ ?_
    refine Go'.inLoop ?_
    exact ih (j + 1) H ⟨rfl, hlt⟩ (by omega)
  · skip
    have e0 : j = us.length := by omega
    have e1 : ls.take j = ls := by rw [e0, hlen, List.take_length]
    clear ih
    subst e0
    rw [e1]
    -- region 3 (slices.go:493)
    refine Go'.region [(0, 0)] rfl ?_
    refine O.cmp rfl rfl rfl rfl rfl rfl (lssF (by omega)) ?_
    refine Pl.fin [(0, _), (3, _), (9, _), (10, _), (11, _), (12, _)] ⟨rfl, rfl, rfl, rfl, rfl, rfl, trivial⟩ ?_
    refine Go'.seq ?_
    refine Go'.condF rfl ?_
    refine Go'.exit rfl ?_
    refine Go'.seq ?_
    -- region 9 (slices.go:502)
    refine Go'.region [(0, 0), (1, 2), (2, 0)] rfl ?_
    refine O.mv rfl rfl rfl rfl rfl ?_
    refine O.call rfl rfl rfl Go.Proofs.Try.call73 rfl (growA_spec hll) ?_
    rintro gv H1 ⟨hA0, hF1⟩
    refine ⟨trivial, ?_⟩
    refine O.asg rfl rfl rfl rfl rfl ?_
    refine Pl.fin [(0, _), (6, _)] ⟨rfl, rfl, trivial⟩ ?_
    refine Go'.seq ?_
    refine Go'.seq ?_
    -- region 10 (slices.go:503)
    refine Go'.region [(0, 0), (1, 0), (2, 0)] rfl ?_
    refine O.mv rfl rfl rfl rfl rfl ?_
    refine O.len rfl rfl rfl rfl Go.Proofs.Try.underlying87 rfl ?_
    refine O.mv rfl rfl rfl rfl rfl ?_
    refine Pl.fin [(6, _), (25, _), (26, _), (27, _)] ⟨rfl, rfl, rfl, rfl, trivial⟩ ?_
    refine Go'.block ?_
    refine Go'.loop ?_
    refine Go'.keep [(6, _), (25, _), (26, _), (27, _)] ⟨rfl, rfl, rfl, rfl, trivial⟩ ?_
    refine Go'.ind (σ := Nat × Value × (Nat → Prop)) (fun s => us.length - s.1) (fun s H' => s.1 ≤ us.length ∧ Acc EJ s.2.2 H' s.2.1 ((ls.take s.1).flatten) ∧ Fr nowhere H H' ∧ Fr (fun b _ => H.size ≤ b) H1 H' ∧ ∀ b, s.2.2 b → H.size ≤ b)
      (fun s => [(6, s.2.1), (25, .slice a us.length c), (26, .int .i64 (us.length : Int)), (27, .int .i64 (s.1 : Int))]) (0, gv, fun b => H.size ≤ b) ⟨Nat.zero_le _, by rw [List.take_zero]; exact hA0, hF1, Fr.refl _ _, fun b hb => hb⟩ rfl ?_
    clear hA0
    rintro ⟨j, sv, Z1⟩ H2 ⟨hj, hA, hF, hFZ, hZ1⟩ ih
    simp only at hj hA hZ1
    have hsz := hF.size
    refine Go'.seq ?_
    by_cases hlt : j < us.length
    · skip
      obtain ⟨u, hu⟩ : ∃ u, us[j]? = some u := ⟨us[j], List.getElem?_eq_getElem hlt⟩
      have hi2 := hi00.fr hF
      obtain ⟨b, o, cc, e, hr⟩ := hi2.at hu
      cases e
      obtain ⟨l, hl, hul2⟩ := (hs00.fr hF).at hu
      have hx : (ls.take (j + 1)).flatten = (ls.take j).flatten ++ l := by rw [List.take_add_one, hl, List.flatten_append]; simp
      have hft := flat_take ls (j + 1)
      rw [hx, List.length_append] at hft
      -- region 11 (slices.go:503)
      refine Go'.region [(0, 0)] rfl ?_
      refine O.cmp rfl rfl rfl rfl rfl rfl (lssT (by omega)) ?_
      refine Pl.fin [(6, _), (25, _), (26, _), (27, _), (28, _)] ⟨rfl, rfl, rfl, rfl, rfl, trivial⟩ ?_
      refine Go'.seq ?_
      refine Go'.condT rfl ?_
      refine Go'.skip ?_
      refine Go'.seq ?_
      refine Go'.block ?_
      refine Go'.seq ?_
      -- region 12 (slices.go:503)
      refine Go'.region [(0, 0), (1, 1), (2, 0)] rfl ?_
      refine O.ix (j := j) rfl rfl rfl rfl Go.Proofs.Try.underlying87 Go.Proofs.Try.sizeOf22 rfl rfl (by omega) hlt ?_
      refine O.ld rfl rfl rfl (fun w => ⟨Go.Proofs.Try.isAgg22 w, Go.Proofs.Try.sizeOf22 w⟩) rfl (hr 0 _ rfl) ?_
      refine O.asg rfl rfl rfl rfl rfl ?_
      refine Pl.fin [(6, _), (8, _), (25, _), (26, _), (27, _), (28, _)] ⟨rfl, rfl, rfl, rfl, rfl, rfl, trivial⟩ ?_
      -- region 13 (slices.go:504)
      refine Go'.region [(0, 0), (1, 0), (2, 2), (3, 0)] rfl ?_
      refine O.mv rfl rfl rfl rfl rfl ?_
      refine O.mv rfl rfl rfl rfl rfl ?_
      refine O.appAI (E := EJ) rfl rfl rfl ⟨Go.Proofs.Try.underlying22, Go.Proofs.Try.sizeOf35, Go.Proofs.Try.zeroValue35, ⟨_, Go.Proofs.Try.typeInfo35, rfl⟩, rfl, by decide, by decide⟩ rfl hA rfl hul2 (Nat.le_trans (Nat.mul_le_mul_left _ (Nat.le_of_ble_eq_true (n := _) (m := 4096) rfl)) (by omega)) (by omega) ?_
      intro v7 H7 hA7 hF7 hs7
      rw [← hx] at hA7
      refine ⟨trivial, ?_⟩
      refine O.asg rfl rfl rfl rfl rfl ?_
      refine Pl.fin [(6, _), (8, _), (25, _), (26, _), (27, _), (28, _)] ⟨rfl, rfl, rfl, rfl, rfl, rfl, trivial⟩ ?_
      refine Go'.inBlock ?_
      -- region 14 (slices.go:503)
      refine Go'.region [(0, 0), (1, 0)] rfl ?_
      refine O.add (((j + 1 : Nat) : Int)) rfl rfl rfl rfl rfl rfl (by omega) (by omega) ?_
      refine O.mv rfl rfl rfl rfl rfl ?_
      refine Pl.fin [(6, _), (8, _), (25, _), (26, _), (27, _), (28, _)] ⟨rfl, rfl, rfl, rfl, rfl, rfl, trivial⟩ ?_
      refine Go'.keep [(6, _), (25, _), (26, _), (27, _)] ⟨rfl, rfl, rfl, rfl, trivial⟩ ?_
      refine Go'.inLoop ?_
      exact ih (j + 1, v7, _) H7 ⟨hlt, hA7, hF.trans' hF7 (fun _ _ _ h => h) (fun b o hb hz => by have := hZ1 b hz; omega), hFZ.trans' hF7 (fun _ _ _ h => h) (fun b o hb hz => hZ1 b hz), fun b hb => hb.elim (hZ1 b) (fun h => by omega)⟩ (by simp only; omega)
    · skip
      have e0' : j = us.length := by omega
      have e1' : ls.take j = ls := by rw [e0', hlen, List.take_length]
      rw [e1'] at hA
      -- region 11 (slices.go:503)
      refine Go'.region [(0, 0)] rfl ?_
      refine O.cmp rfl rfl rfl rfl rfl rfl (lssF (by omega)) ?_
      refine Pl.fin [(6, _), (25, _), (26, _), (27, _), (28, _)] ⟨rfl, rfl, rfl, rfl, rfl, trivial⟩ ?_
      refine Go'.seq ?_
      refine Go'.condF rfl ?_
      refine Go'.exit rfl ?_
      refine Go'.seq ?_
      -- region 15 (slices.go:506)
      refine Go'.region [(0, 0), (1, 0)] rfl ?_
      refine O.mv rfl rfl rfl rfl rfl ?_
      refine O.asg rfl rfl rfl rfl rfl ?_
      refine Pl.fin [(2, _)] ⟨rfl, trivial⟩ ?_
      refine Go'.ret (vs := [_]) Go.Proofs.Try.func42 Go.Proofs.Try.results42 ⟨rfl, trivial⟩ ?_
      exact ⟨hA.mono fun b _ hz => hZ1 b hz, hF⟩


end SI
end Go.Bt
