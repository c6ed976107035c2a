/- Contracts of functions of the program, proved by walking through their code. Conditions: those that each theorem names. -/
import Derived.Test.YtknkmaigdgfhlaaTovH
namespace Go.Bt.FZ
open Go Go.Proofs
set_option maxRecDepth 20000
set_option maxHeartbeats 4000000
set_option linter.unusedVariables false

theorem anti_OI : Pl.Anti OI := fun x y h1 h2 => by
  have h1 := of_decide_eq_false h1
  have h2 := of_decide_eq_false h2
  have : ¬ (x : Int) < y := h1
  have : ¬ (y : Int) < x := h2
  omega
theorem aliveS_spec {B : World} {H : Mem} : Fn Try.prog B 21 [] H (fun r H' => r = .bool true ∧ Fr nowhere H H') := by
  refine fn_of Go.Proofs.Try.func21 rfl Go.Proofs.Try.ntmps21 ?_
  refine (show Go' _ _ _ _ 5 [] [.code _] _ from ?_)
  refine Go'.seq ?_
  -- region 0 (help.go:117)
  refine Go'.region [(0, 0)] rfl ?_
  refine O.asg rfl rfl rfl rfl rfl ?_
  refine Pl.fin [(0, _)] ⟨rfl, trivial⟩ ?_
  refine Go'.seq ?_
  -- region 1 (help.go:117)
  refine Go'.region [(0, 2), (1, 2), (2, 0), (3, 0), (4, 0)] rfl ?_
  refine O.bsl (cs := (row EN [5, 3, 9])) rfl rfl rfl ⟨Go.Proofs.Try.underlying22, Go.Proofs.Try.sizeOf3, Go.Proofs.Try.zeroValue3, ⟨_, Go.Proofs.Try.typeInfo3, rfl⟩, rfl, by decide, by decide⟩ rfl (by decide) (by kernel_rfl) ?_
  intro H1 M1
  have hev : InS EN H1 (.slice (some ⟨H.size, 0, none⟩) 3 3) [5, 3, 9] := .inl ⟨H.size, 0, 3, rfl, by decide, M1.rd _ [] (by simp)⟩
  refine ⟨trivial, ?_⟩
  refine O.call rfl rfl rfl Go.Proofs.Try.call23 rfl (sinsert_spec hev (by decide)) ?_
  rintro _ H2 ⟨h2, hF2⟩
  obtain ⟨a2, c2, e2⟩ := h2.inS.len
  subst e2
  have e3 : (Pl.puts OI [5, 3, 9]).length = 3 := by decide
  rw [e3]
  refine ⟨trivial, ?_⟩
  refine O.len rfl rfl rfl rfl Go.Proofs.Try.underlying22 rfl ?_
  refine O.cmp rfl rfl rfl rfl rfl rfl (eqlT (by omega)) ?_
  refine O.asg rfl rfl rfl rfl rfl ?_
  refine Pl.fin [(0, _)] ⟨rfl, trivial⟩ ?_
  refine Go'.ret (vs := [_]) Go.Proofs.Try.func21 Go.Proofs.Try.results21 ⟨rfl, trivial⟩ ?_
  exact ⟨rfl, (M1.fr nowhere).trans hF2⟩

end Go.Bt.FZ
namespace Go.Bt.FZ
open Go Go.Proofs
set_option maxRecDepth 20000
set_option maxHeartbeats 4000000
set_option linter.unusedVariables false

theorem wf_u16 {z : Int} (h : (Lit.int .u16 z).wf = true) : 0 ≤ z ∧ z < 65536 := by
  have e1 : IntKind.u16.min = 0 := rfl
  have e2 : IntKind.u16.max = 65535 := rfl
  unfold Lit.wf at h
  rw [Bool.and_eq_true, decide_eq_true_eq, decide_eq_true_eq, e1, e2] at h
  omega
theorem bez (a b : Nat) : ∃ x y : Int, x * a + y * b = (Nat.gcd a b : Int) := by
  induction a, b using Nat.gcd.induction with
  | H0 n => exact ⟨0, 1, by simp⟩
  | H1 m n hm ih =>
    obtain ⟨x, y, h⟩ := ih
    rw [← Nat.gcd_rec] at h
    refine ⟨y - x * (n / m), x, ?_⟩
    rw [← h]
    have e : ((n % m : Nat) : Int) = n - m * (n / m) := by
      have := Int.emod_def n m
      omega
    rw [e]
    grind
theorem surj {n s : Nat} (h : Nat.gcd n s = 1) {y : Nat} (hy : y < n) : ∃ i, i < n ∧ i * s % n = y := by
  obtain ⟨z, x, e⟩ := bez n s
  rw [h] at e
  have hn : (0 : Int) < n := by omega
  have h1 := Int.emod_nonneg (x * y) (by omega : (n : Int) ≠ 0)
  have h2 := Int.emod_lt_of_pos (x * y) hn
  refine ⟨((x * y) % n).toNat, by omega, ?_⟩
  have h3 : (((x * y) % n).toNat : Int) = (x * y) % n := Int.toNat_of_nonneg h1
  apply Int.ofNat.inj
  show ((((x * y) % n).toNat * s % n : Nat) : Int) = (y : Int)
  rw [Int.natCast_emod, Int.natCast_mul, h3]
  have e2 : (x * y) % n * s = y + n * (-(z * y) - (x * y / n) * s) := by
    have := Int.emod_def (x * y) n
    rw [this]
    grind
  rw [e2, Int.add_mul_emod_self_left]
  exact Int.emod_eq_of_lt (by omega) (by omega)
def seg (lo c : Nat) : List Int := (List.range c).map fun i => ((lo + i : Nat) : Int)
theorem seg_len (lo c : Nat) : (seg lo c).length = c := by simp [seg]
theorem seg_get {lo c i : Nat} (h : i < c) : (seg lo c)[i]? = some ((lo + i : Nat) : Int) := by simp [seg, h]
theorem seg_snoc (lo c : Nat) : seg lo (c + 1) = seg lo c ++ [((lo + c : Nat) : Int)] := by simp [seg, List.range_succ]
theorem seg_cons (lo c : Nat) : seg lo (c + 1) = (lo : Int) :: seg (lo + 1) c := by
  simp only [seg, List.range_succ_eq_map, List.map_cons, List.map_map, Nat.add_zero]
  congr 1
  apply List.map_congr_left
  intro a _
  simp only [Function.comp]
  congr 1
  omega
theorem seg_srt (lo : Nat) : ∀ c, Pl.Srt OI (seg lo c)
  | 0 => List.Pairwise.nil
  | c + 1 => by
    rw [seg_snoc]
    refine List.pairwise_append.2 ⟨seg_srt lo c, List.pairwise_singleton _ _, fun x hx y hy => ?_⟩
    rw [List.mem_singleton.1 hy]
    unfold seg at hx
    obtain ⟨i, hi, rfl⟩ := List.mem_map.1 hx
    have := List.mem_range.1 hi
    exact decide_eq_true (by omega)
theorem mem_seg {c : Nat} {y : Int} : y ∈ seg 0 c ↔ ∃ i : Nat, i < c ∧ y = i := by
  unfold seg
  rw [List.mem_map]
  constructor
  · rintro ⟨i, hi, rfl⟩; exact ⟨i, List.mem_range.1 hi, by simp⟩
  · rintro ⟨i, hi, rfl⟩; exact ⟨i, List.mem_range.2 hi, by simp⟩
/-- The numbers in their strides. -/
def stride (n s c : Nat) : List Int := (List.range c).map fun i => ((i * s % n : Nat) : Int)
theorem stride_snoc (n s c : Nat) : stride n s (c + 1) = stride n s c ++ [((c * s % n : Nat) : Int)] := by simp [stride, List.range_succ]
theorem stride_len (n s c : Nat) : (stride n s c).length = c := by simp [stride]
theorem puts_stride {n s : Nat} (h : Nat.gcd n s = 1) : Pl.puts OI (stride n s n) = seg 0 n := by
  refine Pl.srt_ext (Pl.puts_srt OI _) (seg_srt 0 n) fun y => ?_
  rw [Pl.mem_puts anti_OI, mem_seg]
  unfold stride
  rw [List.mem_map]
  constructor
  · rintro ⟨i, hi, rfl⟩
    have := List.mem_range.1 hi
    exact ⟨_, Nat.mod_lt _ (by omega), rfl⟩
  · rintro ⟨y, hy, rfl⟩
    obtain ⟨i, hi, e⟩ := surj h hy
    exact ⟨i, List.mem_range.2 hi, by rw [e]⟩
theorem runs_app {α β γ : Type} (f : List α → β → List α × γ) (l : List α) (a b : List β) : (Pl.runs f l (a ++ b)).2 = (Pl.runs f l a).2 ++ (Pl.runs f (Pl.runs f l a).1 b).2 := by
  induction b generalizing l a with
  | nil => simp [Pl.runs_nil]
  | cons x b ih =>
    rw [show a ++ x :: b = (a ++ [x]) ++ b by simp, ih, Pl.runs_snoc, show x :: b = [x] ++ b from rfl, ih (Pl.runs f l a).1 [x], List.append_assoc]
    rfl
theorem runs_get {α β γ : Type} (f : List α → β → List α × γ) (l : List α) {ks : List β} {j : Nat} {k : β} (h : ks[j]? = some k) : (Pl.runs f l ks).2[j]? = some (f (Pl.runs f l (ks.take j)).1 k).2 := by
  have hl := Pl.runs_len f l (ks.take j)
  have hj := (List.getElem?_eq_some_iff.1 h).1
  rw [List.length_take] at hl
  rw [← List.take_append_drop (j + 1) ks, runs_app, Pl.runs_take f l h]
  simp only
  rw [List.append_assoc, List.getElem?_append_right (by omega), show j - (Pl.runs f l (ks.take j)).2.length = 0 by omega]
  have : (List.take (j + 1) ks ++ List.drop (j + 1) ks).take j = ks.take j := by rw [List.take_append_drop]
  rw [this]
  rfl
theorem popk_0 (lo : Nat) (d : Bool) : Pl.popk (seg lo 0) d = (seg lo 0, none) := by cases d <;> rfl
theorem popk_t (lo c : Nat) : Pl.popk (seg lo (c + 1)) true = (seg lo c, some ((lo + c : Nat) : Int)) := by
  rw [seg_snoc]; simp [Pl.popk]
theorem popk_f (lo c : Nat) : Pl.popk (seg lo (c + 1)) false = (seg (lo + 1) c, some (lo : Int)) := by
  rw [seg_cons]; rfl

theorem coprime_spec {B : World} {H : Mem} {a b : Nat} (ha : a < 65536) (hb : b < 65536) :
    Fn Try.prog B 38 [.int .i64 (a : Int), .int .i64 (b : Int)] H (fun r H' => r = .bool (decide (Nat.gcd a b = 1)) ∧ H' = H) := by
  refine fn_of Go.Proofs.Try.func38 rfl Go.Proofs.Try.ntmps38 ?_
  refine (show Go' _ _ _ _ 13 [(0, _), (1, _)] [.code _] _ from ?_)
  refine Go'.seq ?_
  -- region 0 (roads.go:97)
  refine Go'.region [(0, 0)] rfl ?_
  refine O.asg rfl rfl rfl rfl rfl ?_
  refine Pl.fin [(0, _), (1, _), (4, _)] ⟨rfl, rfl, rfl, trivial⟩ ?_
  refine Go'.seq ?_
  refine Go'.block ?_
  refine Go'.loop ?_
  refine Go'.keep [(0, _), (1, _)] ⟨rfl, rfl, trivial⟩ ?_
  refine Go'.ind (σ := Nat × Nat) (fun s => s.2) (fun s H' => H' = H ∧ s.1 < 65536 ∧ s.2 < 65536 ∧ Nat.gcd s.1 s.2 = Nat.gcd a b)
    (fun s => [(0, .int .i64 (s.1 : Int)), (1, .int .i64 (s.2 : Int))]) (a, b) ⟨rfl, ha, hb, rfl⟩ rfl ?_
  rintro ⟨x, y⟩ H2 ⟨hHH, hx, hy, hg⟩ ih
  have eH : H = H2 := hHH.symm
  subst eH
  simp only at hx hy hg
  refine Go'.seq ?_
  refine Go'.seq ?_
  by_cases h0 : 0 < y
  · skip
    -- region 1 (roads.go:98)
    refine Go'.region [(0, 0), (1, 0)] rfl ?_
    refine O.mv rfl rfl rfl rfl rfl ?_
    refine O.cmp rfl rfl rfl rfl rfl rfl (gtrT (by omega)) ?_
    refine Pl.fin [(0, _), (1, _), (6, _)] ⟨rfl, rfl, rfl, trivial⟩ ?_
    refine Go'.condT rfl ?_
    refine Go'.skip ?_
    refine Go'.block ?_
    have hm := Nat.mod_lt x h0
    have hg2 : Nat.gcd y (x % y) = Nat.gcd x y := by rw [Nat.gcd_comm x y, Nat.gcd_rec y x, Nat.gcd_comm]
    -- region 2 (roads.go:99)
    refine Go'.draw (fun _ => True) [(0, 0), (1, 0), (2, 0), (3, 0), (4, 0), (5, 0)] (by kernel_rfl) (by kernel_rfl) (trivial) ?_
    refine O.mv rfl rfl rfl rfl rfl ?_
    refine O.mv rfl rfl rfl rfl rfl ?_
    refine O.mv rfl rfl rfl rfl rfl ?_
    refine O.rem (((x % y : Nat) : Int)) rfl rfl rfl rfl rfl rfl (by omega) (Int.ofNat_tmod x y).symm ?_
    refine O.asg rfl rfl rfl rfl rfl ?_
    refine O.asg rfl rfl rfl rfl rfl ?_
    refine Pl.fin [(0, _), (1, _), (6, _)] ⟨rfl, rfl, rfl, trivial⟩ ?_
    refine Go'.inBlock ?_
    refine Go'.keep [(0, _), (1, _)] ⟨rfl, rfl, trivial⟩ ?_
    refine Go'.inLoop ?_
    exact ih (y, x % y) H ⟨rfl, hy, by simp only; omega, by simp only; rw [hg2, hg]⟩ hm
  · skip
    obtain rfl : y = 0 := by omega
    rw [Nat.gcd_zero_right] at hg
    -- region 1 (roads.go:98)
    refine Go'.region [(0, 0), (1, 0)] rfl ?_
    refine O.mv rfl rfl rfl rfl rfl ?_
    refine O.cmp rfl rfl rfl rfl rfl rfl (gtrF (by omega)) ?_
    refine Pl.fin [(0, _), (1, _), (6, _)] ⟨rfl, rfl, rfl, trivial⟩ ?_
    refine Go'.condF rfl ?_
    refine Go'.exit rfl ?_
    refine Go'.seq ?_
    by_cases h1 : x = 1
    · skip
      -- region 3 (roads.go:101)
      refine Go'.region [(0, 0), (1, 0), (2, 0)] rfl ?_
      refine O.mv rfl rfl rfl rfl rfl ?_
      refine O.cmp rfl rfl rfl rfl rfl rfl (eqlT (by omega)) ?_
      refine O.asg rfl rfl rfl rfl rfl ?_
      refine Pl.fin [(4, _)] ⟨rfl, trivial⟩ ?_
      refine Go'.ret (vs := [_]) Go.Proofs.Try.func38 Go.Proofs.Try.results38 ⟨rfl, trivial⟩ ?_
      refine ⟨?_, rfl⟩
      rw [decide_eq_true (hg.symm.trans h1)]
      rfl
    · skip
      -- region 3 (roads.go:101)
      refine Go'.region [(0, 0), (1, 0), (2, 0)] rfl ?_
      refine O.mv rfl rfl rfl rfl rfl ?_
      refine O.cmp rfl rfl rfl rfl rfl rfl (eqlF (by omega)) ?_
      refine O.asg rfl rfl rfl rfl rfl ?_
      refine Pl.fin [(4, _)] ⟨rfl, trivial⟩ ?_
      refine Go'.ret (vs := [_]) Go.Proofs.Try.func38 Go.Proofs.Try.results38 ⟨rfl, trivial⟩ ?_
      refine ⟨?_, rfl⟩
      rw [decide_eq_false (fun e => h1 (hg.trans e))]
      rfl

theorem coprime_spec' {B : World} {H : Mem} {a b : Nat} {bb : Bool} (h : decide (Nat.gcd a b = 1) = bb) (ha : a < 65536) (hb : b < 65536) : Fn Try.prog B 38 [.int .i64 (a : Int), .int .i64 (b : Int)] H (fun r H' => r = .bool bb ∧ H' = H) := h ▸ coprime_spec ha hb

end Go.Bt.FZ
namespace Go.Bt.FZ
open Go Go.Proofs
set_option maxRecDepth 20000
set_option maxHeartbeats 4000000
set_option linter.unusedVariables false

theorem fnSStride {B : World} {H : Mem} {z1 z2 : Int} {u : Value} {ks : List Bool} (h1 : 0 ≤ z1 ∧ z1 < 65536) (h2 : 0 ≤ z2 ∧ z2 < 65536) (hk : InS EB H u ks) :
    Fn Try.prog B 13 [.int .u16 z1, .int .u16 z2, u] H (fun r H' => r = .bool true ∧ Fr nowhere H H') := by
  obtain ⟨a, c, hu⟩ := hk.len
  subst hu
  obtain ⟨n, rfl⟩ := Int.eq_ofNat_of_zero_le h1.1
  obtain ⟨s, rfl⟩ := Int.eq_ofNat_of_zero_le h2.1
  have hn : n < 65536 := by omega
  have hs : s < 65536 := by omega
  have hk0 := hk
  refine fn_of Go.Proofs.Try.func13 rfl Go.Proofs.Try.ntmps13 ?_
  refine (show Go' _ _ _ _ 116 [(0, _), (1, _), (2, _)] [.code _] _ from ?_)
  refine Go'.seq ?_
  -- region 0 (roads.go:223)
  refine Go'.region [(0, 0)] rfl ?_
  refine O.asg rfl rfl rfl rfl rfl ?_
  refine Pl.fin [(0, _), (1, _), (2, _), (6, _)] ⟨rfl, rfl, rfl, rfl, trivial⟩ ?_
  refine Go'.seq ?_
  refine Go'.seq ?_
  by_cases hbig : (2147483647 : Int) < (ks.length : Int)
  · skip
    -- region 1 (roads.go:224)
    refine Go'.region [(0, 0), (1, 0), (2, 0)] rfl ?_
    refine O.mv rfl rfl rfl rfl rfl ?_
    refine O.len rfl rfl rfl rfl Go.Proofs.Try.underlying50 rfl ?_
    refine O.cmp rfl rfl rfl rfl rfl rfl (gtrT (by omega)) ?_
    refine Pl.fin [(0, _), (1, _), (2, _), (6, _), (20, _)] ⟨rfl, rfl, rfl, rfl, rfl, trivial⟩ ?_
    refine Go'.condT rfl ?_
    refine Go'.seq ?_
    -- region 2 (roads.go:225)
    refine Go'.region [(0, 0)] rfl ?_
    refine O.asg rfl rfl rfl rfl rfl ?_
    refine Pl.fin [(0, _), (1, _), (2, _), (6, _)] ⟨rfl, rfl, rfl, rfl, trivial⟩ ?_
    refine Go'.ret (vs := [_]) Go.Proofs.Try.func13 Go.Proofs.Try.results13 ⟨rfl, trivial⟩ ?_
    exact ⟨rfl, Fr.refl _ _⟩
  · skip
    -- region 1 (roads.go:224)
    refine Go'.region [(0, 0), (1, 0), (2, 0)] rfl ?_
    refine O.mv rfl rfl rfl rfl rfl ?_
    refine O.len rfl rfl rfl rfl Go.Proofs.Try.underlying50 rfl ?_
    refine O.cmp rfl rfl rfl rfl rfl rfl (gtrF (by omega)) ?_
    refine Pl.fin [(0, _), (1, _), (2, _), (6, _), (20, _)] ⟨rfl, rfl, rfl, rfl, rfl, trivial⟩ ?_
    refine Go'.condF rfl ?_
    refine Go'.skip ?_
    refine Go'.seq ?_
    refine Go'.seq ?_
    by_cases hn4 : 4000 < n
    · skip
      -- region 3 (roads.go:227)
      refine Go'.region [(0, 0), (1, 0), (2, 0), (3, 0), (4, 2), (5, 0), (6, 2), (7, 2), (8, 0), (9, 0)] rfl ?_
      refine O.mv rfl rfl rfl rfl rfl ?_
      refine O.cmp rfl rfl rfl rfl rfl rfl (gtrT (by omega)) ?_
      refine O.mv rfl rfl rfl rfl rfl ?_
      refine Pl.pass rfl rfl rfl rfl ?_
      refine Pl.pass2 rfl rfl rfl rfl trivial ?_
      refine Pl.pass rfl rfl rfl rfl ?_
      refine Pl.pass2 rfl rfl rfl rfl trivial ?_
      refine Pl.pass2 rfl rfl rfl rfl trivial ?_
      refine Pl.pass rfl rfl rfl rfl ?_
      refine O.pick rfl rfl rfl rfl rfl rfl ?_
      refine Pl.fin [(0, _), (1, _), (2, _), (6, _), (30, _)] ⟨rfl, rfl, rfl, rfl, rfl, trivial⟩ ?_
      refine Go'.condT rfl ?_
      refine Go'.seq ?_
      -- region 4 (roads.go:228)
      refine Go'.region [(0, 2), (1, 0)] rfl ?_
      refine O.call rfl rfl rfl Go.Proofs.Try.call21 rfl aliveS_spec ?_
      rintro _ Hz ⟨rfl, hFz⟩
      refine ⟨trivial, ?_⟩
      refine O.asg rfl rfl rfl rfl rfl ?_
      refine Pl.fin [(0, _), (1, _), (2, _), (6, _)] ⟨rfl, rfl, rfl, rfl, trivial⟩ ?_
      refine Go'.ret (vs := [_]) Go.Proofs.Try.func13 Go.Proofs.Try.results13 ⟨rfl, trivial⟩ ?_
      exact ⟨rfl, hFz⟩
    · skip
      by_cases hg : Nat.gcd n s = 1
      rotate_left
      · skip
        -- region 3 (roads.go:227)
        refine Go'.region [(0, 0), (1, 0), (2, 0), (3, 0), (4, 2), (5, 0), (6, 2), (7, 2), (8, 0), (9, 0)] rfl ?_
        refine O.mv rfl rfl rfl rfl rfl ?_
        refine O.cmp rfl rfl rfl rfl rfl rfl (gtrF (by omega)) ?_
        refine O.mv rfl rfl rfl rfl rfl ?_
        refine O.mv rfl rfl rfl rfl rfl ?_
        refine O.cvi (v := (n : Int)) rfl rfl rfl (by rw [Go.Proofs.Try.underlying57]; rfl) Go.Proofs.Try.underlying3 rfl rfl (wrap_id (by omega)) trivial ?_
        refine O.mv rfl rfl rfl rfl rfl ?_
        refine O.cvi (v := (s : Int)) rfl rfl rfl (by rw [Go.Proofs.Try.underlying57]; rfl) Go.Proofs.Try.underlying3 rfl rfl (wrap_id (by omega)) trivial ?_
        refine O.callQ rfl rfl rfl Go.Proofs.Try.call38 rfl (coprime_spec' (decide_eq_false hg) hn hs) trivial ?_
        refine O.not rfl rfl rfl rfl rfl ?_
        refine O.pick rfl rfl rfl rfl rfl rfl ?_
        refine Pl.fin [(0, _), (1, _), (2, _), (6, _), (30, _)] ⟨rfl, rfl, rfl, rfl, rfl, trivial⟩ ?_
        refine Go'.condT rfl ?_
        refine Go'.seq ?_
        -- region 4 (roads.go:228)
        refine Go'.region [(0, 2), (1, 0)] rfl ?_
        refine O.call rfl rfl rfl Go.Proofs.Try.call21 rfl aliveS_spec ?_
        rintro _ Hz ⟨rfl, hFz⟩
        refine ⟨trivial, ?_⟩
        refine O.asg rfl rfl rfl rfl rfl ?_
        refine Pl.fin [(0, _), (1, _), (2, _), (6, _)] ⟨rfl, rfl, rfl, rfl, trivial⟩ ?_
        refine Go'.ret (vs := [_]) Go.Proofs.Try.func13 Go.Proofs.Try.results13 ⟨rfl, trivial⟩ ?_
        exact ⟨rfl, hFz⟩
      · skip
        -- region 3 (roads.go:227)
        refine Go'.region [(0, 0), (1, 0), (2, 0), (3, 0), (4, 2), (5, 0), (6, 2), (7, 2), (8, 0), (9, 0)] rfl ?_
        refine O.mv rfl rfl rfl rfl rfl ?_
        refine O.cmp rfl rfl rfl rfl rfl rfl (gtrF (by omega)) ?_
        refine O.mv rfl rfl rfl rfl rfl ?_
        refine O.mv rfl rfl rfl rfl rfl ?_
        refine O.cvi (v := (n : Int)) rfl rfl rfl (by rw [Go.Proofs.Try.underlying57]; rfl) Go.Proofs.Try.underlying3 rfl rfl (wrap_id (by omega)) trivial ?_
        refine O.mv rfl rfl rfl rfl rfl ?_
        refine O.cvi (v := (s : Int)) rfl rfl rfl (by rw [Go.Proofs.Try.underlying57]; rfl) Go.Proofs.Try.underlying3 rfl rfl (wrap_id (by omega)) trivial ?_
        refine O.callQ rfl rfl rfl Go.Proofs.Try.call38 rfl (coprime_spec' (decide_eq_true hg) hn hs) trivial ?_
        refine O.not rfl rfl rfl rfl rfl ?_
        refine O.pick rfl rfl rfl rfl rfl rfl ?_
        refine Pl.fin [(0, _), (1, _), (2, _), (6, _), (30, _)] ⟨rfl, rfl, rfl, rfl, rfl, trivial⟩ ?_
        refine Go'.condF rfl ?_
        refine Go'.skip ?_
        refine Go'.seq ?_
        -- region 5 (roads.go:230)
        refine Go'.region [(0, 0)] rfl ?_
        refine O.asg rfl rfl rfl rfl rfl ?_
        refine Pl.fin [(0, _), (1, _), (2, _), (6, _), (7, _)] ⟨rfl, rfl, rfl, rfl, rfl, trivial⟩ ?_
        refine Go'.seq ?_
        refine Go'.seq ?_
        -- region 6 (roads.go:231)
        refine Go'.region [(0, 0), (1, 2), (2, 0)] rfl ?_
        refine O.mv rfl rfl rfl rfl rfl ?_
        refine O.cvi (v := (n : Int)) rfl rfl rfl (by rw [Go.Proofs.Try.underlying57]; rfl) Go.Proofs.Try.underlying3 rfl rfl (wrap_id (by omega)) trivial ?_
        refine O.mv rfl rfl rfl rfl rfl ?_
        refine Pl.fin [(0, _), (1, _), (2, _), (6, _), (7, _), (33, _), (34, _)] ⟨rfl, rfl, rfl, rfl, rfl, rfl, rfl, trivial⟩ ?_
        refine Go'.block ?_
        refine Go'.loop ?_
        refine Go'.keep [(0, _), (1, _), (2, _), (7, _), (33, _), (34, _)] ⟨rfl, rfl, rfl, rfl, rfl, rfl, trivial⟩ ?_
        refine Go'.ind (σ := Nat × Value) (fun s => n - s.1) (fun t H' => Fr nowhere H H' ∧ t.1 ≤ n ∧ Acc EN (fun b => H.size ≤ b) H' t.2 (stride n s t.1))
          (fun t => [(0, .int .u16 (n : Int)), (1, .int .u16 (s : Int)), (2, .slice a ks.length c), (7, t.2), (33, .int .i64 (n : Int)), (34, .int .i64 (t.1 : Int))]) (0, .slice none 0 0) ⟨Fr.refl _ _, Nat.zero_le _, Acc.nil _ _ _⟩ rfl ?_
        rintro ⟨j, lv⟩ H2 ⟨hF, hjl, hA⟩ ih
        simp only at hjl hA
        have hsz := hF.size
        have hlen := stride_len n s j
        refine Go'.seq ?_
        by_cases hlt : j < n
        · skip
          -- region 7 (roads.go:231)
          refine Go'.region [(0, 0)] rfl ?_
          refine O.cmp rfl rfl rfl rfl rfl rfl (lssT (by omega)) ?_
          refine Pl.fin [(0, _), (1, _), (2, _), (7, _), (33, _), (34, _), (35, _)] ⟨rfl, rfl, rfl, rfl, rfl, rfl, rfl, trivial⟩ ?_
          refine Go'.seq ?_
          refine Go'.condT rfl ?_
          refine Go'.skip ?_
          refine Go'.seq ?_
          refine Go'.block ?_
          refine Go'.seq ?_
          -- region 8 (roads.go:231)
          refine Go'.region [(0, 0), (1, 0)] rfl ?_
          refine O.mv rfl rfl rfl rfl rfl ?_
          refine O.asg rfl rfl rfl rfl rfl ?_
          refine Pl.fin [(0, _), (1, _), (2, _), (7, _), (8, _), (33, _), (34, _), (35, _)] ⟨rfl, rfl, rfl, rfl, rfl, rfl, rfl, rfl, trivial⟩ ?_
          have hjs : j * s ≤ 4000 * 65536 := Nat.mul_le_mul (by omega) (by omega)
          have hmod := Nat.mod_lt (j * s) (show 0 < n by omega)
          obtain ⟨m, em⟩ : ∃ m, m = j * s := ⟨_, rfl⟩
          rw [← em] at hjs hmod
          -- region 9 (roads.go:232)
          refine Go'.region [(0, 0), (1, 0), (2, 0), (3, 2), (4, 0), (5, 0), (6, 2), (7, 0), (8, 2), (9, 2), (10, 0)] rfl ?_
          refine O.mv rfl rfl rfl rfl rfl ?_
          refine O.mv rfl rfl rfl rfl rfl ?_
          refine O.mv rfl rfl rfl rfl rfl ?_
          refine O.cvi (v := (s : Int)) rfl rfl rfl (by rw [Go.Proofs.Try.underlying57]; rfl) Go.Proofs.Try.underlying3 rfl rfl (wrap_id (by omega)) trivial ?_
          refine O.mul ((m : Int)) rfl rfl rfl rfl rfl rfl (by rw [em]; exact (Int.natCast_mul j s).symm) (by omega) ?_
          refine O.mv rfl rfl rfl rfl rfl ?_
          refine O.cvi (v := (n : Int)) rfl rfl rfl (by rw [Go.Proofs.Try.underlying57]; rfl) Go.Proofs.Try.underlying3 rfl rfl (wrap_id (by omega)) trivial ?_
          refine O.rem (((m % n : Nat) : Int)) rfl rfl rfl rfl rfl rfl (by omega) (Int.ofNat_tmod m n).symm ?_
          refine O.bsl (cs := (EN.enc ((m % n : Nat) : Int))) rfl rfl rfl ⟨Go.Proofs.Try.underlying22, Go.Proofs.Try.sizeOf3, Go.Proofs.Try.zeroValue3, ⟨_, Go.Proofs.Try.typeInfo3, rfl⟩, rfl, by decide, by decide⟩ rfl (by decide) (by kernel_rfl) ?_
          intro H3 M3
          have hs3 := M3.size
          have hA3 := hA.fr (M3.fr nowhere) (fun _ _ _ _ => nw)
          have m3 : Rd H3 H2.size 0 (row EN [((m % n : Nat) : Int)]) := M3.rd _ [] (by simp [row, EN])
          refine ⟨trivial, ?_⟩
          refine O.appA (E := EN) (Y := [((m % n : Nat) : Int)]) rfl rfl rfl ⟨Go.Proofs.Try.underlying22, Go.Proofs.Try.sizeOf3, Go.Proofs.Try.zeroValue3, ⟨_, Go.Proofs.Try.typeInfo3, rfl⟩, rfl, by decide, by decide⟩ rfl hA3 rfl ⟨_, _, _, rfl, m3⟩ (Nat.succ_pos _) (Nat.le_trans (Nat.mul_le_mul_left _ (Nat.le_of_ble_eq_true (n := _) (m := 4096) rfl)) (by rw [hlen]; simp only [List.length_cons, List.length_nil]; omega)) (by rw [hlen]; simp only [List.length_cons, List.length_nil]; omega) ?_
          intro v4 H4 hA4 hF4 hs4
          have hg4 := hF4.size
          rw [em, ← stride_snoc] at hA4
          refine ⟨trivial, ?_⟩
          refine O.asg rfl rfl rfl rfl rfl ?_
          refine Pl.fin [(0, _), (1, _), (2, _), (7, _), (8, _), (33, _), (34, _), (35, _)] ⟨rfl, rfl, rfl, rfl, rfl, rfl, rfl, rfl, trivial⟩ ?_
          refine Go'.inBlock ?_
          -- region 10 (roads.go:231)
          refine Go'.region [(0, 0), (1, 0)] rfl ?_
          refine O.add (((j + 1 : Nat) : Int)) rfl rfl rfl rfl rfl rfl (by omega) (by omega) ?_
          refine O.mv rfl rfl rfl rfl rfl ?_
          refine Pl.fin [(0, _), (1, _), (2, _), (7, _), (8, _), (33, _), (34, _), (35, _)] ⟨rfl, rfl, rfl, rfl, rfl, rfl, rfl, rfl, trivial⟩ ?_
          refine Go'.keep [(0, _), (1, _), (2, _), (7, _), (33, _), (34, _)] ⟨rfl, rfl, rfl, rfl, rfl, rfl, trivial⟩ ?_
          refine Go'.inLoop ?_
          exact ih (j + 1, v4) H4 ⟨(hF.trans (M3.fr nowhere)).trans' hF4 (fun _ _ _ h => h) (fun b o hb hz => by have hz' : H.size ≤ b := hz; omega), hlt, hA4.mono (fun b _ hz => hz.elim id (fun h => by omega))⟩ (by simp only; omega)
        · skip
          obtain rfl : j = n := by omega
          -- region 7 (roads.go:231)
          refine Go'.region [(0, 0)] rfl ?_
          refine O.cmp rfl rfl rfl rfl rfl rfl (lssF (by omega)) ?_
          refine Pl.fin [(0, _), (1, _), (2, _), (7, _), (33, _), (34, _), (35, _)] ⟨rfl, rfl, rfl, rfl, rfl, rfl, rfl, trivial⟩ ?_
          refine Go'.seq ?_
          refine Go'.condF rfl ?_
          refine Go'.exit rfl ?_
          refine Go'.seq ?_
          -- region 11 (roads.go:234)
          refine Go'.region [(0, 0), (1, 0), (2, 2), (3, 0), (4, 0), (5, 0), (6, 0), (7, 0)] rfl ?_
          refine O.mv rfl rfl rfl rfl rfl ?_
          refine O.mv rfl rfl rfl rfl rfl ?_
          refine O.call rfl rfl rfl Go.Proofs.Try.call39 rfl (spops_spec hA.inS (by omega) (hk.fr hF) (by omega)) ?_
          rintro _ H3 ⟨v1, v2, rfl, g1, g2, hF3⟩
          rw [puts_stride hg] at g1 g2
          replace hF := hF.trans hF3
          replace hk := hk.fr hF
          have hl1 := Pl.runs_len Pl.popk (seg 0 j) ks
          have hP := g1.inS
          have hL := g2.inS
          clear g1 g2 hA ih hF3 hlen
          obtain ⟨a1, c1, rfl⟩ := hP.len
          obtain ⟨a2, c2, rfl⟩ := hL.len
          rw [hl1]
          refine ⟨trivial, ?_⟩
          refine O.mv rfl rfl rfl rfl rfl ?_
          refine O.ext rfl rfl rfl rfl rfl rfl ?_
          refine O.ext rfl rfl rfl rfl rfl rfl ?_
          refine O.asg rfl rfl rfl rfl rfl ?_
          refine O.asg rfl rfl rfl rfl rfl ?_
          refine Pl.fin [(0, _), (2, _), (9, _), (10, _)] ⟨rfl, rfl, rfl, rfl, trivial⟩ ?_
          refine Go'.seq ?_
          -- region 12 (roads.go:235)
          refine Go'.region [(0, 0), (1, 2), (2, 0), (3, 0), (4, 0)] rfl ?_
          refine O.mv rfl rfl rfl rfl rfl ?_
          refine O.cvi (v := (j : Int)) rfl rfl rfl (by rw [Go.Proofs.Try.underlying57]; rfl) Go.Proofs.Try.underlying3 rfl rfl (wrap_id (by omega)) trivial ?_
          refine O.sub ((((0 : Nat) : Int) + (j : Int) - 1)) rfl rfl rfl rfl rfl rfl (by omega) (by omega) ?_
          refine O.asg rfl rfl rfl rfl rfl ?_
          refine O.asg rfl rfl rfl rfl rfl ?_
          refine Pl.fin [(2, _), (9, _), (10, _), (11, _), (12, _)] ⟨rfl, rfl, rfl, rfl, rfl, trivial⟩ ?_
          refine Go'.seq ?_
          refine Go'.seq ?_
          -- region 13 (roads.go:236)
          refine Go'.region [(0, 0), (1, 0), (2, 0)] rfl ?_
          refine O.mv rfl rfl rfl rfl rfl ?_
          refine O.len rfl rfl rfl rfl Go.Proofs.Try.underlying50 rfl ?_
          refine O.mv rfl rfl rfl rfl rfl ?_
          refine Pl.fin [(9, _), (10, _), (11, _), (12, _), (57, _), (58, _), (59, _)] ⟨rfl, rfl, rfl, rfl, rfl, rfl, rfl, trivial⟩ ?_
          refine Go'.block ?_
          refine Go'.loop ?_
          refine Go'.keep [(9, _), (10, _), (11, _), (12, _), (57, _), (58, _), (59, _)] ⟨rfl, rfl, rfl, rfl, rfl, rfl, rfl, trivial⟩ ?_
          refine Go'.ind (σ := Nat × Nat × Nat) (fun t => ks.length - t.1) (fun t H' => Fr nowhere H3 H' ∧ t.1 ≤ ks.length ∧ (Pl.runs Pl.popk (seg 0 j) (ks.take t.1)).1 = seg t.2.1 t.2.2 ∧ t.2.1 + t.2.2 ≤ j)
            (fun t => [(9, .slice a1 ks.length c1), (10, .slice a2 (Pl.runs Pl.popk (seg 0 j) ks).1.length c2), (11, .int .i64 (t.2.1 : Int)), (12, .int .i64 ((t.2.1 : Int) + (t.2.2 : Int) - 1)), (57, .slice a ks.length c), (58, .int .i64 (ks.length : Int)), (59, .int .i64 (t.1 : Int))]) (0, 0, j) ⟨Fr.refl _ _, Nat.zero_le _, by rw [List.take_zero]; rfl, by simp⟩ rfl ?_
          rintro ⟨q, lo, ct⟩ H4 ⟨hF4, hql, hR, hlo⟩ ih
          simp only at hql hR hlo
          have hk4 := hk.fr hF4
          have hP4 := hP.fr hF4
          have hsz := hF4.size
          refine Go'.seq ?_
          by_cases hlt2 : q < ks.length
          · skip
            obtain ⟨y, hy⟩ : ∃ y, ks[q]? = some y := ⟨ks[q], List.getElem?_eq_getElem hlt2⟩
            obtain ⟨b, o, c', e, hr⟩ := hk4.at hy
            cases e
            have hy2 := runs_get Pl.popk (seg 0 j) hy
            have hrt := congrArg Prod.fst (Pl.runs_take Pl.popk (seg 0 j) hy)
            simp only at hrt
            rw [hR] at hy2 hrt
            obtain ⟨b', o', c', e, hr'⟩ := hP4.at hy2
            rw [hl1] at e
            cases e
            -- region 14 (roads.go:236)
            refine Go'.region [(0, 0)] rfl ?_
            refine O.cmp rfl rfl rfl rfl rfl rfl (lssT (by omega)) ?_
            refine Pl.fin [(9, _), (10, _), (11, _), (12, _), (57, _), (58, _), (59, _), (60, _)] ⟨rfl, rfl, rfl, rfl, rfl, rfl, rfl, rfl, trivial⟩ ?_
            refine Go'.seq ?_
            refine Go'.condT rfl ?_
            refine Go'.skip ?_
            refine Go'.seq ?_
            refine Go'.block ?_
            refine Go'.seq ?_
            -- region 15 (roads.go:236)
            refine Go'.region [(0, 0), (1, 0), (2, 1), (3, 0), (4, 0)] rfl ?_
            refine O.mv rfl rfl rfl rfl rfl ?_
            refine O.ix (j := q) rfl rfl rfl rfl Go.Proofs.Try.underlying50 Go.Proofs.Try.sizeOf4 rfl rfl (by omega) hlt2 ?_
            refine O.ld rfl rfl rfl (fun w => ⟨Go.Proofs.Try.isAgg4 w, Go.Proofs.Try.sizeOf4 w⟩) rfl (hr 0 _ rfl) ?_
            refine O.asg rfl rfl rfl rfl rfl ?_
            refine O.asg rfl rfl rfl rfl rfl ?_
            refine Pl.fin [(9, _), (10, _), (11, _), (12, _), (13, _), (14, _), (57, _), (58, _), (59, _), (60, _)] ⟨rfl, rfl, rfl, rfl, rfl, rfl, rfl, rfl, rfl, rfl, trivial⟩ ?_
            refine Go'.seq ?_
            -- region 16 (roads.go:237)
            refine Go'.region [(0, 0), (1, 2), (2, 2)] rfl ?_
            refine O.bld (cs := (kvs none)) rfl rfl rfl rfl (st63) rfl (by kernel_rfl) ?_
            refine O.alloc rfl rfl rfl Go.Proofs.Try.zeroValue63 ?_
            intro H5 M5
            refine ⟨trivial, ?_⟩
            have hs5 := M5.size
            have w5 : Wr H5 H4.size 0 2 := M5.wr 2 (by decide)
            refine O.st rfl rfl Go.Proofs.Try.sizeOf63 rfl rfl rfl rfl rfl w5 ?_
            intro H6 W6
            have hs6 := W6.size
            replace w5 := W6.fr.wr w5
            have m5 : Rd H6 H4.size 0 (kvs none) := W6.all
            have hF6 : Fr nowhere H4 H6 := (M5.fr nowhere).trans' W6.fr (fun _ _ _ h => h) (fun b o hb hz => by have h1 := hz.1; omega)
            refine ⟨trivial, ?_⟩
            refine Pl.fin [(9, _), (10, _), (11, _), (12, _), (13, _), (14, _), (15, _), (57, _), (58, _), (59, _), (60, _)] ⟨rfl, rfl, rfl, rfl, rfl, rfl, rfl, rfl, rfl, rfl, rfl, trivial⟩ ?_
            refine Go'.seq ?_
            refine Go'.seq ?_
            rcases ct with _ | ct
            · skip
              have ez : ((q, lo, 0) : Nat × Nat × Nat).2.2 = 0 := rfl
              have ez2 : ((q, lo, 0) : Nat × Nat × Nat).2.1 = lo := rfl
              -- region 17 (roads.go:238)
              refine Go'.region [(0, 0), (1, 0), (2, 0), (3, 0), (4, 0), (5, 0)] rfl ?_
              refine O.mv rfl rfl rfl rfl rfl ?_
              refine O.mv rfl rfl rfl rfl rfl ?_
              refine O.cmp rfl rfl rfl rfl rfl rfl (leqF (by omega)) ?_
              refine O.mv rfl rfl rfl rfl rfl ?_
              refine Pl.pass rfl rfl rfl rfl ?_
              refine O.pick rfl rfl rfl rfl rfl rfl ?_
              refine Pl.fin [(9, _), (10, _), (11, _), (12, _), (13, _), (14, _), (15, _), (57, _), (58, _), (59, _), (60, _), (70, _)] ⟨rfl, rfl, rfl, rfl, rfl, rfl, rfl, rfl, rfl, rfl, rfl, rfl, trivial⟩ ?_
              refine Go'.condF rfl ?_
              refine Go'.seq ?_
              -- region 20 (roads.go:241)
              refine Go'.region [(0, 0), (1, 0), (2, 0)] rfl ?_
              refine O.mv rfl rfl rfl rfl rfl ?_
              refine O.mv rfl rfl rfl rfl rfl ?_
              refine O.cmp rfl rfl rfl rfl rfl rfl (leqF (by omega)) ?_
              refine Pl.fin [(9, _), (10, _), (11, _), (12, _), (13, _), (14, _), (15, _), (57, _), (58, _), (59, _), (60, _), (70, _), (77, _)] ⟨rfl, rfl, rfl, rfl, rfl, rfl, rfl, rfl, rfl, rfl, rfl, rfl, rfl, trivial⟩ ?_
              refine Go'.condF rfl ?_
              refine Go'.skip ?_
              refine Go'.seq ?_
              rw [popk_0] at hy2 hrt hr'
              simp only at hy2 hrt hr'
              replace hr' := (hF6).rd hr' (fun _ _ => nw)
              -- region 23 (roads.go:245)
              refine Go'.draw (fun _ => True) [(0, 0), (1, 0), (2, 0), (3, 0), (4, 0), (5, 0), (6, 0), (7, 0), (8, 1), (9, 1), (10, 0), (11, 0)] (by kernel_rfl) (by kernel_rfl) (trivial) ?_
              refine O.mv rfl rfl rfl rfl rfl ?_
              refine O.mv rfl rfl rfl rfl rfl ?_
              refine O.len rfl rfl rfl rfl Go.Proofs.Try.underlying59 rfl ?_
              refine O.cmp rfl rfl rfl rfl rfl rfl (geqF (by omega)) ?_
              refine O.mv rfl rfl rfl rfl rfl ?_
              refine O.mv rfl rfl rfl rfl rfl ?_
              refine O.mv rfl rfl rfl rfl rfl ?_
              refine O.ix (j := q) rfl rfl rfl rfl Go.Proofs.Try.underlying59 Go.Proofs.Try.sizeOf63 rfl rfl (by omega) (by omega) ?_
              refine O.lds rfl rfl rfl (fun w => ⟨Go.Proofs.Try.isAgg63 w, Go.Proofs.Try.sizeOf63 w⟩) rfl rfl hr' ?_
              refine O.lds rfl rfl rfl (fun w => ⟨Go.Proofs.Try.isAgg63 w, Go.Proofs.Try.sizeOf63 w⟩) rfl rfl m5 ?_
              refine O.bin rfl rfl rfl rfl rfl rfl (key_neq (none) _ _) ?_
              refine O.pick rfl rfl rfl rfl rfl rfl ?_
              refine Pl.fin [(9, _), (10, _), (11, _), (12, _), (13, _), (14, _), (15, _), (57, _), (58, _), (59, _), (60, _), (70, _), (77, _), (93, _)] ⟨rfl, rfl, rfl, rfl, rfl, rfl, rfl, rfl, rfl, rfl, rfl, rfl, rfl, rfl, trivial⟩ ?_
              refine Go'.condF rfl ?_
              refine Go'.skip ?_
              refine Go'.inBlock ?_
              -- region 25 (roads.go:236)
              refine Go'.region [(0, 0), (1, 0)] rfl ?_
              refine O.add (((q + 1 : Nat) : Int)) rfl rfl rfl rfl rfl rfl (by omega) (by omega) ?_
              refine O.mv rfl rfl rfl rfl rfl ?_
              refine Pl.fin [(9, _), (10, _), (11, _), (12, _), (13, _), (14, _), (15, _), (57, _), (58, _), (59, _), (60, _), (70, _), (77, _), (93, _)] ⟨rfl, rfl, rfl, rfl, rfl, rfl, rfl, rfl, rfl, rfl, rfl, rfl, rfl, rfl, trivial⟩ ?_
              refine Go'.keep [(9, _), (10, _), (11, _), (12, _), (57, _), (58, _), (59, _)] ⟨rfl, rfl, rfl, rfl, rfl, rfl, rfl, trivial⟩ ?_
              refine Go'.inLoop ?_
              exact ih (q + 1, lo, 0) H6 ⟨hF4.trans (hF6), hlt2, hrt, by simp only; omega⟩ (by simp only; omega)
            · skip
              have ez : ((q, lo, ct + 1) : Nat × Nat × Nat).2.2 = ct + 1 := rfl
              have ez2 : ((q, lo, ct + 1) : Nat × Nat × Nat).2.1 = lo := rfl
              cases y
              · skip
                have eh : (lo : Int) + ((ct + 1 : Nat) : Int) - 1 = ((lo + 1 : Nat) : Int) + (ct : Int) - 1 := by omega
                rw [eh]
                -- region 17 (roads.go:238)
                refine Go'.region [(0, 0), (1, 0), (2, 0), (3, 0), (4, 0), (5, 0)] rfl ?_
                refine O.mv rfl rfl rfl rfl rfl ?_
                refine O.mv rfl rfl rfl rfl rfl ?_
                refine O.cmp rfl rfl rfl rfl rfl rfl (leqT (by omega)) ?_
                refine O.mv rfl rfl rfl rfl rfl ?_
                refine O.mv rfl rfl rfl rfl rfl ?_
                refine O.pick rfl rfl rfl rfl rfl rfl ?_
                refine Pl.fin [(9, _), (10, _), (11, _), (12, _), (13, _), (14, _), (15, _), (57, _), (58, _), (59, _), (60, _), (70, _)] ⟨rfl, rfl, rfl, rfl, rfl, rfl, rfl, rfl, rfl, rfl, rfl, rfl, trivial⟩ ?_
                refine Go'.condF rfl ?_
                refine Go'.seq ?_
                -- region 20 (roads.go:241)
                refine Go'.region [(0, 0), (1, 0), (2, 0)] rfl ?_
                refine O.mv rfl rfl rfl rfl rfl ?_
                refine O.mv rfl rfl rfl rfl rfl ?_
                refine O.cmp rfl rfl rfl rfl rfl rfl (leqT (by omega)) ?_
                refine Pl.fin [(9, _), (10, _), (11, _), (12, _), (13, _), (14, _), (15, _), (57, _), (58, _), (59, _), (60, _), (70, _), (77, _)] ⟨rfl, rfl, rfl, rfl, rfl, rfl, rfl, rfl, rfl, rfl, rfl, rfl, rfl, trivial⟩ ?_
                refine Go'.condT rfl ?_
                refine Go'.seq ?_
                -- region 21 (roads.go:242)
                refine Go'.region [(0, 0), (1, 0), (2, 2)] rfl ?_
                refine O.mv rfl rfl rfl rfl rfl ?_
                refine O.bld (cs := (kvs (some (lo : Int)))) rfl rfl rfl rfl (st63) rfl (by kernel_rfl) ?_
                refine O.st rfl rfl Go.Proofs.Try.sizeOf63 rfl rfl rfl rfl rfl w5 ?_
                intro H7 W7
                have hs7 := W7.size
                have m7 : Rd H7 H4.size 0 (kvs (some (lo : Int))) := W7.all
                have hF7 : Fr nowhere H4 H7 := hF6.trans' W7.fr (fun _ _ _ h => h) (fun b o hb hz => by have h1 := hz.1; omega)
                refine ⟨trivial, ?_⟩
                refine Pl.fin [(9, _), (10, _), (11, _), (12, _), (13, _), (14, _), (15, _), (57, _), (58, _), (59, _), (60, _), (70, _), (77, _)] ⟨rfl, rfl, rfl, rfl, rfl, rfl, rfl, rfl, rfl, rfl, rfl, rfl, rfl, trivial⟩ ?_
                -- region 22 (roads.go:243)
                refine Go'.region [(0, 0), (1, 0), (2, 0)] rfl ?_
                refine O.mv rfl rfl rfl rfl rfl ?_
                refine O.add (((lo + 1 : Nat) : Int)) rfl rfl rfl rfl rfl rfl (by omega) (by omega) ?_
                refine O.asg rfl rfl rfl rfl rfl ?_
                refine Pl.fin [(9, _), (10, _), (11, _), (12, _), (13, _), (14, _), (15, _), (57, _), (58, _), (59, _), (60, _), (70, _), (77, _)] ⟨rfl, rfl, rfl, rfl, rfl, rfl, rfl, rfl, rfl, rfl, rfl, rfl, rfl, trivial⟩ ?_
                refine Go'.seq ?_
                rw [popk_f] at hy2 hrt hr'
                simp only at hy2 hrt hr'
                replace hr' := (hF7).rd hr' (fun _ _ => nw)
                -- region 23 (roads.go:245)
                refine Go'.draw (fun _ => True) [(0, 0), (1, 0), (2, 0), (3, 0), (4, 0), (5, 0), (6, 0), (7, 0), (8, 1), (9, 1), (10, 0), (11, 0)] (by kernel_rfl) (by kernel_rfl) (trivial) ?_
                refine O.mv rfl rfl rfl rfl rfl ?_
                refine O.mv rfl rfl rfl rfl rfl ?_
                refine O.len rfl rfl rfl rfl Go.Proofs.Try.underlying59 rfl ?_
                refine O.cmp rfl rfl rfl rfl rfl rfl (geqF (by omega)) ?_
                refine O.mv rfl rfl rfl rfl rfl ?_
                refine O.mv rfl rfl rfl rfl rfl ?_
                refine O.mv rfl rfl rfl rfl rfl ?_
                refine O.ix (j := q) rfl rfl rfl rfl Go.Proofs.Try.underlying59 Go.Proofs.Try.sizeOf63 rfl rfl (by omega) (by omega) ?_
                refine O.lds rfl rfl rfl (fun w => ⟨Go.Proofs.Try.isAgg63 w, Go.Proofs.Try.sizeOf63 w⟩) rfl rfl hr' ?_
                refine O.lds rfl rfl rfl (fun w => ⟨Go.Proofs.Try.isAgg63 w, Go.Proofs.Try.sizeOf63 w⟩) rfl rfl m7 ?_
                refine O.bin rfl rfl rfl rfl rfl rfl (key_neq (some (lo : Int)) _ _) ?_
                refine O.pick rfl rfl rfl rfl rfl rfl ?_
                refine Pl.fin [(9, _), (10, _), (11, _), (12, _), (13, _), (14, _), (15, _), (57, _), (58, _), (59, _), (60, _), (70, _), (77, _), (93, _)] ⟨rfl, rfl, rfl, rfl, rfl, rfl, rfl, rfl, rfl, rfl, rfl, rfl, rfl, rfl, trivial⟩ ?_
                refine Go'.condF rfl ?_
                refine Go'.skip ?_
                refine Go'.inBlock ?_
                -- region 25 (roads.go:236)
                refine Go'.region [(0, 0), (1, 0)] rfl ?_
                refine O.add (((q + 1 : Nat) : Int)) rfl rfl rfl rfl rfl rfl (by omega) (by omega) ?_
                refine O.mv rfl rfl rfl rfl rfl ?_
                refine Pl.fin [(9, _), (10, _), (11, _), (12, _), (13, _), (14, _), (15, _), (57, _), (58, _), (59, _), (60, _), (70, _), (77, _), (93, _)] ⟨rfl, rfl, rfl, rfl, rfl, rfl, rfl, rfl, rfl, rfl, rfl, rfl, rfl, rfl, trivial⟩ ?_
                refine Go'.keep [(9, _), (10, _), (11, _), (12, _), (57, _), (58, _), (59, _)] ⟨rfl, rfl, rfl, rfl, rfl, rfl, rfl, trivial⟩ ?_
                refine Go'.inLoop ?_
                exact ih (q + 1, lo + 1, ct) H7 ⟨hF4.trans (hF7), hlt2, hrt, by simp only; omega⟩ (by simp only; omega)
              · skip
                have eh : (lo : Int) + ((ct + 1 : Nat) : Int) - 1 = ((lo + ct : Nat) : Int) := by omega
                rw [eh]
                -- region 17 (roads.go:238)
                refine Go'.region [(0, 0), (1, 0), (2, 0), (3, 0), (4, 0), (5, 0)] rfl ?_
                refine O.mv rfl rfl rfl rfl rfl ?_
                refine O.mv rfl rfl rfl rfl rfl ?_
                refine O.cmp rfl rfl rfl rfl rfl rfl (leqT (by omega)) ?_
                refine O.mv rfl rfl rfl rfl rfl ?_
                refine O.mv rfl rfl rfl rfl rfl ?_
                refine O.pick rfl rfl rfl rfl rfl rfl ?_
                refine Pl.fin [(9, _), (10, _), (11, _), (12, _), (13, _), (14, _), (15, _), (57, _), (58, _), (59, _), (60, _), (70, _)] ⟨rfl, rfl, rfl, rfl, rfl, rfl, rfl, rfl, rfl, rfl, rfl, rfl, trivial⟩ ?_
                refine Go'.condT rfl ?_
                refine Go'.seq ?_
                -- region 18 (roads.go:239)
                refine Go'.region [(0, 0), (1, 0), (2, 2)] rfl ?_
                refine O.mv rfl rfl rfl rfl rfl ?_
                refine O.bld (cs := (kvs (some ((lo + ct : Nat) : Int)))) rfl rfl rfl rfl (st63) rfl (by kernel_rfl) ?_
                refine O.st rfl rfl Go.Proofs.Try.sizeOf63 rfl rfl rfl rfl rfl w5 ?_
                intro H7 W7
                have hs7 := W7.size
                have m7 : Rd H7 H4.size 0 (kvs (some ((lo + ct : Nat) : Int))) := W7.all
                have hF7 : Fr nowhere H4 H7 := hF6.trans' W7.fr (fun _ _ _ h => h) (fun b o hb hz => by have h1 := hz.1; omega)
                refine ⟨trivial, ?_⟩
                refine Pl.fin [(9, _), (10, _), (11, _), (12, _), (13, _), (14, _), (15, _), (57, _), (58, _), (59, _), (60, _), (70, _)] ⟨rfl, rfl, rfl, rfl, rfl, rfl, rfl, rfl, rfl, rfl, rfl, rfl, trivial⟩ ?_
                -- region 19 (roads.go:240)
                refine Go'.region [(0, 0), (1, 0), (2, 0)] rfl ?_
                refine O.mv rfl rfl rfl rfl rfl ?_
                refine O.sub (((lo : Int) + (ct : Int) - 1)) rfl rfl rfl rfl rfl rfl (by omega) (by omega) ?_
                refine O.asg rfl rfl rfl rfl rfl ?_
                refine Pl.fin [(9, _), (10, _), (11, _), (12, _), (13, _), (14, _), (15, _), (57, _), (58, _), (59, _), (60, _), (70, _)] ⟨rfl, rfl, rfl, rfl, rfl, rfl, rfl, rfl, rfl, rfl, rfl, rfl, trivial⟩ ?_
                refine Go'.seq ?_
                rw [popk_t] at hy2 hrt hr'
                simp only at hy2 hrt hr'
                replace hr' := (hF7).rd hr' (fun _ _ => nw)
                -- region 23 (roads.go:245)
                refine Go'.draw (fun _ => True) [(0, 0), (1, 0), (2, 0), (3, 0), (4, 0), (5, 0), (6, 0), (7, 0), (8, 1), (9, 1), (10, 0), (11, 0)] (by kernel_rfl) (by kernel_rfl) (trivial) ?_
                refine O.mv rfl rfl rfl rfl rfl ?_
                refine O.mv rfl rfl rfl rfl rfl ?_
                refine O.len rfl rfl rfl rfl Go.Proofs.Try.underlying59 rfl ?_
                refine O.cmp rfl rfl rfl rfl rfl rfl (geqF (by omega)) ?_
                refine O.mv rfl rfl rfl rfl rfl ?_
                refine O.mv rfl rfl rfl rfl rfl ?_
                refine O.mv rfl rfl rfl rfl rfl ?_
                refine O.ix (j := q) rfl rfl rfl rfl Go.Proofs.Try.underlying59 Go.Proofs.Try.sizeOf63 rfl rfl (by omega) (by omega) ?_
                refine O.lds rfl rfl rfl (fun w => ⟨Go.Proofs.Try.isAgg63 w, Go.Proofs.Try.sizeOf63 w⟩) rfl rfl hr' ?_
                refine O.lds rfl rfl rfl (fun w => ⟨Go.Proofs.Try.isAgg63 w, Go.Proofs.Try.sizeOf63 w⟩) rfl rfl m7 ?_
                refine O.bin rfl rfl rfl rfl rfl rfl (key_neq (some ((lo + ct : Nat) : Int)) _ _) ?_
                refine O.pick rfl rfl rfl rfl rfl rfl ?_
                refine Pl.fin [(9, _), (10, _), (11, _), (12, _), (13, _), (14, _), (15, _), (57, _), (58, _), (59, _), (60, _), (70, _), (93, _)] ⟨rfl, rfl, rfl, rfl, rfl, rfl, rfl, rfl, rfl, rfl, rfl, rfl, rfl, trivial⟩ ?_
                refine Go'.condF rfl ?_
                refine Go'.skip ?_
                refine Go'.inBlock ?_
                -- region 25 (roads.go:236)
                refine Go'.region [(0, 0), (1, 0)] rfl ?_
                refine O.add (((q + 1 : Nat) : Int)) rfl rfl rfl rfl rfl rfl (by omega) (by omega) ?_
                refine O.mv rfl rfl rfl rfl rfl ?_
                refine Pl.fin [(9, _), (10, _), (11, _), (12, _), (13, _), (14, _), (15, _), (57, _), (58, _), (59, _), (60, _), (70, _), (93, _)] ⟨rfl, rfl, rfl, rfl, rfl, rfl, rfl, rfl, rfl, rfl, rfl, rfl, rfl, trivial⟩ ?_
                refine Go'.keep [(9, _), (10, _), (11, _), (12, _), (57, _), (58, _), (59, _)] ⟨rfl, rfl, rfl, rfl, rfl, rfl, rfl, trivial⟩ ?_
                refine Go'.inLoop ?_
                exact ih (q + 1, lo, ct) H7 ⟨hF4.trans (hF7), hlt2, hrt, by simp only; omega⟩ (by simp only; omega)
          · skip
            have ez : ((q, lo, ct) : Nat × Nat × Nat).2.1 = lo := rfl
            have ez2 : ((q, lo, ct) : Nat × Nat × Nat).2.2 = ct := rfl
            obtain rfl : q = ks.length := by omega
            rw [List.take_length] at hR
            have hL4 := hL.fr hF4
            have hlR := congrArg List.length hR
            rw [seg_len] at hlR
            clear ih
            -- region 14 (roads.go:236)
            refine Go'.region [(0, 0)] rfl ?_
            refine O.cmp rfl rfl rfl rfl rfl rfl (lssF (by omega)) ?_
            refine Pl.fin [(9, _), (10, _), (11, _), (12, _), (57, _), (58, _), (59, _), (60, _)] ⟨rfl, rfl, rfl, rfl, rfl, rfl, rfl, rfl, trivial⟩ ?_
            refine Go'.seq ?_
            refine Go'.condF rfl ?_
            refine Go'.exit rfl ?_
            refine Go'.seq ?_
            refine Go'.seq ?_
            -- region 26 (roads.go:249)
            refine Go'.region [(0, 0), (1, 0), (2, 0), (3, 0), (4, 0), (5, 0), (6, 0)] rfl ?_
            refine O.mv rfl rfl rfl rfl rfl ?_
            refine O.len rfl rfl rfl rfl Go.Proofs.Try.underlying22 rfl ?_
            refine O.mv rfl rfl rfl rfl rfl ?_
            refine O.mv rfl rfl rfl rfl rfl ?_
            refine O.sub (((ct : Int) - 1)) rfl rfl rfl rfl rfl rfl (by omega) (by omega) ?_
            refine O.add ((ct : Int)) rfl rfl rfl rfl rfl rfl (by omega) (by omega) ?_
            refine O.cmp rfl rfl rfl rfl rfl rfl (neqF (by omega)) ?_
            refine Pl.fin [(10, _), (11, _), (101, _)] ⟨rfl, rfl, rfl, trivial⟩ ?_
            refine Go'.condF rfl ?_
            refine Go'.skip ?_
            refine Go'.seq ?_
            refine Go'.seq ?_
            -- region 28 (roads.go:252)
            refine Go'.region [(0, 0), (1, 0), (2, 0)] rfl ?_
            refine O.mv rfl rfl rfl rfl rfl ?_
            refine O.len rfl rfl rfl rfl Go.Proofs.Try.underlying22 rfl ?_
            refine O.mv rfl rfl rfl rfl rfl ?_
            refine Pl.fin [(11, _), (102, _), (103, _), (104, _)] ⟨rfl, rfl, rfl, rfl, trivial⟩ ?_
            refine Go'.block ?_
            refine Go'.loop ?_
            refine Go'.keep [(11, _), (102, _), (103, _), (104, _)] ⟨rfl, rfl, rfl, rfl, trivial⟩ ?_
            refine Go'.ind (σ := Nat) (fun t => ct - t) (fun t H' => H' = H4 ∧ t ≤ ct)
              (fun t => [(11, .int .i64 (lo : Int)), (102, .slice a2 (Pl.runs Pl.popk (seg 0 j) ks).1.length c2), (103, .int .i64 ((Pl.runs Pl.popk (seg 0 j) ks).1.length : Int)), (104, .int .i64 (t : Int))]) 0 ⟨rfl, Nat.zero_le _⟩ rfl ?_
            rintro t H5 ⟨hHH, htl⟩ ih
            have eH : H4 = H5 := hHH.symm
            subst eH
            refine Go'.seq ?_
            by_cases hlt3 : t < ct
            · skip
              have hy : (Pl.runs Pl.popk (seg 0 j) ks).1[t]? = some ((lo + t : Nat) : Int) := by rw [hR]; exact seg_get hlt3
              obtain ⟨b, o, c', e, hr⟩ := hL4.at hy
              cases e
              -- region 29 (roads.go:252)
              refine Go'.region [(0, 0)] rfl ?_
              refine O.cmp rfl rfl rfl rfl rfl rfl (lssT (by omega)) ?_
              refine Pl.fin [(11, _), (102, _), (103, _), (104, _), (105, _)] ⟨rfl, rfl, rfl, rfl, rfl, trivial⟩ ?_
              refine Go'.seq ?_
              refine Go'.condT rfl ?_
              refine Go'.skip ?_
              refine Go'.seq ?_
              refine Go'.block ?_
              refine Go'.seq ?_
              -- region 30 (roads.go:252)
              refine Go'.region [(0, 0), (1, 0), (2, 1), (3, 0), (4, 0)] rfl ?_
              refine O.mv rfl rfl rfl rfl rfl ?_
              refine O.ix (j := t) rfl rfl rfl rfl Go.Proofs.Try.underlying22 Go.Proofs.Try.sizeOf3 rfl rfl (by omega) (by omega) ?_
              refine O.ld rfl rfl rfl (fun w => ⟨Go.Proofs.Try.isAgg3 w, Go.Proofs.Try.sizeOf3 w⟩) rfl (hr 0 _ rfl) ?_
              refine O.asg rfl rfl rfl rfl rfl ?_
              refine O.asg rfl rfl rfl rfl rfl ?_
              refine Pl.fin [(11, _), (16, _), (17, _), (102, _), (103, _), (104, _), (105, _)] ⟨rfl, rfl, rfl, rfl, rfl, rfl, rfl, trivial⟩ ?_
              refine Go'.seq ?_
              -- region 31 (roads.go:253)
              refine Go'.region [(0, 0), (1, 0), (2, 0), (3, 0), (4, 0)] rfl ?_
              refine O.mv rfl rfl rfl rfl rfl ?_
              refine O.mv rfl rfl rfl rfl rfl ?_
              refine O.mv rfl rfl rfl rfl rfl ?_
              refine O.add (((lo + t : Nat) : Int)) rfl rfl rfl rfl rfl rfl (by omega) (by omega) ?_
              refine O.cmp rfl rfl rfl rfl rfl rfl (neqF (by omega)) ?_
              refine Pl.fin [(11, _), (16, _), (17, _), (102, _), (103, _), (104, _), (105, _), (113, _)] ⟨rfl, rfl, rfl, rfl, rfl, rfl, rfl, rfl, trivial⟩ ?_
              refine Go'.condF rfl ?_
              refine Go'.skip ?_
              refine Go'.inBlock ?_
              -- region 33 (roads.go:252)
              refine Go'.region [(0, 0), (1, 0)] rfl ?_
              refine O.add (((t + 1 : Nat) : Int)) rfl rfl rfl rfl rfl rfl (by omega) (by omega) ?_
              refine O.mv rfl rfl rfl rfl rfl ?_
              refine Pl.fin [(11, _), (16, _), (17, _), (102, _), (103, _), (104, _), (105, _), (113, _)] ⟨rfl, rfl, rfl, rfl, rfl, rfl, rfl, rfl, trivial⟩ ?_
              refine Go'.keep [(11, _), (102, _), (103, _), (104, _)] ⟨rfl, rfl, rfl, rfl, trivial⟩ ?_
              refine Go'.inLoop ?_
              exact ih (t + 1) H4 ⟨rfl, hlt3⟩ (by omega)
            · skip
              -- region 29 (roads.go:252)
              refine Go'.region [(0, 0)] rfl ?_
              refine O.cmp rfl rfl rfl rfl rfl rfl (lssF (by omega)) ?_
              refine Pl.fin [(11, _), (102, _), (103, _), (104, _), (105, _)] ⟨rfl, rfl, rfl, rfl, rfl, trivial⟩ ?_
              refine Go'.seq ?_
              refine Go'.condF rfl ?_
              refine Go'.exit rfl ?_
              refine Go'.seq ?_
              -- region 34 (roads.go:257)
              refine Go'.region [(0, 2), (1, 0)] rfl ?_
              refine O.call rfl rfl rfl Go.Proofs.Try.call21 rfl aliveS_spec ?_
              rintro _ Hz ⟨rfl, hFz⟩
              refine ⟨trivial, ?_⟩
              refine O.asg rfl rfl rfl rfl rfl ?_
              refine Pl.fin [(6, _)] ⟨rfl, trivial⟩ ?_
              refine Go'.ret (vs := [_]) Go.Proofs.Try.func13 Go.Proofs.Try.results13 ⟨rfl, trivial⟩ ?_
              exact ⟨rfl, (hF.trans hF4).trans hFz⟩

end Go.Bt.FZ
