/- Contracts of functions of the program, proved by walking through their code. Conditions: those that each theorem names. -/
import Derived.Laws.StructEq
import Derived.Test.YtknkmaigdgfhlaaTouB
namespace Go.Bt.FW
open Go Go.Proofs
set_option maxRecDepth 20000
set_option maxHeartbeats 4000000
set_option linter.unusedVariables false

theorem fieldsW : Try.prog.underlying 54 = some (.struct (Try.prog.fieldsOf 54)) := by unfold Program.fieldsOf; rw [Try.underlying54]
theorem word_neq (x : Wk × Int) (a b : Operand) (w : World) : (eqGuard .neq 54 a b (.agg (EJ.enc x).toArray) (.agg (EJ.enc x).toArray)).run Try.prog w = .ok () w ∧ (binOp .neq 54 (.agg (EJ.enc x).toArray) (.agg (EJ.enc x).toArray)).run Try.prog w = .ok (.bool false) w := by
  refine ⟨run_eqGuard_agg w _ _ _ _ _ _ Try.eqGuardType54, ?_⟩
  rw [run_neq_struct]
  have hs : ∀ s : ByteArray, (Op.equalIn 9999 9 (.string s) (.string s)).run Try.prog w = .ok true w := fun s => by
    have := run_equalIn_string w 9998 9 s s Try.underlying9
    simpa using this
  have h : (Op.equalIn 10000 54 (.agg (EJ.enc x).toArray) (.agg (EJ.enc x).toArray)).run Try.prog w = .ok true w := by
    rw [run_equalIn_agg w 9999 54 _ _ fieldsW Try.stoodInHeld54]
    simp [EJ, Op.eqFields, Program.fieldsOf, Try.underlying54, part, Try.isAgg3, Try.isAgg9, run_equalIn_int w 9998 3 _ _ _ _ Try.underlying3, hs]
  rw [h]; rfl
theorem bool_neq (y : Bool) (a b : Operand) (w : World) : (eqGuard .neq 4 a b (.bool y) (.bool y)).run Try.prog w = .ok () w ∧ (binOp .neq 4 (.bool y) (.bool y)).run Try.prog w = .ok (.bool false) w := by
  constructor
  · unfold eqGuard
    split <;> simp
  · have h := run_equalIn_bool' w 9999 4 y y Try.underlying4
    simp only [beq_self_eq_true] at h
    have h2 : (Op.equal 4 (.bool y) (.bool y)).run Try.prog w = .ok true w := h
    simp [binOp, h2]

theorem eqBools_spec {B : World} {H : Mem} {u v : Value} {l : List (Bool)} (hu : InS EB H u l) (hv : InS EB H v l) (hll : l.length ≤ 4294967296) :
    Fn Try.prog B 47 [u, v] H (fun r H' => r = .bool true ∧ H' = H) := by
  obtain ⟨a, c, e⟩ := hu.len
  subst e
  obtain ⟨a', c', e⟩ := hv.len
  subst e
  refine fn_of Go.Proofs.Try.func47 rfl Go.Proofs.Try.ntmps47 ?_
  refine (show Go' _ _ _ _ 26 [(0, _), (1, _)] [.code _] _ from ?_)
  refine Go'.seq ?_
  -- region 0 (slices.go:20)
  refine Go'.region [(0, 0)] rfl ?_
  refine O.asg rfl rfl rfl rfl rfl ?_
  refine Pl.fin [(0, _), (1, _), (4, _)] ⟨rfl, rfl, rfl, trivial⟩ ?_
  refine Go'.seq ?_
  refine Go'.seq ?_
  -- region 1 (slices.go:21)
  refine Go'.region [(0, 0), (1, 0), (2, 0), (3, 0), (4, 0)] rfl ?_
  refine O.mv rfl rfl rfl rfl rfl ?_
  refine O.len rfl rfl rfl rfl Go.Proofs.Try.underlying50 rfl ?_
  refine O.mv rfl rfl rfl rfl rfl ?_
  refine O.len rfl rfl rfl rfl Go.Proofs.Try.underlying50 rfl ?_
  refine O.cmp rfl rfl rfl rfl rfl rfl (neqF (by omega)) ?_
  refine Pl.fin [(0, _), (1, _), (4, _), (10, _)] ⟨rfl, rfl, rfl, rfl, trivial⟩ ?_
  refine Go'.condF rfl ?_
  refine Go'.skip ?_
  refine Go'.seq ?_
  refine Go'.seq ?_
  -- region 3 (slices.go:24)
  refine Go'.region [(0, 0), (1, 0), (2, 0)] rfl ?_
  refine O.mv rfl rfl rfl rfl rfl ?_
  refine O.len rfl rfl rfl rfl Go.Proofs.Try.underlying50 rfl ?_
  refine O.mv rfl rfl rfl rfl rfl ?_
  refine Pl.fin [(0, _), (1, _), (4, _), (12, _), (13, _)] ⟨rfl, rfl, rfl, rfl, rfl, trivial⟩ ?_
  refine Go'.block ?_
  refine Go'.loop ?_
  refine Go'.keep [(0, _), (1, _), (4, _), (12, _), (13, _)] ⟨rfl, rfl, rfl, rfl, rfl, trivial⟩ ?_
  refine Go'.ind (σ := Nat) (fun j => l.length - j) (fun j H' => H' = H ∧ j ≤ l.length)
    (fun j => [(0, .slice a l.length c), (1, .slice a' l.length c'), (4, .bool false), (12, .int .i64 (l.length : Int)), (13, .int .i64 (j : Int))]) 0 ⟨rfl, Nat.zero_le _⟩ rfl ?_
  rintro j H2 ⟨hHH, hjl⟩ ih
  have eH : H = H2 := hHH.symm
  subst eH
  clear hHH
  refine Go'.seq ?_
  by_cases hlt : j < l.length
  · skip
    obtain ⟨y, hy⟩ : ∃ y, l[j]? = some y := ⟨l[j], List.getElem?_eq_getElem hlt⟩
    obtain ⟨b, o, cc, e, hr⟩ := hu.at hy
    cases e
    obtain ⟨b', o', cc', e, hr'⟩ := hv.at hy
    cases e
    -- region 4 (slices.go:24)
    refine Go'.region [(0, 0)] rfl ?_
    refine O.cmp rfl rfl rfl rfl rfl rfl (lssT (by omega)) ?_
    refine Pl.fin [(0, _), (1, _), (4, _), (12, _), (13, _), (14, _)] ⟨rfl, rfl, rfl, rfl, rfl, rfl, trivial⟩ ?_
    refine Go'.seq ?_
    refine Go'.condT rfl ?_
    refine Go'.skip ?_
    refine Go'.seq ?_
    refine Go'.block ?_
    refine Go'.seq ?_
    -- region 5 (slices.go:24)
    refine Go'.region [(0, 0), (1, 0)] rfl ?_
    refine O.mv rfl rfl rfl rfl rfl ?_
    refine O.asg rfl rfl rfl rfl rfl ?_
    refine Pl.fin [(0, _), (1, _), (4, _), (5, _), (12, _), (13, _), (14, _)] ⟨rfl, rfl, rfl, rfl, rfl, rfl, rfl, trivial⟩ ?_
    refine Go'.seq ?_
    -- region 6 (slices.go:25)
    refine Go'.draw (fun _ => True) [(0, 0), (1, 0), (2, 0), (3, 1), (4, 0), (5, 0), (6, 0), (7, 1), (8, 0)] (by kernel_rfl) (by kernel_rfl) (trivial) ?_
    refine O.mv rfl rfl rfl rfl rfl ?_
    refine O.mv rfl rfl rfl rfl rfl ?_
    refine O.ix (j := j) rfl rfl rfl rfl Go.Proofs.Try.underlying50 Go.Proofs.Try.sizeOf4 rfl rfl (by omega) hlt ?_
    refine O.ld rfl rfl rfl (fun w => ⟨Go.Proofs.Try.isAgg4 w, Go.Proofs.Try.sizeOf4 w⟩) rfl (hr 0 _ rfl) ?_
    refine O.mv rfl rfl rfl rfl rfl ?_
    refine O.mv rfl rfl rfl rfl rfl ?_
    refine O.ix (j := j) rfl rfl rfl rfl Go.Proofs.Try.underlying50 Go.Proofs.Try.sizeOf4 rfl rfl (by omega) hlt ?_
    refine O.ld rfl rfl rfl (fun w => ⟨Go.Proofs.Try.isAgg4 w, Go.Proofs.Try.sizeOf4 w⟩) rfl (hr' 0 _ rfl) ?_
    refine O.bin rfl rfl rfl rfl rfl rfl (bool_neq y _ _) ?_
    refine Pl.fin [(0, _), (1, _), (4, _), (5, _), (12, _), (13, _), (14, _), (24, _)] ⟨rfl, rfl, rfl, rfl, rfl, rfl, rfl, rfl, trivial⟩ ?_
    refine Go'.condF rfl ?_
    refine Go'.skip ?_
    refine Go'.inBlock ?_
    -- region 8 (slices.go:24)
    refine Go'.region [(0, 0), (1, 0)] rfl ?_
    refine O.add (((j + 1 : Nat) : Int)) rfl rfl rfl rfl rfl rfl (by omega) (by omega) ?_
    refine O.mv rfl rfl rfl rfl rfl ?_
    refine Pl.fin [(0, _), (1, _), (4, _), (5, _), (12, _), (13, _), (14, _), (24, _)] ⟨rfl, rfl, rfl, rfl, rfl, rfl, rfl, rfl, trivial⟩ ?_
    refine Go'.keep [(0, _), (1, _), (4, _), (12, _), (13, _)] ⟨rfl, rfl, rfl, rfl, rfl, trivial⟩ ?_
    refine Go'.inLoop ?_
    exact ih (j + 1) H ⟨rfl, hlt⟩ (by omega)
  · skip
    -- region 4 (slices.go:24)
    refine Go'.region [(0, 0)] rfl ?_
    refine O.cmp rfl rfl rfl rfl rfl rfl (lssF (by omega)) ?_
    refine Pl.fin [(0, _), (1, _), (4, _), (12, _), (13, _), (14, _)] ⟨rfl, rfl, rfl, rfl, rfl, rfl, trivial⟩ ?_
    refine Go'.seq ?_
    refine Go'.condF rfl ?_
    refine Go'.exit rfl ?_
    refine Go'.seq ?_
    -- region 9 (slices.go:29)
    refine Go'.region [(0, 0)] rfl ?_
    refine O.asg rfl rfl rfl rfl rfl ?_
    refine Pl.fin [(4, _)] ⟨rfl, trivial⟩ ?_
    refine Go'.ret (vs := [_]) Go.Proofs.Try.func47 Go.Proofs.Try.results47 ⟨rfl, trivial⟩ ?_
    exact ⟨rfl, rfl⟩

theorem eqWords_spec {B : World} {H : Mem} {u v : Value} {l : List (Wk × Int)} (hu : InS EJ H u l) (hv : InS EJ H v l) (hll : l.length ≤ 4294967296) :
    Fn Try.prog B 54 [u, v] H (fun r H' => r = .bool true ∧ H' = H) := by
  obtain ⟨a, c, e⟩ := hu.len
  subst e
  obtain ⟨a', c', e⟩ := hv.len
  subst e
  refine fn_of Go.Proofs.Try.func54 rfl Go.Proofs.Try.ntmps54 ?_
  refine (show Go' _ _ _ _ 26 [(0, _), (1, _)] [.code _] _ from ?_)
  refine Go'.seq ?_
  -- region 0 (slices.go:20)
  refine Go'.region [(0, 0)] rfl ?_
  refine O.asg rfl rfl rfl rfl rfl ?_
  refine Pl.fin [(0, _), (1, _), (4, _)] ⟨rfl, rfl, rfl, trivial⟩ ?_
  refine Go'.seq ?_
  refine Go'.seq ?_
  -- region 1 (slices.go:21)
  refine Go'.region [(0, 0), (1, 0), (2, 0), (3, 0), (4, 0)] rfl ?_
  refine O.mv rfl rfl rfl rfl rfl ?_
  refine O.len rfl rfl rfl rfl Go.Proofs.Try.underlying26 rfl ?_
  refine O.mv rfl rfl rfl rfl rfl ?_
  refine O.len rfl rfl rfl rfl Go.Proofs.Try.underlying26 rfl ?_
  refine O.cmp rfl rfl rfl rfl rfl rfl (neqF (by omega)) ?_
  refine Pl.fin [(0, _), (1, _), (4, _), (10, _)] ⟨rfl, rfl, rfl, rfl, trivial⟩ ?_
  refine Go'.condF rfl ?_
  refine Go'.skip ?_
  refine Go'.seq ?_
  refine Go'.seq ?_
  -- region 3 (slices.go:24)
  refine Go'.region [(0, 0), (1, 0), (2, 0)] rfl ?_
  refine O.mv rfl rfl rfl rfl rfl ?_
  refine O.len rfl rfl rfl rfl Go.Proofs.Try.underlying26 rfl ?_
  refine O.mv rfl rfl rfl rfl rfl ?_
  refine Pl.fin [(0, _), (1, _), (4, _), (12, _), (13, _)] ⟨rfl, rfl, rfl, rfl, rfl, trivial⟩ ?_
  refine Go'.block ?_
  refine Go'.loop ?_
  refine Go'.keep [(0, _), (1, _), (4, _), (12, _), (13, _)] ⟨rfl, rfl, rfl, rfl, rfl, trivial⟩ ?_
  refine Go'.ind (σ := Nat) (fun j => l.length - j) (fun j H' => H' = H ∧ j ≤ l.length)
    (fun j => [(0, .slice a l.length c), (1, .slice a' l.length c'), (4, .bool false), (12, .int .i64 (l.length : Int)), (13, .int .i64 (j : Int))]) 0 ⟨rfl, Nat.zero_le _⟩ rfl ?_
  rintro j H2 ⟨hHH, hjl⟩ ih
  have eH : H = H2 := hHH.symm
  subst eH
  clear hHH
  refine Go'.seq ?_
  by_cases hlt : j < l.length
  · skip
    obtain ⟨y, hy⟩ : ∃ y, l[j]? = some y := ⟨l[j], List.getElem?_eq_getElem hlt⟩
    obtain ⟨b, o, cc, e, hr⟩ := hu.at hy
    cases e
    obtain ⟨b', o', cc', e, hr'⟩ := hv.at hy
    cases e
    -- region 4 (slices.go:24)
    refine Go'.region [(0, 0)] rfl ?_
    refine O.cmp rfl rfl rfl rfl rfl rfl (lssT (by omega)) ?_
    refine Pl.fin [(0, _), (1, _), (4, _), (12, _), (13, _), (14, _)] ⟨rfl, rfl, rfl, rfl, rfl, rfl, trivial⟩ ?_
    refine Go'.seq ?_
    refine Go'.condT rfl ?_
    refine Go'.skip ?_
    refine Go'.seq ?_
    refine Go'.block ?_
    refine Go'.seq ?_
    -- region 5 (slices.go:24)
    refine Go'.region [(0, 0), (1, 0)] rfl ?_
    refine O.mv rfl rfl rfl rfl rfl ?_
    refine O.asg rfl rfl rfl rfl rfl ?_
    refine Pl.fin [(0, _), (1, _), (4, _), (5, _), (12, _), (13, _), (14, _)] ⟨rfl, rfl, rfl, rfl, rfl, rfl, rfl, trivial⟩ ?_
    refine Go'.seq ?_
    -- region 6 (slices.go:25)
    refine Go'.draw (fun _ => True) [(0, 0), (1, 0), (2, 0), (3, 1), (4, 0), (5, 0), (6, 0), (7, 1), (8, 0)] (by kernel_rfl) (by kernel_rfl) (trivial) ?_
    refine O.mv rfl rfl rfl rfl rfl ?_
    refine O.mv rfl rfl rfl rfl rfl ?_
    refine O.ix (j := j) rfl rfl rfl rfl Go.Proofs.Try.underlying26 Go.Proofs.Try.sizeOf54 rfl rfl (by omega) hlt ?_
    refine O.lds rfl rfl rfl (fun w => ⟨Go.Proofs.Try.isAgg54 w, Go.Proofs.Try.sizeOf54 w⟩) rfl rfl hr ?_
    refine O.mv rfl rfl rfl rfl rfl ?_
    refine O.mv rfl rfl rfl rfl rfl ?_
    refine O.ix (j := j) rfl rfl rfl rfl Go.Proofs.Try.underlying26 Go.Proofs.Try.sizeOf54 rfl rfl (by omega) hlt ?_
    refine O.lds rfl rfl rfl (fun w => ⟨Go.Proofs.Try.isAgg54 w, Go.Proofs.Try.sizeOf54 w⟩) rfl rfl hr' ?_
    refine O.bin rfl rfl rfl rfl rfl rfl (word_neq y _ _) ?_
    refine Pl.fin [(0, _), (1, _), (4, _), (5, _), (12, _), (13, _), (14, _), (24, _)] ⟨rfl, rfl, rfl, rfl, rfl, rfl, rfl, rfl, trivial⟩ ?_
    refine Go'.condF rfl ?_
    refine Go'.skip ?_
    refine Go'.inBlock ?_
    -- region 8 (slices.go:24)
    refine Go'.region [(0, 0), (1, 0)] rfl ?_
    refine O.add (((j + 1 : Nat) : Int)) rfl rfl rfl rfl rfl rfl (by omega) (by omega) ?_
    refine O.mv rfl rfl rfl rfl rfl ?_
    refine Pl.fin [(0, _), (1, _), (4, _), (5, _), (12, _), (13, _), (14, _), (24, _)] ⟨rfl, rfl, rfl, rfl, rfl, rfl, rfl, rfl, trivial⟩ ?_
    refine Go'.keep [(0, _), (1, _), (4, _), (12, _), (13, _)] ⟨rfl, rfl, rfl, rfl, rfl, trivial⟩ ?_
    refine Go'.inLoop ?_
    exact ih (j + 1) H ⟨rfl, hlt⟩ (by omega)
  · skip
    -- region 4 (slices.go:24)
    refine Go'.region [(0, 0)] rfl ?_
    refine O.cmp rfl rfl rfl rfl rfl rfl (lssF (by omega)) ?_
    refine Pl.fin [(0, _), (1, _), (4, _), (12, _), (13, _), (14, _)] ⟨rfl, rfl, rfl, rfl, rfl, rfl, trivial⟩ ?_
    refine Go'.seq ?_
    refine Go'.condF rfl ?_
    refine Go'.exit rfl ?_
    refine Go'.seq ?_
    -- region 9 (slices.go:29)
    refine Go'.region [(0, 0)] rfl ?_
    refine O.asg rfl rfl rfl rfl rfl ?_
    refine Pl.fin [(4, _)] ⟨rfl, trivial⟩ ?_
    refine Go'.ret (vs := [_]) Go.Proofs.Try.func54 Go.Proofs.Try.results54 ⟨rfl, trivial⟩ ?_
    exact ⟨rfl, rfl⟩

def exl : List (Wk × Int) := [((⟨#[98]⟩ : Wk), 1), ((⟨#[]⟩ : Wk), 2), ((⟨#[97, 98]⟩ : Wk), 3), ((⟨#[98]⟩ : Wk), 4)]
theorem exWords_spec {B : World} {H : Mem} : Fn Try.prog B 19 [] H (fun r H' => InS EJ H' r exl ∧ Fr nowhere H H') := by
  refine fn_of Go.Proofs.Try.func19 rfl Go.Proofs.Try.ntmps19 ?_
  refine (show Go' _ _ _ _ 6 [] [.code _] _ from ?_)
  refine Go'.seq ?_
  -- region 0 (help.go:103)
  refine Go'.region [(0, 0)] rfl ?_
  refine O.asg rfl rfl rfl rfl rfl ?_
  refine Pl.fin [(0, _)] ⟨rfl, trivial⟩ ?_
  refine Go'.seq ?_
  -- region 1 (help.go:104)
  refine Go'.region [(0, 0), (1, 0), (2, 0), (3, 0), (4, 2), (5, 0)] rfl ?_
  refine O.bld (cs := [.string ⟨#[98]⟩, .int .i64 1]) rfl rfl rfl rfl (st54) rfl (by kernel_rfl) ?_
  refine O.bld (cs := [.string ⟨#[]⟩, .int .i64 2]) rfl rfl rfl rfl (st54) rfl (by kernel_rfl) ?_
  refine O.bld (cs := [.string ⟨#[97, 98]⟩, .int .i64 3]) rfl rfl rfl rfl (st54) rfl (by kernel_rfl) ?_
  refine O.bld (cs := [.string ⟨#[98]⟩, .int .i64 4]) rfl rfl rfl rfl (st54) rfl (by kernel_rfl) ?_
  refine O.bsl (cs := (row EJ exl)) rfl rfl rfl ⟨Go.Proofs.Try.underlying26, Go.Proofs.Try.sizeOf54, Go.Proofs.Try.zeroValue54, ⟨_, Go.Proofs.Try.typeInfo54, rfl⟩, rfl, by decide, by decide⟩ rfl (by decide) (by kernel_rfl) ?_
  intro H1 M1
  refine ⟨trivial, ?_⟩
  refine O.asg rfl rfl rfl rfl rfl ?_
  refine Pl.fin [(0, _)] ⟨rfl, trivial⟩ ?_
  refine Go'.ret (vs := [_]) Go.Proofs.Try.func19 Go.Proofs.Try.results19 ⟨rfl, trivial⟩ ?_
  exact ⟨.inl ⟨H.size, 0, 4, rfl, by decide, M1.rd _ [] (by simp)⟩, M1.fr nowhere⟩

def fitsb (z : Int) : Bool := decide (z = 0) || (decide (2 ≤ z) && decide (z ≤ 128))
theorem fits_spec {B : World} {H : Mem} {z : Int} : Fn Try.prog B 20 [.int .i64 z] H (fun r H' => r = .bool (fitsb z) ∧ H' = H) := by
  refine fn_of Go.Proofs.Try.func20 rfl Go.Proofs.Try.ntmps20 ?_
  refine (show Go' _ _ _ _ 13 [(0, _)] [.code _] _ from ?_)
  refine Go'.seq ?_
  -- region 0 (tree.go:291)
  refine Go'.region [(0, 0)] rfl ?_
  refine O.asg rfl rfl rfl rfl rfl ?_
  refine Pl.fin [(0, _), (2, _)] ⟨rfl, rfl, trivial⟩ ?_
  refine Go'.seq ?_
  by_cases h0 : z = 0
  · skip
    -- region 1 (tree.go:291)
    refine Go'.region [(0, 0), (1, 0), (2, 0), (3, 0), (4, 0), (5, 0), (6, 0), (7, 0), (8, 0), (9, 0), (10, 0)] rfl ?_
    refine O.mv rfl rfl rfl rfl rfl ?_
    refine O.cmp rfl rfl rfl rfl rfl rfl (eqlT (by omega)) ?_
    refine O.mv rfl rfl rfl rfl rfl ?_
    refine Pl.pass rfl rfl rfl rfl ?_
    refine Pl.pass rfl rfl rfl rfl ?_
    refine Pl.pass rfl rfl rfl rfl ?_
    refine Pl.pass rfl rfl rfl rfl ?_
    refine Pl.pass rfl rfl rfl rfl ?_
    refine Pl.pass rfl rfl rfl rfl ?_
    refine O.pick rfl rfl rfl rfl rfl rfl ?_
    refine O.asg rfl rfl rfl rfl rfl ?_
    refine Pl.fin [(2, _)] ⟨rfl, trivial⟩ ?_
    refine Go'.ret (vs := [_]) Go.Proofs.Try.func20 Go.Proofs.Try.results20 ⟨rfl, trivial⟩ ?_
    subst h0; exact ⟨rfl, rfl⟩
  by_cases h2 : 2 ≤ z
  · skip
    by_cases h3 : z ≤ 128
    · skip
      -- region 1 (tree.go:291)
      refine Go'.region [(0, 0), (1, 0), (2, 0), (3, 0), (4, 0), (5, 0), (6, 0), (7, 0), (8, 0), (9, 0), (10, 0)] rfl ?_
      refine O.mv rfl rfl rfl rfl rfl ?_
      refine O.cmp rfl rfl rfl rfl rfl rfl (eqlF (by omega)) ?_
      refine O.mv rfl rfl rfl rfl rfl ?_
      refine O.mv rfl rfl rfl rfl rfl ?_
      refine O.cmp rfl rfl rfl rfl rfl rfl (geqT (by omega)) ?_
      refine O.mv rfl rfl rfl rfl rfl ?_
      refine O.mv rfl rfl rfl rfl rfl ?_
      refine O.cmp rfl rfl rfl rfl rfl rfl (leqT (by omega)) ?_
      refine O.pick rfl rfl rfl rfl rfl rfl ?_
      refine O.pick rfl rfl rfl rfl rfl rfl ?_
      refine O.asg rfl rfl rfl rfl rfl ?_
      refine Pl.fin [(2, _)] ⟨rfl, trivial⟩ ?_
      refine Go'.ret (vs := [_]) Go.Proofs.Try.func20 Go.Proofs.Try.results20 ⟨rfl, trivial⟩ ?_
      exact ⟨by unfold fitsb; rw [decide_eq_false h0, decide_eq_true h2, decide_eq_true h3]; rfl, rfl⟩
    · skip
      -- region 1 (tree.go:291)
      refine Go'.region [(0, 0), (1, 0), (2, 0), (3, 0), (4, 0), (5, 0), (6, 0), (7, 0), (8, 0), (9, 0), (10, 0)] rfl ?_
      refine O.mv rfl rfl rfl rfl rfl ?_
      refine O.cmp rfl rfl rfl rfl rfl rfl (eqlF (by omega)) ?_
      refine O.mv rfl rfl rfl rfl rfl ?_
      refine O.mv rfl rfl rfl rfl rfl ?_
      refine O.cmp rfl rfl rfl rfl rfl rfl (geqT (by omega)) ?_
      refine O.mv rfl rfl rfl rfl rfl ?_
      refine O.mv rfl rfl rfl rfl rfl ?_
      refine O.cmp rfl rfl rfl rfl rfl rfl (leqF (by omega)) ?_
      refine O.pick rfl rfl rfl rfl rfl rfl ?_
      refine O.pick rfl rfl rfl rfl rfl rfl ?_
      refine O.asg rfl rfl rfl rfl rfl ?_
      refine Pl.fin [(2, _)] ⟨rfl, trivial⟩ ?_
      refine Go'.ret (vs := [_]) Go.Proofs.Try.func20 Go.Proofs.Try.results20 ⟨rfl, trivial⟩ ?_
      exact ⟨by unfold fitsb; rw [decide_eq_false h0, decide_eq_true h2, decide_eq_false h3]; rfl, rfl⟩
  · skip
    -- region 1 (tree.go:291)
    refine Go'.region [(0, 0), (1, 0), (2, 0), (3, 0), (4, 0), (5, 0), (6, 0), (7, 0), (8, 0), (9, 0), (10, 0)] rfl ?_
    refine O.mv rfl rfl rfl rfl rfl ?_
    refine O.cmp rfl rfl rfl rfl rfl rfl (eqlF (by omega)) ?_
    refine O.mv rfl rfl rfl rfl rfl ?_
    refine O.mv rfl rfl rfl rfl rfl ?_
    refine O.cmp rfl rfl rfl rfl rfl rfl (geqF (by omega)) ?_
    refine O.mv rfl rfl rfl rfl rfl ?_
    refine Pl.pass rfl rfl rfl rfl ?_
    refine Pl.pass rfl rfl rfl rfl ?_
    refine O.pick rfl rfl rfl rfl rfl rfl ?_
    refine O.pick rfl rfl rfl rfl rfl rfl ?_
    refine O.asg rfl rfl rfl rfl rfl ?_
    refine Pl.fin [(2, _)] ⟨rfl, trivial⟩ ?_
    refine Go'.ret (vs := [_]) Go.Proofs.Try.func20 Go.Proofs.Try.results20 ⟨rfl, trivial⟩ ?_
    exact ⟨by unfold fitsb; rw [decide_eq_false h0, decide_eq_false h2]; rfl, rfl⟩

theorem fits_spec' {B : World} {H : Mem} {z : Int} {b : Bool} (h : fitsb z = b) : Fn Try.prog B 20 [.int .i64 z] H (fun r H' => r = .bool b ∧ H' = H) := by
  subst h; exact fits_spec

theorem zz3_spec {B : World} {H : Mem} {x : Wk × Int} : Fn Try.prog B 51 [.agg (EJ.enc x).toArray] H (fun r H' => (∃ b, r = .bool b) ∧ Fr nowhere H H') := by
  refine fn_of Go.Proofs.Try.func51 rfl Go.Proofs.Try.ntmps51 ?_
  refine (show Go' _ _ _ _ 7 [(0, _)] [.code _] _ from ?_)
  refine Go'.seq ?_
  -- region 0 (zz_fits.go:32)
  refine Go'.region [(0, 2), (1, 0)] rfl ?_
  refine O.box rfl rfl rfl rfl ?_
  intro H1 M1
  refine ⟨trivial, ?_⟩
  have mi : Rd H1 H.size 0 (EJ.enc x) := M1.rd _ [] (by simp [Value.cells])
  refine O.asg rfl rfl rfl rfl rfl ?_
  refine Pl.fin [(1, _), (2, _)] ⟨rfl, rfl, trivial⟩ ?_
  refine Go'.seq ?_
  refine Go'.seq ?_
  by_cases h : (2147483647 : Int) < ((x.1 : Wk).size : Int)
  · skip
    -- region 1 (zz_fits.go:33)
    refine Go'.region [(0, 0), (1, 1), (2, 0), (3, 0)] rfl ?_
    refine O.faz rfl rfl rfl rfl ⟨_, _, _, Go.Proofs.Try.underlying54, rfl, rfl, Go.Proofs.Try.sizeOf9⟩ rfl ?_
    refine O.ld rfl rfl rfl (fun w => ⟨Go.Proofs.Try.isAgg9 w, Go.Proofs.Try.sizeOf9 w⟩) rfl (mi 0 _ rfl) ?_
    refine O.lenS rfl rfl rfl rfl Go.Proofs.Try.underlying9 rfl ?_
    refine O.cmp rfl rfl rfl rfl rfl rfl (gtrT (by omega)) ?_
    refine Pl.fin [(2, _), (6, _)] ⟨rfl, rfl, trivial⟩ ?_
    refine Go'.condT rfl ?_
    refine Go'.seq ?_
    -- region 2 (zz_fits.go:34)
    refine Go'.region [(0, 0)] rfl ?_
    refine O.asg rfl rfl rfl rfl rfl ?_
    refine Pl.fin [(2, _)] ⟨rfl, trivial⟩ ?_
    refine Go'.ret (vs := [_]) Go.Proofs.Try.func51 Go.Proofs.Try.results51 ⟨rfl, trivial⟩ ?_
    exact ⟨⟨_, rfl⟩, M1.fr nowhere⟩
  · skip
    -- region 1 (zz_fits.go:33)
    refine Go'.region [(0, 0), (1, 1), (2, 0), (3, 0)] rfl ?_
    refine O.faz rfl rfl rfl rfl ⟨_, _, _, Go.Proofs.Try.underlying54, rfl, rfl, Go.Proofs.Try.sizeOf9⟩ rfl ?_
    refine O.ld rfl rfl rfl (fun w => ⟨Go.Proofs.Try.isAgg9 w, Go.Proofs.Try.sizeOf9 w⟩) rfl (mi 0 _ rfl) ?_
    refine O.lenS rfl rfl rfl rfl Go.Proofs.Try.underlying9 rfl ?_
    refine O.cmp rfl rfl rfl rfl rfl rfl (gtrF (by omega)) ?_
    refine Pl.fin [(2, _), (6, _)] ⟨rfl, rfl, trivial⟩ ?_
    refine Go'.condF rfl ?_
    refine Go'.skip ?_
    refine Go'.seq ?_
    -- region 3 (zz_fits.go:36)
    refine Go'.region [(0, 0)] rfl ?_
    refine O.asg rfl rfl rfl rfl rfl ?_
    refine Pl.fin [(2, _)] ⟨rfl, trivial⟩ ?_
    refine Go'.ret (vs := [_]) Go.Proofs.Try.func51 Go.Proofs.Try.results51 ⟨rfl, trivial⟩ ?_
    exact ⟨⟨_, rfl⟩, M1.fr nowhere⟩

theorem zz2_spec {B : World} {H : Mem} {u : Value} {l : List (Wk × Int)} (hi : InS EJ H u l) : Fn Try.prog B 17 [u] H (fun r H' => (∃ b, r = .bool b ∧ (b = true → (l.length : Int) ≤ 2147483647)) ∧ Fr nowhere H H') := by
  obtain ⟨a, c, hu⟩ := hi.len
  subst hu
  refine fn_of Go.Proofs.Try.func17 rfl Go.Proofs.Try.ntmps17 ?_
  refine (show Go' _ _ _ _ 18 [(0, _)] [.code _] _ from ?_)
  refine Go'.seq ?_
  -- region 0 (zz_fits.go:19)
  refine Go'.region [(0, 0)] rfl ?_
  refine O.asg rfl rfl rfl rfl rfl ?_
  refine Pl.fin [(0, _), (2, _)] ⟨rfl, rfl, trivial⟩ ?_
  refine Go'.seq ?_
  refine Go'.seq ?_
  by_cases hbig : (2147483647 : Int) < (l.length : Int)
  · skip
    -- region 1 (zz_fits.go:20)
    refine Go'.region [(0, 0), (1, 0), (2, 0)] rfl ?_
    refine O.mv rfl rfl rfl rfl rfl ?_
    refine O.len rfl rfl rfl rfl Go.Proofs.Try.underlying26 rfl ?_
    refine O.cmp rfl rfl rfl rfl rfl rfl (gtrT (by omega)) ?_
    refine Pl.fin [(0, _), (2, _), (7, _)] ⟨rfl, rfl, rfl, trivial⟩ ?_
    refine Go'.condT rfl ?_
    refine Go'.seq ?_
    -- region 2 (zz_fits.go:21)
    refine Go'.region [(0, 0)] rfl ?_
    refine O.asg rfl rfl rfl rfl rfl ?_
    refine Pl.fin [(0, _), (2, _)] ⟨rfl, rfl, trivial⟩ ?_
    refine Go'.ret (vs := [_]) Go.Proofs.Try.func17 Go.Proofs.Try.results17 ⟨rfl, trivial⟩ ?_
    exact ⟨⟨false, rfl, fun h => by cases h⟩, Fr.refl _ _⟩
  · skip
    -- region 1 (zz_fits.go:20)
    refine Go'.region [(0, 0), (1, 0), (2, 0)] rfl ?_
    refine O.mv rfl rfl rfl rfl rfl ?_
    refine O.len rfl rfl rfl rfl Go.Proofs.Try.underlying26 rfl ?_
    refine O.cmp rfl rfl rfl rfl rfl rfl (gtrF (by omega)) ?_
    refine Pl.fin [(0, _), (2, _), (7, _)] ⟨rfl, rfl, rfl, trivial⟩ ?_
    refine Go'.condF rfl ?_
    refine Go'.skip ?_
    refine Go'.seq ?_
    refine Go'.seq ?_
    -- region 3 (zz_fits.go:23)
    refine Go'.region [(0, 0), (1, 0), (2, 0)] rfl ?_
    refine O.mv rfl rfl rfl rfl rfl ?_
    refine O.len rfl rfl rfl rfl Go.Proofs.Try.underlying26 rfl ?_
    refine O.mv rfl rfl rfl rfl rfl ?_
    refine Pl.fin [(2, _), (8, _), (9, _), (10, _)] ⟨rfl, rfl, rfl, rfl, trivial⟩ ?_
    refine Go'.block ?_
    refine Go'.loop ?_
    refine Go'.keep [(8, _), (9, _), (10, _)] ⟨rfl, rfl, rfl, trivial⟩ ?_
    refine Go'.ind (σ := Nat) (fun j => l.length - j) (fun j H' => Fr nowhere H H' ∧ j ≤ l.length)
      (fun j => [(8, .slice a l.length c), (9, .int .i64 (l.length : Int)), (10, .int .i64 (j : Int))]) 0 ⟨Fr.refl _ _, Nat.zero_le _⟩ rfl ?_
    rintro j H2 ⟨hF, hjl⟩ ih
    have hi2 := hi.fr hF
    refine Go'.seq ?_
    by_cases hlt : j < l.length
    · skip
      obtain ⟨y, hy⟩ : ∃ y, l[j]? = some y := ⟨l[j], List.getElem?_eq_getElem hlt⟩
      obtain ⟨b, o, c', e, hr⟩ := hi2.at hy
      cases e
      -- region 4 (zz_fits.go:23)
      refine Go'.region [(0, 0)] rfl ?_
      refine O.cmp rfl rfl rfl rfl rfl rfl (lssT (by omega)) ?_
      refine Pl.fin [(8, _), (9, _), (10, _), (11, _)] ⟨rfl, rfl, rfl, rfl, trivial⟩ ?_
      refine Go'.seq ?_
      refine Go'.condT rfl ?_
      refine Go'.skip ?_
      refine Go'.seq ?_
      refine Go'.block ?_
      refine Go'.seq ?_
      -- region 5 (zz_fits.go:23)
      refine Go'.region [(0, 0), (1, 1), (2, 2), (3, 2)] rfl ?_
      refine O.ix (j := j) rfl rfl rfl rfl Go.Proofs.Try.underlying26 Go.Proofs.Try.sizeOf54 rfl rfl (by omega) hlt ?_
      refine O.lds rfl rfl rfl (fun w => ⟨Go.Proofs.Try.isAgg54 w, Go.Proofs.Try.sizeOf54 w⟩) rfl rfl hr ?_
      refine O.alloc rfl rfl rfl Go.Proofs.Try.zeroValue54 ?_
      intro H3 M3
      refine ⟨trivial, ?_⟩
      have hs3 := M3.size
      have m7 : Wr H3 H2.size 0 2 := M3.wr 2 (by decide)
      refine O.st rfl rfl Go.Proofs.Try.sizeOf54 rfl rfl rfl rfl rfl m7 ?_
      intro H4 W4
      have hf4 : Fr nowhere H2 H4 := (M3.fr nowhere).trans' W4.fr (fun _ _ _ h => h) (fun b o hb hz => by have h1 := hz.1; omega)
      have x4 : Rd H4 H2.size 0 (EJ.enc y) := W4.all
      refine ⟨trivial, ?_⟩
      refine Pl.fin [(4, _), (8, _), (9, _), (10, _), (11, _)] ⟨rfl, rfl, rfl, rfl, rfl, trivial⟩ ?_
      refine Go'.seq ?_
      -- region 6 (zz_fits.go:24)
      refine Go'.region [(0, 1), (1, 2), (2, 0)] rfl ?_
      refine O.lds rfl rfl rfl (fun w => ⟨Go.Proofs.Try.isAgg54 w, Go.Proofs.Try.sizeOf54 w⟩) rfl rfl x4 ?_
      refine O.call rfl rfl rfl Go.Proofs.Try.call51 rfl zz3_spec ?_
      rintro _ H5 ⟨⟨bz, rfl⟩, hF5⟩
      refine ⟨trivial, ?_⟩
      refine O.not rfl rfl rfl rfl rfl ?_
      refine Pl.fin [(4, _), (8, _), (9, _), (10, _), (11, _), (16, _)] ⟨rfl, rfl, rfl, rfl, rfl, rfl, trivial⟩ ?_
      cases bz
      · skip
        refine Go'.condT rfl ?_
        refine Go'.seq ?_
        -- region 7 (zz_fits.go:25)
        refine Go'.region [(0, 0)] rfl ?_
        refine O.asg rfl rfl rfl rfl rfl ?_
        refine Pl.fin [(2, _), (4, _), (8, _), (9, _), (10, _), (11, _), (16, _)] ⟨rfl, rfl, rfl, rfl, rfl, rfl, rfl, trivial⟩ ?_
        refine Go'.ret (vs := [_]) Go.Proofs.Try.func17 Go.Proofs.Try.results17 ⟨rfl, trivial⟩ ?_
        exact ⟨⟨false, rfl, fun h => by cases h⟩, (hF.trans hf4).trans hF5⟩
      · skip
        refine Go'.condF rfl ?_
        refine Go'.skip ?_
        refine Go'.inBlock ?_
        -- region 8 (zz_fits.go:23)
        refine Go'.region [(0, 0), (1, 0)] rfl ?_
        refine O.add (((j + 1 : Nat) : Int)) rfl rfl rfl rfl rfl rfl (by omega) (by omega) ?_
        refine O.mv rfl rfl rfl rfl rfl ?_
        refine Pl.fin [(4, _), (8, _), (9, _), (10, _), (11, _), (16, _)] ⟨rfl, rfl, rfl, rfl, rfl, rfl, trivial⟩ ?_
        refine Go'.keep [(8, _), (9, _), (10, _)] ⟨rfl, rfl, rfl, trivial⟩ ?_
        refine Go'.inLoop ?_
        exact ih (j + 1) H5 ⟨(hF.trans hf4).trans hF5, hlt⟩ (by omega)
    · skip
      -- region 4 (zz_fits.go:23)
      refine Go'.region [(0, 0)] rfl ?_
      refine O.cmp rfl rfl rfl rfl rfl rfl (lssF (by omega)) ?_
      refine Pl.fin [(8, _), (9, _), (10, _), (11, _)] ⟨rfl, rfl, rfl, rfl, trivial⟩ ?_
      refine Go'.seq ?_
      refine Go'.condF rfl ?_
      refine Go'.exit rfl ?_
      refine Go'.seq ?_
      -- region 9 (zz_fits.go:28)
      refine Go'.region [(0, 0)] rfl ?_
      refine O.asg rfl rfl rfl rfl rfl ?_
      refine Pl.fin [(2, _)] ⟨rfl, trivial⟩ ?_
      refine Go'.ret (vs := [_]) Go.Proofs.Try.func17 Go.Proofs.Try.results17 ⟨rfl, trivial⟩ ?_
      exact ⟨⟨true, rfl, fun _ => by omega⟩, hF⟩

theorem lawWSet_spec {B : World} {H : Mem} {d : Nat} {u : Value} {l : List (Wk × Int)} (hd : 2 ≤ d ∧ d ≤ 128) (hi : InS EJ H u l) (hll : l.length ≤ 4294967296) :
    Fn Try.prog B 18 [.int .i64 (d : Int), u] H (fun r H' => r = .bool true ∧ Fr nowhere H H') := by
  have hpl := Pl.puts_length OI l
  have h1l : (wolds l).length = l.length := Pl.trace_length _ _ _
  have h2l : (woks l).length = l.length := Pl.trace_length _ _ _
  refine fn_of Go.Proofs.Try.func18 rfl Go.Proofs.Try.ntmps18 ?_
  refine (show Go' _ _ _ _ 37 [(0, _), (1, _)] [.code _] _ from ?_)
  refine Go'.seq ?_
  -- region 0 (exact.go:1570)
  refine Go'.region [(0, 0)] rfl ?_
  refine O.asg rfl rfl rfl rfl rfl ?_
  refine Pl.fin [(0, _), (1, _), (4, _)] ⟨rfl, rfl, rfl, trivial⟩ ?_
  refine Go'.seq ?_
  -- region 1 (exact.go:1571)
  refine Go'.region [(0, 0), (1, 0), (2, 2), (3, 0), (4, 0), (5, 0), (6, 0), (7, 0), (8, 0), (9, 0)] rfl ?_
  refine O.mv rfl rfl rfl rfl rfl ?_
  refine O.mv rfl rfl rfl rfl rfl ?_
  refine O.call rfl rfl rfl Go.Proofs.Try.call52 rfl (wsets_spec hd hi hll) ?_
  rintro _ H1 ⟨v1, v2, v3, rfl, h1, h2, h3, hF1⟩
  refine ⟨trivial, ?_⟩
  refine O.mv rfl rfl rfl rfl rfl ?_
  refine O.ext rfl rfl rfl rfl rfl rfl ?_
  refine O.ext rfl rfl rfl rfl rfl rfl ?_
  refine O.ext rfl rfl rfl rfl rfl rfl ?_
  refine O.asg rfl rfl rfl rfl rfl ?_
  refine O.asg rfl rfl rfl rfl rfl ?_
  refine O.asg rfl rfl rfl rfl rfl ?_
  refine Pl.fin [(1, _), (4, _), (5, _), (6, _), (7, _)] ⟨rfl, rfl, rfl, rfl, rfl, trivial⟩ ?_
  refine Go'.seq ?_
  -- region 2 (exact.go:1572)
  refine Go'.region [(0, 0), (1, 2), (2, 0), (3, 0), (4, 0), (5, 0), (6, 0), (7, 0), (8, 0)] rfl ?_
  refine O.mv rfl rfl rfl rfl rfl ?_
  refine O.call rfl rfl rfl Go.Proofs.Try.call53 rfl (specWSet_spec (hi.fr hF1) hll) ?_
  rintro _ H2 ⟨v4, v5, v6, rfl, h4, h5, h6, hF2⟩
  refine ⟨trivial, ?_⟩
  refine O.mv rfl rfl rfl rfl rfl ?_
  refine O.ext rfl rfl rfl rfl rfl rfl ?_
  refine O.ext rfl rfl rfl rfl rfl rfl ?_
  refine O.ext rfl rfl rfl rfl rfl rfl ?_
  refine O.asg rfl rfl rfl rfl rfl ?_
  refine O.asg rfl rfl rfl rfl rfl ?_
  refine O.asg rfl rfl rfl rfl rfl ?_
  refine Pl.fin [(4, _), (5, _), (6, _), (7, _), (8, _), (9, _), (10, _)] ⟨rfl, rfl, rfl, rfl, rfl, rfl, rfl, trivial⟩ ?_
  refine Go'.seq ?_
  -- region 3 (exact.go:1573)
  refine Go'.region [(0, 0), (1, 0), (2, 2), (3, 0), (4, 0), (5, 0), (6, 2), (7, 0), (8, 0), (9, 0), (10, 0), (11, 2), (12, 0), (13, 0)] rfl ?_
  refine O.mv rfl rfl rfl rfl rfl ?_
  refine O.mv rfl rfl rfl rfl rfl ?_
  refine O.callQ rfl rfl rfl Go.Proofs.Try.call54 rfl (eqWords_spec (h1.inS.fr hF2) h4.inS (by omega)) trivial ?_
  refine O.mv rfl rfl rfl rfl rfl ?_
  refine O.mv rfl rfl rfl rfl rfl ?_
  refine O.mv rfl rfl rfl rfl rfl ?_
  refine O.callQ rfl rfl rfl Go.Proofs.Try.call47 rfl (eqBools_spec (h2.inS.fr hF2) h5.inS (by omega)) trivial ?_
  refine O.pick rfl rfl rfl rfl rfl rfl ?_
  refine O.mv rfl rfl rfl rfl rfl ?_
  refine O.mv rfl rfl rfl rfl rfl ?_
  refine O.mv rfl rfl rfl rfl rfl ?_
  refine O.callQ rfl rfl rfl Go.Proofs.Try.call54 rfl (eqWords_spec (h3.inS.fr hF2) h6.inS (by omega)) trivial ?_
  refine O.pick rfl rfl rfl rfl rfl rfl ?_
  refine O.asg rfl rfl rfl rfl rfl ?_
  refine Pl.fin [(4, _)] ⟨rfl, trivial⟩ ?_
  refine Go'.ret (vs := [_]) Go.Proofs.Try.func18 Go.Proofs.Try.results18 ⟨rfl, trivial⟩ ?_
  exact ⟨rfl, hF1.trans hF2⟩

theorem fnExactWSet {B : World} {H : Mem} {z : Int} {u : Value} {l : List (Wk × Int)} (hi : InS EJ H u l) :
    Fn Try.prog B 6 [.int .i64 z, u] H (fun r H' => r = .bool true ∧ Fr nowhere H H') := by
  have hi00 := hi
  refine fn_of Go.Proofs.Try.func6 rfl Go.Proofs.Try.ntmps6 ?_
  refine (show Go' _ _ _ _ 24 [(0, _), (1, _)] [.code _] _ from ?_)
  refine Go'.seq ?_
  -- region 0 (exact.go:1563)
  refine Go'.region [(0, 0)] rfl ?_
  refine O.asg rfl rfl rfl rfl rfl ?_
  refine Pl.fin [(0, _), (1, _), (4, _)] ⟨rfl, rfl, rfl, trivial⟩ ?_
  refine Go'.seq ?_
  refine Go'.seq ?_
  -- region 1 (exact.go:1564)
  refine Go'.region [(0, 0), (1, 2), (2, 0)] rfl ?_
  refine O.mv rfl rfl rfl rfl rfl ?_
  refine O.call rfl rfl rfl Go.Proofs.Try.call17 rfl (zz2_spec hi) ?_
  rintro _ H0 ⟨⟨bz, rfl, hbz⟩, hF0⟩
  have hi0 := hi00.fr hF0
  refine ⟨trivial, ?_⟩
  refine O.not rfl rfl rfl rfl rfl ?_
  refine Pl.fin [(0, _), (1, _), (4, _), (7, _)] ⟨rfl, rfl, rfl, rfl, trivial⟩ ?_
  cases bz
  · skip
    refine Go'.condT rfl ?_
    refine Go'.seq ?_
    -- region 2 (exact.go:1565)
    refine Go'.region [(0, 0)] rfl ?_
    refine O.asg rfl rfl rfl rfl rfl ?_
    refine Pl.fin [(0, _), (1, _), (4, _)] ⟨rfl, rfl, rfl, trivial⟩ ?_
    refine Go'.ret (vs := [_]) Go.Proofs.Try.func6 Go.Proofs.Try.results6 ⟨rfl, trivial⟩ ?_
    exact ⟨rfl, hF0⟩
  · skip
    replace hbz := hbz rfl
    refine Go'.condF rfl ?_
    refine Go'.skip ?_
    refine Go'.seq ?_
    cases hfz : fitsb z
    · skip
      -- region 3 (exact.go:1567)
      refine Go'.region [(0, 2), (1, 2), (2, 0), (3, 0), (4, 2), (5, 0), (6, 0), (7, 0), (8, 0), (9, 0), (10, 0), (11, 0), (12, 0), (13, 2), (14, 0), (15, 0), (16, 0)] rfl ?_
      refine O.call rfl rfl rfl Go.Proofs.Try.call19 rfl exWords_spec ?_
      rintro ev H1 ⟨hev, hF1⟩
      refine ⟨trivial, ?_⟩
      refine O.call rfl rfl rfl Go.Proofs.Try.call18 rfl (lawWSet_spec (d := 2) (by decide) hev (by decide)) ?_
      rintro _ H2 ⟨rfl, hF2⟩
      have hF := hF1.trans hF2
      have hi2 := hi0.fr hF
      refine ⟨trivial, ?_⟩
      refine O.mv rfl rfl rfl rfl rfl ?_
      refine O.mv rfl rfl rfl rfl rfl ?_
      refine O.callQ rfl rfl rfl Go.Proofs.Try.call20 rfl (fits_spec' hfz) trivial ?_
      refine O.mv rfl rfl rfl rfl rfl ?_
      refine Pl.pass rfl rfl rfl rfl ?_
      refine Pl.pass rfl rfl rfl rfl ?_
      refine O.pick rfl rfl rfl rfl rfl rfl ?_
      refine O.not rfl rfl rfl rfl rfl ?_
      refine O.mv rfl rfl rfl rfl rfl ?_
      refine Pl.pass rfl rfl rfl rfl ?_
      refine Pl.pass rfl rfl rfl rfl ?_
      refine Pl.pass2 rfl rfl rfl rfl trivial ?_
      refine O.pick rfl rfl rfl rfl rfl rfl ?_
      refine O.pick rfl rfl rfl rfl rfl rfl ?_
      refine O.asg rfl rfl rfl rfl rfl ?_
      refine Pl.fin [(4, _)] ⟨rfl, trivial⟩ ?_
      refine Go'.ret (vs := [_]) Go.Proofs.Try.func6 Go.Proofs.Try.results6 ⟨rfl, trivial⟩ ?_
      exact ⟨rfl, hF0.trans hF⟩
    · skip
      by_cases hp : 0 < z
      · skip
        obtain ⟨d, rfl⟩ := Int.eq_ofNat_of_zero_le (by omega : 0 ≤ z)
        have hd : 2 ≤ d ∧ d ≤ 128 := by
          unfold fitsb at hfz
          simp only [Bool.or_eq_true, Bool.and_eq_true, decide_eq_true_eq] at hfz
          omega
        -- region 3 (exact.go:1567)
        refine Go'.region [(0, 2), (1, 2), (2, 0), (3, 0), (4, 2), (5, 0), (6, 0), (7, 0), (8, 0), (9, 0), (10, 0), (11, 0), (12, 0), (13, 2), (14, 0), (15, 0), (16, 0)] rfl ?_
        refine O.call rfl rfl rfl Go.Proofs.Try.call19 rfl exWords_spec ?_
        rintro ev H1 ⟨hev, hF1⟩
        refine ⟨trivial, ?_⟩
        refine O.call rfl rfl rfl Go.Proofs.Try.call18 rfl (lawWSet_spec (d := 2) (by decide) hev (by decide)) ?_
        rintro _ H2 ⟨rfl, hF2⟩
        have hF := hF1.trans hF2
        have hi2 := hi0.fr hF
        refine ⟨trivial, ?_⟩
        refine O.mv rfl rfl rfl rfl rfl ?_
        refine O.mv rfl rfl rfl rfl rfl ?_
        refine O.callQ rfl rfl rfl Go.Proofs.Try.call20 rfl (fits_spec' hfz) trivial ?_
        refine O.mv rfl rfl rfl rfl rfl ?_
        refine O.mv rfl rfl rfl rfl rfl ?_
        refine O.cmp rfl rfl rfl rfl rfl rfl (gtrT (by omega)) ?_
        refine O.pick rfl rfl rfl rfl rfl rfl ?_
        refine O.not rfl rfl rfl rfl rfl ?_
        refine O.mv rfl rfl rfl rfl rfl ?_
        refine O.mv rfl rfl rfl rfl rfl ?_
        refine O.mv rfl rfl rfl rfl rfl ?_
        refine O.call rfl rfl rfl Go.Proofs.Try.call18 rfl (lawWSet_spec hd hi2 (by omega)) ?_
        rintro _ H3 ⟨rfl, hF3⟩
        replace hF := hF.trans hF3
        refine ⟨trivial, ?_⟩
        refine O.pick rfl rfl rfl rfl rfl rfl ?_
        refine O.pick rfl rfl rfl rfl rfl rfl ?_
        refine O.asg rfl rfl rfl rfl rfl ?_
        refine Pl.fin [(4, _)] ⟨rfl, trivial⟩ ?_
        refine Go'.ret (vs := [_]) Go.Proofs.Try.func6 Go.Proofs.Try.results6 ⟨rfl, trivial⟩ ?_
        exact ⟨rfl, hF0.trans hF⟩
      · skip
        -- region 3 (exact.go:1567)
        refine Go'.region [(0, 2), (1, 2), (2, 0), (3, 0), (4, 2), (5, 0), (6, 0), (7, 0), (8, 0), (9, 0), (10, 0), (11, 0), (12, 0), (13, 2), (14, 0), (15, 0), (16, 0)] rfl ?_
        refine O.call rfl rfl rfl Go.Proofs.Try.call19 rfl exWords_spec ?_
        rintro ev H1 ⟨hev, hF1⟩
        refine ⟨trivial, ?_⟩
        refine O.call rfl rfl rfl Go.Proofs.Try.call18 rfl (lawWSet_spec (d := 2) (by decide) hev (by decide)) ?_
        rintro _ H2 ⟨rfl, hF2⟩
        have hF := hF1.trans hF2
        have hi2 := hi0.fr hF
        refine ⟨trivial, ?_⟩
        refine O.mv rfl rfl rfl rfl rfl ?_
        refine O.mv rfl rfl rfl rfl rfl ?_
        refine O.callQ rfl rfl rfl Go.Proofs.Try.call20 rfl (fits_spec' hfz) trivial ?_
        refine O.mv rfl rfl rfl rfl rfl ?_
        refine O.mv rfl rfl rfl rfl rfl ?_
        refine O.cmp rfl rfl rfl rfl rfl rfl (gtrF (by omega)) ?_
        refine O.pick rfl rfl rfl rfl rfl rfl ?_
        refine O.not rfl rfl rfl rfl rfl ?_
        refine O.mv rfl rfl rfl rfl rfl ?_
        refine Pl.pass rfl rfl rfl rfl ?_
        refine Pl.pass rfl rfl rfl rfl ?_
        refine Pl.pass2 rfl rfl rfl rfl trivial ?_
        refine O.pick rfl rfl rfl rfl rfl rfl ?_
        refine O.pick rfl rfl rfl rfl rfl rfl ?_
        refine O.asg rfl rfl rfl rfl rfl ?_
        refine Pl.fin [(4, _)] ⟨rfl, trivial⟩ ?_
        refine Go'.ret (vs := [_]) Go.Proofs.Try.func6 Go.Proofs.Try.results6 ⟨rfl, trivial⟩ ?_
        exact ⟨rfl, hF0.trans hF⟩

end Go.Bt.FW
namespace Go.Bt.FW
open Go Go.Proofs
set_option maxRecDepth 20000
set_option maxHeartbeats 4000000
set_option linter.unusedVariables false

theorem Pl.dn_step {α : Type} (O : Pl.Swo α) {x : α} {l : List α} (hs : Pl.Srt O l) {i : Nat} {y : α} (hy : l[i]? = some y) : O.lt x y = false ↔ i < Pl.pos O x l + (Pl.fnd O x l).toNat := by
  obtain ⟨hil, hy2⟩ := List.getElem?_eq_some_iff.1 hy
  have hp := Pl.pos_split O x l
  have hd := hs.drop_pos O (x := x)
  cases hf : Pl.fnd O x l with
  | false =>
    have ha := Pl.after_pos O hs hf
    simp only [Bool.toNat_false, Nat.add_zero]
    constructor
    · intro h
      rcases Nat.lt_or_ge i (Pl.pos O x l) with h1 | h1
      · exact h1
      · have := ha y (List.mem_iff_getElem?.2 ⟨i - Pl.pos O x l, by rw [List.getElem?_drop, Nat.add_sub_cancel' h1]; exact hy⟩)
        rw [h] at this; cases this
    · intro h
      have := hp.1 y (List.mem_iff_getElem?.2 ⟨i, by rw [List.getElem?_take_of_lt h]; exact hy⟩)
      exact O.asy this
  | true =>
    obtain ⟨z, hz, h1, h2⟩ := Pl.fnd_at O hs hf
    simp only [Bool.toNat_true]
    constructor
    · intro h
      rcases Nat.lt_or_ge i (Pl.pos O x l + 1) with h3 | h3
      · exact h3
      · have h4 := List.pairwise_iff_getElem.1 hs (Pl.pos O x l) i (List.getElem?_eq_some_iff.1 hz).1 hil (by omega)
        rw [(List.getElem?_eq_some_iff.1 hz).2, hy2] at h4
        rw [O.lt_of_le_of_lt h1 h4] at h; cases h
    · intro h
      rcases Nat.lt_or_ge i (Pl.pos O x l) with h3 | h3
      · have := hp.1 y (List.mem_iff_getElem?.2 ⟨i, by rw [List.getElem?_take_of_lt h3]; exact hy⟩)
        exact O.asy this
      · obtain rfl : i = Pl.pos O x l := by omega
        rw [hy] at hz; cases hz; exact h2

theorem Pl.dn_filter {α : Type} (O : Pl.Swo α) {x : α} {l : List α} (hs : Pl.Srt O l) : l.filter (fun y => !O.lt x y) = Pl.dn O x l := by
  unfold Pl.dn
  generalize hk : Pl.pos O x l + (Pl.fnd O x l).toNat = k
  have h1 : (l.take k).filter (fun y => !O.lt x y) = l.take k := List.filter_eq_self.2 fun y hy => by
    obtain ⟨i, hi, rfl⟩ := List.mem_iff_getElem.1 hy
    rw [List.length_take] at hi
    rw [List.getElem_take]
    have := (Pl.dn_step O hs (x := x) (i := i) (List.getElem?_eq_getElem (by omega))).2 (by omega)
    rw [this]; rfl
  have h2 : (l.drop k).filter (fun y => !O.lt x y) = [] := List.filter_eq_nil_iff.2 fun y hy => by
    obtain ⟨i, hi, rfl⟩ := List.mem_iff_getElem.1 hy
    rw [List.length_drop] at hi
    rw [List.getElem_drop]
    cases h : O.lt x (l[k + i]'(by omega)) with
    | true => simp
    | false =>
      have := (Pl.dn_step O hs (x := x) (i := k + i) (List.getElem?_eq_getElem (by omega))).1 h
      omega
  conv => lhs; rw [← List.take_append_drop k l]
  rw [List.filter_append, h1, h2, List.append_nil]

theorem first_spec {B : World} {H : Mem} {u : Value} {l : List (Wk × Int)} {n : Int} (hi : InS EJ H u l) :
    Fn Try.prog B 101 [u, .int .i64 n] H (fun r H' => InS EJ H' r (firstN l n) ∧ H' = H) := by
  obtain ⟨a, c, hu⟩ := hi.len
  subst hu
  refine fn_of Go.Proofs.Try.func101 rfl Go.Proofs.Try.ntmps101 ?_
  refine (show Go' _ _ _ _ 17 [(0, _), (1, _)] [.code _] _ from ?_)
  refine Go'.seq ?_
  -- region 0 (list.go:100)
  refine Go'.region [(0, 0)] rfl ?_
  refine O.asg rfl rfl rfl rfl rfl ?_
  refine Pl.fin [(0, _), (1, _), (4, _)] ⟨rfl, rfl, rfl, trivial⟩ ?_
  refine Go'.seq ?_
  refine Go'.seq ?_
  by_cases h1 : n < 1
  · skip
    -- region 1 (list.go:101)
    refine Go'.region [(0, 0), (1, 0), (2, 0), (3, 0), (4, 0), (5, 0), (6, 0), (7, 0)] rfl ?_
    refine O.mv rfl rfl rfl rfl rfl ?_
    refine O.cmp rfl rfl rfl rfl rfl rfl (lssT (by omega)) ?_
    refine O.mv rfl rfl rfl rfl rfl ?_
    refine Pl.pass rfl rfl rfl rfl ?_
    refine Pl.pass rfl rfl rfl rfl ?_
    refine Pl.pass rfl rfl rfl rfl ?_
    refine Pl.pass rfl rfl rfl rfl ?_
    refine O.pick rfl rfl rfl rfl rfl rfl ?_
    refine Pl.fin [(0, _), (1, _), (4, _), (12, _)] ⟨rfl, rfl, rfl, rfl, trivial⟩ ?_
    refine Go'.condT rfl ?_
    refine Go'.seq ?_
    -- region 2 (list.go:102)
    refine Go'.region [(0, 0), (1, 0)] rfl ?_
    refine O.mv rfl rfl rfl rfl rfl ?_
    refine O.asg rfl rfl rfl rfl rfl ?_
    refine Pl.fin [(0, _), (1, _), (4, _)] ⟨rfl, rfl, rfl, trivial⟩ ?_
    refine Go'.ret (vs := [_]) Go.Proofs.Try.func101 Go.Proofs.Try.results101 ⟨rfl, trivial⟩ ?_
    exact ⟨by unfold firstN; rw [if_pos (.inl h1)]; exact hi, rfl⟩
  · skip
    by_cases h2 : (l.length : Int) < n
    · skip
      -- region 1 (list.go:101)
      refine Go'.region [(0, 0), (1, 0), (2, 0), (3, 0), (4, 0), (5, 0), (6, 0), (7, 0)] rfl ?_
      refine O.mv rfl rfl rfl rfl rfl ?_
      refine O.cmp rfl rfl rfl rfl rfl rfl (lssF (by omega)) ?_
      refine O.mv rfl rfl rfl rfl rfl ?_
      refine O.mv rfl rfl rfl rfl rfl ?_
      refine O.mv rfl rfl rfl rfl rfl ?_
      refine O.len rfl rfl rfl rfl Go.Proofs.Try.underlying26 rfl ?_
      refine O.cmp rfl rfl rfl rfl rfl rfl (gtrT (by omega)) ?_
      refine O.pick rfl rfl rfl rfl rfl rfl ?_
      refine Pl.fin [(0, _), (1, _), (4, _), (12, _)] ⟨rfl, rfl, rfl, rfl, trivial⟩ ?_
      refine Go'.condT rfl ?_
      refine Go'.seq ?_
      -- region 2 (list.go:102)
      refine Go'.region [(0, 0), (1, 0)] rfl ?_
      refine O.mv rfl rfl rfl rfl rfl ?_
      refine O.asg rfl rfl rfl rfl rfl ?_
      refine Pl.fin [(0, _), (1, _), (4, _)] ⟨rfl, rfl, rfl, trivial⟩ ?_
      refine Go'.ret (vs := [_]) Go.Proofs.Try.func101 Go.Proofs.Try.results101 ⟨rfl, trivial⟩ ?_
      exact ⟨by unfold firstN; rw [if_pos (.inr h2)]; exact hi, rfl⟩
    · skip
      obtain ⟨m, rfl⟩ := Int.eq_ofNat_of_zero_le (by omega : 0 ≤ n)
      -- region 1 (list.go:101)
      refine Go'.region [(0, 0), (1, 0), (2, 0), (3, 0), (4, 0), (5, 0), (6, 0), (7, 0)] rfl ?_
      refine O.mv rfl rfl rfl rfl rfl ?_
      refine O.cmp rfl rfl rfl rfl rfl rfl (lssF (by omega)) ?_
      refine O.mv rfl rfl rfl rfl rfl ?_
      refine O.mv rfl rfl rfl rfl rfl ?_
      refine O.mv rfl rfl rfl rfl rfl ?_
      refine O.len rfl rfl rfl rfl Go.Proofs.Try.underlying26 rfl ?_
      refine O.cmp rfl rfl rfl rfl rfl rfl (gtrF (by omega)) ?_
      refine O.pick rfl rfl rfl rfl rfl rfl ?_
      refine Pl.fin [(0, _), (1, _), (4, _), (12, _)] ⟨rfl, rfl, rfl, rfl, trivial⟩ ?_
      refine Go'.condF rfl ?_
      refine Go'.skip ?_
      refine Go'.seq ?_
      -- region 3 (list.go:104)
      refine Go'.region [(0, 0), (1, 0), (2, 0), (3, 0)] rfl ?_
      refine O.mv rfl rfl rfl rfl rfl ?_
      refine O.mv rfl rfl rfl rfl rfl ?_
      refine O.slcIn (E := EJ) (jl := 0) (jh := m) rfl rfl rfl rfl Go.Proofs.Try.underlying26 Go.Proofs.Try.sizeOf54 rfl hi ⟨_, by rfl⟩ rfl (by omega) (by omega) ?_
      intro v1 hv1
      rw [List.drop_zero, Nat.sub_zero] at hv1
      refine O.asg rfl rfl rfl rfl rfl ?_
      refine Pl.fin [(4, _)] ⟨rfl, trivial⟩ ?_
      refine Go'.ret (vs := [_]) Go.Proofs.Try.func101 Go.Proofs.Try.results101 ⟨rfl, trivial⟩ ?_
      exact ⟨by unfold firstN; rw [if_neg (by omega)]; exact hv1, rfl⟩

theorem words_spec {B : World} {H : Mem} {u : Value} {l : List (Wk × Int)} (hi : InS EJ H u l) (hll : l.length ≤ 4294967296) :
    Fn Try.prog B 100 [u] H (fun r H' => OutS EJ H' r (Pl.puts OI l) ∧ Fr nowhere H H') := by
  refine fn_of Go.Proofs.Try.func100 rfl Go.Proofs.Try.ntmps100 ?_
  refine (show Go' _ _ _ _ 13 [(0, _)] [.code _] _ from ?_)
  refine Go'.seq ?_
  -- region 0 (words.go:34)
  refine Go'.region [(0, 0)] rfl ?_
  refine O.asg rfl rfl rfl rfl rfl ?_
  refine Pl.fin [(0, _), (2, _)] ⟨rfl, rfl, trivial⟩ ?_
  refine Go'.seq ?_
  -- region 1 (words.go:35)
  refine Go'.region [(0, 0), (1, 2), (2, 0), (3, 0), (4, 0), (5, 0), (6, 0), (7, 0), (8, 0)] rfl ?_
  refine O.mv rfl rfl rfl rfl rfl ?_
  refine O.call rfl rfl rfl Go.Proofs.Try.call53 rfl (specWSet_spec hi hll) ?_
  rintro _ H2 ⟨v4, v5, v6, rfl, h4, h5, h6, hF2⟩
  refine ⟨trivial, ?_⟩
  refine O.mv rfl rfl rfl rfl rfl ?_
  refine O.ext rfl rfl rfl rfl rfl rfl ?_
  refine O.ext rfl rfl rfl rfl rfl rfl ?_
  refine O.ext rfl rfl rfl rfl rfl rfl ?_
  refine O.asg rfl rfl rfl rfl rfl ?_
  refine O.asg rfl rfl rfl rfl rfl ?_
  refine O.asg rfl rfl rfl rfl rfl ?_
  refine Pl.fin [(2, _), (5, _)] ⟨rfl, rfl, trivial⟩ ?_
  refine Go'.seq ?_
  -- region 2 (words.go:36)
  refine Go'.region [(0, 0), (1, 0)] rfl ?_
  refine O.mv rfl rfl rfl rfl rfl ?_
  refine O.asg rfl rfl rfl rfl rfl ?_
  refine Pl.fin [(2, _)] ⟨rfl, trivial⟩ ?_
  refine Go'.ret (vs := [_]) Go.Proofs.Try.func100 Go.Proofs.Try.results100 ⟨rfl, trivial⟩ ?_
  exact ⟨h6, hF2⟩

theorem specWDescend_spec {B : World} {H : Mem} {u : Value} {l : List (Wk × Int)} {x : Wk × Int} {n : Int} (hi : InS EJ H u l) (hll : l.length ≤ 4294967296) :
    Fn Try.prog B 61 [u, .string x.1, .int .i64 n] H (fun r H' => InS EJ H' r (firstN (Pl.dn OI x (Pl.puts OI l)).reverse n) ∧ Fr nowhere H H') := by
  have hpl := Pl.puts_length OI l
  have hfl := Pl.dn_filter OI (x := x) (Pl.puts_srt OI l)
  refine fn_of Go.Proofs.Try.func61 rfl Go.Proofs.Try.ntmps61 ?_
  refine (show Go' _ _ _ _ 29 [(0, _), (1, _), (2, _)] [.code _] _ from ?_)
  refine Go'.seq ?_
  -- region 0 (words.go:79)
  refine Go'.region [(0, 0)] rfl ?_
  refine O.asg rfl rfl rfl rfl rfl ?_
  refine Pl.fin [(0, _), (1, _), (2, _), (6, _)] ⟨rfl, rfl, rfl, rfl, trivial⟩ ?_
  refine Go'.seq ?_
  -- region 1 (words.go:80)
  refine Go'.region [(0, 0)] rfl ?_
  refine O.asg rfl rfl rfl rfl rfl ?_
  refine Pl.fin [(0, _), (1, _), (2, _), (6, _), (7, _)] ⟨rfl, rfl, rfl, rfl, rfl, trivial⟩ ?_
  refine Go'.seq ?_
  refine Go'.seq ?_
  generalize hT : Pl.puts OI l = T at *
  -- region 2 (words.go:81)
  refine Go'.region [(0, 0), (1, 2), (2, 0), (3, 0)] rfl ?_
  refine O.mv rfl rfl rfl rfl rfl ?_
  refine O.call rfl rfl rfl Go.Proofs.Try.call100 rfl (words_spec hi hll) ?_
  rintro tv H1 ⟨htv, hF1⟩
  rw [hT] at htv
  replace htv := htv.inS
  obtain ⟨a, c, hu⟩ := htv.len
  subst hu
  refine ⟨trivial, ?_⟩
  refine O.len rfl rfl rfl rfl Go.Proofs.Try.underlying26 rfl ?_
  refine O.mv rfl rfl rfl rfl rfl ?_
  refine Pl.fin [(1, _), (2, _), (6, _), (7, _), (11, _), (12, _), (13, _)] ⟨rfl, rfl, rfl, rfl, rfl, rfl, rfl, trivial⟩ ?_
  refine Go'.block ?_
  refine Go'.loop ?_
  refine Go'.keep [(1, _), (2, _), (7, _), (11, _), (12, _), (13, _)] ⟨rfl, rfl, rfl, rfl, rfl, rfl, trivial⟩ ?_
  refine Go'.ind (σ := Nat × Value) (fun s => T.length - s.1) (fun s H' => Fr nowhere H1 H' ∧ s.1 ≤ T.length ∧ Acc EJ (fun b => H1.size ≤ b) H' s.2 ((T.take s.1).filter (fun z => !OI.lt x z)).reverse)
    (fun s => [(1, .string x.1), (2, .int .i64 n), (7, s.2), (11, .slice a T.length c), (12, .int .i64 (T.length : Int)), (13, .int .i64 (s.1 : Int))]) (0, .slice none 0 0) ⟨Fr.refl _ _, Nat.zero_le _, Acc.nil _ _ _⟩ rfl ?_
  rintro ⟨j, sv⟩ H2 ⟨hF, hjl, hA⟩ ih
  simp only at hjl hA
  have hi2 := htv.fr hF
  refine Go'.seq ?_
  by_cases hlt : j < T.length
  · skip
    obtain ⟨y, hy⟩ : ∃ y, T[j]? = some y := ⟨T[j], List.getElem?_eq_getElem hlt⟩
    obtain ⟨b, o, c', e, hr⟩ := hi2.at hy
    cases e
    have hsz := hF.size
    have hleq := bl_leq y.1 x.1
    have hflt : ((T.take j).filter (fun z => !OI.lt x z)).reverse.length ≤ T.length := by
      rw [List.length_reverse]
      exact Nat.le_trans (List.length_filter_le _ _) (by rw [List.length_take]; omega)
    have hstep : (T.take (j + 1)).filter (fun z => !OI.lt x z) = (T.take j).filter (fun z => !OI.lt x z) ++ if OI.lt x y then [] else [y] := by
      rw [List.take_add_one, hy, List.filter_append]
      cases h : OI.lt x y <;> simp [h]
    -- region 3 (words.go:81)
    refine Go'.region [(0, 0)] rfl ?_
    refine O.cmp rfl rfl rfl rfl rfl rfl (lssT (by omega)) ?_
    refine Pl.fin [(1, _), (2, _), (7, _), (11, _), (12, _), (13, _), (14, _)] ⟨rfl, rfl, rfl, rfl, rfl, rfl, rfl, trivial⟩ ?_
    refine Go'.seq ?_
    refine Go'.condT rfl ?_
    refine Go'.skip ?_
    refine Go'.seq ?_
    refine Go'.block ?_
    refine Go'.seq ?_
    -- region 4 (words.go:81)
    refine Go'.region [(0, 0), (1, 1), (2, 2), (3, 2)] rfl ?_
    refine O.ix (j := j) rfl rfl rfl rfl Go.Proofs.Try.underlying26 Go.Proofs.Try.sizeOf54 rfl rfl (by omega) hlt ?_
    refine O.lds rfl rfl rfl (fun w => ⟨Go.Proofs.Try.isAgg54 w, Go.Proofs.Try.sizeOf54 w⟩) rfl rfl hr ?_
    refine O.alloc rfl rfl rfl Go.Proofs.Try.zeroValue54 ?_
    intro H3 M3
    refine ⟨trivial, ?_⟩
    have hs3 := M3.size
    have m7 : Wr H3 H2.size 0 2 := M3.wr 2 (by decide)
    refine O.st rfl rfl Go.Proofs.Try.sizeOf54 rfl rfl rfl rfl rfl m7 ?_
    intro H4 W4
    have hs4 := W4.size
    have hf4 : Fr nowhere H2 H4 := (M3.fr nowhere).trans' W4.fr (fun _ _ _ h => h) (fun b o hb hz => by have h1 := hz.1; omega)
    have x4 : Rd H4 H2.size 0 (EJ.enc y) := W4.all
    have hA4 := hA.fr hf4 (fun _ _ _ _ => nw)
    refine ⟨trivial, ?_⟩
    refine Pl.fin [(1, _), (2, _), (7, _), (9, _), (11, _), (12, _), (13, _), (14, _)] ⟨rfl, rfl, rfl, rfl, rfl, rfl, rfl, rfl, trivial⟩ ?_
    refine Go'.seq ?_
    cases hxy : OI.lt x y
    · skip
      replace hleq : _ = true := hleq.trans (by show (!OI.lt x y) = true; rw [hxy]; rfl)
      rw [hxy] at hstep
      simp only [Bool.false_eq_true, if_false] at hstep
      -- region 5 (words.go:82)
      refine Go'.region [(0, 0), (1, 1), (2, 0), (3, 0)] rfl ?_
      refine O.faz rfl rfl rfl rfl ⟨_, _, _, Go.Proofs.Try.underlying54, rfl, rfl, Go.Proofs.Try.sizeOf9⟩ rfl ?_
      refine O.ld rfl rfl rfl (fun w => ⟨Go.Proofs.Try.isAgg9 w, Go.Proofs.Try.sizeOf9 w⟩) rfl (x4 0 _ rfl) ?_
      refine O.mv rfl rfl rfl rfl rfl ?_
      refine O.sleq rfl rfl rfl rfl rfl rfl hleq ?_
      refine Pl.fin [(1, _), (2, _), (7, _), (9, _), (11, _), (12, _), (13, _), (14, _), (20, _)] ⟨rfl, rfl, rfl, rfl, rfl, rfl, rfl, rfl, rfl, trivial⟩ ?_
      refine Go'.condT rfl ?_
      -- region 6 (words.go:83)
      refine Go'.region [(0, 1), (1, 2), (2, 0), (3, 2), (4, 0)] rfl ?_
      refine O.lds rfl rfl rfl (fun w => ⟨Go.Proofs.Try.isAgg54 w, Go.Proofs.Try.sizeOf54 w⟩) rfl rfl x4 ?_
      refine O.bsl (cs := (EJ.enc y)) rfl rfl rfl ⟨Go.Proofs.Try.underlying26, Go.Proofs.Try.sizeOf54, Go.Proofs.Try.zeroValue54, ⟨_, Go.Proofs.Try.typeInfo54, rfl⟩, rfl, by decide, by decide⟩ rfl (by decide) (by kernel_rfl) ?_
      intro H5 M5
      have hs5 := M5.size
      have hA5 := hA4.fr (M5.fr nowhere) (fun _ _ _ _ => nw)
      have hN5 : AccN EJ (fun b => H4.size ≤ b) H5 (.slice (some ⟨H4.size, 0, none⟩) 1 1) [y] := ⟨H4.size, 0, 1, rfl, Nat.le_refl _, by omega, ⟨by simp [row, EJ], Nat.le_refl _, M5.rd _ [] (by simp [row, EJ]), M5.wr _ (by simp [EJ])⟩⟩
      refine ⟨trivial, ?_⟩
      refine O.mv rfl rfl rfl rfl rfl ?_
      refine O.appI (E := EJ) rfl rfl rfl ⟨Go.Proofs.Try.underlying26, Go.Proofs.Try.sizeOf54, Go.Proofs.Try.zeroValue54, ⟨_, Go.Proofs.Try.typeInfo54, rfl⟩, rfl, by decide, by decide⟩ rfl hN5 rfl hA5.inS (Nat.le_trans (Nat.mul_le_mul_left _ (Nat.le_of_ble_eq_true (n := _) (m := 4096) rfl)) (by rw [List.length_singleton]; omega)) (by rw [List.length_singleton]; omega) ?_
      intro v6 H6 hN6 hF6 hs6
      have hg6 := hF6.size
      have hf6 : Fr nowhere H2 H6 := (hf4.trans (M5.fr nowhere)).trans' hF6 (fun _ _ _ h => h) (fun b o hb hz => by have hz' : H4.size ≤ b := hz; omega)
      have hA6 := hN6.acc.mono (Y := fun b => H1.size ≤ b) (fun b hb hz => hz.elim (fun h => by omega) (fun h => by omega))
      refine ⟨trivial, ?_⟩
      refine O.asg rfl rfl rfl rfl rfl ?_
      refine Pl.fin [(1, _), (2, _), (7, _), (9, _), (11, _), (12, _), (13, _), (14, _), (20, _)] ⟨rfl, rfl, rfl, rfl, rfl, rfl, rfl, rfl, rfl, trivial⟩ ?_
      refine Go'.inBlock ?_
      -- region 7 (words.go:81)
      refine Go'.region [(0, 0), (1, 0)] rfl ?_
      refine O.add (((j + 1 : Nat) : Int)) rfl rfl rfl rfl rfl rfl (by omega) (by omega) ?_
      refine O.mv rfl rfl rfl rfl rfl ?_
      refine Pl.fin [(1, _), (2, _), (7, _), (9, _), (11, _), (12, _), (13, _), (14, _), (20, _)] ⟨rfl, rfl, rfl, rfl, rfl, rfl, rfl, rfl, rfl, trivial⟩ ?_
      refine Go'.keep [(1, _), (2, _), (7, _), (11, _), (12, _), (13, _)] ⟨rfl, rfl, rfl, rfl, rfl, rfl, trivial⟩ ?_
      refine Go'.inLoop ?_
      exact ih (j + 1, v6) H6 ⟨hF.trans hf6, hlt, by
        simp only
        rw [hstep, List.reverse_append]
        exact hA6⟩ (by simp only; omega)
    · skip
      replace hleq : _ = false := hleq.trans (by show (!OI.lt x y) = false; rw [hxy]; rfl)
      rw [hxy] at hstep
      simp only [if_true, List.append_nil] at hstep
      -- region 5 (words.go:82)
      refine Go'.region [(0, 0), (1, 1), (2, 0), (3, 0)] rfl ?_
      refine O.faz rfl rfl rfl rfl ⟨_, _, _, Go.Proofs.Try.underlying54, rfl, rfl, Go.Proofs.Try.sizeOf9⟩ rfl ?_
      refine O.ld rfl rfl rfl (fun w => ⟨Go.Proofs.Try.isAgg9 w, Go.Proofs.Try.sizeOf9 w⟩) rfl (x4 0 _ rfl) ?_
      refine O.mv rfl rfl rfl rfl rfl ?_
      refine O.sleq rfl rfl rfl rfl rfl rfl hleq ?_
      refine Pl.fin [(1, _), (2, _), (7, _), (9, _), (11, _), (12, _), (13, _), (14, _), (20, _)] ⟨rfl, rfl, rfl, rfl, rfl, rfl, rfl, rfl, rfl, trivial⟩ ?_
      refine Go'.condF rfl ?_
      refine Go'.skip ?_
      refine Go'.inBlock ?_
      -- region 7 (words.go:81)
      refine Go'.region [(0, 0), (1, 0)] rfl ?_
      refine O.add (((j + 1 : Nat) : Int)) rfl rfl rfl rfl rfl rfl (by omega) (by omega) ?_
      refine O.mv rfl rfl rfl rfl rfl ?_
      refine Pl.fin [(1, _), (2, _), (7, _), (9, _), (11, _), (12, _), (13, _), (14, _), (20, _)] ⟨rfl, rfl, rfl, rfl, rfl, rfl, rfl, rfl, rfl, trivial⟩ ?_
      refine Go'.keep [(1, _), (2, _), (7, _), (11, _), (12, _), (13, _)] ⟨rfl, rfl, rfl, rfl, rfl, rfl, trivial⟩ ?_
      refine Go'.inLoop ?_
      exact ih (j + 1, sv) H4 ⟨hF.trans hf4, hlt, by
        simp only
        rw [hstep]
        exact hA4⟩ (by simp only; omega)
  · skip
    obtain rfl : j = T.length := by omega
    rw [List.take_length, hfl] at hA
    -- region 3 (words.go:81)
    refine Go'.region [(0, 0)] rfl ?_
    refine O.cmp rfl rfl rfl rfl rfl rfl (lssF (by omega)) ?_
    refine Pl.fin [(1, _), (2, _), (7, _), (11, _), (12, _), (13, _), (14, _)] ⟨rfl, rfl, rfl, rfl, rfl, rfl, rfl, trivial⟩ ?_
    refine Go'.seq ?_
    refine Go'.condF rfl ?_
    refine Go'.exit rfl ?_
    refine Go'.seq ?_
    -- region 8 (words.go:86)
    refine Go'.region [(0, 0), (1, 0), (2, 2), (3, 0)] rfl ?_
    refine O.mv rfl rfl rfl rfl rfl ?_
    refine O.mv rfl rfl rfl rfl rfl ?_
    refine O.call rfl rfl rfl Go.Proofs.Try.call101 rfl (first_spec (n := n) hA.inS) ?_
    rintro fv H5 ⟨hfv, rfl⟩
    refine ⟨trivial, ?_⟩
    refine O.asg rfl rfl rfl rfl rfl ?_
    refine Pl.fin [(6, _)] ⟨rfl, trivial⟩ ?_
    refine Go'.ret (vs := [_]) Go.Proofs.Try.func61 Go.Proofs.Try.results61 ⟨rfl, trivial⟩ ?_
    exact ⟨hfv, hF1.trans hF⟩

theorem lawWDescend_spec {B : World} {H : Mem} {d : Nat} {u : Value} {l : List (Wk × Int)} {p : Wk} {n : Int} (hd : 2 ≤ d ∧ d ≤ 128) (hi : InS EJ H u l) (hll : l.length ≤ 4294967296) :
    Fn Try.prog B 26 [.int .i64 (d : Int), u, .string p, .int .i64 n] H (fun r H' => r = .bool true ∧ Fr nowhere H H') := by
  have hpl := Pl.puts_length OI l
  have hdl := Pl.dn_le OI (p, 0) (Pl.puts OI l)
  have hfl : (firstN (Pl.dn OI (p, 0) (Pl.puts OI l)).reverse n).length ≤ 4294967296 := by
    unfold firstN; split
    · rw [List.length_reverse]; omega
    · rw [List.length_take, List.length_reverse]; omega
  refine fn_of Go.Proofs.Try.func26 rfl Go.Proofs.Try.ntmps26 ?_
  refine (show Go' _ _ _ _ 23 [(0, _), (1, _), (2, _), (3, _)] [.code _] _ from ?_)
  refine Go'.seq ?_
  -- region 0 (exact.go:1626)
  refine Go'.region [(0, 0)] rfl ?_
  refine O.asg rfl rfl rfl rfl rfl ?_
  refine Pl.fin [(0, _), (1, _), (2, _), (3, _), (8, _)] ⟨rfl, rfl, rfl, rfl, rfl, trivial⟩ ?_
  refine Go'.seq ?_
  -- region 1 (exact.go:1627)
  refine Go'.region [(0, 0), (1, 0), (2, 0), (3, 0), (4, 2), (5, 0)] rfl ?_
  refine O.mv rfl rfl rfl rfl rfl ?_
  refine O.mv rfl rfl rfl rfl rfl ?_
  refine O.mv rfl rfl rfl rfl rfl ?_
  refine O.mv rfl rfl rfl rfl rfl ?_
  refine O.call rfl rfl rfl Go.Proofs.Try.call60 rfl (wdescend_spec (x := (p, 0)) hd hi hll) ?_
  rintro r1 H1 ⟨hr1, hF1⟩
  refine ⟨trivial, ?_⟩
  refine O.asg rfl rfl rfl rfl rfl ?_
  refine Pl.fin [(1, _), (2, _), (3, _), (8, _), (9, _)] ⟨rfl, rfl, rfl, rfl, rfl, trivial⟩ ?_
  refine Go'.seq ?_
  -- region 2 (exact.go:1628)
  refine Go'.region [(0, 0), (1, 0), (2, 0), (3, 2), (4, 0)] rfl ?_
  refine O.mv rfl rfl rfl rfl rfl ?_
  refine O.mv rfl rfl rfl rfl rfl ?_
  refine O.mv rfl rfl rfl rfl rfl ?_
  refine O.call rfl rfl rfl Go.Proofs.Try.call61 rfl (specWDescend_spec (x := (p, 0)) (n := n) (hi.fr hF1) hll) ?_
  rintro r2 H2 ⟨hr2, hF2⟩
  refine ⟨trivial, ?_⟩
  refine O.asg rfl rfl rfl rfl rfl ?_
  refine Pl.fin [(8, _), (9, _), (10, _)] ⟨rfl, rfl, rfl, trivial⟩ ?_
  refine Go'.seq ?_
  -- region 3 (exact.go:1629)
  refine Go'.region [(0, 0), (1, 0), (2, 2), (3, 0)] rfl ?_
  refine O.mv rfl rfl rfl rfl rfl ?_
  refine O.mv rfl rfl rfl rfl rfl ?_
  refine O.callQ rfl rfl rfl Go.Proofs.Try.call54 rfl (eqWords_spec (hr1.inS.fr hF2) hr2 hfl) trivial ?_
  refine O.asg rfl rfl rfl rfl rfl ?_
  refine Pl.fin [(8, _)] ⟨rfl, trivial⟩ ?_
  refine Go'.ret (vs := [_]) Go.Proofs.Try.func26 Go.Proofs.Try.results26 ⟨rfl, trivial⟩ ?_
  exact ⟨rfl, hF1.trans hF2⟩

/-- Nothing in the list is too long. -/
def zzb (l : List (Wk × Int)) : Bool := decide ((l.length : Int) ≤ 2147483647) && l.all fun y => decide ((ByteArray.size y.1 : Int) ≤ 2147483647)
theorem zz3b_spec {B : World} {H : Mem} {x : Wk × Int} : Fn Try.prog B 51 [.agg (EJ.enc x).toArray] H (fun r H' => r = .bool (decide ((ByteArray.size x.1 : Int) ≤ 2147483647)) ∧ Fr nowhere H H') := by
  refine fn_of Go.Proofs.Try.func51 rfl Go.Proofs.Try.ntmps51 ?_
  refine (show Go' _ _ _ _ 7 [(0, _)] [.code _] _ from ?_)
  refine Go'.seq ?_
  -- region 0 (zz_fits.go:32)
  refine Go'.region [(0, 2), (1, 0)] rfl ?_
  refine O.box rfl rfl rfl rfl ?_
  intro H1 M1
  refine ⟨trivial, ?_⟩
  have mi : Rd H1 H.size 0 (EJ.enc x) := M1.rd _ [] (by simp [Value.cells])
  refine O.asg rfl rfl rfl rfl rfl ?_
  refine Pl.fin [(1, _), (2, _)] ⟨rfl, rfl, trivial⟩ ?_
  refine Go'.seq ?_
  refine Go'.seq ?_
  by_cases h : (2147483647 : Int) < (ByteArray.size x.1 : Int)
  · skip
    -- region 1 (zz_fits.go:33)
    refine Go'.region [(0, 0), (1, 1), (2, 0), (3, 0)] rfl ?_
    refine O.faz rfl rfl rfl rfl ⟨_, _, _, Go.Proofs.Try.underlying54, rfl, rfl, Go.Proofs.Try.sizeOf9⟩ rfl ?_
    refine O.ld rfl rfl rfl (fun w => ⟨Go.Proofs.Try.isAgg9 w, Go.Proofs.Try.sizeOf9 w⟩) rfl (mi 0 _ rfl) ?_
    refine O.lenS rfl rfl rfl rfl Go.Proofs.Try.underlying9 rfl ?_
    refine O.cmp rfl rfl rfl rfl rfl rfl (gtrT (by omega)) ?_
    refine Pl.fin [(2, _), (6, _)] ⟨rfl, rfl, trivial⟩ ?_
    refine Go'.condT rfl ?_
    refine Go'.seq ?_
    -- region 2 (zz_fits.go:34)
    refine Go'.region [(0, 0)] rfl ?_
    refine O.asg rfl rfl rfl rfl rfl ?_
    refine Pl.fin [(2, _)] ⟨rfl, trivial⟩ ?_
    refine Go'.ret (vs := [_]) Go.Proofs.Try.func51 Go.Proofs.Try.results51 ⟨rfl, trivial⟩ ?_
    exact ⟨by rw [decide_eq_false (by omega)]; rfl, M1.fr nowhere⟩
  · skip
    -- region 1 (zz_fits.go:33)
    refine Go'.region [(0, 0), (1, 1), (2, 0), (3, 0)] rfl ?_
    refine O.faz rfl rfl rfl rfl ⟨_, _, _, Go.Proofs.Try.underlying54, rfl, rfl, Go.Proofs.Try.sizeOf9⟩ rfl ?_
    refine O.ld rfl rfl rfl (fun w => ⟨Go.Proofs.Try.isAgg9 w, Go.Proofs.Try.sizeOf9 w⟩) rfl (mi 0 _ rfl) ?_
    refine O.lenS rfl rfl rfl rfl Go.Proofs.Try.underlying9 rfl ?_
    refine O.cmp rfl rfl rfl rfl rfl rfl (gtrF (by omega)) ?_
    refine Pl.fin [(2, _), (6, _)] ⟨rfl, rfl, trivial⟩ ?_
    refine Go'.condF rfl ?_
    refine Go'.skip ?_
    refine Go'.seq ?_
    -- region 3 (zz_fits.go:36)
    refine Go'.region [(0, 0)] rfl ?_
    refine O.asg rfl rfl rfl rfl rfl ?_
    refine Pl.fin [(2, _)] ⟨rfl, trivial⟩ ?_
    refine Go'.ret (vs := [_]) Go.Proofs.Try.func51 Go.Proofs.Try.results51 ⟨rfl, trivial⟩ ?_
    exact ⟨by rw [decide_eq_true (by omega)]; rfl, M1.fr nowhere⟩

theorem zz2b_spec {B : World} {H : Mem} {u : Value} {l : List (Wk × Int)} (hi : InS EJ H u l) : Fn Try.prog B 17 [u] H (fun r H' => r = .bool (zzb l) ∧ Fr nowhere H H') := by
  obtain ⟨a, c, hu⟩ := hi.len
  subst hu
  refine fn_of Go.Proofs.Try.func17 rfl Go.Proofs.Try.ntmps17 ?_
  refine (show Go' _ _ _ _ 18 [(0, _)] [.code _] _ from ?_)
  refine Go'.seq ?_
  -- region 0 (zz_fits.go:19)
  refine Go'.region [(0, 0)] rfl ?_
  refine O.asg rfl rfl rfl rfl rfl ?_
  refine Pl.fin [(0, _), (2, _)] ⟨rfl, rfl, trivial⟩ ?_
  refine Go'.seq ?_
  refine Go'.seq ?_
  by_cases hbig : (2147483647 : Int) < (l.length : Int)
  · skip
    -- region 1 (zz_fits.go:20)
    refine Go'.region [(0, 0), (1, 0), (2, 0)] rfl ?_
    refine O.mv rfl rfl rfl rfl rfl ?_
    refine O.len rfl rfl rfl rfl Go.Proofs.Try.underlying26 rfl ?_
    refine O.cmp rfl rfl rfl rfl rfl rfl (gtrT (by omega)) ?_
    refine Pl.fin [(0, _), (2, _), (7, _)] ⟨rfl, rfl, rfl, trivial⟩ ?_
    refine Go'.condT rfl ?_
    refine Go'.seq ?_
    -- region 2 (zz_fits.go:21)
    refine Go'.region [(0, 0)] rfl ?_
    refine O.asg rfl rfl rfl rfl rfl ?_
    refine Pl.fin [(0, _), (2, _)] ⟨rfl, rfl, trivial⟩ ?_
    refine Go'.ret (vs := [_]) Go.Proofs.Try.func17 Go.Proofs.Try.results17 ⟨rfl, trivial⟩ ?_
    exact ⟨by unfold zzb; rw [decide_eq_false (by omega)]; rfl, Fr.refl _ _⟩
  · skip
    -- region 1 (zz_fits.go:20)
    refine Go'.region [(0, 0), (1, 0), (2, 0)] rfl ?_
    refine O.mv rfl rfl rfl rfl rfl ?_
    refine O.len rfl rfl rfl rfl Go.Proofs.Try.underlying26 rfl ?_
    refine O.cmp rfl rfl rfl rfl rfl rfl (gtrF (by omega)) ?_
    refine Pl.fin [(0, _), (2, _), (7, _)] ⟨rfl, rfl, rfl, trivial⟩ ?_
    refine Go'.condF rfl ?_
    refine Go'.skip ?_
    refine Go'.seq ?_
    refine Go'.seq ?_
    -- region 3 (zz_fits.go:23)
    refine Go'.region [(0, 0), (1, 0), (2, 0)] rfl ?_
    refine O.mv rfl rfl rfl rfl rfl ?_
    refine O.len rfl rfl rfl rfl Go.Proofs.Try.underlying26 rfl ?_
    refine O.mv rfl rfl rfl rfl rfl ?_
    refine Pl.fin [(2, _), (8, _), (9, _), (10, _)] ⟨rfl, rfl, rfl, rfl, trivial⟩ ?_
    refine Go'.block ?_
    refine Go'.loop ?_
    refine Go'.keep [(8, _), (9, _), (10, _)] ⟨rfl, rfl, rfl, trivial⟩ ?_
    refine Go'.ind (σ := Nat) (fun j => l.length - j) (fun j H' => Fr nowhere H H' ∧ j ≤ l.length ∧ (l.take j).all (fun y => decide ((ByteArray.size y.1 : Int) ≤ 2147483647)) = true)
      (fun j => [(8, .slice a l.length c), (9, .int .i64 (l.length : Int)), (10, .int .i64 (j : Int))]) 0 ⟨Fr.refl _ _, Nat.zero_le _, rfl⟩ rfl ?_
    rintro j H2 ⟨hF, hjl, hal⟩ ih
    have hi2 := hi.fr hF
    refine Go'.seq ?_
    by_cases hlt : j < l.length
    · skip
      obtain ⟨y, hy⟩ : ∃ y, l[j]? = some y := ⟨l[j], List.getElem?_eq_getElem hlt⟩
      obtain ⟨b, o, c', e, hr⟩ := hi2.at hy
      cases e
      -- region 4 (zz_fits.go:23)
      refine Go'.region [(0, 0)] rfl ?_
      refine O.cmp rfl rfl rfl rfl rfl rfl (lssT (by omega)) ?_
      refine Pl.fin [(8, _), (9, _), (10, _), (11, _)] ⟨rfl, rfl, rfl, rfl, trivial⟩ ?_
      refine Go'.seq ?_
      refine Go'.condT rfl ?_
      refine Go'.skip ?_
      refine Go'.seq ?_
      refine Go'.block ?_
      refine Go'.seq ?_
      -- region 5 (zz_fits.go:23)
      refine Go'.region [(0, 0), (1, 1), (2, 2), (3, 2)] rfl ?_
      refine O.ix (j := j) rfl rfl rfl rfl Go.Proofs.Try.underlying26 Go.Proofs.Try.sizeOf54 rfl rfl (by omega) hlt ?_
      refine O.lds rfl rfl rfl (fun w => ⟨Go.Proofs.Try.isAgg54 w, Go.Proofs.Try.sizeOf54 w⟩) rfl rfl hr ?_
      refine O.alloc rfl rfl rfl Go.Proofs.Try.zeroValue54 ?_
      intro H3 M3
      refine ⟨trivial, ?_⟩
      have hs3 := M3.size
      have m7 : Wr H3 H2.size 0 2 := M3.wr 2 (by decide)
      refine O.st rfl rfl Go.Proofs.Try.sizeOf54 rfl rfl rfl rfl rfl m7 ?_
      intro H4 W4
      have hf4 : Fr nowhere H2 H4 := (M3.fr nowhere).trans' W4.fr (fun _ _ _ h => h) (fun b o hb hz => by have h1 := hz.1; omega)
      have x4 : Rd H4 H2.size 0 (EJ.enc y) := W4.all
      refine ⟨trivial, ?_⟩
      refine Pl.fin [(4, _), (8, _), (9, _), (10, _), (11, _)] ⟨rfl, rfl, rfl, rfl, rfl, trivial⟩ ?_
      refine Go'.seq ?_
      -- region 6 (zz_fits.go:24)
      refine Go'.region [(0, 1), (1, 2), (2, 0)] rfl ?_
      refine O.lds rfl rfl rfl (fun w => ⟨Go.Proofs.Try.isAgg54 w, Go.Proofs.Try.sizeOf54 w⟩) rfl rfl x4 ?_
      refine O.call rfl rfl rfl Go.Proofs.Try.call51 rfl zz3b_spec ?_
      rintro _ H5 ⟨rfl, hF5⟩
      refine ⟨trivial, ?_⟩
      refine O.not rfl rfl rfl rfl rfl ?_
      refine Pl.fin [(4, _), (8, _), (9, _), (10, _), (11, _), (16, _)] ⟨rfl, rfl, rfl, rfl, rfl, rfl, trivial⟩ ?_
      cases hsz : decide ((ByteArray.size y.1 : Int) ≤ 2147483647)
      · skip
        refine Go'.condT rfl ?_
        refine Go'.seq ?_
        -- region 7 (zz_fits.go:25)
        refine Go'.region [(0, 0)] rfl ?_
        refine O.asg rfl rfl rfl rfl rfl ?_
        refine Pl.fin [(2, _), (4, _), (8, _), (9, _), (10, _), (11, _), (16, _)] ⟨rfl, rfl, rfl, rfl, rfl, rfl, rfl, trivial⟩ ?_
        refine Go'.ret (vs := [_]) Go.Proofs.Try.func17 Go.Proofs.Try.results17 ⟨rfl, trivial⟩ ?_
        refine ⟨?_, (hF.trans hf4).trans hF5⟩
        have : (l.all fun y => decide ((ByteArray.size y.1 : Int) ≤ 2147483647)) = false := by
          rw [List.all_eq_false]
          exact ⟨y, List.mem_of_getElem? hy, by rw [hsz]; simp⟩
        unfold zzb
        rw [this, Bool.and_false]; rfl
      · skip
        refine Go'.condF rfl ?_
        refine Go'.skip ?_
        refine Go'.inBlock ?_
        -- region 8 (zz_fits.go:23)
        refine Go'.region [(0, 0), (1, 0)] rfl ?_
        refine O.add (((j + 1 : Nat) : Int)) rfl rfl rfl rfl rfl rfl (by omega) (by omega) ?_
        refine O.mv rfl rfl rfl rfl rfl ?_
        refine Pl.fin [(4, _), (8, _), (9, _), (10, _), (11, _), (16, _)] ⟨rfl, rfl, rfl, rfl, rfl, rfl, trivial⟩ ?_
        refine Go'.keep [(8, _), (9, _), (10, _)] ⟨rfl, rfl, rfl, trivial⟩ ?_
        refine Go'.inLoop ?_
        exact ih (j + 1) H5 ⟨(hF.trans hf4).trans hF5, hlt, by
          rw [List.take_add_one, hy, List.all_append, hal, Bool.true_and]
          simp only [Option.toList_some, List.all_cons, List.all_nil, Bool.and_true]
          exact hsz⟩ (by omega)
    · skip
      obtain rfl : j = l.length := by omega
      rw [List.take_length] at hal
      -- region 4 (zz_fits.go:23)
      refine Go'.region [(0, 0)] rfl ?_
      refine O.cmp rfl rfl rfl rfl rfl rfl (lssF (by omega)) ?_
      refine Pl.fin [(8, _), (9, _), (10, _), (11, _)] ⟨rfl, rfl, rfl, rfl, trivial⟩ ?_
      refine Go'.seq ?_
      refine Go'.condF rfl ?_
      refine Go'.exit rfl ?_
      refine Go'.seq ?_
      -- region 9 (zz_fits.go:28)
      refine Go'.region [(0, 0)] rfl ?_
      refine O.asg rfl rfl rfl rfl rfl ?_
      refine Pl.fin [(2, _)] ⟨rfl, trivial⟩ ?_
      refine Go'.ret (vs := [_]) Go.Proofs.Try.func17 Go.Proofs.Try.results17 ⟨rfl, trivial⟩ ?_
      exact ⟨by unfold zzb; rw [hal, decide_eq_true (by omega)]; rfl, hF⟩

theorem fnExactWDescend {B : World} {H : Mem} {z : Int} {u : Value} {p : Wk} {l : List (Wk × Int)} {n : Int} (hi : InS EJ H u l) :
    Fn Try.prog B 8 [.int .i64 z, u, .string p, .int .i64 n] H (fun r H' => r = .bool true ∧ Fr nowhere H H') := by
  have hi00 := hi
  have hbz : zzb l = true → (l.length : Int) ≤ 2147483647 := fun h => by
    unfold zzb at h
    rw [Bool.and_eq_true] at h
    exact of_decide_eq_true h.1
  refine fn_of Go.Proofs.Try.func8 rfl Go.Proofs.Try.ntmps8 ?_
  refine (show Go' _ _ _ _ 35 [(0, _), (1, _), (2, _), (3, _)] [.code _] _ from ?_)
  refine Go'.seq ?_
  -- region 0 (exact.go:1619)
  refine Go'.region [(0, 0)] rfl ?_
  refine O.asg rfl rfl rfl rfl rfl ?_
  refine Pl.fin [(0, _), (1, _), (2, _), (3, _), (8, _)] ⟨rfl, rfl, rfl, rfl, rfl, trivial⟩ ?_
  refine Go'.seq ?_
  refine Go'.seq ?_
  cases hzb : zzb l
  · skip
    -- region 1 (exact.go:1620)
    refine Go'.region [(0, 0), (1, 2), (2, 0), (3, 0), (4, 0), (5, 0), (6, 0), (7, 0)] rfl ?_
    refine O.mv rfl rfl rfl rfl rfl ?_
    refine O.call rfl rfl rfl Go.Proofs.Try.call17 rfl (zz2b_spec hi) ?_
    rintro _ H0 ⟨rfl, hF0⟩
    rw [hzb]
    have hi0 := hi00.fr hF0
    refine ⟨trivial, ?_⟩
    refine O.not rfl rfl rfl rfl rfl ?_
    refine O.mv rfl rfl rfl rfl rfl ?_
    refine Pl.pass rfl rfl rfl rfl ?_
    refine Pl.pass rfl rfl rfl rfl ?_
    refine Pl.pass rfl rfl rfl rfl ?_
    refine O.pick rfl rfl rfl rfl rfl rfl ?_
    refine Pl.fin [(0, _), (1, _), (2, _), (3, _), (8, _), (16, _)] ⟨rfl, rfl, rfl, rfl, rfl, rfl, trivial⟩ ?_
    refine Go'.condT rfl ?_
    refine Go'.seq ?_
    -- region 2 (exact.go:1621)
    refine Go'.region [(0, 0)] rfl ?_
    refine O.asg rfl rfl rfl rfl rfl ?_
    refine Pl.fin [(0, _), (1, _), (2, _), (3, _), (8, _)] ⟨rfl, rfl, rfl, rfl, rfl, trivial⟩ ?_
    refine Go'.ret (vs := [_]) Go.Proofs.Try.func8 Go.Proofs.Try.results8 ⟨rfl, trivial⟩ ?_
    exact ⟨rfl, hF0⟩
  · skip
    replace hbz := hbz hzb
    by_cases hps : (2147483647 : Int) < (p.size : Int)
    · skip
      -- region 1 (exact.go:1620)
      refine Go'.region [(0, 0), (1, 2), (2, 0), (3, 0), (4, 0), (5, 0), (6, 0), (7, 0)] rfl ?_
      refine O.mv rfl rfl rfl rfl rfl ?_
      refine O.call rfl rfl rfl Go.Proofs.Try.call17 rfl (zz2b_spec hi) ?_
      rintro _ H0 ⟨rfl, hF0⟩
      rw [hzb]
      have hi0 := hi00.fr hF0
      refine ⟨trivial, ?_⟩
      refine O.not rfl rfl rfl rfl rfl ?_
      refine O.mv rfl rfl rfl rfl rfl ?_
      refine O.mv rfl rfl rfl rfl rfl ?_
      refine O.lenS rfl rfl rfl rfl Go.Proofs.Try.underlying9 rfl ?_
      refine O.cmp rfl rfl rfl rfl rfl rfl (gtrT (by omega)) ?_
      refine O.pick rfl rfl rfl rfl rfl rfl ?_
      refine Pl.fin [(0, _), (1, _), (2, _), (3, _), (8, _), (16, _)] ⟨rfl, rfl, rfl, rfl, rfl, rfl, trivial⟩ ?_
      refine Go'.condT rfl ?_
      refine Go'.seq ?_
      -- region 2 (exact.go:1621)
      refine Go'.region [(0, 0)] rfl ?_
      refine O.asg rfl rfl rfl rfl rfl ?_
      refine Pl.fin [(0, _), (1, _), (2, _), (3, _), (8, _)] ⟨rfl, rfl, rfl, rfl, rfl, trivial⟩ ?_
      refine Go'.ret (vs := [_]) Go.Proofs.Try.func8 Go.Proofs.Try.results8 ⟨rfl, trivial⟩ ?_
      exact ⟨rfl, hF0⟩
    · skip
      -- region 1 (exact.go:1620)
      refine Go'.region [(0, 0), (1, 2), (2, 0), (3, 0), (4, 0), (5, 0), (6, 0), (7, 0)] rfl ?_
      refine O.mv rfl rfl rfl rfl rfl ?_
      refine O.call rfl rfl rfl Go.Proofs.Try.call17 rfl (zz2b_spec hi) ?_
      rintro _ H0 ⟨rfl, hF0⟩
      rw [hzb]
      have hi0 := hi00.fr hF0
      refine ⟨trivial, ?_⟩
      refine O.not rfl rfl rfl rfl rfl ?_
      refine O.mv rfl rfl rfl rfl rfl ?_
      refine O.mv rfl rfl rfl rfl rfl ?_
      refine O.lenS rfl rfl rfl rfl Go.Proofs.Try.underlying9 rfl ?_
      refine O.cmp rfl rfl rfl rfl rfl rfl (gtrF (by omega)) ?_
      refine O.pick rfl rfl rfl rfl rfl rfl ?_
      refine Pl.fin [(0, _), (1, _), (2, _), (3, _), (8, _), (16, _)] ⟨rfl, rfl, rfl, rfl, rfl, rfl, trivial⟩ ?_
      refine Go'.condF rfl ?_
      refine Go'.skip ?_
      refine Go'.seq ?_
      cases hfz : fitsb z
      · skip
        -- region 3 (exact.go:1623)
        refine Go'.region [(0, 2), (1, 2), (2, 0), (3, 0), (4, 2), (5, 0), (6, 0), (7, 0), (8, 0), (9, 0), (10, 0), (11, 0), (12, 0), (13, 0), (14, 0), (15, 2), (16, 0), (17, 0), (18, 0)] rfl ?_
        refine O.call rfl rfl rfl Go.Proofs.Try.call19 rfl exWords_spec ?_
        rintro ev H1 ⟨hev, hF1⟩
        refine ⟨trivial, ?_⟩
        refine O.call rfl rfl rfl Go.Proofs.Try.call26 rfl (lawWDescend_spec (d := 2) (n := 2) (by decide) hev (by decide)) ?_
        rintro _ H2 ⟨rfl, hF2⟩
        have hF := hF1.trans hF2
        have hi2 := hi0.fr hF
        refine ⟨trivial, ?_⟩
        refine O.mv rfl rfl rfl rfl rfl ?_
        refine O.mv rfl rfl rfl rfl rfl ?_
        refine O.callQ rfl rfl rfl Go.Proofs.Try.call20 rfl (fits_spec' hfz) trivial ?_
        refine O.mv rfl rfl rfl rfl rfl ?_
        refine Pl.pass rfl rfl rfl rfl ?_
        refine Pl.pass rfl rfl rfl rfl ?_
        refine O.pick rfl rfl rfl rfl rfl rfl ?_
        refine O.not rfl rfl rfl rfl rfl ?_
        refine O.mv rfl rfl rfl rfl rfl ?_
        refine Pl.pass rfl rfl rfl rfl ?_
        refine Pl.pass rfl rfl rfl rfl ?_
        refine Pl.pass rfl rfl rfl rfl ?_
        refine Pl.pass rfl rfl rfl rfl ?_
        refine Pl.pass2 rfl rfl rfl rfl trivial ?_
        refine O.pick rfl rfl rfl rfl rfl rfl ?_
        refine O.pick rfl rfl rfl rfl rfl rfl ?_
        refine O.asg rfl rfl rfl rfl rfl ?_
        refine Pl.fin [(8, _)] ⟨rfl, trivial⟩ ?_
        refine Go'.ret (vs := [_]) Go.Proofs.Try.func8 Go.Proofs.Try.results8 ⟨rfl, trivial⟩ ?_
        exact ⟨rfl, hF0.trans hF⟩
      · skip
        by_cases hp : 0 < z
        · skip
          obtain ⟨d, rfl⟩ := Int.eq_ofNat_of_zero_le (by omega : 0 ≤ z)
          have hd : 2 ≤ d ∧ d ≤ 128 := by
            unfold fitsb at hfz
            simp only [Bool.or_eq_true, Bool.and_eq_true, decide_eq_true_eq] at hfz
            omega
          -- region 3 (exact.go:1623)
          refine Go'.region [(0, 2), (1, 2), (2, 0), (3, 0), (4, 2), (5, 0), (6, 0), (7, 0), (8, 0), (9, 0), (10, 0), (11, 0), (12, 0), (13, 0), (14, 0), (15, 2), (16, 0), (17, 0), (18, 0)] rfl ?_
          refine O.call rfl rfl rfl Go.Proofs.Try.call19 rfl exWords_spec ?_
          rintro ev H1 ⟨hev, hF1⟩
          refine ⟨trivial, ?_⟩
          refine O.call rfl rfl rfl Go.Proofs.Try.call26 rfl (lawWDescend_spec (d := 2) (n := 2) (by decide) hev (by decide)) ?_
          rintro _ H2 ⟨rfl, hF2⟩
          have hF := hF1.trans hF2
          have hi2 := hi0.fr hF
          refine ⟨trivial, ?_⟩
          refine O.mv rfl rfl rfl rfl rfl ?_
          refine O.mv rfl rfl rfl rfl rfl ?_
          refine O.callQ rfl rfl rfl Go.Proofs.Try.call20 rfl (fits_spec' hfz) trivial ?_
          refine O.mv rfl rfl rfl rfl rfl ?_
          refine O.mv rfl rfl rfl rfl rfl ?_
          refine O.cmp rfl rfl rfl rfl rfl rfl (gtrT (by omega)) ?_
          refine O.pick rfl rfl rfl rfl rfl rfl ?_
          refine O.not rfl rfl rfl rfl rfl ?_
          refine O.mv rfl rfl rfl rfl rfl ?_
          refine O.mv rfl rfl rfl rfl rfl ?_
          refine O.mv rfl rfl rfl rfl rfl ?_
          refine O.mv rfl rfl rfl rfl rfl ?_
          refine O.mv rfl rfl rfl rfl rfl ?_
          refine O.call rfl rfl rfl Go.Proofs.Try.call26 rfl (lawWDescend_spec hd hi2 (by omega)) ?_
          rintro _ H3 ⟨rfl, hF3⟩
          replace hF := hF.trans hF3
          refine ⟨trivial, ?_⟩
          refine O.pick rfl rfl rfl rfl rfl rfl ?_
          refine O.pick rfl rfl rfl rfl rfl rfl ?_
          refine O.asg rfl rfl rfl rfl rfl ?_
          refine Pl.fin [(8, _)] ⟨rfl, trivial⟩ ?_
          refine Go'.ret (vs := [_]) Go.Proofs.Try.func8 Go.Proofs.Try.results8 ⟨rfl, trivial⟩ ?_
          exact ⟨rfl, hF0.trans hF⟩
        · skip
          -- region 3 (exact.go:1623)
          refine Go'.region [(0, 2), (1, 2), (2, 0), (3, 0), (4, 2), (5, 0), (6, 0), (7, 0), (8, 0), (9, 0), (10, 0), (11, 0), (12, 0), (13, 0), (14, 0), (15, 2), (16, 0), (17, 0), (18, 0)] rfl ?_
          refine O.call rfl rfl rfl Go.Proofs.Try.call19 rfl exWords_spec ?_
          rintro ev H1 ⟨hev, hF1⟩
          refine ⟨trivial, ?_⟩
          refine O.call rfl rfl rfl Go.Proofs.Try.call26 rfl (lawWDescend_spec (d := 2) (n := 2) (by decide) hev (by decide)) ?_
          rintro _ H2 ⟨rfl, hF2⟩
          have hF := hF1.trans hF2
          have hi2 := hi0.fr hF
          refine ⟨trivial, ?_⟩
          refine O.mv rfl rfl rfl rfl rfl ?_
          refine O.mv rfl rfl rfl rfl rfl ?_
          refine O.callQ rfl rfl rfl Go.Proofs.Try.call20 rfl (fits_spec' hfz) trivial ?_
          refine O.mv rfl rfl rfl rfl rfl ?_
          refine O.mv rfl rfl rfl rfl rfl ?_
          refine O.cmp rfl rfl rfl rfl rfl rfl (gtrF (by omega)) ?_
          refine O.pick rfl rfl rfl rfl rfl rfl ?_
          refine O.not rfl rfl rfl rfl rfl ?_
          refine O.mv rfl rfl rfl rfl rfl ?_
          refine Pl.pass rfl rfl rfl rfl ?_
          refine Pl.pass rfl rfl rfl rfl ?_
          refine Pl.pass rfl rfl rfl rfl ?_
          refine Pl.pass rfl rfl rfl rfl ?_
          refine Pl.pass2 rfl rfl rfl rfl trivial ?_
          refine O.pick rfl rfl rfl rfl rfl rfl ?_
          refine O.pick rfl rfl rfl rfl rfl rfl ?_
          refine O.asg rfl rfl rfl rfl rfl ?_
          refine Pl.fin [(8, _)] ⟨rfl, trivial⟩ ?_
          refine Go'.ret (vs := [_]) Go.Proofs.Try.func8 Go.Proofs.Try.results8 ⟨rfl, trivial⟩ ?_
          exact ⟨rfl, hF0.trans hF⟩

end Go.Bt.FW
