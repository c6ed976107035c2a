/- FnSOrders: for every input the law returns true, and the input reads as it did. Conditions: none. -/
import Derived.Test.YtknkmaigdgfhlaaRows
import Derived.WalkKit
import Derived.ProofKit
import Derived.OpenShut
import Derived.ShutString
import Derived.ChangeOld
import Derived.Below
import Derived.Deep.SlicePairs
import Derived.ChangeArms
import Derived.Test.YtknkmaigdgfhlaavI
namespace Go.Proofs.Ytknkmaigdgfhlaa.fnSOrders
open Go.ChangeShapes Go.WideShapes Go.ChangeAt Go.RowKit
open Go.Bt
set_option linter.unusedVariables false

theorem own : ownKnob Try.prog.godebug = none := by kernel_rfl
theorem laidOut : laidOutB Try.prog = true := by kernel_rfl

theorem walk (v0 : Value) (l0 : List Int) (a1 : Int) (w : World) (w0 : InS EN w.heap v0 l0) (w1 : (Lit.int .u8 a1).wf = true) :
    Calls Try.prog 7 #[v0, .int .u8 a1] w fun e w' => e = .returned (.bool true) ∧ Below w.heap.size w w' := by
  have h0 : Bt.Fn Try.prog w 7 [v0, .int .u8 a1] w.heap (fun r H' => r = .bool true ∧ Fr nowhere w.heap H') := Go.Bt.FZ.fnSOrders w0 (Go.Bt.FZ.wf_u8 w1)
  have h := h0 w.drawn
  rw [mk_self] at h
  refine h.mono fun e w' he => ?_
  cases e with
  | returned v =>
    obtain ⟨H', d', rfl, rfl, hF⟩ := he
    exact ⟨rfl, ⟨rfl, rfl, rfl, hF.size, fun k hk => hF.blk k hk fun _ => nw⟩⟩
  | panicked c => exact he.elim
  | outgrown => exact he.elim

/-- A slice of numbers that came in. -/
theorem ints_in {w : World} {a : Addr} {len cap : Nat} {V : Nat → Value} (hl : len ≤ cap) (h : ∀ i, i < cap → w.cell? (a.add i) = some (V i) ∧ ∃ n, V i = .int .i64 n) :
    ∃ l : List Int, InS EN w.heap (.slice (some a) len cap) l := by
  rcases Nat.eq_zero_or_pos cap with rfl | hc
  · obtain rfl : len = 0 := by omega
    exact ⟨[], .inr ⟨rfl, _, _, rfl⟩⟩
  · obtain ⟨b, o, s⟩ := a
    have h0 := (h 0 hc).1
    have hs : s = none := by
      cases s with
      | none => rfl
      | some k =>
        simp only [Addr.add, if_true, World.cell?] at h0
        split at h0 <;> simp at h0
    subst hs
    have hx : ∀ i, ∃ p : Int, i < cap → V i = .int .i64 p := fun i => by
      by_cases hi : i < cap
      · obtain ⟨_, n, hn⟩ := h i hi
        exact ⟨n, fun _ => hn⟩
      · exact ⟨0, fun hh => absurd hh hi⟩
    let p := fun i => Classical.choose (hx i)
    have hp : ∀ i, i < cap → V i = .int .i64 (p i) := fun i => Classical.choose_spec (hx i)
    refine ⟨(List.range len).map p, .inl ⟨b, o, cap, by simp, by simpa using hl, fun j v hv => ?_⟩⟩
    have hj := (List.getElem?_eq_some_iff.1 hv).1
    have hlen : (row EN ((List.range len).map p)).length = len * 1 := by rw [row_len, List.length_map, List.length_range]; rfl
    rw [hlen] at hj
    have hi : j < len := by omega
    have hq : ((List.range len).map p)[j]? = some (p j) := by simp [hi]
    obtain ⟨c0, _⟩ := h j (by omega)
    rw [hp j (by omega), Addr.add_lit] at c0
    have cc : ∀ n, World.cell? w ⟨b, n, none⟩ = cl w.heap b n := fun n => by rw [← mk_self w]; exact mk_cell _ _ _ _ _
    rw [cc] at c0
    have hg := row_get EN hq 0 _ rfl
    have ej : j * EN.s + 0 = j := by show j * 1 + 0 = j; omega
    rw [ej] at hg
    have : v = .int .i64 (p j) := Option.some.inj (hv.symm.trans hg)
    rw [this]; exact c0

set_option maxRecDepth 100000 in
theorem lifted (os : Os) (started : os.Started) (H : Type) (enc : TypeId × Value → H) :
    ReturnsInHanded {} Try.checked os 7 .any (Rows.fnSOrdersSpec.pre6 enc Try.prog Try.f7 Rows.fnSOrdersRow.domain false) (Rows.fnSOrdersSpec.post enc Try.prog Try.f7 false true false false) := by
  refine returnsInHanded_of_change (C := Try.checked) own started (by kernel_rfl) Try.func7
    (ChangeSpec.witness6 (enc := enc) (C := Try.checked) false ⟨#[], #[.slice none 0 0, .int .u8 0], []⟩ 8 (by kernel_rfl) (by kernel_rfl) (by kernel_rfl) (by kernel_rfl)) ?_
  intro W base args ds gs before hval0 hW hcnd _
  have hval : ∀ (j : Nat) t v, Try.f7.params[j]? = some t → args[j]? = some v → Value.okWide Try.prog W .any base t v := hval0
  have hW' := hW
  obtain ⟨p, q, hA0, hV, rfl, hfz, hnd⟩ := hW
  have hA : DataW.TrodAll enc Try.prog W 0 (fun _ => true) true Try.f7.params.toList args.toList ds p := hA0
  rw [Try.params7] at hA hval
  obtain ⟨v0, vs0, d0, ds0, p0, q0, hargs, rfl, rfl, h0, r0⟩ := trodAll_cons hA
  obtain ⟨v1, vs1, d1, ds1, p1, q1, rfl, rfl, rfl, h1, r1⟩ := trodAll_cons r0
  obtain ⟨rfl, rfl, rfl⟩ := trodAll_nil r1
  obtain rfl : args = #[v0, v1] := by cases args; simp_all
  obtain ⟨rfl, rfl⟩ := trodVars_none hV
  obtain ⟨a0, len0, cap0, rfl⟩ := okWide_slice Try.underlying22 (hval 0 22 v0 rfl rfl)
  have k0 := h0
  have lt0 : ∀ x ∈ p0, x.block < W.heap.size := by obtain ⟨m, hm⟩ := k0; exact DataW.trod_lt m _ _ _ hm
  obtain ⟨z0, w0⟩ : ∃ l, InS EN W.heap (.slice a0 len0 cap0) l := by
    obtain ⟨fuel, hf⟩ := h0
    rcases Go.Deep.open_slice1 Try.underlying22 (by kernel_rfl) hf with ⟨hcs, _⟩ | ⟨x, l, c, m, n, V, D, P, hcs, _, hl, hm, hmm, _, hcell⟩
    · simp [Value.cells] at hcs
      obtain ⟨rfl, rfl, rfl⟩ := hcs
      exact ⟨[], .inr ⟨rfl, _, _, rfl⟩⟩
    · simp [Value.cells] at hcs
      obtain ⟨rfl, rfl, rfl⟩ := hcs
      simp only [if_true] at hmm
      subst hmm
      exact ints_in hl fun i hi => by
        obtain ⟨c0, g0⟩ := hcell i hi
        obtain ⟨n0, e0, _⟩ := DataW.trod_int Try.underlying3 g0
        exact ⟨c0, n0, by simpa using e0⟩
  obtain ⟨a1, rfl, rfl, rfl, w1⟩ := open_int Try.underlying5 (hval 1 5 v1 rfl rfl) h1
  clear hA0 hval0
  refine (walk _ _ a1 W w0 w1).mono fun e W' ⟨he, bel⟩ => ?_
  subst he
  exact ⟨_, rfl, _, _, _, [], _, [], hW', trodAll_mk1 (shut_bool Try.underlying4 _), (trodAll_cons_mk (Below.trod laidOut (by kernel_rfl) (of_decide_eq_true (by kernel_rfl)) k0 bel lt0) (trodAll_cons_mk (shut_int Try.underlying5 w1) trodAll_mk0)), rfl, bel.frame _, fun h => by cases h⟩

theorem over : Rows.fnSOrdersRow.holds Try.pinned (OpenSpec.ofChange Rows.fnSOrdersSpec) :=
  OpenClaim.holds_of_wide 7 Try.f7 rfl rfl rfl rfl rfl rfl rfl ⟨rfl, rfl, rfl, rfl, rfl⟩ rfl rfl rfl rfl rfl (by kernel_rfl) Try.func7 (by kernel_rfl)
    (of_decide_eq_true (by kernel_rfl)) (by unfold Func.isWrapper; first | (rw [if_pos (by decide +kernel)]; kernel_rfl) | (rw [if_neg (by decide +kernel)]; exact ⟨rfl, rfl⟩))
    (fun os started H enc _ => lifted os started H enc)

theorem proved : Rows.FnSOrdersSaid := over
#print axioms proved
end Go.Proofs.Ytknkmaigdgfhlaa.fnSOrders
