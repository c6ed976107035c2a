/- FnSStride: for every input the law returns true, and the input reads as it did. Conditions: none. -/
import Derived.Test.YtknkmaigdgfhlaaRows
import Derived.WalkKit
import Derived.ProofKit
import Derived.OpenShut
import Derived.ShutString
import Derived.ChangeOld
import Derived.Below
import Derived.Deep.SlicePairs
import Derived.ChangeArms
import Derived.Test.YtknkmaigdgfhlaaTovM
namespace Go.Proofs.Ytknkmaigdgfhlaa.fnSStride
open Go.ChangeShapes Go.WideShapes Go.ChangeAt Go.RowKit
open Go.Bt
set_option linter.unusedVariables false

theorem own : ownKnob Try.prog.godebug = none := by kernel_rfl
theorem laidOut : laidOutB Try.prog = true := by kernel_rfl

theorem walk (a0 : Int) (a1 : Int) (v2 : Value) (l2 : List Bool) (w : World) (w0 : (Lit.int .u16 a0).wf = true) (w1 : (Lit.int .u16 a1).wf = true) (w2 : InS EB w.heap v2 l2) :
    Calls Try.prog 13 #[.int .u16 a0, .int .u16 a1, v2] w fun e w' => e = .returned (.bool true) ∧ Below w.heap.size w w' := by
  have h0 : Bt.Fn Try.prog w 13 [.int .u16 a0, .int .u16 a1, v2] w.heap (fun r H' => r = .bool true ∧ Fr nowhere w.heap H') := Go.Bt.FZ.fnSStride (Go.Bt.FZ.wf_u16 w0) (Go.Bt.FZ.wf_u16 w1) w2
  have h := h0 w.drawn
  rw [mk_self] at h
  refine h.mono fun e w' he => ?_
  cases e with
  | returned v =>
    obtain ⟨H', d', rfl, rfl, hF⟩ := he
    exact ⟨rfl, ⟨rfl, rfl, rfl, hF.size, fun k hk => hF.blk k hk fun _ => nw⟩⟩
  | panicked c => exact he.elim
  | outgrown => exact he.elim

set_option maxRecDepth 100000 in
theorem lifted (os : Os) (started : os.Started) (H : Type) (enc : TypeId × Value → H) :
    ReturnsInHanded {} Try.checked os 13 .any (Rows.fnSStrideSpec.pre6 enc Try.prog Try.f13 Rows.fnSStrideRow.domain false) (Rows.fnSStrideSpec.post enc Try.prog Try.f13 false true false false) := by
  refine returnsInHanded_of_change (C := Try.checked) own started (by kernel_rfl) Try.func13
    (ChangeSpec.witness6 (enc := enc) (C := Try.checked) false ⟨#[], #[.int .u16 0, .int .u16 0, .slice none 0 0], []⟩ 8 (by kernel_rfl) (by kernel_rfl) (by kernel_rfl) (by kernel_rfl)) ?_
  intro W base args ds gs before hval0 hW hcnd _
  have hval : ∀ (j : Nat) t v, Try.f13.params[j]? = some t → args[j]? = some v → Value.okWide Try.prog W .any base t v := hval0
  have hW' := hW
  obtain ⟨p, q, hA0, hV, rfl, hfz, hnd⟩ := hW
  have hA : DataW.TrodAll enc Try.prog W 0 (fun _ => true) true Try.f13.params.toList args.toList ds p := hA0
  rw [Try.params13] at hA hval
  obtain ⟨v0, vs0, d0, ds0, p0, q0, hargs, rfl, rfl, h0, r0⟩ := trodAll_cons hA
  obtain ⟨v1, vs1, d1, ds1, p1, q1, rfl, rfl, rfl, h1, r1⟩ := trodAll_cons r0
  obtain ⟨v2, vs2, d2, ds2, p2, q2, rfl, rfl, rfl, h2, r2⟩ := trodAll_cons r1
  obtain ⟨rfl, rfl, rfl⟩ := trodAll_nil r2
  obtain rfl : args = #[v0, v1, v2] := by cases args; simp_all
  obtain ⟨rfl, rfl⟩ := trodVars_none hV
  obtain ⟨a0, rfl, rfl, rfl, w0⟩ := open_int Try.underlying57 (hval 0 57 v0 rfl rfl) h0
  obtain ⟨a1, rfl, rfl, rfl, w1⟩ := open_int Try.underlying57 (hval 1 57 v1 rfl rfl) h1
  obtain ⟨a2, len2, cap2, rfl⟩ := okWide_slice Try.underlying50 (hval 2 50 v2 rfl rfl)
  have k2 := h2
  have lt2 : ∀ x ∈ p2, x.block < W.heap.size := by obtain ⟨m, hm⟩ := k2; exact DataW.trod_lt m _ _ _ hm
  obtain ⟨z2, w2⟩ : ∃ l, InS EB W.heap (.slice a2 len2 cap2) l := by
    obtain ⟨fuel, hf⟩ := h2
    exact bools_in Try.underlying50 Try.underlying4 (by kernel_rfl) hf
  clear hA0 hval0
  refine (walk a0 a1 _ _ W w0 w1 w2).mono fun e W' ⟨he, bel⟩ => ?_
  subst he
  exact ⟨_, rfl, _, _, _, [], _, [], hW', trodAll_mk1 (shut_bool Try.underlying4 _), (trodAll_cons_mk (shut_int Try.underlying57 w0) (trodAll_cons_mk (shut_int Try.underlying57 w1) (trodAll_cons_mk (Below.trod laidOut (by kernel_rfl) (of_decide_eq_true (by kernel_rfl)) k2 bel lt2) trodAll_mk0))), rfl, bel.frame _, fun h => by cases h⟩

theorem over : Rows.fnSStrideRow.holds Try.pinned (OpenSpec.ofChange Rows.fnSStrideSpec) :=
  OpenClaim.holds_of_wide 13 Try.f13 rfl rfl rfl rfl rfl rfl rfl ⟨rfl, rfl, rfl, rfl, rfl⟩ rfl rfl rfl rfl rfl (by kernel_rfl) Try.func13 (by kernel_rfl)
    (of_decide_eq_true (by kernel_rfl)) (by unfold Func.isWrapper; first | (rw [if_pos (by decide +kernel)]; kernel_rfl) | (rw [if_neg (by decide +kernel)]; exact ⟨rfl, rfl⟩))
    (fun os started H enc _ => lifted os started H enc)

theorem proved : Rows.FnSStrideSaid := over
#print axioms proved
end Go.Proofs.Ytknkmaigdgfhlaa.fnSStride
