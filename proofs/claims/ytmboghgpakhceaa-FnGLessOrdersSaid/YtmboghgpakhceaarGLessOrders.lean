/- FnGLessOrders: for every input the law returns true, and the input reads as it did. Conditions: none. -/
import Derived.Test.YtmboghgpakhceaaRows
import Derived.WalkKit
import Derived.ProofKit
import Derived.OpenShut
import Derived.ShutString
import Derived.ChangeOld
import Derived.Below
import Derived.Deep.SlicePairs
import Derived.ChangeArms
import Derived.Test.YtmboghgpakhceaaTogD
import Derived.Test.YtmboghgpakhceaaToiF
import Derived.Test.YtmboghgpakhceaaToRb
namespace Go.Proofs.Ytmboghgpakhceaa.fnGLessOrders
open Go.ChangeShapes Go.WideShapes Go.ChangeAt Go.RowKit
open Go.Bt
set_option linter.unusedVariables false

theorem own : ownKnob Try.prog.godebug = none := by kernel_rfl
theorem laidOut : laidOutB Try.prog = true := frame1

theorem walk (x0_0 : Value) (l0_0 : List Int) (x0_1 : Int) (x0_2 : Bool) (x1_0 : Int) (x1_1 : Int) (x2_0 : Int) (x2_1 : Int) (x3_0 : Int) (x3_1 : Int) (w : World) (w0_0 : InS EN w.heap x0_0 l0_0) :
    Calls Try.prog 4 #[.agg #[x0_0, .int .i64 x0_1, .bool x0_2], .agg #[.int .i64 x1_0, .int .i64 x1_1], .agg #[.int .i64 x2_0, .int .i64 x2_1], .agg #[.int .i64 x3_0, .int .i64 x3_1]] w fun e w' => e = .returned (.bool true) ∧ Below w.heap.size w w' := by
  have h0 : Bt.Fn Try.prog w 4 [.agg #[x0_0, .int .i64 x0_1, .bool x0_2], .agg #[.int .i64 x1_0, .int .i64 x1_1], .agg #[.int .i64 x2_0, .int .i64 x2_1], .agg #[.int .i64 x3_0, .int .i64 x3_1]] w.heap (fun r H' => r = .bool true ∧ Fr nowhere w.heap H') := Go.Bt.FG.fnGLessOrders w0_0 (y1 := (x1_0, x1_1)) (y2 := (x2_0, x2_1)) (y3 := (x3_0, x3_1))
  have h := h0 w.drawn
  rw [mk_self] at h
  refine h.mono fun e w' he => ?_
  cases e with
  | returned v =>
    obtain ⟨H', d', rfl, rfl, hF⟩ := he
    exact ⟨rfl, ⟨rfl, rfl, rfl, hF.size, fun k hk => hF.blk k hk fun _ => nw⟩⟩
  | panicked c => exact he.elim
  | outgrown => exact he.elim

set_option maxRecDepth 100000 in
theorem lifted (os : Os) (started : os.Started) (H : Type) (enc : TypeId × Value → H) :
    ReturnsInHanded {} Try.checked os 4 .any (Rows.fnGLessOrdersSpec.pre6 enc Try.prog Try.f4 Rows.fnGLessOrdersRow.domain false) (Rows.fnGLessOrdersSpec.post enc Try.prog Try.f4 false true false false) := by
  refine returnsInHanded_of_change (C := Try.checked) own started (by kernel_rfl) Try.func4
    (ChangeSpec.witness6 (enc := enc) (C := Try.checked) false ⟨#[], #[.agg #[.slice none 0 0, .int .i64 0, .bool false], .agg #[.int .i64 0, .int .i64 0], .agg #[.int .i64 0, .int .i64 0], .agg #[.int .i64 0, .int .i64 0]], []⟩ 8 (by kernel_rfl) (by kernel_rfl) (by kernel_rfl) (by kernel_rfl)) ?_
  intro W base args ds gs before hval0 hW hcnd _
  have hval : ∀ (j : Nat) t v, Try.f4.params[j]? = some t → args[j]? = some v → Value.okWide Try.prog W .any base t v := hval0
  have hW' := hW
  obtain ⟨p, q, hA0, hV, rfl, hfz, hnd⟩ := hW
  have hA : DataW.TrodAll enc Try.prog W 0 (fun _ => true) true Try.f4.params.toList args.toList ds p := hA0
  rw [Try.params4] at hA hval
  obtain ⟨v0, vs0, d0, ds0, p0, q0, hargs, rfl, rfl, h0, r0⟩ := trodAll_cons hA
  obtain ⟨v1, vs1, d1, ds1, p1, q1, rfl, rfl, rfl, h1, r1⟩ := trodAll_cons r0
  obtain ⟨v2, vs2, d2, ds2, p2, q2, rfl, rfl, rfl, h2, r2⟩ := trodAll_cons r1
  obtain ⟨v3, vs3, d3, ds3, p3, q3, rfl, rfl, rfl, h3, r3⟩ := trodAll_cons r2
  obtain ⟨rfl, rfl, rfl⟩ := trodAll_nil r3
  obtain rfl : args = #[v0, v1, v2, v3] := by cases args; simp_all
  obtain ⟨rfl, rfl⟩ := trodVars_none hV
  obtain ⟨cs0, rfl, sz0⟩ := okWide_struct Try.underlying24 (hval 0 24 v0 rfl rfl)
  have k0 := h0
  have lt0 : ∀ x ∈ p0, x.block < W.heap.size := by obtain ⟨m, hm⟩ := k0; exact DataW.trod_lt m _ _ _ hm
  obtain ⟨x0_0, l0_0, x0_1, x0_2, e0, w0_0⟩ : ∃ (x0_0 : Value) (l0_0 : List Int) (x0_1 : Int) (x0_2 : Bool), cs0 = #[x0_0, .int .i64 x0_1, .bool x0_2] ∧ InS EN W.heap x0_0 l0_0 := by
    obtain ⟨fuel, hf⟩ := h0
    obtain ⟨x0_0, l0_0, x0_1, x0_2, e0, w0_0⟩ := open_mk Try.underlying24 rfl rfl rfl Try.underlying22 (by kernel_rfl) Try.underlying3 Try.underlying3 Try.underlying4 (by kernel_rfl) (by kernel_rfl) (by kernel_rfl) (by kernel_rfl) hf (fun v n y hy => trod_isl Try.underlying22 hy)
    exact ⟨x0_0, l0_0, x0_1, x0_2, Array.toList_inj.1 e0, w0_0⟩
  subst e0
  obtain ⟨cs1, rfl, sz1⟩ := okWide_struct Try.underlying27 (hval 1 27 v1 rfl rfl)
  have k1 := h1
  have lt1 : ∀ x ∈ p1, x.block < W.heap.size := by obtain ⟨m, hm⟩ := k1; exact DataW.trod_lt m _ _ _ hm
  obtain ⟨x1_0, x1_1, e1⟩ : ∃ (x1_0 : Int) (x1_1 : Int), cs1 = #[.int .i64 x1_0, .int .i64 x1_1] := by
    obtain ⟨fuel, hf⟩ := h1
    obtain ⟨x1_0, x1_1, e1⟩ := open_it Try.underlying27 rfl rfl Try.underlying3 Try.underlying3 (by kernel_rfl) (by kernel_rfl) (by kernel_rfl) hf
    exact ⟨x1_0, x1_1, Array.toList_inj.1 e1⟩
  subst e1
  obtain ⟨cs2, rfl, sz2⟩ := okWide_struct Try.underlying27 (hval 2 27 v2 rfl rfl)
  have k2 := h2
  have lt2 : ∀ x ∈ p2, x.block < W.heap.size := by obtain ⟨m, hm⟩ := k2; exact DataW.trod_lt m _ _ _ hm
  obtain ⟨x2_0, x2_1, e2⟩ : ∃ (x2_0 : Int) (x2_1 : Int), cs2 = #[.int .i64 x2_0, .int .i64 x2_1] := by
    obtain ⟨fuel, hf⟩ := h2
    obtain ⟨x2_0, x2_1, e2⟩ := open_it Try.underlying27 rfl rfl Try.underlying3 Try.underlying3 (by kernel_rfl) (by kernel_rfl) (by kernel_rfl) hf
    exact ⟨x2_0, x2_1, Array.toList_inj.1 e2⟩
  subst e2
  obtain ⟨cs3, rfl, sz3⟩ := okWide_struct Try.underlying27 (hval 3 27 v3 rfl rfl)
  have k3 := h3
  have lt3 : ∀ x ∈ p3, x.block < W.heap.size := by obtain ⟨m, hm⟩ := k3; exact DataW.trod_lt m _ _ _ hm
  obtain ⟨x3_0, x3_1, e3⟩ : ∃ (x3_0 : Int) (x3_1 : Int), cs3 = #[.int .i64 x3_0, .int .i64 x3_1] := by
    obtain ⟨fuel, hf⟩ := h3
    obtain ⟨x3_0, x3_1, e3⟩ := open_it Try.underlying27 rfl rfl Try.underlying3 Try.underlying3 (by kernel_rfl) (by kernel_rfl) (by kernel_rfl) hf
    exact ⟨x3_0, x3_1, Array.toList_inj.1 e3⟩
  subst e3
  clear hA0 hval0
  refine (walk _ _ _ _ _ _ _ _ _ _ W w0_0).mono fun e W' ⟨he, bel⟩ => ?_
  subst he
  exact ⟨_, rfl, _, _, _, [], _, [], hW', trodAll_mk1 (shut_bool Try.underlying4 _), (trodAll_cons_mk (Below.trod laidOut (by kernel_rfl) (of_decide_eq_true (by kernel_rfl)) k0 bel lt0) (trodAll_cons_mk (Below.trod laidOut (by kernel_rfl) (of_decide_eq_true (by kernel_rfl)) k1 bel lt1) (trodAll_cons_mk (Below.trod laidOut (by kernel_rfl) (of_decide_eq_true (by kernel_rfl)) k2 bel lt2) (trodAll_cons_mk (Below.trod laidOut (by kernel_rfl) (of_decide_eq_true (by kernel_rfl)) k3 bel lt3) trodAll_mk0)))), rfl, bel.frame _, fun h => by cases h⟩

theorem part0 : (Rows.fnGLessOrdersRow.wf (OpenSpec.ofChange Rows.fnGLessOrdersSpec)) = true := by kernel_rfl
theorem part1 : (laidOutB Try.pinned.checked.prog) = true := frame1
theorem part2 : (mapsRowed Try.pinned.checked.prog) = true := frame2
theorem part3 : (Try.f4.params.all (Try.pinned.checked.prog.readableRec ·)) = true := by kernel_rfl
theorem part4 : (namedTie Try.pinned.checked.prog Rows.fnGLessOrdersRow.named Rows.fnGLessOrdersSpec.vars) = true := by kernel_rfl
theorem part5 : ((Rows.fnGLessOrdersRow.stops == [])) = true := by kernel_rfl
theorem part6 : ((Try.pinned.checked.prog.stops == [])) = true := by kernel_rfl
theorem part7 : ((Rows.fnGLessOrdersRow.knobs == [])) = true := by kernel_rfl
theorem part8 : ((Try.pinned.checked.prog.stopKnobs == [])) = true := by kernel_rfl
theorem part9 : ((Rows.fnGLessOrdersRow.inPlace == Try.pinned.checked.prog.inPlace 4)) = true := by kernel_rfl
theorem part10 : ((Rows.fnGLessOrdersRow.unfollowed == Try.pinned.checked.prog.unfollowed 4)) = true := by kernel_rfl
theorem part11 : ((Rows.fnGLessOrdersRow.recurses == Try.pinned.checked.prog.recurses 4)) = true := by kernel_rfl
theorem part12 : ((Rows.fnGLessOrdersRow.named == Try.pinned.checked.prog.varsNamed 4)) = true := by kernel_rfl
theorem part13 : ((Rows.fnGLessOrdersRow.maps == (Try.f4.params.toList ++ Rows.fnGLessOrdersSpec.plain.varTypes Try.pinned.checked.prog).any (Try.pinned.checked.prog.mapsRec ·))) = true := by kernel_rfl
theorem part14 : ((Rows.fnGLessOrdersRow.ifaces == (Try.f4.params.toList ++ Rows.fnGLessOrdersSpec.plain.varTypes Try.pinned.checked.prog).any (Try.pinned.checked.prog.ifacesRec ·))) = true := by kernel_rfl
theorem part15 : ((Rows.fnGLessOrdersRow.mapsOut == Try.pinned.checked.prog.mapsAmong Try.f4.resultTypes.toList)) = true := by kernel_rfl
theorem part16 : ((Rows.fnGLessOrdersRow.loops == (Try.f4.params.toList ++ Rows.fnGLessOrdersSpec.plain.varTypes Try.pinned.checked.prog).any (Try.pinned.checked.prog.loopsFrom ·))) = true := by kernel_rfl
theorem part17 : ((Rows.fnGLessOrdersRow.wideKeys == (Try.f4.params.toList ++ Rows.fnGLessOrdersSpec.plain.varTypes Try.pinned.checked.prog ++ Try.f4.resultTypes.toList).any (Try.pinned.checked.prog.wideKeysFrom ·))) = true := by kernel_rfl
theorem part18 : (Rows.fnGLessOrdersSpec.vars.all (Try.pinned.checked.prog.varReadable ·)) = true := by kernel_rfl
theorem part19 : (Try.f4.resultTypes.all (fun t => Try.pinned.checked.prog.readableRec t && decide (t < Try.pinned.checked.prog.types.size))) = true := by kernel_rfl
theorem part20 : ((Rows.fnGLessOrdersRow.ifacesOut == Try.f4.resultTypes.toList.any (Try.pinned.checked.prog.ifacesRec ·))) = true := by kernel_rfl
theorem part21 : ((Rows.fnGLessOrdersRow.loopsOut == Try.f4.resultTypes.toList.any (Try.pinned.checked.prog.loopsFrom ·))) = true := by kernel_rfl
theorem part22 : ((Rows.fnGLessOrdersRow.plainKeys == Try.pinned.checked.prog.plainKeys)) = true := frame22
theorem part23 : (Rows.fnGLessOrdersRow.shortTexts.isNone) = true := by kernel_rfl
theorem part24 : (Try.pinned.checked.prog.stopsHeard) = true := frame24
theorem part25 : (Try.pinned.checked.prog.mayEnter) = true := frame25
theorem part26 : ((Rows.fnGLessOrdersRow.lifted == Try.pinned.checked.prog.liftsFinal)) = true := frame26
theorem part27 : ((Try.pinned.checked.prog.make == some Rows.fnGLessOrdersRow.make)) = true := frame27
theorem part28 : ((Rows.fnGLessOrdersRow.kinds == (if Rows.fnGLessOrdersRow.domain.isEmpty then [] else Try.f4.params.toList.map fun t => match Try.pinned.checked.prog.underlying t with | some (.int k) => some k | _ => none))) = true := by kernel_rfl
theorem part29 : ((Rows.fnGLessOrdersRow.pinned == Rows.fnGLessOrdersRow.pinnedBy)) = true := by kernel_rfl
theorem part30 : ((Rows.fnGLessOrdersRow.veiled == (Try.f4.params.toList ++ Rows.fnGLessOrdersSpec.plain.varTypes Try.pinned.checked.prog ++ Try.f4.resultTypes.toList).any (Try.pinned.checked.prog.veiledRec ·))) = true := by kernel_rfl
theorem part31 : (Rows.fnGLessOrdersRow.veiledFits Try.pinned.checked.prog Try.f4.params.toList (Try.f4.params.toList ++ Rows.fnGLessOrdersSpec.plain.varTypes Try.pinned.checked.prog ++ Try.f4.resultTypes.toList)) = true := by kernel_rfl
set_option maxRecDepth 100000 in
theorem closed : joinedFacts Try.pinned.checked.prog 4 Try.f4 Rows.fnGLessOrdersSpec Rows.fnGLessOrdersRow = true := (an (an (an (an (an (an (an (an (an (an (an (an (an (an (an (an (an (an (an (an (an (an (an (an (an (an (an (an (an (an (an part0 part1) part2) part3) part4) part5) part6) part7) part8) part9) part10) part11) part12) part13) part14) part15) part16) part17) part18) part19) part20) part21) part22) part23) part24) part25) part26) part27) part28) part29) part30) part31)

theorem over : Rows.fnGLessOrdersRow.holds Try.pinned (OpenSpec.ofChange Rows.fnGLessOrdersSpec) :=
  OpenClaim.holds_of_wide 4 Try.f4 rfl rfl rfl rfl rfl rfl rfl ⟨rfl, rfl, rfl, rfl, rfl⟩ rfl rfl rfl rfl rfl (by kernel_rfl) Try.func4 closed
    (of_decide_eq_true (by kernel_rfl)) (by unfold Func.isWrapper; first | (rw [if_pos (by decide +kernel)]; kernel_rfl) | (rw [if_neg (by decide +kernel)]; exact ⟨rfl, rfl⟩))
    (fun os started H enc _ => lifted os started H enc)

theorem proved : Rows.FnGLessOrdersSaid := over
#print axioms proved
end Go.Proofs.Ytmboghgpakhceaa.fnGLessOrders
