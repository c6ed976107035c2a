/- FnGSieve: for every input the law returns true, and the input reads as it did. Conditions: none. -/
import Derived.Test.YtmboghgpakhceaaRows
import Derived.WalkKit
import Derived.ProofKit
import Derived.OpenShut
import Derived.ShutString
import Derived.ChangeOld
import Derived.Below
import Derived.Deep.SlicePairs
import Derived.ChangeArms
import Derived.Test.YtmboghgpakhceaaTogD
import Derived.Test.YtmboghgpakhceaaTojC
namespace Go.Proofs.Ytmboghgpakhceaa.fnGSieve
open Go.ChangeShapes Go.WideShapes Go.ChangeAt Go.RowKit
open Go.Bt
set_option linter.unusedVariables false

theorem own : ownKnob Try.prog.godebug = none := by kernel_rfl
theorem laidOut : laidOutB Try.prog = true := frame1

theorem walk (a0 : Int) (a1 : Int) (a2 : Int) (a3 : Int) (w : World) (w0 : (Lit.int .i64 a0).wf = true) (w1 : (Lit.int .u16 a1).wf = true) (w2 : (Lit.int .u16 a2).wf = true) (w3 : (Lit.int .u16 a3).wf = true) :
    Calls Try.prog 16 #[.int .i64 a0, .int .u16 a1, .int .u16 a2, .int .u16 a3] w fun e w' => e = .returned (.bool true) ∧ Below w.heap.size w w' := by
  have h0 : Bt.Fn Try.prog w 16 [.int .i64 a0, .int .u16 a1, .int .u16 a2, .int .u16 a3] w.heap (fun r H' => r = .bool true ∧ Fr nowhere w.heap H') := Go.Bt.FG.fnGSieve (Go.Bt.FG.wf_u16 w1) (Go.Bt.FG.wf_u16 w2) (Go.Bt.FG.wf_u16 w3)
  have h := h0 w.drawn
  rw [mk_self] at h
  refine h.mono fun e w' he => ?_
  cases e with
  | returned v =>
    obtain ⟨H', d', rfl, rfl, hF⟩ := he
    exact ⟨rfl, ⟨rfl, rfl, rfl, hF.size, fun k hk => hF.blk k hk fun _ => nw⟩⟩
  | panicked c => exact he.elim
  | outgrown => exact he.elim

set_option maxRecDepth 100000 in
theorem lifted (os : Os) (started : os.Started) (H : Type) (enc : TypeId × Value → H) :
    ReturnsInHanded {} Try.checked os 16 .any (Rows.fnGSieveSpec.pre6 enc Try.prog Try.f16 Rows.fnGSieveRow.domain false) (Rows.fnGSieveSpec.post enc Try.prog Try.f16 false true false false) := by
  refine returnsInHanded_of_change (C := Try.checked) own started (by kernel_rfl) Try.func16
    (ChangeSpec.witness6 (enc := enc) (C := Try.checked) false ⟨#[], #[.int .i64 0, .int .u16 0, .int .u16 0, .int .u16 0], []⟩ 8 (by kernel_rfl) (by kernel_rfl) (by kernel_rfl) (by kernel_rfl)) ?_
  intro W base args ds gs before hval0 hW hcnd _
  have hval : ∀ (j : Nat) t v, Try.f16.params[j]? = some t → args[j]? = some v → Value.okWide Try.prog W .any base t v := hval0
  have hW' := hW
  obtain ⟨p, q, hA0, hV, rfl, hfz, hnd⟩ := hW
  have hA : DataW.TrodAll enc Try.prog W 0 (fun _ => true) true Try.f16.params.toList args.toList ds p := hA0
  rw [Try.params16] at hA hval
  obtain ⟨v0, vs0, d0, ds0, p0, q0, hargs, rfl, rfl, h0, r0⟩ := trodAll_cons hA
  obtain ⟨v1, vs1, d1, ds1, p1, q1, rfl, rfl, rfl, h1, r1⟩ := trodAll_cons r0
  obtain ⟨v2, vs2, d2, ds2, p2, q2, rfl, rfl, rfl, h2, r2⟩ := trodAll_cons r1
  obtain ⟨v3, vs3, d3, ds3, p3, q3, rfl, rfl, rfl, h3, r3⟩ := trodAll_cons r2
  obtain ⟨rfl, rfl, rfl⟩ := trodAll_nil r3
  obtain rfl : args = #[v0, v1, v2, v3] := by cases args; simp_all
  obtain ⟨rfl, rfl⟩ := trodVars_none hV
  obtain ⟨a0, rfl, rfl, rfl, w0⟩ := open_int Try.underlying3 (hval 0 3 v0 rfl rfl) h0
  obtain ⟨a1, rfl, rfl, rfl, w1⟩ := open_int Try.underlying61 (hval 1 61 v1 rfl rfl) h1
  obtain ⟨a2, rfl, rfl, rfl, w2⟩ := open_int Try.underlying61 (hval 2 61 v2 rfl rfl) h2
  obtain ⟨a3, rfl, rfl, rfl, w3⟩ := open_int Try.underlying61 (hval 3 61 v3 rfl rfl) h3
  clear hA0 hval0
  refine (walk a0 a1 a2 a3 W w0 w1 w2 w3).mono fun e W' ⟨he, bel⟩ => ?_
  subst he
  exact ⟨_, rfl, _, _, _, [], _, [], hW', trodAll_mk1 (shut_bool Try.underlying4 _), (trodAll_cons_mk (shut_int Try.underlying3 w0) (trodAll_cons_mk (shut_int Try.underlying61 w1) (trodAll_cons_mk (shut_int Try.underlying61 w2) (trodAll_cons_mk (shut_int Try.underlying61 w3) trodAll_mk0)))), rfl, bel.frame _, fun h => by cases h⟩

theorem part0 : (Rows.fnGSieveRow.wf (OpenSpec.ofChange Rows.fnGSieveSpec)) = true := by kernel_rfl
theorem part1 : (laidOutB Try.pinned.checked.prog) = true := frame1
theorem part2 : (mapsRowed Try.pinned.checked.prog) = true := frame2
theorem part3 : (Try.f16.params.all (Try.pinned.checked.prog.readableRec ·)) = true := by kernel_rfl
theorem part4 : (namedTie Try.pinned.checked.prog Rows.fnGSieveRow.named Rows.fnGSieveSpec.vars) = true := by kernel_rfl
theorem part5 : ((Rows.fnGSieveRow.stops == [])) = true := by kernel_rfl
theorem part6 : ((Try.pinned.checked.prog.stops == [])) = true := by kernel_rfl
theorem part7 : ((Rows.fnGSieveRow.knobs == [])) = true := by kernel_rfl
theorem part8 : ((Try.pinned.checked.prog.stopKnobs == [])) = true := by kernel_rfl
theorem part9 : ((Rows.fnGSieveRow.inPlace == Try.pinned.checked.prog.inPlace 16)) = true := by kernel_rfl
theorem part10 : ((Rows.fnGSieveRow.unfollowed == Try.pinned.checked.prog.unfollowed 16)) = true := by kernel_rfl
theorem part11 : ((Rows.fnGSieveRow.recurses == Try.pinned.checked.prog.recurses 16)) = true := by kernel_rfl
theorem part12 : ((Rows.fnGSieveRow.named == Try.pinned.checked.prog.varsNamed 16)) = true := by kernel_rfl
theorem part13 : ((Rows.fnGSieveRow.maps == (Try.f16.params.toList ++ Rows.fnGSieveSpec.plain.varTypes Try.pinned.checked.prog).any (Try.pinned.checked.prog.mapsRec ·))) = true := by kernel_rfl
theorem part14 : ((Rows.fnGSieveRow.ifaces == (Try.f16.params.toList ++ Rows.fnGSieveSpec.plain.varTypes Try.pinned.checked.prog).any (Try.pinned.checked.prog.ifacesRec ·))) = true := by kernel_rfl
theorem part15 : ((Rows.fnGSieveRow.mapsOut == Try.pinned.checked.prog.mapsAmong Try.f16.resultTypes.toList)) = true := by kernel_rfl
theorem part16 : ((Rows.fnGSieveRow.loops == (Try.f16.params.toList ++ Rows.fnGSieveSpec.plain.varTypes Try.pinned.checked.prog).any (Try.pinned.checked.prog.loopsFrom ·))) = true := by kernel_rfl
theorem part17 : ((Rows.fnGSieveRow.wideKeys == (Try.f16.params.toList ++ Rows.fnGSieveSpec.plain.varTypes Try.pinned.checked.prog ++ Try.f16.resultTypes.toList).any (Try.pinned.checked.prog.wideKeysFrom ·))) = true := by kernel_rfl
theorem part18 : (Rows.fnGSieveSpec.vars.all (Try.pinned.checked.prog.varReadable ·)) = true := by kernel_rfl
theorem part19 : (Try.f16.resultTypes.all (fun t => Try.pinned.checked.prog.readableRec t && decide (t < Try.pinned.checked.prog.types.size))) = true := by kernel_rfl
theorem part20 : ((Rows.fnGSieveRow.ifacesOut == Try.f16.resultTypes.toList.any (Try.pinned.checked.prog.ifacesRec ·))) = true := by kernel_rfl
theorem part21 : ((Rows.fnGSieveRow.loopsOut == Try.f16.resultTypes.toList.any (Try.pinned.checked.prog.loopsFrom ·))) = true := by kernel_rfl
theorem part22 : ((Rows.fnGSieveRow.plainKeys == Try.pinned.checked.prog.plainKeys)) = true := frame22
theorem part23 : (Rows.fnGSieveRow.shortTexts.isNone) = true := by kernel_rfl
theorem part24 : (Try.pinned.checked.prog.stopsHeard) = true := frame24
theorem part25 : (Try.pinned.checked.prog.mayEnter) = true := frame25
theorem part26 : ((Rows.fnGSieveRow.lifted == Try.pinned.checked.prog.liftsFinal)) = true := frame26
theorem part27 : ((Try.pinned.checked.prog.make == some Rows.fnGSieveRow.make)) = true := frame27
theorem part28 : ((Rows.fnGSieveRow.kinds == (if Rows.fnGSieveRow.domain.isEmpty then [] else Try.f16.params.toList.map fun t => match Try.pinned.checked.prog.underlying t with | some (.int k) => some k | _ => none))) = true := by kernel_rfl
theorem part29 : ((Rows.fnGSieveRow.pinned == Rows.fnGSieveRow.pinnedBy)) = true := by kernel_rfl
theorem part30 : ((Rows.fnGSieveRow.veiled == (Try.f16.params.toList ++ Rows.fnGSieveSpec.plain.varTypes Try.pinned.checked.prog ++ Try.f16.resultTypes.toList).any (Try.pinned.checked.prog.veiledRec ·))) = true := by kernel_rfl
theorem part31 : (Rows.fnGSieveRow.veiledFits Try.pinned.checked.prog Try.f16.params.toList (Try.f16.params.toList ++ Rows.fnGSieveSpec.plain.varTypes Try.pinned.checked.prog ++ Try.f16.resultTypes.toList)) = true := by kernel_rfl
set_option maxRecDepth 100000 in
theorem closed : joinedFacts Try.pinned.checked.prog 16 Try.f16 Rows.fnGSieveSpec Rows.fnGSieveRow = true := (an (an (an (an (an (an (an (an (an (an (an (an (an (an (an (an (an (an (an (an (an (an (an (an (an (an (an (an (an (an (an part0 part1) part2) part3) part4) part5) part6) part7) part8) part9) part10) part11) part12) part13) part14) part15) part16) part17) part18) part19) part20) part21) part22) part23) part24) part25) part26) part27) part28) part29) part30) part31)

theorem over : Rows.fnGSieveRow.holds Try.pinned (OpenSpec.ofChange Rows.fnGSieveSpec) :=
  OpenClaim.holds_of_wide 16 Try.f16 rfl rfl rfl rfl rfl rfl rfl ⟨rfl, rfl, rfl, rfl, rfl⟩ rfl rfl rfl rfl rfl (by kernel_rfl) Try.func16 closed
    (of_decide_eq_true (by kernel_rfl)) (by unfold Func.isWrapper; first | (rw [if_pos (by decide +kernel)]; kernel_rfl) | (rw [if_neg (by decide +kernel)]; exact ⟨rfl, rfl⟩))
    (fun os started H enc _ => lifted os started H enc)

theorem proved : Rows.FnGSieveSaid := over
#print axioms proved
end Go.Proofs.Ytmboghgpakhceaa.fnGSieve
