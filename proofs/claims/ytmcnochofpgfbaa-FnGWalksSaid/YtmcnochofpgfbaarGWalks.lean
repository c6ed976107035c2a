/- FnGWalks: for every input the law returns true, and the input reads as it did. Conditions: none. -/
import Derived.Test.YtmcnochofpgfbaaRows
import Derived.WalkKit
import Derived.ProofKit
import Derived.OpenShut
import Derived.ShutString
import Derived.ChangeOld
import Derived.Below
import Derived.Deep.SlicePairs
import Derived.ChangeArms
import Derived.Test.YtmcnochofpgfbaaTogG
import Derived.Test.YtmcnochofpgfbaaTojP
import Derived.Test.YtmcnochofpgfbaaToKs
namespace Go.Proofs.Ytmcnochofpgfbaa.fnGWalks
open Go.ChangeShapes Go.WideShapes Go.ChangeAt Go.RowKit
open Go.Bt
set_option linter.unusedVariables false

theorem own : ownKnob Try.prog.godebug = none := by kernel_rfl
theorem laidOut : laidOutB Try.prog = true := frame1

theorem walk (x0_0 : Value) (l0_0 : List Int) (x0_1 : Int) (x0_2 : Bool) (v1 : Value) (l1 : List (Int × Int)) (a2 : Int) (w : World) (w0_0 : InS EN w.heap x0_0 l0_0) (w1 : InS EJ w.heap v1 l1) (w2 : (Lit.int .u8 a2).wf = true) :
    Calls Try.prog 4 #[.agg #[x0_0, .int .i64 x0_1, .bool x0_2], v1, .int .u8 a2] w fun e w' => e = .returned (.bool true) ∧ Below w.heap.size w w' := by
  have h0 : Bt.Fn Try.prog w 4 [.agg #[x0_0, .int .i64 x0_1, .bool x0_2], v1, .int .u8 a2] w.heap (fun r H' => r = .bool true ∧ Fr nowhere w.heap H') := Go.Bt.FG.fnGWalks w0_0 w1 (Go.Bt.FG.wf_u8 w2)
  have h := h0 w.drawn
  rw [mk_self] at h
  refine h.mono fun e w' he => ?_
  cases e with
  | returned v =>
    obtain ⟨H', d', rfl, rfl, hF⟩ := he
    exact ⟨rfl, ⟨rfl, rfl, rfl, hF.size, fun k hk => hF.blk k hk fun _ => nw⟩⟩
  | panicked c => exact he.elim
  | outgrown => exact he.elim

/-- A slice of items that came in. -/
theorem items_in {w : World} {a : Addr} {len cap : Nat} {V0 V1 : Nat → Value} (hl : len ≤ cap) (h : ∀ i, i < cap → w.cell? (a.add (i * 2)) = some (V0 i) ∧ w.cell? (a.add (i * 2 + 1)) = some (V1 i) ∧ (∃ n, V0 i = .int .i64 n) ∧ ∃ n, V1 i = .int .i64 n) :
    ∃ l : List (Int × Int), InS EJ w.heap (.slice (some a) len cap) l := by
  rcases Nat.eq_zero_or_pos cap with rfl | hc
  · obtain rfl : len = 0 := by omega
    exact ⟨[], .inr ⟨rfl, _, _, rfl⟩⟩
  · obtain ⟨b, o, s⟩ := a
    have h0 := (h 0 hc).1
    have hs : s = none := by
      cases s with
      | none => rfl
      | some k =>
        simp only [Nat.zero_mul, Addr.add, if_true, World.cell?] at h0
        split at h0 <;> simp at h0
    subst hs
    have hx : ∀ i, ∃ p : Int × Int, i < cap → V0 i = .int .i64 p.1 ∧ V1 i = .int .i64 p.2 := fun i => by
      by_cases hi : i < cap
      · obtain ⟨_, _, ⟨n, hn⟩, m, hm⟩ := h i hi
        exact ⟨(n, m), fun _ => ⟨hn, hm⟩⟩
      · exact ⟨(0, 0), fun hh => absurd hh hi⟩
    let p := fun i => Classical.choose (hx i)
    have hp : ∀ i, i < cap → V0 i = .int .i64 (p i).1 ∧ V1 i = .int .i64 (p i).2 := fun i => Classical.choose_spec (hx i)
    refine ⟨(List.range len).map p, .inl ⟨b, o, cap, by simp, by simpa using hl, fun j v hv => ?_⟩⟩
    have hj := (List.getElem?_eq_some_iff.1 hv).1
    have hlen : (row EJ ((List.range len).map p)).length = len * 2 := by rw [row_len]; simp; rfl
    rw [hlen] at hj
    have hi : j / 2 < len := by omega
    have hq : ((List.range len).map p)[j / 2]? = some (p (j / 2)) := by simp [hi]
    obtain ⟨c0, c1, _, _⟩ := h (j / 2) (by omega)
    obtain ⟨e0, e1⟩ := hp (j / 2) (by omega)
    rw [e0] at c0
    rw [e1] at c1
    rw [Addr.add_lit] at c0 c1
    have cc : ∀ n, World.cell? w ⟨b, n, none⟩ = cl w.heap b n := fun n => by rw [← mk_self w]; exact mk_cell _ _ _ _ _
    rw [cc] at c0 c1
    rcases Nat.mod_two_eq_zero_or_one j with hm | hm
    · have hg := row_get EJ hq 0 _ rfl
      have ej : j / 2 * EJ.s + 0 = j := by show j / 2 * 2 + 0 = j; omega
      rw [ej] at hg
      have : v = .int .i64 (p (j / 2)).1 := Option.some.inj (hv.symm.trans hg)
      rw [this, show o + j = o + j / 2 * 2 by omega]; exact c0
    · have hg := row_get EJ hq 1 _ rfl
      have ej : j / 2 * EJ.s + 1 = j := by show j / 2 * 2 + 1 = j; omega
      rw [ej] at hg
      have : v = .int .i64 (p (j / 2)).2 := Option.some.inj (hv.symm.trans hg)
      rw [this, show o + j = o + (j / 2 * 2 + 1) by omega]; exact c1

set_option maxRecDepth 100000 in
theorem lifted (os : Os) (started : os.Started) (H : Type) (enc : TypeId × Value → H) :
    ReturnsInHanded {} Try.checked os 4 .any (Rows.fnGWalksSpec.pre6 enc Try.prog Try.f4 Rows.fnGWalksRow.domain false) (Rows.fnGWalksSpec.post enc Try.prog Try.f4 false true false false) := by
  refine returnsInHanded_of_change (C := Try.checked) own started (by kernel_rfl) Try.func4
    (ChangeSpec.witness6 (enc := enc) (C := Try.checked) false ⟨#[], #[.agg #[.slice none 0 0, .int .i64 0, .bool false], .slice none 0 0, .int .u8 0], []⟩ 8 (by kernel_rfl) (by kernel_rfl) (by kernel_rfl) (by kernel_rfl)) ?_
  intro W base args ds gs before hval0 hW hcnd _
  have hval : ∀ (j : Nat) t v, Try.f4.params[j]? = some t → args[j]? = some v → Value.okWide Try.prog W .any base t v := hval0
  have hW' := hW
  obtain ⟨p, q, hA0, hV, rfl, hfz, hnd⟩ := hW
  have hA : DataW.TrodAll enc Try.prog W 0 (fun _ => true) true Try.f4.params.toList args.toList ds p := hA0
  rw [Try.params4] at hA hval
  obtain ⟨v0, vs0, d0, ds0, p0, q0, hargs, rfl, rfl, h0, r0⟩ := trodAll_cons hA
  obtain ⟨v1, vs1, d1, ds1, p1, q1, rfl, rfl, rfl, h1, r1⟩ := trodAll_cons r0
  obtain ⟨v2, vs2, d2, ds2, p2, q2, rfl, rfl, rfl, h2, r2⟩ := trodAll_cons r1
  obtain ⟨rfl, rfl, rfl⟩ := trodAll_nil r2
  obtain rfl : args = #[v0, v1, v2] := by cases args; simp_all
  obtain ⟨rfl, rfl⟩ := trodVars_none hV
  obtain ⟨cs0, rfl, sz0⟩ := okWide_struct Try.underlying24 (hval 0 24 v0 rfl rfl)
  have k0 := h0
  have lt0 : ∀ x ∈ p0, x.block < W.heap.size := by obtain ⟨m, hm⟩ := k0; exact DataW.trod_lt m _ _ _ hm
  obtain ⟨x0_0, l0_0, x0_1, x0_2, e0, w0_0⟩ : ∃ (x0_0 : Value) (l0_0 : List Int) (x0_1 : Int) (x0_2 : Bool), cs0 = #[x0_0, .int .i64 x0_1, .bool x0_2] ∧ InS EN W.heap x0_0 l0_0 := by
    obtain ⟨fuel, hf⟩ := h0
    obtain ⟨x0_0, l0_0, x0_1, x0_2, e0, w0_0⟩ := open_mk Try.underlying24 rfl rfl rfl Try.underlying22 (by kernel_rfl) Try.underlying3 Try.underlying3 Try.underlying4 (by kernel_rfl) (by kernel_rfl) (by kernel_rfl) (by kernel_rfl) hf (fun v n y hy => trod_isl Try.underlying22 hy)
    exact ⟨x0_0, l0_0, x0_1, x0_2, Array.toList_inj.1 e0, w0_0⟩
  subst e0
  obtain ⟨a1, len1, cap1, rfl⟩ := okWide_slice Try.underlying25 (hval 1 25 v1 rfl rfl)
  have k1 := h1
  have lt1 : ∀ x ∈ p1, x.block < W.heap.size := by obtain ⟨m, hm⟩ := k1; exact DataW.trod_lt m _ _ _ hm
  obtain ⟨z1, w1⟩ : ∃ l, InS EJ W.heap (.slice a1 len1 cap1) l := by
    obtain ⟨fuel, hf⟩ := h1
    rcases Go.Deep.open_slice_pairs Try.underlying25 Try.underlying27 (by kernel_rfl) rfl rfl (by kernel_rfl) (by kernel_rfl) hf with ⟨hcs, _⟩ | ⟨x, l, c, m, n, V0, V1, D0, D1, P0, P1, hcs, _, hl, hm, hmm, _, hcell⟩
    · simp [Value.cells] at hcs
      obtain ⟨rfl, rfl, rfl⟩ := hcs
      exact ⟨[], .inr ⟨rfl, _, _, rfl⟩⟩
    · simp [Value.cells] at hcs
      obtain ⟨rfl, rfl, rfl⟩ := hcs
      simp only [if_true] at hmm
      subst hmm
      exact items_in hl fun i hi => by
        obtain ⟨c0, c1, g0, g1⟩ := hcell i hi
        obtain ⟨n0, e0, _⟩ := DataW.trod_int Try.underlying3 g0
        obtain ⟨n1, e1, _⟩ := DataW.trod_int Try.underlying3 g1
        exact ⟨c0, c1, ⟨n0, by simpa using e0⟩, n1, by simpa using e1⟩
  obtain ⟨a2, rfl, rfl, rfl, w2⟩ := open_int Try.underlying5 (hval 2 5 v2 rfl rfl) h2
  clear hA0 hval0
  refine (walk _ _ _ _ _ _ a2 W w0_0 w1 w2).mono fun e W' ⟨he, bel⟩ => ?_
  subst he
  exact ⟨_, rfl, _, _, _, [], _, [], hW', trodAll_mk1 (shut_bool Try.underlying4 _), (trodAll_cons_mk (Below.trod laidOut (by kernel_rfl) (of_decide_eq_true (by kernel_rfl)) k0 bel lt0) (trodAll_cons_mk (Below.trod laidOut (by kernel_rfl) (of_decide_eq_true (by kernel_rfl)) k1 bel lt1) (trodAll_cons_mk (shut_int Try.underlying5 w2) trodAll_mk0))), rfl, bel.frame _, fun h => by cases h⟩

theorem part0 : (Rows.fnGWalksRow.wf (OpenSpec.ofChange Rows.fnGWalksSpec)) = true := by kernel_rfl
theorem part1 : (laidOutB Try.pinned.checked.prog) = true := frame1
theorem part2 : (mapsRowed Try.pinned.checked.prog) = true := frame2
theorem part3 : (Try.f4.params.all (Try.pinned.checked.prog.readableRec ·)) = true := by kernel_rfl
theorem part4 : (namedTie Try.pinned.checked.prog Rows.fnGWalksRow.named Rows.fnGWalksSpec.vars) = true := by kernel_rfl
theorem part5 : ((Rows.fnGWalksRow.stops == [])) = true := by kernel_rfl
theorem part6 : ((Try.pinned.checked.prog.stops == [])) = true := by kernel_rfl
theorem part7 : ((Rows.fnGWalksRow.knobs == [])) = true := by kernel_rfl
theorem part8 : ((Try.pinned.checked.prog.stopKnobs == [])) = true := by kernel_rfl
theorem part9 : ((Rows.fnGWalksRow.inPlace == Try.pinned.checked.prog.inPlace 4)) = true := by kernel_rfl
theorem part10 : ((Rows.fnGWalksRow.unfollowed == Try.pinned.checked.prog.unfollowed 4)) = true := by kernel_rfl
theorem part11 : ((Rows.fnGWalksRow.recurses == Try.pinned.checked.prog.recurses 4)) = true := by kernel_rfl
theorem part12 : ((Rows.fnGWalksRow.named == Try.pinned.checked.prog.varsNamed 4)) = true := by kernel_rfl
theorem part13 : ((Rows.fnGWalksRow.maps == (Try.f4.params.toList ++ Rows.fnGWalksSpec.plain.varTypes Try.pinned.checked.prog).any (Try.pinned.checked.prog.mapsRec ·))) = true := by kernel_rfl
theorem part14 : ((Rows.fnGWalksRow.ifaces == (Try.f4.params.toList ++ Rows.fnGWalksSpec.plain.varTypes Try.pinned.checked.prog).any (Try.pinned.checked.prog.ifacesRec ·))) = true := by kernel_rfl
theorem part15 : ((Rows.fnGWalksRow.mapsOut == Try.pinned.checked.prog.mapsAmong Try.f4.resultTypes.toList)) = true := by kernel_rfl
theorem part16 : ((Rows.fnGWalksRow.loops == (Try.f4.params.toList ++ Rows.fnGWalksSpec.plain.varTypes Try.pinned.checked.prog).any (Try.pinned.checked.prog.loopsFrom ·))) = true := by kernel_rfl
theorem part17 : ((Rows.fnGWalksRow.wideKeys == (Try.f4.params.toList ++ Rows.fnGWalksSpec.plain.varTypes Try.pinned.checked.prog ++ Try.f4.resultTypes.toList).any (Try.pinned.checked.prog.wideKeysFrom ·))) = true := by kernel_rfl
theorem part18 : (Rows.fnGWalksSpec.vars.all (Try.pinned.checked.prog.varReadable ·)) = true := by kernel_rfl
theorem part19 : (Try.f4.resultTypes.all (fun t => Try.pinned.checked.prog.readableRec t && decide (t < Try.pinned.checked.prog.types.size))) = true := by kernel_rfl
theorem part20 : ((Rows.fnGWalksRow.ifacesOut == Try.f4.resultTypes.toList.any (Try.pinned.checked.prog.ifacesRec ·))) = true := by kernel_rfl
theorem part21 : ((Rows.fnGWalksRow.loopsOut == Try.f4.resultTypes.toList.any (Try.pinned.checked.prog.loopsFrom ·))) = true := by kernel_rfl
theorem part22 : ((Rows.fnGWalksRow.plainKeys == Try.pinned.checked.prog.plainKeys)) = true := frame22
theorem part23 : (Rows.fnGWalksRow.shortTexts.isNone) = true := by kernel_rfl
theorem part24 : (Try.pinned.checked.prog.stopsHeard) = true := frame24
theorem part25 : (Try.pinned.checked.prog.mayEnter) = true := frame25
theorem part26 : ((Rows.fnGWalksRow.lifted == Try.pinned.checked.prog.liftsFinal)) = true := frame26
theorem part27 : ((Try.pinned.checked.prog.make == some Rows.fnGWalksRow.make)) = true := frame27
theorem part28 : ((Rows.fnGWalksRow.kinds == (if Rows.fnGWalksRow.domain.isEmpty then [] else Try.f4.params.toList.map fun t => match Try.pinned.checked.prog.underlying t with | some (.int k) => some k | _ => none))) = true := by kernel_rfl
theorem part29 : ((Rows.fnGWalksRow.pinned == Rows.fnGWalksRow.pinnedBy)) = true := by kernel_rfl
theorem part30 : ((Rows.fnGWalksRow.veiled == (Try.f4.params.toList ++ Rows.fnGWalksSpec.plain.varTypes Try.pinned.checked.prog ++ Try.f4.resultTypes.toList).any (Try.pinned.checked.prog.veiledRec ·))) = true := by kernel_rfl
theorem part31 : (Rows.fnGWalksRow.veiledFits Try.pinned.checked.prog Try.f4.params.toList (Try.f4.params.toList ++ Rows.fnGWalksSpec.plain.varTypes Try.pinned.checked.prog ++ Try.f4.resultTypes.toList)) = true := by kernel_rfl
set_option maxRecDepth 100000 in
theorem closed : joinedFacts Try.pinned.checked.prog 4 Try.f4 Rows.fnGWalksSpec Rows.fnGWalksRow = true := (an (an (an (an (an (an (an (an (an (an (an (an (an (an (an (an (an (an (an (an (an (an (an (an (an (an (an (an (an (an (an part0 part1) part2) part3) part4) part5) part6) part7) part8) part9) part10) part11) part12) part13) part14) part15) part16) part17) part18) part19) part20) part21) part22) part23) part24) part25) part26) part27) part28) part29) part30) part31)

theorem over : Rows.fnGWalksRow.holds Try.pinned (OpenSpec.ofChange Rows.fnGWalksSpec) :=
  OpenClaim.holds_of_wide 4 Try.f4 rfl rfl rfl rfl rfl rfl rfl ⟨rfl, rfl, rfl, rfl, rfl⟩ rfl rfl rfl rfl rfl (by kernel_rfl) Try.func4 closed
    (of_decide_eq_true (by kernel_rfl)) (by unfold Func.isWrapper; first | (rw [if_pos (by decide +kernel)]; kernel_rfl) | (rw [if_neg (by decide +kernel)]; exact ⟨rfl, rfl⟩))
    (fun os started H enc _ => lifted os started H enc)

theorem proved : Rows.FnGWalksSaid := over
#print axioms proved
end Go.Proofs.Ytmcnochofpgfbaa.fnGWalks
