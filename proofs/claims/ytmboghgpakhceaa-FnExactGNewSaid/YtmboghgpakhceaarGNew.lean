/- FnExactGNew: for every input the law returns true, and the input reads as it did. Conditions: none. -/
import Derived.Test.YtmboghgpakhceaaRows
import Derived.WalkKit
import Derived.ProofKit
import Derived.OpenShut
import Derived.ShutString
import Derived.ChangeOld
import Derived.Below
import Derived.Deep.SlicePairs
import Derived.ChangeArms
import Derived.Test.YtmboghgpakhceaaTogD
import Derived.Test.YtmboghgpakhceaaToiF
namespace Go.Proofs.Ytmboghgpakhceaa.fnExactGNew
open Go.ChangeShapes Go.WideShapes Go.ChangeAt Go.RowKit
open Go.Bt
set_option linter.unusedVariables false

theorem own : ownKnob Try.prog.godebug = none := by kernel_rfl
theorem laidOut : laidOutB Try.prog = true := frame1

theorem walk (a0 : Int) (v1 : Value) (l1 : List Int) (v2 : Value) (l2 : List (Int × Int)) (w : World) (w0 : (Lit.int .i64 a0).wf = true) (w1 : InS EN w.heap v1 l1) (w2 : InS EJ w.heap v2 l2) :
    Calls Try.prog 9 #[.int .i64 a0, v1, v2] w fun e w' => e = .returned (.bool true) ∧ Below w.heap.size w w' := by
  have h0 : Bt.Fn Try.prog w 9 [.int .i64 a0, v1, v2] w.heap (fun r H' => r = .bool true ∧ Fr nowhere w.heap H') := Go.Bt.FG.fnExactGNew w1 w2
  have h := h0 w.drawn
  rw [mk_self] at h
  refine h.mono fun e w' he => ?_
  cases e with
  | returned v =>
    obtain ⟨H', d', rfl, rfl, hF⟩ := he
    exact ⟨rfl, ⟨rfl, rfl, rfl, hF.size, fun k hk => hF.blk k hk fun _ => nw⟩⟩
  | panicked c => exact he.elim
  | outgrown => exact he.elim

/-- A slice of numbers that came in. -/
theorem ints_in {w : World} {a : Addr} {len cap : Nat} {V : Nat → Value} (hl : len ≤ cap) (h : ∀ i, i < cap → w.cell? (a.add i) = some (V i) ∧ ∃ n, V i = .int .i64 n) :
    ∃ l : List Int, InS EN w.heap (.slice (some a) len cap) l := by
  rcases Nat.eq_zero_or_pos cap with rfl | hc
  · obtain rfl : len = 0 := by omega
    exact ⟨[], .inr ⟨rfl, _, _, rfl⟩⟩
  · obtain ⟨b, o, s⟩ := a
    have h0 := (h 0 hc).1
    have hs : s = none := by
      cases s with
      | none => rfl
      | some k =>
        simp only [Addr.add, if_true, World.cell?] at h0
        split at h0 <;> simp at h0
    subst hs
    have hx : ∀ i, ∃ p : Int, i < cap → V i = .int .i64 p := fun i => by
      by_cases hi : i < cap
      · obtain ⟨_, n, hn⟩ := h i hi
        exact ⟨n, fun _ => hn⟩
      · exact ⟨0, fun hh => absurd hh hi⟩
    let p := fun i => Classical.choose (hx i)
    have hp : ∀ i, i < cap → V i = .int .i64 (p i) := fun i => Classical.choose_spec (hx i)
    refine ⟨(List.range len).map p, .inl ⟨b, o, cap, by simp, by simpa using hl, fun j v hv => ?_⟩⟩
    have hj := (List.getElem?_eq_some_iff.1 hv).1
    have hlen : (row EN ((List.range len).map p)).length = len * 1 := by rw [row_len, List.length_map, List.length_range]; rfl
    rw [hlen] at hj
    have hi : j < len := by omega
    have hq : ((List.range len).map p)[j]? = some (p j) := by simp [hi]
    obtain ⟨c0, _⟩ := h j (by omega)
    rw [hp j (by omega), Addr.add_lit] at c0
    have cc : ∀ n, World.cell? w ⟨b, n, none⟩ = cl w.heap b n := fun n => by rw [← mk_self w]; exact mk_cell _ _ _ _ _
    rw [cc] at c0
    have hg := row_get EN hq 0 _ rfl
    have ej : j * EN.s + 0 = j := by show j * 1 + 0 = j; omega
    rw [ej] at hg
    have : v = .int .i64 (p j) := Option.some.inj (hv.symm.trans hg)
    rw [this]; exact c0

/-- A slice of items that came in. -/
theorem items_in {w : World} {a : Addr} {len cap : Nat} {V0 V1 : Nat → Value} (hl : len ≤ cap) (h : ∀ i, i < cap → w.cell? (a.add (i * 2)) = some (V0 i) ∧ w.cell? (a.add (i * 2 + 1)) = some (V1 i) ∧ (∃ n, V0 i = .int .i64 n) ∧ ∃ n, V1 i = .int .i64 n) :
    ∃ l : List (Int × Int), InS EJ w.heap (.slice (some a) len cap) l := by
  rcases Nat.eq_zero_or_pos cap with rfl | hc
  · obtain rfl : len = 0 := by omega
    exact ⟨[], .inr ⟨rfl, _, _, rfl⟩⟩
  · obtain ⟨b, o, s⟩ := a
    have h0 := (h 0 hc).1
    have hs : s = none := by
      cases s with
      | none => rfl
      | some k =>
        simp only [Nat.zero_mul, Addr.add, if_true, World.cell?] at h0
        split at h0 <;> simp at h0
    subst hs
    have hx : ∀ i, ∃ p : Int × Int, i < cap → V0 i = .int .i64 p.1 ∧ V1 i = .int .i64 p.2 := fun i => by
      by_cases hi : i < cap
      · obtain ⟨_, _, ⟨n, hn⟩, m, hm⟩ := h i hi
        exact ⟨(n, m), fun _ => ⟨hn, hm⟩⟩
      · exact ⟨(0, 0), fun hh => absurd hh hi⟩
    let p := fun i => Classical.choose (hx i)
    have hp : ∀ i, i < cap → V0 i = .int .i64 (p i).1 ∧ V1 i = .int .i64 (p i).2 := fun i => Classical.choose_spec (hx i)
    refine ⟨(List.range len).map p, .inl ⟨b, o, cap, by simp, by simpa using hl, fun j v hv => ?_⟩⟩
    have hj := (List.getElem?_eq_some_iff.1 hv).1
    have hlen : (row EJ ((List.range len).map p)).length = len * 2 := by rw [row_len]; simp; rfl
    rw [hlen] at hj
    have hi : j / 2 < len := by omega
    have hq : ((List.range len).map p)[j / 2]? = some (p (j / 2)) := by simp [hi]
    obtain ⟨c0, c1, _, _⟩ := h (j / 2) (by omega)
    obtain ⟨e0, e1⟩ := hp (j / 2) (by omega)
    rw [e0] at c0
    rw [e1] at c1
    rw [Addr.add_lit] at c0 c1
    have cc : ∀ n, World.cell? w ⟨b, n, none⟩ = cl w.heap b n := fun n => by rw [← mk_self w]; exact mk_cell _ _ _ _ _
    rw [cc] at c0 c1
    rcases Nat.mod_two_eq_zero_or_one j with hm | hm
    · have hg := row_get EJ hq 0 _ rfl
      have ej : j / 2 * EJ.s + 0 = j := by show j / 2 * 2 + 0 = j; omega
      rw [ej] at hg
      have : v = .int .i64 (p (j / 2)).1 := Option.some.inj (hv.symm.trans hg)
      rw [this, show o + j = o + j / 2 * 2 by omega]; exact c0
    · have hg := row_get EJ hq 1 _ rfl
      have ej : j / 2 * EJ.s + 1 = j := by show j / 2 * 2 + 1 = j; omega
      rw [ej] at hg
      have : v = .int .i64 (p (j / 2)).2 := Option.some.inj (hv.symm.trans hg)
      rw [this, show o + j = o + (j / 2 * 2 + 1) by omega]; exact c1

set_option maxRecDepth 100000 in
theorem lifted (os : Os) (started : os.Started) (H : Type) (enc : TypeId × Value → H) :
    ReturnsInHanded {} Try.checked os 9 .any (Rows.fnExactGNewSpec.pre6 enc Try.prog Try.f9 Rows.fnExactGNewRow.domain false) (Rows.fnExactGNewSpec.post enc Try.prog Try.f9 false true false false) := by
  refine returnsInHanded_of_change (C := Try.checked) own started (by kernel_rfl) Try.func9
    (ChangeSpec.witness6 (enc := enc) (C := Try.checked) false ⟨#[], #[.int .i64 0, .slice none 0 0, .slice none 0 0], []⟩ 8 (by kernel_rfl) (by kernel_rfl) (by kernel_rfl) (by kernel_rfl)) ?_
  intro W base args ds gs before hval0 hW hcnd _
  have hval : ∀ (j : Nat) t v, Try.f9.params[j]? = some t → args[j]? = some v → Value.okWide Try.prog W .any base t v := hval0
  have hW' := hW
  obtain ⟨p, q, hA0, hV, rfl, hfz, hnd⟩ := hW
  have hA : DataW.TrodAll enc Try.prog W 0 (fun _ => true) true Try.f9.params.toList args.toList ds p := hA0
  rw [Try.params9] at hA hval
  obtain ⟨v0, vs0, d0, ds0, p0, q0, hargs, rfl, rfl, h0, r0⟩ := trodAll_cons hA
  obtain ⟨v1, vs1, d1, ds1, p1, q1, rfl, rfl, rfl, h1, r1⟩ := trodAll_cons r0
  obtain ⟨v2, vs2, d2, ds2, p2, q2, rfl, rfl, rfl, h2, r2⟩ := trodAll_cons r1
  obtain ⟨rfl, rfl, rfl⟩ := trodAll_nil r2
  obtain rfl : args = #[v0, v1, v2] := by cases args; simp_all
  obtain ⟨rfl, rfl⟩ := trodVars_none hV
  obtain ⟨a0, rfl, rfl, rfl, w0⟩ := open_int Try.underlying3 (hval 0 3 v0 rfl rfl) h0
  obtain ⟨a1, len1, cap1, rfl⟩ := okWide_slice Try.underlying22 (hval 1 22 v1 rfl rfl)
  have k1 := h1
  have lt1 : ∀ x ∈ p1, x.block < W.heap.size := by obtain ⟨m, hm⟩ := k1; exact DataW.trod_lt m _ _ _ hm
  obtain ⟨z1, w1⟩ : ∃ l, InS EN W.heap (.slice a1 len1 cap1) l := by
    obtain ⟨fuel, hf⟩ := h1
    rcases Go.Deep.open_slice1 Try.underlying22 (by kernel_rfl) hf with ⟨hcs, _⟩ | ⟨x, l, c, m, n, V, D, P, hcs, _, hl, hm, hmm, _, hcell⟩
    · simp [Value.cells] at hcs
      obtain ⟨rfl, rfl, rfl⟩ := hcs
      exact ⟨[], .inr ⟨rfl, _, _, rfl⟩⟩
    · simp [Value.cells] at hcs
      obtain ⟨rfl, rfl, rfl⟩ := hcs
      simp only [if_true] at hmm
      subst hmm
      exact ints_in hl fun i hi => by
        obtain ⟨c0, g0⟩ := hcell i hi
        obtain ⟨n0, e0, _⟩ := DataW.trod_int Try.underlying3 g0
        exact ⟨c0, n0, by simpa using e0⟩
  obtain ⟨a2, len2, cap2, rfl⟩ := okWide_slice Try.underlying25 (hval 2 25 v2 rfl rfl)
  have k2 := h2
  have lt2 : ∀ x ∈ p2, x.block < W.heap.size := by obtain ⟨m, hm⟩ := k2; exact DataW.trod_lt m _ _ _ hm
  obtain ⟨z2, w2⟩ : ∃ l, InS EJ W.heap (.slice a2 len2 cap2) l := by
    obtain ⟨fuel, hf⟩ := h2
    rcases Go.Deep.open_slice_pairs Try.underlying25 Try.underlying27 (by kernel_rfl) rfl rfl (by kernel_rfl) (by kernel_rfl) hf with ⟨hcs, _⟩ | ⟨x, l, c, m, n, V0, V1, D0, D1, P0, P1, hcs, _, hl, hm, hmm, _, hcell⟩
    · simp [Value.cells] at hcs
      obtain ⟨rfl, rfl, rfl⟩ := hcs
      exact ⟨[], .inr ⟨rfl, _, _, rfl⟩⟩
    · simp [Value.cells] at hcs
      obtain ⟨rfl, rfl, rfl⟩ := hcs
      simp only [if_true] at hmm
      subst hmm
      exact items_in hl fun i hi => by
        obtain ⟨c0, c1, g0, g1⟩ := hcell i hi
        obtain ⟨n0, e0, _⟩ := DataW.trod_int Try.underlying3 g0
        obtain ⟨n1, e1, _⟩ := DataW.trod_int Try.underlying3 g1
        exact ⟨c0, c1, ⟨n0, by simpa using e0⟩, n1, by simpa using e1⟩
  clear hA0 hval0
  refine (walk a0 _ _ _ _ W w0 w1 w2).mono fun e W' ⟨he, bel⟩ => ?_
  subst he
  exact ⟨_, rfl, _, _, _, [], _, [], hW', trodAll_mk1 (shut_bool Try.underlying4 _), (trodAll_cons_mk (shut_int Try.underlying3 w0) (trodAll_cons_mk (Below.trod laidOut (by kernel_rfl) (of_decide_eq_true (by kernel_rfl)) k1 bel lt1) (trodAll_cons_mk (Below.trod laidOut (by kernel_rfl) (of_decide_eq_true (by kernel_rfl)) k2 bel lt2) trodAll_mk0))), rfl, bel.frame _, fun h => by cases h⟩

theorem part0 : (Rows.fnExactGNewRow.wf (OpenSpec.ofChange Rows.fnExactGNewSpec)) = true := by kernel_rfl
theorem part1 : (laidOutB Try.pinned.checked.prog) = true := frame1
theorem part2 : (mapsRowed Try.pinned.checked.prog) = true := frame2
theorem part3 : (Try.f9.params.all (Try.pinned.checked.prog.readableRec ·)) = true := by kernel_rfl
theorem part4 : (namedTie Try.pinned.checked.prog Rows.fnExactGNewRow.named Rows.fnExactGNewSpec.vars) = true := by kernel_rfl
theorem part5 : ((Rows.fnExactGNewRow.stops == [])) = true := by kernel_rfl
theorem part6 : ((Try.pinned.checked.prog.stops == [])) = true := by kernel_rfl
theorem part7 : ((Rows.fnExactGNewRow.knobs == [])) = true := by kernel_rfl
theorem part8 : ((Try.pinned.checked.prog.stopKnobs == [])) = true := by kernel_rfl
theorem part9 : ((Rows.fnExactGNewRow.inPlace == Try.pinned.checked.prog.inPlace 9)) = true := by kernel_rfl
theorem part10 : ((Rows.fnExactGNewRow.unfollowed == Try.pinned.checked.prog.unfollowed 9)) = true := by kernel_rfl
theorem part11 : ((Rows.fnExactGNewRow.recurses == Try.pinned.checked.prog.recurses 9)) = true := by kernel_rfl
theorem part12 : ((Rows.fnExactGNewRow.named == Try.pinned.checked.prog.varsNamed 9)) = true := by kernel_rfl
theorem part13 : ((Rows.fnExactGNewRow.maps == (Try.f9.params.toList ++ Rows.fnExactGNewSpec.plain.varTypes Try.pinned.checked.prog).any (Try.pinned.checked.prog.mapsRec ·))) = true := by kernel_rfl
theorem part14 : ((Rows.fnExactGNewRow.ifaces == (Try.f9.params.toList ++ Rows.fnExactGNewSpec.plain.varTypes Try.pinned.checked.prog).any (Try.pinned.checked.prog.ifacesRec ·))) = true := by kernel_rfl
theorem part15 : ((Rows.fnExactGNewRow.mapsOut == Try.pinned.checked.prog.mapsAmong Try.f9.resultTypes.toList)) = true := by kernel_rfl
theorem part16 : ((Rows.fnExactGNewRow.loops == (Try.f9.params.toList ++ Rows.fnExactGNewSpec.plain.varTypes Try.pinned.checked.prog).any (Try.pinned.checked.prog.loopsFrom ·))) = true := by kernel_rfl
theorem part17 : ((Rows.fnExactGNewRow.wideKeys == (Try.f9.params.toList ++ Rows.fnExactGNewSpec.plain.varTypes Try.pinned.checked.prog ++ Try.f9.resultTypes.toList).any (Try.pinned.checked.prog.wideKeysFrom ·))) = true := by kernel_rfl
theorem part18 : (Rows.fnExactGNewSpec.vars.all (Try.pinned.checked.prog.varReadable ·)) = true := by kernel_rfl
theorem part19 : (Try.f9.resultTypes.all (fun t => Try.pinned.checked.prog.readableRec t && decide (t < Try.pinned.checked.prog.types.size))) = true := by kernel_rfl
theorem part20 : ((Rows.fnExactGNewRow.ifacesOut == Try.f9.resultTypes.toList.any (Try.pinned.checked.prog.ifacesRec ·))) = true := by kernel_rfl
theorem part21 : ((Rows.fnExactGNewRow.loopsOut == Try.f9.resultTypes.toList.any (Try.pinned.checked.prog.loopsFrom ·))) = true := by kernel_rfl
theorem part22 : ((Rows.fnExactGNewRow.plainKeys == Try.pinned.checked.prog.plainKeys)) = true := frame22
theorem part23 : (Rows.fnExactGNewRow.shortTexts.isNone) = true := by kernel_rfl
theorem part24 : (Try.pinned.checked.prog.stopsHeard) = true := frame24
theorem part25 : (Try.pinned.checked.prog.mayEnter) = true := frame25
theorem part26 : ((Rows.fnExactGNewRow.lifted == Try.pinned.checked.prog.liftsFinal)) = true := frame26
theorem part27 : ((Try.pinned.checked.prog.make == some Rows.fnExactGNewRow.make)) = true := frame27
theorem part28 : ((Rows.fnExactGNewRow.kinds == (if Rows.fnExactGNewRow.domain.isEmpty then [] else Try.f9.params.toList.map fun t => match Try.pinned.checked.prog.underlying t with | some (.int k) => some k | _ => none))) = true := by kernel_rfl
theorem part29 : ((Rows.fnExactGNewRow.pinned == Rows.fnExactGNewRow.pinnedBy)) = true := by kernel_rfl
theorem part30 : ((Rows.fnExactGNewRow.veiled == (Try.f9.params.toList ++ Rows.fnExactGNewSpec.plain.varTypes Try.pinned.checked.prog ++ Try.f9.resultTypes.toList).any (Try.pinned.checked.prog.veiledRec ·))) = true := by kernel_rfl
theorem part31 : (Rows.fnExactGNewRow.veiledFits Try.pinned.checked.prog Try.f9.params.toList (Try.f9.params.toList ++ Rows.fnExactGNewSpec.plain.varTypes Try.pinned.checked.prog ++ Try.f9.resultTypes.toList)) = true := by kernel_rfl
set_option maxRecDepth 100000 in
theorem closed : joinedFacts Try.pinned.checked.prog 9 Try.f9 Rows.fnExactGNewSpec Rows.fnExactGNewRow = true := (an (an (an (an (an (an (an (an (an (an (an (an (an (an (an (an (an (an (an (an (an (an (an (an (an (an (an (an (an (an (an part0 part1) part2) part3) part4) part5) part6) part7) part8) part9) part10) part11) part12) part13) part14) part15) part16) part17) part18) part19) part20) part21) part22) part23) part24) part25) part26) part27) part28) part29) part30) part31)

theorem over : Rows.fnExactGNewRow.holds Try.pinned (OpenSpec.ofChange Rows.fnExactGNewSpec) :=
  OpenClaim.holds_of_wide 9 Try.f9 rfl rfl rfl rfl rfl rfl rfl ⟨rfl, rfl, rfl, rfl, rfl⟩ rfl rfl rfl rfl rfl (by kernel_rfl) Try.func9 closed
    (of_decide_eq_true (by kernel_rfl)) (by unfold Func.isWrapper; first | (rw [if_pos (by decide +kernel)]; kernel_rfl) | (rw [if_neg (by decide +kernel)]; exact ⟨rfl, rfl⟩))
    (fun os started H enc _ => lifted os started H enc)

theorem proved : Rows.FnExactGNewSaid := over
#print axioms proved
end Go.Proofs.Ytmboghgpakhceaa.fnExactGNew
