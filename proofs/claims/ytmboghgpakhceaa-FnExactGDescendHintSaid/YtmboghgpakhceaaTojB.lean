/- Contracts of functions of the program, proved by walking through their code. Conditions: those that each theorem names. -/
import Derived.Test.YtmboghgpakhceaaToiJ
import Derived.Test.YtmboghgpakhceaaToKi
namespace Go.Bt.FG
open Go Go.Proofs
set_option maxRecDepth 20000
set_option maxHeartbeats 4000000
set_option linter.unusedVariables false
set_option linter.unusedSectionVars false

theorem igdescendhint_spec {B : World} {H : Mem} {d : Nat} {nl : Bool} {v u : Value} {ord : List Int} {l : List (Int × Int)} (hd : d = 0 ∨ 2 ≤ d ∧ d ≤ 128) (ho : InS EN H v ord) (hol : ord.length ≤ 4294967296) (hi : InS EJ H u l) (hll : l.length ≤ 4294967296) (x : Int × Int) {n : Int} :
    Fn Try.prog B 95 [.agg #[v, .int .i64 (d : Int), .bool nl], u, .agg (EJ.enc x).toArray, .int .i64 n] H (fun r H' => OutS EJ H' r (firstN ((Pl.dn (OO ord) x (Pl.puts (OO ord) l)).reverse) n) ∧ Fr nowhere H H') := by
  obtain ⟨a, c, hu⟩ := hi.len
  subst hu
  obtain ⟨av, mv, cv, hv⟩ := InS.form ho
  subst hv
  have hF : Fr nowhere H H := Fr.refl _ _
  have hP := PD_ok hd
  refine fn_of Try.func95 rfl Try.ntmps95 ?_
  refine (show Go' _ _ _ _ 19 [(0, _), (1, _), (2, _), (3, _)] [.code _] _ from ?_)
  refine Go'.seq ?_
  -- region 0 (treeg.go:262)
  refine Go'.region [(0, 2), (1, 2), (2, 0)] rfl ?_
  refine O.box rfl rfl rfl rfl ?_
  intro B1 MB1
  refine ⟨trivial, ?_⟩
  have hsB1 := MB1.size
  replace hF := hF.trans (MB1.fr nowhere)
  have mm : Rd B1 H.size 0 [.slice av mv cv, .int .i64 (d : Int), .bool nl] := MB1.rd _ [] (by simp [Value.cells])
  have mm0 : cl B1 H.size 0 = some (.slice av mv cv) := mm 0 _ rfl
  have mm1 : cl B1 H.size (0 + 1) = some (.int .i64 (d : Int)) := mm 1 _ rfl
  refine O.box rfl rfl rfl rfl ?_
  intro B2 MB2
  refine ⟨trivial, ?_⟩
  have hsB2 := MB2.size
  replace hF := hF.trans (MB2.fr nowhere)
  replace mm := (MB2.fr nowhere).rd mm (fun _ _ => nw)
  replace mm0 := (MB2.fr nowhere).keep mm0 nw
  replace mm1 := (MB2.fr nowhere).keep mm1 nw
  have mpivot : Rd B2 B1.size 0 (EJ.enc x) := MB2.rd _ [] (by simp [Value.cells])
  refine O.asg rfl rfl rfl rfl rfl ?_
  refine Pl.fin [(1, _), (3, _), (4, _), (6, _), (8, _)] ⟨rfl, rfl, rfl, rfl, rfl, trivial⟩ ?_
  refine Go'.seq ?_
  -- region 1 (treeg.go:263)
  refine Go'.region [(0, 2)] rfl ?_
  refine O.alloc rfl rfl rfl Try.zeroValue25 ?_
  intro H2 M2
  refine ⟨trivial, ?_⟩
  have hs2 := M2.size
  replace hF := hF.trans (M2.fr nowhere)
  replace mm := (M2.fr nowhere).rd mm (fun _ _ => nw)
  replace mm0 := (M2.fr nowhere).keep mm0 nw
  replace mm1 := (M2.fr nowhere).keep mm1 nw
  replace mpivot := (M2.fr nowhere).rd mpivot (fun _ _ => nw)
  have hD : cl H2 B2.size 0 = some (.slice none 0 0) := (M2.cl 0).trans rfl
  have hw : Wr H2 B2.size 0 1 := M2.wr 1 (by decide)
  refine Pl.fin [(1, _), (3, _), (4, _), (6, _), (8, _), (9, _)] ⟨rfl, rfl, rfl, rfl, rfl, rfl, trivial⟩ ?_
  refine Go'.seq ?_
  -- region 2 (treeg.go:264), a tree of orders
  refine Go'.drawT (σ := Unit) (fun H' => Rd H' H.size 0 [.slice av mv cv, .int .i64 (d : Int), .bool nl] ∧ Rd H' B1.size 0 (EJ.enc x)) (fun _ H' => Fr nowhere H H' ∧ ∃ ov, cl H' B2.size 0 = some ov ∧ OutS EJ H' ov (firstN ((Pl.dn (OO ord) x (Pl.puts (OO ord) l)).reverse) n)) (fun s => [(9, .pointer (some ⟨B2.size, 0, none⟩))]) 6 [2, 5] (.node [(0, 0), (1, 0), (3, 0), (4, 0), (6, 2), (2, 2), (5, 2), (7, 2)] [(0, 0), (1, 0), (3, 0), (4, 0), (2, 2)] (.node [(6, 2), (5, 2), (7, 2)] [(5, 2)] (.leaf [(6, 2), (7, 2)]))) (by kernel_rfl) (by kernel_rfl) (⟨mm, mpivot⟩) ?_ ?_
  · intro _ _ _ hj
    refine Tk.node ?_ ?_
    · skip
      refine O.ldsC rfl rfl rfl (fun w => ⟨Try.isAgg24 w, Try.sizeOf24 w⟩) rfl rfl (fun _ h => h.1) ?_
      refine O.mv rfl rfl rfl rfl rfl ?_
      refine O.ldsC rfl rfl rfl (fun w => ⟨Try.isAgg27 w, Try.sizeOf27 w⟩) rfl rfl (fun _ h => h.2) ?_
      refine O.mv rfl rfl rfl rfl rfl ?_
      refine O.alloc rfl rfl rfl Try.zeroValue153 ?_
      intro H5 M5
      have hs5 := M5.size
      replace hF := hF.trans (M5.fr nowhere)
      replace mm := (M5.fr nowhere).rd mm (fun _ _ => nw)
      replace mm0 := (M5.fr nowhere).keep mm0 nw
      replace mm1 := (M5.fr nowhere).keep mm1 nw
      replace mpivot := (M5.fr nowhere).rd mpivot (fun _ _ => nw)
      replace hD := (M5.fr nowhere).keep hD nw
      replace hw := (M5.fr nowhere).wr hw
      have hkM : HintM H5 H2.size := by
        letI : Inhabited Cx := nilCx
        exact (HintM.new M5 (fun i hi => by have hi8 : i = 0 ∨ i = 1 ∨ i = 2 ∨ i = 3 ∨ i = 4 ∨ i = 5 ∨ i = 6 ∨ i = 7 := (by omega); rcases hi8 with rfl | rfl | rfl | rfl | rfl | rfl | rfl | rfl <;> rfl) (fun i hi => by have hi8 : i = 0 ∨ i = 1 ∨ i = 2 ∨ i = 3 ∨ i = 4 ∨ i = 5 ∨ i = 6 ∨ i = 7 := (by omega); rcases hi8 with rfl | rfl | rfl | rfl | rfl | rfl | rfl | rfl <;> rfl) (by decide))
      refine ⟨⟨mm, mpivot⟩, ?_⟩
      refine O.call rfl rfl rfl Try.call68 rfl (grow_spec hd (ho.fr hF) hol (hi.fr hF) hll) ?_
      rintro _ H3 ⟨I, hIo, hIw, hIb, tr, S, rfl, hM, hF3, hS⟩
      have hs3 := hF3.size
      replace hF := hF.trans hF3
      replace mm := hF3.rd mm (fun _ _ => nw)
      replace mm0 := hF3.keep mm0 nw
      replace mm1 := hF3.keep mm1 nw
      replace mpivot := hF3.rd mpivot (fun _ _ => nw)
      replace hD := hF3.keep hD nw
      replace hw := hF3.wr hw
      have hSb : ∀ b, S b ∨ (b < cx.base ∧ cx.own b) → H5.size ≤ b := fun b hb => hb.elim (hS b) (fun h => hIw b h.2)
      have hOO : OO ord = OI := by rw [← hIo]; rfl
      have hpl := Pl.puts_length OI l
      have hSlt := hM.lt
      have hbs := hM.tc.hb
      unfold ptr
      replace hkM := hkM.fr hF3 (fun _ => nw)
      refine ⟨⟨mm, mpivot⟩, ?_⟩
      refine O.call rfl rfl rfl Try.call107 rfl (taker_spec (n := n) hD hw) ?_
      rintro _ H4 ⟨b2, b3, rfl, hT, hF4⟩
      have hs4 := hF4.size
      replace hF := hF.trans hF4
      replace mm := hF4.rd mm (fun _ _ => nw)
      replace mm0 := hF4.keep mm0 nw
      replace mm1 := hF4.keep mm1 nw
      replace mpivot := hF4.rd mpivot (fun _ _ => nw)
      replace hD := hF4.keep hD nw
      replace hw := hF4.wr hw
      replace hM := hM.fr hF4 (fun _ _ _ => nw)
      replace hkM := hkM.fr hF4 (fun _ => nw)
      refine ⟨⟨mm, mpivot⟩, ?_⟩
      refine O.call rfl rfl rfl Try.call147 rfl (DescendHint_spec (cbTk B b2 b3 B2.size n) Try.call152 hP x hM hT (fun b hb hz => hz.elim (fun h => by have := hSb b (.inl hb); omega) (fun h => by have := hSlt b hb; omega)) (fun b hz hb => hz.elim (fun h => by have := hSb b (.inr hb); omega) (fun h => by omega)) (by omega) (Nat.le_refl _) (hv := .pointer (some ⟨H2.size, 0, none⟩)) (hz := fun b => b = H2.size) (.inr ⟨H2.size, rfl, fun _ => Iff.rfl, by omega, fun h => by have h1 := hIw _ h.2; have h2 := h.1; omega, hkM⟩) (fun b h hb => by have h1 := hSlt b hb; have h2 := hSb b (.inl hb); omega) (fun b hz h => hz.elim (fun e => by omega) (fun e => by omega))) ?_
      rintro _ H6 ⟨Z6, hT6, hF6, hZ6⟩
      replace mm := hF6.rd mm (fun _ _ hz => hz.elim (fun hz => hz.elim (fun h => by omega) (fun h => by omega)) (fun h => by omega))
      replace mpivot := hF6.rd mpivot (fun _ _ hz => hz.elim (fun hz => hz.elim (fun h => by omega) (fun h => by omega)) (fun h => by omega))
      obtain ⟨ov, hv, hov⟩ := TkT.out hT6
      rw [takes_first] at hov
      replace hF := hF.trans' hF6 (fun _ _ _ h => h) (fun b o hb hz => hz.elim (fun hz => hz.elim (fun h => by omega) (fun h => by omega)) (fun h => by omega))
      refine ⟨⟨mm, mpivot⟩, ?_⟩
      refine Pl.fin [(9, _)] ⟨rfl, trivial⟩ (hj () _ ?_)
      exact ⟨hF, ov, hv, by rw [hOO]; exact hov⟩
    · skip
      refine Ok.ldsC rfl rfl rfl (fun w => ⟨Try.isAgg24 w, Try.sizeOf24 w⟩) rfl rfl (fun _ h => h.1) ?_
      refine Ok.mv rfl rfl rfl rfl rfl ?_
      refine Ok.ldsC rfl rfl rfl (fun w => ⟨Try.isAgg27 w, Try.sizeOf27 w⟩) rfl rfl (fun _ h => h.2) ?_
      refine Ok.mv rfl rfl rfl rfl rfl ?_
      refine Ok.call rfl rfl rfl Try.call68 rfl (grow_spec hd (ho.fr hF) hol (hi.fr hF) hll) ?_
      rintro _ H3 ⟨I, hIo, hIw, hIb, tr, S, rfl, hM, hF3, hS⟩
      have hs3 := hF3.size
      replace hF := hF.trans hF3
      replace mm := hF3.rd mm (fun _ _ => nw)
      replace mm0 := hF3.keep mm0 nw
      replace mm1 := hF3.keep mm1 nw
      replace mpivot := hF3.rd mpivot (fun _ _ => nw)
      replace hD := hF3.keep hD nw
      replace hw := hF3.wr hw
      have hSb : ∀ b, S b ∨ (b < cx.base ∧ cx.own b) → H2.size ≤ b := fun b hb => hb.elim (hS b) (fun h => hIw b h.2)
      have hOO : OO ord = OI := by rw [← hIo]; rfl
      have hpl := Pl.puts_length OI l
      have hSlt := hM.lt
      have hbs := hM.tc.hb
      unfold ptr
      refine ⟨⟨mm, mpivot⟩, ?_⟩
      refine Pk.fin ?_
      refine Tk.node ?_ ?_
      · skip
        refine O.alloc rfl rfl rfl Try.zeroValue153 ?_
        intro H5 M5
        have hs5 := M5.size
        replace hF := hF.trans (M5.fr nowhere)
        replace mm := (M5.fr nowhere).rd mm (fun _ _ => nw)
        replace mm0 := (M5.fr nowhere).keep mm0 nw
        replace mm1 := (M5.fr nowhere).keep mm1 nw
        replace mpivot := (M5.fr nowhere).rd mpivot (fun _ _ => nw)
        replace hD := (M5.fr nowhere).keep hD nw
        replace hw := (M5.fr nowhere).wr hw
        replace hM := hM.fr (M5.fr nowhere) (fun _ _ _ => nw)
        have hkM : HintM H5 H3.size := by
          letI : Inhabited Cx := nilCx
          exact (HintM.new M5 (fun i hi => by have hi8 : i = 0 ∨ i = 1 ∨ i = 2 ∨ i = 3 ∨ i = 4 ∨ i = 5 ∨ i = 6 ∨ i = 7 := (by omega); rcases hi8 with rfl | rfl | rfl | rfl | rfl | rfl | rfl | rfl <;> rfl) (fun i hi => by have hi8 : i = 0 ∨ i = 1 ∨ i = 2 ∨ i = 3 ∨ i = 4 ∨ i = 5 ∨ i = 6 ∨ i = 7 := (by omega); rcases hi8 with rfl | rfl | rfl | rfl | rfl | rfl | rfl | rfl <;> rfl) (by decide))
        refine ⟨⟨mm, mpivot⟩, ?_⟩
        refine O.call rfl rfl rfl Try.call107 rfl (taker_spec (n := n) hD hw) ?_
        rintro _ H4 ⟨b2, b3, rfl, hT, hF4⟩
        have hs4 := hF4.size
        replace hF := hF.trans hF4
        replace mm := hF4.rd mm (fun _ _ => nw)
        replace mm0 := hF4.keep mm0 nw
        replace mm1 := hF4.keep mm1 nw
        replace mpivot := hF4.rd mpivot (fun _ _ => nw)
        replace hD := hF4.keep hD nw
        replace hw := hF4.wr hw
        replace hM := hM.fr hF4 (fun _ _ _ => nw)
        replace hkM := hkM.fr hF4 (fun _ => nw)
        refine ⟨⟨mm, mpivot⟩, ?_⟩
        refine O.call rfl rfl rfl Try.call147 rfl (DescendHint_spec (cbTk B b2 b3 B2.size n) Try.call152 hP x hM hT (fun b hb hz => hz.elim (fun h => by have := hSb b (.inl hb); omega) (fun h => by have := hSlt b hb; omega)) (fun b hz hb => hz.elim (fun h => by have := hSb b (.inr hb); omega) (fun h => by omega)) (by omega) (Nat.le_refl _) (hv := .pointer (some ⟨H3.size, 0, none⟩)) (hz := fun b => b = H3.size) (.inr ⟨H3.size, rfl, fun _ => Iff.rfl, by omega, fun h => by have h1 := hIw _ h.2; have h2 := h.1; omega, hkM⟩) (fun b h hb => by have h1 := hSlt b hb; have h2 := hSb b (.inl hb); omega) (fun b hz h => hz.elim (fun e => by omega) (fun e => by omega))) ?_
        rintro _ H6 ⟨Z6, hT6, hF6, hZ6⟩
        replace mm := hF6.rd mm (fun _ _ hz => hz.elim (fun hz => hz.elim (fun h => by omega) (fun h => by omega)) (fun h => by omega))
        replace mpivot := hF6.rd mpivot (fun _ _ hz => hz.elim (fun hz => hz.elim (fun h => by omega) (fun h => by omega)) (fun h => by omega))
        obtain ⟨ov, hv, hov⟩ := TkT.out hT6
        rw [takes_first] at hov
        replace hF := hF.trans' hF6 (fun _ _ _ h => h) (fun b o hb hz => hz.elim (fun hz => hz.elim (fun h => by omega) (fun h => by omega)) (fun h => by omega))
        refine ⟨⟨mm, mpivot⟩, ?_⟩
        refine Pl.fin [(9, _)] ⟨rfl, trivial⟩ (hj () _ ?_)
        exact ⟨hF, ov, hv, by rw [hOO]; exact hov⟩
      · skip
        refine Ok.call rfl rfl rfl Try.call107 rfl (taker_spec (n := n) hD hw) ?_
        rintro _ H4 ⟨b2, b3, rfl, hT, hF4⟩
        have hs4 := hF4.size
        replace hF := hF.trans hF4
        replace mm := hF4.rd mm (fun _ _ => nw)
        replace mm0 := hF4.keep mm0 nw
        replace mm1 := hF4.keep mm1 nw
        replace mpivot := hF4.rd mpivot (fun _ _ => nw)
        replace hD := hF4.keep hD nw
        replace hw := hF4.wr hw
        replace hM := hM.fr hF4 (fun _ _ _ => nw)
        refine ⟨⟨mm, mpivot⟩, ?_⟩
        refine Pk.fin ?_
        refine Tk.leaf ?_
        refine O.alloc rfl rfl rfl Try.zeroValue153 ?_
        intro H5 M5
        have hs5 := M5.size
        replace hF := hF.trans (M5.fr nowhere)
        replace mm := (M5.fr nowhere).rd mm (fun _ _ => nw)
        replace mm0 := (M5.fr nowhere).keep mm0 nw
        replace mm1 := (M5.fr nowhere).keep mm1 nw
        replace mpivot := (M5.fr nowhere).rd mpivot (fun _ _ => nw)
        replace hM := hM.fr (M5.fr nowhere) (fun _ _ _ => nw)
        replace hT := (cbTk B b2 b3 B2.size n).fr hT (M5.fr nowhere) (fun _ _ _ => nw)
        have hkM : HintM H5 H4.size := by
          letI : Inhabited Cx := nilCx
          exact (HintM.new M5 (fun i hi => by have hi8 : i = 0 ∨ i = 1 ∨ i = 2 ∨ i = 3 ∨ i = 4 ∨ i = 5 ∨ i = 6 ∨ i = 7 := (by omega); rcases hi8 with rfl | rfl | rfl | rfl | rfl | rfl | rfl | rfl <;> rfl) (fun i hi => by have hi8 : i = 0 ∨ i = 1 ∨ i = 2 ∨ i = 3 ∨ i = 4 ∨ i = 5 ∨ i = 6 ∨ i = 7 := (by omega); rcases hi8 with rfl | rfl | rfl | rfl | rfl | rfl | rfl | rfl <;> rfl) (by decide))
        refine ⟨⟨mm, mpivot⟩, ?_⟩
        refine O.call rfl rfl rfl Try.call147 rfl (DescendHint_spec (cbTk B b2 b3 B2.size n) Try.call152 hP x hM hT (fun b hb hz => hz.elim (fun h => by have := hSb b (.inl hb); omega) (fun h => by have := hSlt b hb; omega)) (fun b hz hb => hz.elim (fun h => by have := hSb b (.inr hb); omega) (fun h => by omega)) (by omega) (Nat.le_refl _) (hv := .pointer (some ⟨H4.size, 0, none⟩)) (hz := fun b => b = H4.size) (.inr ⟨H4.size, rfl, fun _ => Iff.rfl, by omega, fun h => by have h1 := hIw _ h.2; have h2 := h.1; omega, hkM⟩) (fun b h hb => by have h1 := hSlt b hb; have h2 := hSb b (.inl hb); omega) (fun b hz h => hz.elim (fun e => by omega) (fun e => by omega))) ?_
        rintro _ H6 ⟨Z6, hT6, hF6, hZ6⟩
        replace mm := hF6.rd mm (fun _ _ hz => hz.elim (fun hz => hz.elim (fun h => by omega) (fun h => by omega)) (fun h => by omega))
        replace mpivot := hF6.rd mpivot (fun _ _ hz => hz.elim (fun hz => hz.elim (fun h => by omega) (fun h => by omega)) (fun h => by omega))
        obtain ⟨ov, hv, hov⟩ := TkT.out hT6
        rw [takes_first] at hov
        replace hF := hF.trans' hF6 (fun _ _ _ h => h) (fun b o hb hz => hz.elim (fun hz => hz.elim (fun h => by omega) (fun h => by omega)) (fun h => by omega))
        refine ⟨⟨mm, mpivot⟩, ?_⟩
        refine Pl.fin [(9, _)] ⟨rfl, trivial⟩ (hj () _ ?_)
        exact ⟨hF, ov, hv, by rw [hOO]; exact hov⟩
  clear hF
  rintro _ H6 ⟨hF, ov, hv, hov⟩
  refine Go'.seq ?_
  -- region 3 (treeg.go:265)
  refine Go'.region [(0, 1), (1, 0)] rfl ?_
  refine O.ld rfl rfl rfl (fun w => ⟨Try.isAgg25 w, Try.sizeOf25 w⟩) rfl hv ?_
  refine O.asg rfl rfl rfl rfl rfl ?_
  refine Pl.fin [(8, _)] ⟨rfl, trivial⟩ ?_
  refine Go'.ret (vs := [_]) Try.func95 Try.results95 ⟨rfl, trivial⟩ ?_
  exact ⟨hov, hF⟩

theorem lawGDescendHint_spec {B : World} {H : Mem} {d : Nat} {nl : Bool} {v u : Value} {ord : List Int} {l : List (Int × Int)} (hd : d = 0 ∨ 2 ≤ d ∧ d ≤ 128) (ho : InS EN H v ord) (hol : ord.length ≤ 4294967296) (hi : InS EJ H u l) (hll : l.length ≤ 4294967296) {x : Int × Int} {n : Int} :
    Fn Try.prog B 47 [.agg #[v, .int .i64 (d : Int), .bool nl], u, .agg (EJ.enc x).toArray, .int .i64 n] H (fun r H' => r = .bool true ∧ Fr nowhere H H') := by
  obtain ⟨a, c, hu⟩ := hi.len
  subst hu
  obtain ⟨av, mv, cv, hv⟩ := InS.form ho
  subst hv
  have hF : Fr nowhere H H := Fr.refl _ _
  have hP := PD_ok hd
  refine fn_of Try.func47 rfl Try.ntmps47 ?_
  refine (show Go' _ _ _ _ 24 [(0, _), (1, _), (2, _), (3, _)] [.code _] _ from ?_)
  refine Go'.seq ?_
  -- region 0 (exact.go:426)
  refine Go'.region [(0, 2), (1, 2), (2, 0)] rfl ?_
  refine O.box rfl rfl rfl rfl ?_
  intro B1 MB1
  refine ⟨trivial, ?_⟩
  have hsB1 := MB1.size
  replace hF := hF.trans (MB1.fr nowhere)
  have mm : Rd B1 H.size 0 [.slice av mv cv, .int .i64 (d : Int), .bool nl] := MB1.rd _ [] (by simp [Value.cells])
  have mm0 : cl B1 H.size 0 = some (.slice av mv cv) := mm 0 _ rfl
  have mm1 : cl B1 H.size (0 + 1) = some (.int .i64 (d : Int)) := mm 1 _ rfl
  refine O.box rfl rfl rfl rfl ?_
  intro B2 MB2
  refine ⟨trivial, ?_⟩
  have hsB2 := MB2.size
  replace hF := hF.trans (MB2.fr nowhere)
  replace mm := (MB2.fr nowhere).rd mm (fun _ _ => nw)
  replace mm0 := (MB2.fr nowhere).keep mm0 nw
  replace mm1 := (MB2.fr nowhere).keep mm1 nw
  have mpivot : Rd B2 B1.size 0 (EJ.enc x) := MB2.rd _ [] (by simp [Value.cells])
  refine O.asg rfl rfl rfl rfl rfl ?_
  refine Pl.fin [(1, _), (3, _), (4, _), (6, _), (8, _)] ⟨rfl, rfl, rfl, rfl, rfl, trivial⟩ ?_
  refine Go'.seq ?_
  have hpl := Pl.puts_length (OO ord) l
  have hdl := Pl.dn_le (OO ord) x (Pl.puts (OO ord) l)
  have hfl := firstN_len (Pl.dn (OO ord) x (Pl.puts (OO ord) l)).reverse n
  rw [List.length_reverse] at hfl
  -- region 1 (exact.go:427)
  refine Go'.region [(0, 1), (1, 0), (2, 1), (3, 0), (4, 2), (5, 0)] rfl ?_
  refine O.lds rfl rfl rfl (fun w => ⟨Try.isAgg24 w, Try.sizeOf24 w⟩) rfl rfl mm ?_
  refine O.mv rfl rfl rfl rfl rfl ?_
  refine O.lds rfl rfl rfl (fun w => ⟨Try.isAgg27 w, Try.sizeOf27 w⟩) rfl rfl mpivot ?_
  refine O.mv rfl rfl rfl rfl rfl ?_
  refine O.call rfl rfl rfl Try.call95 rfl (igdescendhint_spec hd (ho.fr hF) hol (hi.fr hF) hll x (n := n)) ?_
  rintro v1 H3 ⟨h1, hF3⟩
  replace hF := hF.trans hF3
  replace mm := hF3.rd mm (fun _ _ => nw)
  replace mm0 := hF3.keep mm0 nw
  replace mm1 := hF3.keep mm1 nw
  replace mpivot := hF3.rd mpivot (fun _ _ => nw)
  refine ⟨trivial, ?_⟩
  refine O.asg rfl rfl rfl rfl rfl ?_
  refine Pl.fin [(1, _), (3, _), (4, _), (6, _), (8, _), (9, _)] ⟨rfl, rfl, rfl, rfl, rfl, rfl, trivial⟩ ?_
  refine Go'.seq ?_
  -- region 2 (exact.go:428)
  refine Go'.region [(0, 1), (1, 0), (2, 1), (3, 0), (4, 2), (5, 0)] rfl ?_
  refine O.lds rfl rfl rfl (fun w => ⟨Try.isAgg24 w, Try.sizeOf24 w⟩) rfl rfl mm ?_
  refine O.mv rfl rfl rfl rfl rfl ?_
  refine O.lds rfl rfl rfl (fun w => ⟨Try.isAgg27 w, Try.sizeOf27 w⟩) rfl rfl mpivot ?_
  refine O.mv rfl rfl rfl rfl rfl ?_
  refine O.call rfl rfl rfl Try.call94 rfl (gdescend_spec (x := x) (n := n) (ho.fr hF) (by omega) (hi.fr hF) hll) ?_
  rintro v2 H4 ⟨h2, hF4⟩
  replace hF := hF.trans hF4
  replace mm := hF4.rd mm (fun _ _ => nw)
  replace mm0 := hF4.keep mm0 nw
  replace mm1 := hF4.keep mm1 nw
  replace mpivot := hF4.rd mpivot (fun _ _ => nw)
  refine ⟨trivial, ?_⟩
  refine O.asg rfl rfl rfl rfl rfl ?_
  refine Pl.fin [(8, _), (9, _), (10, _)] ⟨rfl, rfl, rfl, trivial⟩ ?_
  refine Go'.seq ?_
  -- region 3 (exact.go:429)
  refine Go'.region [(0, 0), (1, 0), (2, 2), (3, 0)] rfl ?_
  refine O.mv rfl rfl rfl rfl rfl ?_
  refine O.mv rfl rfl rfl rfl rfl ?_
  refine O.callQ rfl rfl rfl Try.call28 rfl (eqItems_spec (h1.inS.fr hF4) h2 (by omega)) trivial ?_
  refine O.asg rfl rfl rfl rfl rfl ?_
  refine Pl.fin [(8, _)] ⟨rfl, trivial⟩ ?_
  refine Go'.ret (vs := [_]) Try.func47 Try.results47 ⟨rfl, trivial⟩ ?_
  exact ⟨rfl, hF⟩

theorem fnExactGDescendHint {B : World} {H : Mem} {z : Int} {nl : Bool} {v u : Value} {ord : List Int} {l : List (Int × Int)} {y2 : Int × Int} {n : Int} (ho : InS EN H v ord) (hi : InS EJ H u l) :
    Fn Try.prog B 14 [.agg #[v, .int .i64 z, .bool nl], u, .agg (EJ.enc y2).toArray, .int .i64 n] H (fun r H' => r = .bool true ∧ Fr nowhere H H') := by
  obtain ⟨a, c, hu⟩ := hi.len
  subst hu
  obtain ⟨av, mv, cv, hv⟩ := InS.form ho
  subst hv
  have hF : Fr nowhere H H := Fr.refl _ _
  refine fn_of Try.func14 rfl Try.ntmps14 ?_
  refine (show Go' _ _ _ _ 34 [(0, _), (1, _), (2, _), (3, _)] [.code _] _ from ?_)
  refine Go'.seq ?_
  -- region 0 (exact.go:419)
  refine Go'.region [(0, 2), (1, 2), (2, 0)] rfl ?_
  refine O.box rfl rfl rfl rfl ?_
  intro B1 MB1
  refine ⟨trivial, ?_⟩
  have hsB1 := MB1.size
  replace hF := hF.trans (MB1.fr nowhere)
  have mm : Rd B1 H.size 0 [.slice av mv cv, .int .i64 z, .bool nl] := MB1.rd _ [] (by simp [Value.cells])
  have mm0 : cl B1 H.size 0 = some (.slice av mv cv) := mm 0 _ rfl
  have mm1 : cl B1 H.size (0 + 1) = some (.int .i64 z) := mm 1 _ rfl
  refine O.box rfl rfl rfl rfl ?_
  intro B2 MB2
  refine ⟨trivial, ?_⟩
  have hsB2 := MB2.size
  replace hF := hF.trans (MB2.fr nowhere)
  replace mm := (MB2.fr nowhere).rd mm (fun _ _ => nw)
  replace mm0 := (MB2.fr nowhere).keep mm0 nw
  replace mm1 := (MB2.fr nowhere).keep mm1 nw
  have mpivot : Rd B2 B1.size 0 (EJ.enc y2) := MB2.rd _ [] (by simp [Value.cells])
  refine O.asg rfl rfl rfl rfl rfl ?_
  refine Pl.fin [(1, _), (3, _), (4, _), (6, _), (8, _)] ⟨rfl, rfl, rfl, rfl, rfl, trivial⟩ ?_
  refine Go'.seq ?_
  refine Go'.seq ?_
  cases hoz : decide (ord.length ≤ 2147483647)
  · skip
    -- region 1 (exact.go:420)
    refine Go'.region [(0, 1), (1, 2), (2, 0), (3, 0), (4, 0), (5, 0), (6, 0), (7, 0)] rfl ?_
    refine O.lds rfl rfl rfl (fun w => ⟨Try.isAgg24 w, Try.sizeOf24 w⟩) rfl rfl mm ?_
    refine O.call rfl rfl rfl Try.call23 rfl (zzFits1_spec (ho.fr hF) hoz) ?_
    rintro _ H1 ⟨rfl, hF1⟩
    replace hF := hF.trans hF1
    replace mm := hF1.rd mm (fun _ _ => nw)
    replace mm0 := hF1.keep mm0 nw
    replace mm1 := hF1.keep mm1 nw
    replace mpivot := hF1.rd mpivot (fun _ _ => nw)
    refine ⟨trivial, ?_⟩
    refine O.not rfl rfl rfl rfl rfl ?_
    refine O.mv rfl rfl rfl rfl rfl ?_
    refine Pl.pass rfl rfl rfl rfl ?_
    refine Pl.pass rfl rfl rfl rfl ?_
    refine Pl.pass rfl rfl rfl rfl ?_
    refine O.pick rfl rfl rfl rfl rfl rfl ?_
    refine Pl.fin [(1, _), (3, _), (4, _), (6, _), (8, _), (16, _)] ⟨rfl, rfl, rfl, rfl, rfl, rfl, trivial⟩ ?_
    refine Go'.condT rfl ?_
    refine Go'.seq ?_
    -- region 2 (exact.go:421)
    refine Go'.region [(0, 0)] rfl ?_
    refine O.asg rfl rfl rfl rfl rfl ?_
    refine Pl.fin [(1, _), (3, _), (4, _), (6, _), (8, _)] ⟨rfl, rfl, rfl, rfl, rfl, trivial⟩ ?_
    refine Go'.ret (vs := [_]) Try.func14 Try.results14 ⟨rfl, trivial⟩ ?_
    exact ⟨rfl, hF⟩
  · skip
    have hoz2 := of_decide_eq_true hoz
    by_cases hb_lenl : (2147483647 : Int) < (l.length : Int)
    · skip
      -- region 1 (exact.go:420)
      refine Go'.region [(0, 1), (1, 2), (2, 0), (3, 0), (4, 0), (5, 0), (6, 0), (7, 0)] rfl ?_
      refine O.lds rfl rfl rfl (fun w => ⟨Try.isAgg24 w, Try.sizeOf24 w⟩) rfl rfl mm ?_
      refine O.call rfl rfl rfl Try.call23 rfl (zzFits1_spec (ho.fr hF) hoz) ?_
      rintro _ H1 ⟨rfl, hF1⟩
      replace hF := hF.trans hF1
      replace mm := hF1.rd mm (fun _ _ => nw)
      replace mm0 := hF1.keep mm0 nw
      replace mm1 := hF1.keep mm1 nw
      replace mpivot := hF1.rd mpivot (fun _ _ => nw)
      refine ⟨trivial, ?_⟩
      refine O.not rfl rfl rfl rfl rfl ?_
      refine O.mv rfl rfl rfl rfl rfl ?_
      refine O.mv rfl rfl rfl rfl rfl ?_
      refine O.len rfl rfl rfl rfl Try.underlying25 rfl ?_
      refine O.cmp rfl rfl rfl rfl rfl rfl (gtrT (by omega)) ?_
      refine O.pick rfl rfl rfl rfl rfl rfl ?_
      refine Pl.fin [(1, _), (3, _), (4, _), (6, _), (8, _), (16, _)] ⟨rfl, rfl, rfl, rfl, rfl, rfl, trivial⟩ ?_
      refine Go'.condT rfl ?_
      refine Go'.seq ?_
      -- region 2 (exact.go:421)
      refine Go'.region [(0, 0)] rfl ?_
      refine O.asg rfl rfl rfl rfl rfl ?_
      refine Pl.fin [(1, _), (3, _), (4, _), (6, _), (8, _)] ⟨rfl, rfl, rfl, rfl, rfl, trivial⟩ ?_
      refine Go'.ret (vs := [_]) Try.func14 Try.results14 ⟨rfl, trivial⟩ ?_
      exact ⟨rfl, hF⟩
    · skip
      -- region 1 (exact.go:420)
      refine Go'.region [(0, 1), (1, 2), (2, 0), (3, 0), (4, 0), (5, 0), (6, 0), (7, 0)] rfl ?_
      refine O.lds rfl rfl rfl (fun w => ⟨Try.isAgg24 w, Try.sizeOf24 w⟩) rfl rfl mm ?_
      refine O.call rfl rfl rfl Try.call23 rfl (zzFits1_spec (ho.fr hF) hoz) ?_
      rintro _ H1 ⟨rfl, hF1⟩
      replace hF := hF.trans hF1
      replace mm := hF1.rd mm (fun _ _ => nw)
      replace mm0 := hF1.keep mm0 nw
      replace mm1 := hF1.keep mm1 nw
      replace mpivot := hF1.rd mpivot (fun _ _ => nw)
      refine ⟨trivial, ?_⟩
      refine O.not rfl rfl rfl rfl rfl ?_
      refine O.mv rfl rfl rfl rfl rfl ?_
      refine O.mv rfl rfl rfl rfl rfl ?_
      refine O.len rfl rfl rfl rfl Try.underlying25 rfl ?_
      refine O.cmp rfl rfl rfl rfl rfl rfl (gtrF (by omega)) ?_
      refine O.pick rfl rfl rfl rfl rfl rfl ?_
      refine Pl.fin [(1, _), (3, _), (4, _), (6, _), (8, _), (16, _)] ⟨rfl, rfl, rfl, rfl, rfl, rfl, trivial⟩ ?_
      refine Go'.condF rfl ?_
      refine Go'.skip ?_
      refine Go'.seq ?_
      cases hfz : fitsb z
      · skip
        -- region 3 (exact.go:423)
        refine Go'.region [(0, 2), (1, 2), (2, 0), (3, 2), (4, 0), (5, 0), (6, 1), (7, 2), (8, 0), (9, 0), (10, 1), (11, 0), (12, 1), (13, 0), (14, 2), (15, 0), (16, 0), (17, 0)] rfl ?_
        refine O.call rfl rfl rfl Try.call30 rfl exMake_spec ?_
        rintro _ H2 ⟨rfl, hF2⟩
        replace hF := hF.trans hF2
        replace mm := hF2.rd mm (fun _ _ => nw)
        replace mm0 := hF2.keep mm0 nw
        replace mm1 := hF2.keep mm1 nw
        replace mpivot := hF2.rd mpivot (fun _ _ => nw)
        refine ⟨trivial, ?_⟩
        refine O.call rfl rfl rfl Try.call32 rfl exItems_spec ?_
        rintro ev H3 ⟨hev, hF3⟩
        replace hF := hF.trans hF3
        replace mm := hF3.rd mm (fun _ _ => nw)
        replace mm0 := hF3.keep mm0 nw
        replace mm1 := hF3.keep mm1 nw
        replace mpivot := hF3.rd mpivot (fun _ _ => nw)
        refine ⟨trivial, ?_⟩
        refine O.bld (cs := [.int .i64 4, .int .i64 0]) rfl rfl rfl rfl (st27) rfl (by kernel_rfl) ?_
        refine O.call rfl rfl rfl Try.call47 rfl (lawGDescendHint_spec (d := 2) (by decide) (InS.nil EN _) (by decide) hev (by decide) (x := (4, 0)) (n := 2)) ?_
        rintro _ H4 ⟨rfl, hF4⟩
        replace hF := hF.trans hF4
        replace mm := hF4.rd mm (fun _ _ => nw)
        replace mm0 := hF4.keep mm0 nw
        replace mm1 := hF4.keep mm1 nw
        replace mpivot := hF4.rd mpivot (fun _ _ => nw)
        refine ⟨trivial, ?_⟩
        refine O.mv rfl rfl rfl rfl rfl ?_
        refine O.fa0 (off := 1) rfl rfl rfl rfl ⟨_, _, _, Try.underlying24, rfl, rfl, Try.sizeOf3⟩ rfl ?_
        refine O.ld rfl rfl rfl (fun w => ⟨Try.isAgg3 w, Try.sizeOf3 w⟩) rfl mm1 ?_
        refine O.callQ rfl rfl rfl Try.call33 rfl (fits_spec' hfz) trivial ?_
        refine O.not rfl rfl rfl rfl rfl ?_
        refine O.mv rfl rfl rfl rfl rfl ?_
        refine Pl.pass rfl rfl rfl rfl ?_
        refine Pl.pass rfl rfl rfl rfl ?_
        refine Pl.pass rfl rfl rfl rfl ?_
        refine Pl.pass rfl rfl rfl rfl ?_
        refine Pl.pass2 rfl rfl rfl rfl trivial ?_
        refine O.pick rfl rfl rfl rfl rfl rfl ?_
        refine O.pick rfl rfl rfl rfl rfl rfl ?_
        refine O.asg rfl rfl rfl rfl rfl ?_
        refine Pl.fin [(8, _)] ⟨rfl, trivial⟩ ?_
        refine Go'.ret (vs := [_]) Try.func14 Try.results14 ⟨rfl, trivial⟩ ?_
        exact ⟨rfl, hF⟩
      · skip
        obtain ⟨d, rfl, hd⟩ := fitsb_nat hfz
        -- region 3 (exact.go:423)
        refine Go'.region [(0, 2), (1, 2), (2, 0), (3, 2), (4, 0), (5, 0), (6, 1), (7, 2), (8, 0), (9, 0), (10, 1), (11, 0), (12, 1), (13, 0), (14, 2), (15, 0), (16, 0), (17, 0)] rfl ?_
        refine O.call rfl rfl rfl Try.call30 rfl exMake_spec ?_
        rintro _ H2 ⟨rfl, hF2⟩
        replace hF := hF.trans hF2
        replace mm := hF2.rd mm (fun _ _ => nw)
        replace mm0 := hF2.keep mm0 nw
        replace mm1 := hF2.keep mm1 nw
        replace mpivot := hF2.rd mpivot (fun _ _ => nw)
        refine ⟨trivial, ?_⟩
        refine O.call rfl rfl rfl Try.call32 rfl exItems_spec ?_
        rintro ev H3 ⟨hev, hF3⟩
        replace hF := hF.trans hF3
        replace mm := hF3.rd mm (fun _ _ => nw)
        replace mm0 := hF3.keep mm0 nw
        replace mm1 := hF3.keep mm1 nw
        replace mpivot := hF3.rd mpivot (fun _ _ => nw)
        refine ⟨trivial, ?_⟩
        refine O.bld (cs := [.int .i64 4, .int .i64 0]) rfl rfl rfl rfl (st27) rfl (by kernel_rfl) ?_
        refine O.call rfl rfl rfl Try.call47 rfl (lawGDescendHint_spec (d := 2) (by decide) (InS.nil EN _) (by decide) hev (by decide) (x := (4, 0)) (n := 2)) ?_
        rintro _ H4 ⟨rfl, hF4⟩
        replace hF := hF.trans hF4
        replace mm := hF4.rd mm (fun _ _ => nw)
        replace mm0 := hF4.keep mm0 nw
        replace mm1 := hF4.keep mm1 nw
        replace mpivot := hF4.rd mpivot (fun _ _ => nw)
        refine ⟨trivial, ?_⟩
        refine O.mv rfl rfl rfl rfl rfl ?_
        refine O.fa0 (off := 1) rfl rfl rfl rfl ⟨_, _, _, Try.underlying24, rfl, rfl, Try.sizeOf3⟩ rfl ?_
        refine O.ld rfl rfl rfl (fun w => ⟨Try.isAgg3 w, Try.sizeOf3 w⟩) rfl mm1 ?_
        refine O.callQ rfl rfl rfl Try.call33 rfl (fits_spec' hfz) trivial ?_
        refine O.not rfl rfl rfl rfl rfl ?_
        refine O.mv rfl rfl rfl rfl rfl ?_
        refine O.lds rfl rfl rfl (fun w => ⟨Try.isAgg24 w, Try.sizeOf24 w⟩) rfl rfl mm ?_
        refine O.mv rfl rfl rfl rfl rfl ?_
        refine O.lds rfl rfl rfl (fun w => ⟨Try.isAgg27 w, Try.sizeOf27 w⟩) rfl rfl mpivot ?_
        refine O.mv rfl rfl rfl rfl rfl ?_
        refine O.call rfl rfl rfl Try.call47 rfl (lawGDescendHint_spec hd (ho.fr hF) (by omega) (hi.fr hF) (by omega) (x := y2)) ?_
        rintro _ H5 ⟨rfl, hF5⟩
        replace hF := hF.trans hF5
        replace mm := hF5.rd mm (fun _ _ => nw)
        replace mm0 := hF5.keep mm0 nw
        replace mm1 := hF5.keep mm1 nw
        replace mpivot := hF5.rd mpivot (fun _ _ => nw)
        refine ⟨trivial, ?_⟩
        refine O.pick rfl rfl rfl rfl rfl rfl ?_
        refine O.pick rfl rfl rfl rfl rfl rfl ?_
        refine O.asg rfl rfl rfl rfl rfl ?_
        refine Pl.fin [(8, _)] ⟨rfl, trivial⟩ ?_
        refine Go'.ret (vs := [_]) Try.func14 Try.results14 ⟨rfl, trivial⟩ ?_
        exact ⟨rfl, hF⟩

end Go.Bt.FG
