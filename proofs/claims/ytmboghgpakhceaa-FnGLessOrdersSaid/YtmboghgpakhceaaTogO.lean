/- Contracts of functions of the program, proved by walking through their code. Conditions: those that each theorem names. -/
import Derived.Test.YtmboghgpakhceaaTogM
namespace Go.Bt.FG
open Go Go.Proofs
set_option maxRecDepth 20000
set_option maxHeartbeats 4000000
set_option linter.unusedVariables false
set_option linter.unusedSectionVars false

theorem gless_spec {B : World} {H : Mem} {d : Nat} {nl : Bool} {v : Value} {ord : List Int} (hd : d = 0 ∨ 2 ≤ d ∧ d ≤ 128) (ho : InS EN H v ord) (hol : ord.length ≤ 4294967296) (x y : Int × Int) :
    Fn Try.prog B 29 [.agg #[v, .int .i64 (d : Int), .bool nl], .agg (EJ.enc x).toArray, .agg (EJ.enc y).toArray] H (fun r H' => r = .bool ((OO ord).lt x y) ∧ Fr nowhere H H') := by
  obtain ⟨av, mv, cv, hv⟩ := InS.form ho
  subst hv
  have hF : Fr nowhere H H := Fr.refl _ _
  have hi := InS.nil EJ H
  have hll : ([] : List (Int × Int)).length ≤ 4294967296 := by decide
  have hP := PD_ok hd
  refine fn_of Go.Proofs.Try.func29 rfl Go.Proofs.Try.ntmps29 ?_
  refine (show Go' _ _ _ _ 12 [(0, _), (1, _), (2, _)] [.code _] _ from ?_)
  refine Go'.seq ?_
  -- region 0 (treeg.go:412)
  refine Go'.region [(0, 2), (1, 2), (2, 2), (3, 0)] rfl ?_
  refine O.box rfl rfl rfl rfl ?_
  intro B1 MB1
  refine ⟨trivial, ?_⟩
  have hsB1 := MB1.size
  replace hF := hF.trans (MB1.fr nowhere)
  have mm : Rd B1 H.size 0 [.slice av mv cv, .int .i64 (d : Int), .bool nl] := MB1.rd _ [] (by simp [Value.cells])
  have mm0 : cl B1 H.size 0 = some (.slice av mv cv) := mm 0 _ rfl
  have mm1 : cl B1 H.size (0 + 1) = some (.int .i64 (d : Int)) := mm 1 _ rfl
  refine O.box rfl rfl rfl rfl ?_
  intro B2 MB2
  refine ⟨trivial, ?_⟩
  have hsB2 := MB2.size
  replace hF := hF.trans (MB2.fr nowhere)
  replace mm := (MB2.fr nowhere).rd mm (fun _ _ => nw)
  replace mm0 := (MB2.fr nowhere).keep mm0 nw
  replace mm1 := (MB2.fr nowhere).keep mm1 nw
  have ma : Rd B2 B1.size 0 (EJ.enc x) := MB2.rd _ [] (by simp [Value.cells])
  refine O.box rfl rfl rfl rfl ?_
  intro B3 MB3
  refine ⟨trivial, ?_⟩
  have hsB3 := MB3.size
  replace hF := hF.trans (MB3.fr nowhere)
  replace mm := (MB3.fr nowhere).rd mm (fun _ _ => nw)
  replace mm0 := (MB3.fr nowhere).keep mm0 nw
  replace mm1 := (MB3.fr nowhere).keep mm1 nw
  replace ma := (MB3.fr nowhere).rd ma (fun _ _ => nw)
  have mb : Rd B3 B2.size 0 (EJ.enc y) := MB3.rd _ [] (by simp [Value.cells])
  refine O.asg rfl rfl rfl rfl rfl ?_
  refine Pl.fin [(3, _), (4, _), (5, _), (6, _)] ⟨rfl, rfl, rfl, rfl, trivial⟩ ?_
  refine Go'.seq ?_
  -- region 1 (treeg.go:413)
  refine Go'.draw (fun H' => Rd H' B1.size 0 (EJ.enc x) ∧ Rd H' B2.size 0 (EJ.enc y)) [(0, 1), (2, 0), (3, 0), (1, 2), (4, 2), (5, 0)] (by kernel_rfl) (by kernel_rfl) (⟨ma, mb⟩) ?_
  refine O.lds rfl rfl rfl (fun w => ⟨Go.Proofs.Try.isAgg24 w, Go.Proofs.Try.sizeOf24 w⟩) rfl rfl mm ?_
  refine O.ldsC rfl rfl rfl (fun w => ⟨Go.Proofs.Try.isAgg27 w, Go.Proofs.Try.sizeOf27 w⟩) rfl rfl (fun _ h => h.1) ?_
  refine O.ldsC rfl rfl rfl (fun w => ⟨Go.Proofs.Try.isAgg27 w, Go.Proofs.Try.sizeOf27 w⟩) rfl rfl (fun _ h => h.2) ?_
  refine O.call rfl rfl rfl Go.Proofs.Try.call68 rfl (grow_spec hd (ho.fr hF) hol (InS.nil EJ _) hll) ?_
  rintro _ H4 ⟨I, hIo, hIw, hIb, tr, S, rfl, hM, hF4, hS⟩
  have hs4 := hF4.size
  replace hF := hF.trans hF4
  replace mm := hF4.rd mm (fun _ _ => nw)
  replace mm0 := hF4.keep mm0 nw
  replace mm1 := hF4.keep mm1 nw
  replace ma := hF4.rd ma (fun _ _ => nw)
  replace mb := hF4.rd mb (fun _ _ => nw)
  have hSb : ∀ b, S b ∨ (b < cx.base ∧ cx.own b) → B3.size ≤ b := fun b hb => hb.elim (hS b) (fun h => hIw b h.2)
  have hOO : OO ord = OI := by rw [← hIo]; rfl
  have hSlt := hM.lt
  have hbs := hM.tc.hb
  unfold ptr
  refine ⟨⟨ma, mb⟩, ?_⟩
  refine O.call rfl rfl rfl Go.Proofs.Try.call77 rfl (Less_spec hM.tc x y) ?_
  rintro _ H5 ⟨rfl, hF5⟩
  replace hF := hF.trans hF5
  replace mm := hF5.rd mm (fun _ _ => nw)
  replace mm0 := hF5.keep mm0 nw
  replace mm1 := hF5.keep mm1 nw
  replace ma := hF5.rd ma (fun _ _ => nw)
  replace mb := hF5.rd mb (fun _ _ => nw)
  refine ⟨⟨ma, mb⟩, ?_⟩
  refine O.asg rfl rfl rfl rfl rfl ?_
  refine Pl.fin [(6, _)] ⟨rfl, trivial⟩ ?_
  refine Go'.ret (vs := [_]) Go.Proofs.Try.func29 Go.Proofs.Try.results29 ⟨rfl, trivial⟩ ?_
  rw [hOO]; exact ⟨rfl, hF⟩

theorem fnGLessOrders {B : World} {H : Mem} {z : Int} {nl : Bool} {v : Value} {ord : List Int} {y1 y2 y3 : Int × Int} (ho : InS EN H v ord) :
    Fn Try.prog B 4 [.agg #[v, .int .i64 z, .bool nl], .agg (EJ.enc y1).toArray, .agg (EJ.enc y2).toArray, .agg (EJ.enc y3).toArray] H (fun r H' => r = .bool true ∧ Fr nowhere H H') := by
  obtain ⟨av, mv, cv, hv⟩ := InS.form ho
  subst hv
  have hF : Fr nowhere H H := Fr.refl _ _
  refine fn_of Go.Proofs.Try.func4 rfl Go.Proofs.Try.ntmps4 ?_
  refine (show Go' _ _ _ _ 66 [(0, _), (1, _), (2, _), (3, _)] [.code _] _ from ?_)
  refine Go'.seq ?_
  -- region 0 (trees.go:549)
  refine Go'.region [(0, 2), (1, 2), (2, 2), (3, 2), (4, 0)] rfl ?_
  refine O.box rfl rfl rfl rfl ?_
  intro B1 MB1
  refine ⟨trivial, ?_⟩
  have hsB1 := MB1.size
  replace hF := hF.trans (MB1.fr nowhere)
  have mm : Rd B1 H.size 0 [.slice av mv cv, .int .i64 z, .bool nl] := MB1.rd _ [] (by simp [Value.cells])
  have mm0 : cl B1 H.size 0 = some (.slice av mv cv) := mm 0 _ rfl
  have mm1 : cl B1 H.size (0 + 1) = some (.int .i64 z) := mm 1 _ rfl
  refine O.box rfl rfl rfl rfl ?_
  intro B2 MB2
  refine ⟨trivial, ?_⟩
  have hsB2 := MB2.size
  replace hF := hF.trans (MB2.fr nowhere)
  replace mm := (MB2.fr nowhere).rd mm (fun _ _ => nw)
  replace mm0 := (MB2.fr nowhere).keep mm0 nw
  replace mm1 := (MB2.fr nowhere).keep mm1 nw
  have ma : Rd B2 B1.size 0 (EJ.enc y1) := MB2.rd _ [] (by simp [Value.cells])
  refine O.box rfl rfl rfl rfl ?_
  intro B3 MB3
  refine ⟨trivial, ?_⟩
  have hsB3 := MB3.size
  replace hF := hF.trans (MB3.fr nowhere)
  replace mm := (MB3.fr nowhere).rd mm (fun _ _ => nw)
  replace mm0 := (MB3.fr nowhere).keep mm0 nw
  replace mm1 := (MB3.fr nowhere).keep mm1 nw
  replace ma := (MB3.fr nowhere).rd ma (fun _ _ => nw)
  have mb : Rd B3 B2.size 0 (EJ.enc y2) := MB3.rd _ [] (by simp [Value.cells])
  refine O.box rfl rfl rfl rfl ?_
  intro B4 MB4
  refine ⟨trivial, ?_⟩
  have hsB4 := MB4.size
  replace hF := hF.trans (MB4.fr nowhere)
  replace mm := (MB4.fr nowhere).rd mm (fun _ _ => nw)
  replace mm0 := (MB4.fr nowhere).keep mm0 nw
  replace mm1 := (MB4.fr nowhere).keep mm1 nw
  replace ma := (MB4.fr nowhere).rd ma (fun _ _ => nw)
  replace mb := (MB4.fr nowhere).rd mb (fun _ _ => nw)
  have mc : Rd B4 B3.size 0 (EJ.enc y3) := MB4.rd _ [] (by simp [Value.cells])
  refine O.asg rfl rfl rfl rfl rfl ?_
  refine Pl.fin [(4, _), (5, _), (6, _), (7, _), (8, _)] ⟨rfl, rfl, rfl, rfl, rfl, trivial⟩ ?_
  refine Go'.seq ?_
  refine Go'.seq ?_
  cases hoz : decide (ord.length ≤ 2147483647)
  · skip
    -- region 1 (trees.go:550)
    refine Go'.region [(0, 1), (1, 2), (2, 0)] rfl ?_
    refine O.lds rfl rfl rfl (fun w => ⟨Go.Proofs.Try.isAgg24 w, Go.Proofs.Try.sizeOf24 w⟩) rfl rfl mm ?_
    refine O.call rfl rfl rfl Go.Proofs.Try.call23 rfl (zzFits1_spec (ho.fr hF) hoz) ?_
    rintro _ H5 ⟨rfl, hF5⟩
    replace hF := hF.trans hF5
    replace mm := hF5.rd mm (fun _ _ => nw)
    replace mm0 := hF5.keep mm0 nw
    replace mm1 := hF5.keep mm1 nw
    replace ma := hF5.rd ma (fun _ _ => nw)
    replace mb := hF5.rd mb (fun _ _ => nw)
    replace mc := hF5.rd mc (fun _ _ => nw)
    refine ⟨trivial, ?_⟩
    refine O.not rfl rfl rfl rfl rfl ?_
    refine Pl.fin [(4, _), (5, _), (6, _), (7, _), (8, _), (14, _)] ⟨rfl, rfl, rfl, rfl, rfl, rfl, trivial⟩ ?_
    refine Go'.condT rfl ?_
    refine Go'.seq ?_
    -- region 2 (trees.go:551)
    refine Go'.region [(0, 0)] rfl ?_
    refine O.asg rfl rfl rfl rfl rfl ?_
    refine Pl.fin [(4, _), (5, _), (6, _), (7, _), (8, _)] ⟨rfl, rfl, rfl, rfl, rfl, trivial⟩ ?_
    refine Go'.ret (vs := [_]) Go.Proofs.Try.func4 Go.Proofs.Try.results4 ⟨rfl, trivial⟩ ?_
    exact ⟨rfl, hF⟩
  · skip
    have hoz2 := of_decide_eq_true hoz
    -- region 1 (trees.go:550)
    refine Go'.region [(0, 1), (1, 2), (2, 0)] rfl ?_
    refine O.lds rfl rfl rfl (fun w => ⟨Go.Proofs.Try.isAgg24 w, Go.Proofs.Try.sizeOf24 w⟩) rfl rfl mm ?_
    refine O.call rfl rfl rfl Go.Proofs.Try.call23 rfl (zzFits1_spec (ho.fr hF) hoz) ?_
    rintro _ H5 ⟨rfl, hF5⟩
    replace hF := hF.trans hF5
    replace mm := hF5.rd mm (fun _ _ => nw)
    replace mm0 := hF5.keep mm0 nw
    replace mm1 := hF5.keep mm1 nw
    replace ma := hF5.rd ma (fun _ _ => nw)
    replace mb := hF5.rd mb (fun _ _ => nw)
    replace mc := hF5.rd mc (fun _ _ => nw)
    refine ⟨trivial, ?_⟩
    refine O.not rfl rfl rfl rfl rfl ?_
    refine Pl.fin [(4, _), (5, _), (6, _), (7, _), (8, _), (14, _)] ⟨rfl, rfl, rfl, rfl, rfl, rfl, trivial⟩ ?_
    refine Go'.condF rfl ?_
    refine Go'.skip ?_
    refine Go'.seq ?_
    refine Go'.seq ?_
    cases hfz : fitsb z
    · skip
      -- region 3 (trees.go:553)
      refine Go'.region [(0, 1), (1, 2), (2, 0)] rfl ?_
      refine O.lds rfl rfl rfl (fun w => ⟨Go.Proofs.Try.isAgg24 w, Go.Proofs.Try.sizeOf24 w⟩) rfl rfl mm ?_
      refine O.call rfl rfl rfl Go.Proofs.Try.call24 rfl (lfits_spec ⟨_, _, _, rfl⟩ hfz) ?_
      rintro _ H6 ⟨rfl, hF6⟩
      replace hF := hF.trans hF6
      replace mm := hF6.rd mm (fun _ _ => nw)
      replace mm0 := hF6.keep mm0 nw
      replace mm1 := hF6.keep mm1 nw
      replace ma := hF6.rd ma (fun _ _ => nw)
      replace mb := hF6.rd mb (fun _ _ => nw)
      replace mc := hF6.rd mc (fun _ _ => nw)
      refine ⟨trivial, ?_⟩
      refine O.not rfl rfl rfl rfl rfl ?_
      refine Pl.fin [(4, _), (5, _), (6, _), (7, _), (8, _), (17, _)] ⟨rfl, rfl, rfl, rfl, rfl, rfl, trivial⟩ ?_
      refine Go'.condT rfl ?_
      refine Go'.seq ?_
      -- region 4 (trees.go:554)
      refine Go'.region [(0, 2), (1, 0), (2, 0), (3, 2), (4, 0)] rfl ?_
      refine O.call rfl rfl rfl Go.Proofs.Try.call30 rfl exMake_spec ?_
      rintro _ H7 ⟨rfl, hF7⟩
      replace hF := hF.trans hF7
      replace mm := hF7.rd mm (fun _ _ => nw)
      replace mm0 := hF7.keep mm0 nw
      replace mm1 := hF7.keep mm1 nw
      replace ma := hF7.rd ma (fun _ _ => nw)
      replace mb := hF7.rd mb (fun _ _ => nw)
      replace mc := hF7.rd mc (fun _ _ => nw)
      refine ⟨trivial, ?_⟩
      refine O.bld (cs := [.int .i64 1, .int .i64 0]) rfl rfl rfl rfl (st27) rfl (by kernel_rfl) ?_
      refine O.bld (cs := [.int .i64 2, .int .i64 0]) rfl rfl rfl rfl (st27) rfl (by kernel_rfl) ?_
      refine O.call rfl rfl rfl Go.Proofs.Try.call29 rfl (gless_spec (d := 2) (by decide) (InS.nil EN _) (by decide) (1, 0) (2, 0)) ?_
      rintro _ H8 ⟨rfl, hF8⟩
      replace hF := hF.trans hF8
      replace mm := hF8.rd mm (fun _ _ => nw)
      replace mm0 := hF8.keep mm0 nw
      replace mm1 := hF8.keep mm1 nw
      replace ma := hF8.rd ma (fun _ _ => nw)
      replace mb := hF8.rd mb (fun _ _ => nw)
      replace mc := hF8.rd mc (fun _ _ => nw)
      rw [show (OO []).lt ((1 : Int), (0 : Int)) (2, 0) = true by decide]
      refine ⟨trivial, ?_⟩
      refine O.asg rfl rfl rfl rfl rfl ?_
      refine Pl.fin [(4, _), (5, _), (6, _), (7, _), (8, _)] ⟨rfl, rfl, rfl, rfl, rfl, trivial⟩ ?_
      refine Go'.ret (vs := [_]) Go.Proofs.Try.func4 Go.Proofs.Try.results4 ⟨rfl, trivial⟩ ?_
      exact ⟨rfl, hF⟩
    · skip
      obtain ⟨d, rfl, hd⟩ := fitsb_nat hfz
      have hex : (OO []).lt ((1 : Int), (0 : Int)) (2, 0) = true := by decide
      -- region 3 (trees.go:553)
      refine Go'.region [(0, 1), (1, 2), (2, 0)] rfl ?_
      refine O.lds rfl rfl rfl (fun w => ⟨Go.Proofs.Try.isAgg24 w, Go.Proofs.Try.sizeOf24 w⟩) rfl rfl mm ?_
      refine O.call rfl rfl rfl Go.Proofs.Try.call24 rfl (lfits_spec ⟨_, _, _, rfl⟩ hfz) ?_
      rintro _ H6 ⟨rfl, hF6⟩
      replace hF := hF.trans hF6
      replace mm := hF6.rd mm (fun _ _ => nw)
      replace mm0 := hF6.keep mm0 nw
      replace mm1 := hF6.keep mm1 nw
      replace ma := hF6.rd ma (fun _ _ => nw)
      replace mb := hF6.rd mb (fun _ _ => nw)
      replace mc := hF6.rd mc (fun _ _ => nw)
      refine ⟨trivial, ?_⟩
      refine O.not rfl rfl rfl rfl rfl ?_
      refine Pl.fin [(4, _), (5, _), (6, _), (7, _), (8, _), (17, _)] ⟨rfl, rfl, rfl, rfl, rfl, rfl, trivial⟩ ?_
      refine Go'.condF rfl ?_
      refine Go'.skip ?_
      refine Go'.seq ?_
      have hsa := (OO ord).asy (x := y1) (y := y2)
      have htr := (OO ord).trans (x := y1) (y := y2) (z := y3)
      have hir : (OO ord).lt y1 y1 = false := by
        cases h : (OO ord).lt y1 y1 with
        | false => rfl
        | true => have h2 := (OO ord).asy h; rw [h] at h2; cases h2
      cases hab : (OO ord).lt y1 y2 <;> cases hbc : (OO ord).lt y2 y3 <;> cases hac : (OO ord).lt y1 y3
      · skip
        -- region 5 (trees.go:556)
        refine Go'.draw (fun H' => Rd H' H.size 0 [.slice av mv cv, .int .i64 (d : Int), .bool nl] ∧ Rd H' B2.size 0 (EJ.enc y2) ∧ Rd H' B3.size 0 (EJ.enc y3) ∧ Rd H' B1.size 0 (EJ.enc y1)) [(0, 1), (1, 1), (2, 1), (4, 0), (5, 0), (6, 0), (8, 0), (9, 0), (10, 0), (3, 2), (7, 2), (11, 2), (12, 0), (13, 0), (14, 0)] (by kernel_rfl) (by kernel_rfl) (⟨mm, mb, mc, ma⟩) ?_
        refine O.lds rfl rfl rfl (fun w => ⟨Go.Proofs.Try.isAgg24 w, Go.Proofs.Try.sizeOf24 w⟩) rfl rfl mm ?_
        refine O.lds rfl rfl rfl (fun w => ⟨Go.Proofs.Try.isAgg27 w, Go.Proofs.Try.sizeOf27 w⟩) rfl rfl ma ?_
        refine O.lds rfl rfl rfl (fun w => ⟨Go.Proofs.Try.isAgg27 w, Go.Proofs.Try.sizeOf27 w⟩) rfl rfl mb ?_
        refine O.ldsC rfl rfl rfl (fun w => ⟨Go.Proofs.Try.isAgg24 w, Go.Proofs.Try.sizeOf24 w⟩) rfl rfl (fun _ h => h.1) ?_
        refine O.ldsC rfl rfl rfl (fun w => ⟨Go.Proofs.Try.isAgg27 w, Go.Proofs.Try.sizeOf27 w⟩) rfl rfl (fun _ h => h.2.1) ?_
        refine O.ldsC rfl rfl rfl (fun w => ⟨Go.Proofs.Try.isAgg27 w, Go.Proofs.Try.sizeOf27 w⟩) rfl rfl (fun _ h => h.2.2.1) ?_
        refine O.ldsC rfl rfl rfl (fun w => ⟨Go.Proofs.Try.isAgg24 w, Go.Proofs.Try.sizeOf24 w⟩) rfl rfl (fun _ h => h.1) ?_
        refine O.ldsC rfl rfl rfl (fun w => ⟨Go.Proofs.Try.isAgg27 w, Go.Proofs.Try.sizeOf27 w⟩) rfl rfl (fun _ h => h.2.2.2) ?_
        refine O.ldsC rfl rfl rfl (fun w => ⟨Go.Proofs.Try.isAgg27 w, Go.Proofs.Try.sizeOf27 w⟩) rfl rfl (fun _ h => h.2.2.1) ?_
        refine O.call rfl rfl rfl Go.Proofs.Try.call29 rfl (gless_spec hd (ho.fr hF) (by omega) y1 y2) ?_
        rintro _ H8 ⟨rfl, hF8⟩
        replace hF := hF.trans hF8
        replace mm := hF8.rd mm (fun _ _ => nw)
        replace mm0 := hF8.keep mm0 nw
        replace mm1 := hF8.keep mm1 nw
        replace ma := hF8.rd ma (fun _ _ => nw)
        replace mb := hF8.rd mb (fun _ _ => nw)
        replace mc := hF8.rd mc (fun _ _ => nw)
        refine ⟨⟨mm, mb, mc, ma⟩, ?_⟩
        refine O.call rfl rfl rfl Go.Proofs.Try.call29 rfl (gless_spec hd (ho.fr hF) (by omega) y2 y3) ?_
        rintro _ H9 ⟨rfl, hF9⟩
        replace hF := hF.trans hF9
        replace mm := hF9.rd mm (fun _ _ => nw)
        replace mm0 := hF9.keep mm0 nw
        replace mm1 := hF9.keep mm1 nw
        replace ma := hF9.rd ma (fun _ _ => nw)
        replace mb := hF9.rd mb (fun _ _ => nw)
        replace mc := hF9.rd mc (fun _ _ => nw)
        refine ⟨⟨mm, mb, mc, ma⟩, ?_⟩
        refine O.call rfl rfl rfl Go.Proofs.Try.call29 rfl (gless_spec hd (ho.fr hF) (by omega) y1 y3) ?_
        rintro _ H10 ⟨rfl, hF10⟩
        replace hF := hF.trans hF10
        replace mm := hF10.rd mm (fun _ _ => nw)
        replace mm0 := hF10.keep mm0 nw
        replace mm1 := hF10.keep mm1 nw
        replace ma := hF10.rd ma (fun _ _ => nw)
        replace mb := hF10.rd mb (fun _ _ => nw)
        replace mc := hF10.rd mc (fun _ _ => nw)
        refine ⟨⟨mm, mb, mc, ma⟩, ?_⟩
        refine O.asg rfl rfl rfl rfl rfl ?_
        refine O.asg rfl rfl rfl rfl rfl ?_
        refine O.asg rfl rfl rfl rfl rfl ?_
        refine Pl.fin [(4, _), (5, _), (6, _), (8, _), (9, _), (10, _), (11, _)] ⟨rfl, rfl, rfl, rfl, rfl, rfl, rfl, trivial⟩ ?_
        refine Go'.seq ?_
        rw [hab, hbc, hac]
        -- region 6 (trees.go:557)
        refine Go'.region [(0, 1), (1, 1), (2, 1), (3, 2), (4, 0), (5, 0), (6, 0), (7, 0), (8, 1), (9, 1), (10, 1), (11, 2), (12, 0), (13, 0), (14, 0), (15, 0), (16, 0), (17, 0), (18, 0), (19, 0), (20, 0), (21, 0), (22, 0), (23, 0), (24, 0), (25, 0), (26, 0), (27, 2), (28, 0), (29, 0), (30, 2), (31, 0), (32, 0)] rfl ?_
        refine O.lds rfl rfl rfl (fun w => ⟨Go.Proofs.Try.isAgg24 w, Go.Proofs.Try.sizeOf24 w⟩) rfl rfl mm ?_
        refine O.lds rfl rfl rfl (fun w => ⟨Go.Proofs.Try.isAgg27 w, Go.Proofs.Try.sizeOf27 w⟩) rfl rfl ma ?_
        refine O.lds rfl rfl rfl (fun w => ⟨Go.Proofs.Try.isAgg27 w, Go.Proofs.Try.sizeOf27 w⟩) rfl rfl ma ?_
        refine O.call rfl rfl rfl Go.Proofs.Try.call29 rfl (gless_spec hd (ho.fr hF) (by omega) y1 y1) ?_
        rintro _ H11 ⟨rfl, hF11⟩
        replace hF := hF.trans hF11
        replace mm := hF11.rd mm (fun _ _ => nw)
        replace mm0 := hF11.keep mm0 nw
        replace mm1 := hF11.keep mm1 nw
        replace ma := hF11.rd ma (fun _ _ => nw)
        replace mb := hF11.rd mb (fun _ _ => nw)
        replace mc := hF11.rd mc (fun _ _ => nw)
        rw [hir]
        refine ⟨trivial, ?_⟩
        refine O.not rfl rfl rfl rfl rfl ?_
        refine O.mv rfl rfl rfl rfl rfl ?_
        refine O.mv rfl rfl rfl rfl rfl ?_
        refine O.mv rfl rfl rfl rfl rfl ?_
        refine Pl.pass rfl rfl rfl rfl ?_
        refine Pl.pass rfl rfl rfl rfl ?_
        refine Pl.pass rfl rfl rfl rfl ?_
        refine Pl.pass2 rfl rfl rfl rfl trivial ?_
        refine O.pick rfl rfl rfl rfl rfl rfl ?_
        refine O.not rfl rfl rfl rfl rfl ?_
        refine O.pick rfl rfl rfl rfl rfl rfl ?_
        refine O.mv rfl rfl rfl rfl rfl ?_
        refine O.mv rfl rfl rfl rfl rfl ?_
        refine O.not rfl rfl rfl rfl rfl ?_
        refine O.mv rfl rfl rfl rfl rfl ?_
        refine Pl.pass rfl rfl rfl rfl ?_
        refine Pl.pass rfl rfl rfl rfl ?_
        refine O.pick rfl rfl rfl rfl rfl rfl ?_
        refine O.mv rfl rfl rfl rfl rfl ?_
        refine Pl.pass rfl rfl rfl rfl ?_
        refine O.pick rfl rfl rfl rfl rfl rfl ?_
        refine O.pick rfl rfl rfl rfl rfl rfl ?_
        refine O.mv rfl rfl rfl rfl rfl ?_
        refine O.call rfl rfl rfl Go.Proofs.Try.call30 rfl exMake_spec ?_
        rintro _ H13 ⟨rfl, hF13⟩
        replace hF := hF.trans hF13
        replace mm := hF13.rd mm (fun _ _ => nw)
        replace mm0 := hF13.keep mm0 nw
        replace mm1 := hF13.keep mm1 nw
        replace ma := hF13.rd ma (fun _ _ => nw)
        replace mb := hF13.rd mb (fun _ _ => nw)
        replace mc := hF13.rd mc (fun _ _ => nw)
        refine ⟨trivial, ?_⟩
        refine O.bld (cs := [.int .i64 1, .int .i64 0]) rfl rfl rfl rfl (st27) rfl (by kernel_rfl) ?_
        refine O.bld (cs := [.int .i64 2, .int .i64 0]) rfl rfl rfl rfl (st27) rfl (by kernel_rfl) ?_
        refine O.call rfl rfl rfl Go.Proofs.Try.call29 rfl (gless_spec (d := 2) (by decide) (InS.nil EN _) (by decide) (1, 0) (2, 0)) ?_
        rintro _ H14 ⟨rfl, hF14⟩
        replace hF := hF.trans hF14
        replace mm := hF14.rd mm (fun _ _ => nw)
        replace mm0 := hF14.keep mm0 nw
        replace mm1 := hF14.keep mm1 nw
        replace ma := hF14.rd ma (fun _ _ => nw)
        replace mb := hF14.rd mb (fun _ _ => nw)
        replace mc := hF14.rd mc (fun _ _ => nw)
        rw [hex]
        refine ⟨trivial, ?_⟩
        refine O.pick rfl rfl rfl rfl rfl rfl ?_
        refine O.asg rfl rfl rfl rfl rfl ?_
        refine Pl.fin [(8, _)] ⟨rfl, trivial⟩ ?_
        refine Go'.ret (vs := [_]) Go.Proofs.Try.func4 Go.Proofs.Try.results4 ⟨rfl, trivial⟩ ?_
        exact ⟨rfl, hF⟩
      · skip
        -- region 5 (trees.go:556)
        refine Go'.draw (fun H' => Rd H' H.size 0 [.slice av mv cv, .int .i64 (d : Int), .bool nl] ∧ Rd H' B2.size 0 (EJ.enc y2) ∧ Rd H' B3.size 0 (EJ.enc y3) ∧ Rd H' B1.size 0 (EJ.enc y1)) [(0, 1), (1, 1), (2, 1), (4, 0), (5, 0), (6, 0), (8, 0), (9, 0), (10, 0), (3, 2), (7, 2), (11, 2), (12, 0), (13, 0), (14, 0)] (by kernel_rfl) (by kernel_rfl) (⟨mm, mb, mc, ma⟩) ?_
        refine O.lds rfl rfl rfl (fun w => ⟨Go.Proofs.Try.isAgg24 w, Go.Proofs.Try.sizeOf24 w⟩) rfl rfl mm ?_
        refine O.lds rfl rfl rfl (fun w => ⟨Go.Proofs.Try.isAgg27 w, Go.Proofs.Try.sizeOf27 w⟩) rfl rfl ma ?_
        refine O.lds rfl rfl rfl (fun w => ⟨Go.Proofs.Try.isAgg27 w, Go.Proofs.Try.sizeOf27 w⟩) rfl rfl mb ?_
        refine O.ldsC rfl rfl rfl (fun w => ⟨Go.Proofs.Try.isAgg24 w, Go.Proofs.Try.sizeOf24 w⟩) rfl rfl (fun _ h => h.1) ?_
        refine O.ldsC rfl rfl rfl (fun w => ⟨Go.Proofs.Try.isAgg27 w, Go.Proofs.Try.sizeOf27 w⟩) rfl rfl (fun _ h => h.2.1) ?_
        refine O.ldsC rfl rfl rfl (fun w => ⟨Go.Proofs.Try.isAgg27 w, Go.Proofs.Try.sizeOf27 w⟩) rfl rfl (fun _ h => h.2.2.1) ?_
        refine O.ldsC rfl rfl rfl (fun w => ⟨Go.Proofs.Try.isAgg24 w, Go.Proofs.Try.sizeOf24 w⟩) rfl rfl (fun _ h => h.1) ?_
        refine O.ldsC rfl rfl rfl (fun w => ⟨Go.Proofs.Try.isAgg27 w, Go.Proofs.Try.sizeOf27 w⟩) rfl rfl (fun _ h => h.2.2.2) ?_
        refine O.ldsC rfl rfl rfl (fun w => ⟨Go.Proofs.Try.isAgg27 w, Go.Proofs.Try.sizeOf27 w⟩) rfl rfl (fun _ h => h.2.2.1) ?_
        refine O.call rfl rfl rfl Go.Proofs.Try.call29 rfl (gless_spec hd (ho.fr hF) (by omega) y1 y2) ?_
        rintro _ H8 ⟨rfl, hF8⟩
        replace hF := hF.trans hF8
        replace mm := hF8.rd mm (fun _ _ => nw)
        replace mm0 := hF8.keep mm0 nw
        replace mm1 := hF8.keep mm1 nw
        replace ma := hF8.rd ma (fun _ _ => nw)
        replace mb := hF8.rd mb (fun _ _ => nw)
        replace mc := hF8.rd mc (fun _ _ => nw)
        refine ⟨⟨mm, mb, mc, ma⟩, ?_⟩
        refine O.call rfl rfl rfl Go.Proofs.Try.call29 rfl (gless_spec hd (ho.fr hF) (by omega) y2 y3) ?_
        rintro _ H9 ⟨rfl, hF9⟩
        replace hF := hF.trans hF9
        replace mm := hF9.rd mm (fun _ _ => nw)
        replace mm0 := hF9.keep mm0 nw
        replace mm1 := hF9.keep mm1 nw
        replace ma := hF9.rd ma (fun _ _ => nw)
        replace mb := hF9.rd mb (fun _ _ => nw)
        replace mc := hF9.rd mc (fun _ _ => nw)
        refine ⟨⟨mm, mb, mc, ma⟩, ?_⟩
        refine O.call rfl rfl rfl Go.Proofs.Try.call29 rfl (gless_spec hd (ho.fr hF) (by omega) y1 y3) ?_
        rintro _ H10 ⟨rfl, hF10⟩
        replace hF := hF.trans hF10
        replace mm := hF10.rd mm (fun _ _ => nw)
        replace mm0 := hF10.keep mm0 nw
        replace mm1 := hF10.keep mm1 nw
        replace ma := hF10.rd ma (fun _ _ => nw)
        replace mb := hF10.rd mb (fun _ _ => nw)
        replace mc := hF10.rd mc (fun _ _ => nw)
        refine ⟨⟨mm, mb, mc, ma⟩, ?_⟩
        refine O.asg rfl rfl rfl rfl rfl ?_
        refine O.asg rfl rfl rfl rfl rfl ?_
        refine O.asg rfl rfl rfl rfl rfl ?_
        refine Pl.fin [(4, _), (5, _), (6, _), (8, _), (9, _), (10, _), (11, _)] ⟨rfl, rfl, rfl, rfl, rfl, rfl, rfl, trivial⟩ ?_
        refine Go'.seq ?_
        rw [hab, hbc, hac]
        -- region 6 (trees.go:557)
        refine Go'.region [(0, 1), (1, 1), (2, 1), (3, 2), (4, 0), (5, 0), (6, 0), (7, 0), (8, 1), (9, 1), (10, 1), (11, 2), (12, 0), (13, 0), (14, 0), (15, 0), (16, 0), (17, 0), (18, 0), (19, 0), (20, 0), (21, 0), (22, 0), (23, 0), (24, 0), (25, 0), (26, 0), (27, 2), (28, 0), (29, 0), (30, 2), (31, 0), (32, 0)] rfl ?_
        refine O.lds rfl rfl rfl (fun w => ⟨Go.Proofs.Try.isAgg24 w, Go.Proofs.Try.sizeOf24 w⟩) rfl rfl mm ?_
        refine O.lds rfl rfl rfl (fun w => ⟨Go.Proofs.Try.isAgg27 w, Go.Proofs.Try.sizeOf27 w⟩) rfl rfl ma ?_
        refine O.lds rfl rfl rfl (fun w => ⟨Go.Proofs.Try.isAgg27 w, Go.Proofs.Try.sizeOf27 w⟩) rfl rfl ma ?_
        refine O.call rfl rfl rfl Go.Proofs.Try.call29 rfl (gless_spec hd (ho.fr hF) (by omega) y1 y1) ?_
        rintro _ H11 ⟨rfl, hF11⟩
        replace hF := hF.trans hF11
        replace mm := hF11.rd mm (fun _ _ => nw)
        replace mm0 := hF11.keep mm0 nw
        replace mm1 := hF11.keep mm1 nw
        replace ma := hF11.rd ma (fun _ _ => nw)
        replace mb := hF11.rd mb (fun _ _ => nw)
        replace mc := hF11.rd mc (fun _ _ => nw)
        rw [hir]
        refine ⟨trivial, ?_⟩
        refine O.not rfl rfl rfl rfl rfl ?_
        refine O.mv rfl rfl rfl rfl rfl ?_
        refine O.mv rfl rfl rfl rfl rfl ?_
        refine O.mv rfl rfl rfl rfl rfl ?_
        refine Pl.pass rfl rfl rfl rfl ?_
        refine Pl.pass rfl rfl rfl rfl ?_
        refine Pl.pass rfl rfl rfl rfl ?_
        refine Pl.pass2 rfl rfl rfl rfl trivial ?_
        refine O.pick rfl rfl rfl rfl rfl rfl ?_
        refine O.not rfl rfl rfl rfl rfl ?_
        refine O.pick rfl rfl rfl rfl rfl rfl ?_
        refine O.mv rfl rfl rfl rfl rfl ?_
        refine O.mv rfl rfl rfl rfl rfl ?_
        refine O.not rfl rfl rfl rfl rfl ?_
        refine O.mv rfl rfl rfl rfl rfl ?_
        refine Pl.pass rfl rfl rfl rfl ?_
        refine Pl.pass rfl rfl rfl rfl ?_
        refine O.pick rfl rfl rfl rfl rfl rfl ?_
        refine O.mv rfl rfl rfl rfl rfl ?_
        refine Pl.pass rfl rfl rfl rfl ?_
        refine O.pick rfl rfl rfl rfl rfl rfl ?_
        refine O.pick rfl rfl rfl rfl rfl rfl ?_
        refine O.mv rfl rfl rfl rfl rfl ?_
        refine O.call rfl rfl rfl Go.Proofs.Try.call30 rfl exMake_spec ?_
        rintro _ H13 ⟨rfl, hF13⟩
        replace hF := hF.trans hF13
        replace mm := hF13.rd mm (fun _ _ => nw)
        replace mm0 := hF13.keep mm0 nw
        replace mm1 := hF13.keep mm1 nw
        replace ma := hF13.rd ma (fun _ _ => nw)
        replace mb := hF13.rd mb (fun _ _ => nw)
        replace mc := hF13.rd mc (fun _ _ => nw)
        refine ⟨trivial, ?_⟩
        refine O.bld (cs := [.int .i64 1, .int .i64 0]) rfl rfl rfl rfl (st27) rfl (by kernel_rfl) ?_
        refine O.bld (cs := [.int .i64 2, .int .i64 0]) rfl rfl rfl rfl (st27) rfl (by kernel_rfl) ?_
        refine O.call rfl rfl rfl Go.Proofs.Try.call29 rfl (gless_spec (d := 2) (by decide) (InS.nil EN _) (by decide) (1, 0) (2, 0)) ?_
        rintro _ H14 ⟨rfl, hF14⟩
        replace hF := hF.trans hF14
        replace mm := hF14.rd mm (fun _ _ => nw)
        replace mm0 := hF14.keep mm0 nw
        replace mm1 := hF14.keep mm1 nw
        replace ma := hF14.rd ma (fun _ _ => nw)
        replace mb := hF14.rd mb (fun _ _ => nw)
        replace mc := hF14.rd mc (fun _ _ => nw)
        rw [hex]
        refine ⟨trivial, ?_⟩
        refine O.pick rfl rfl rfl rfl rfl rfl ?_
        refine O.asg rfl rfl rfl rfl rfl ?_
        refine Pl.fin [(8, _)] ⟨rfl, trivial⟩ ?_
        refine Go'.ret (vs := [_]) Go.Proofs.Try.func4 Go.Proofs.Try.results4 ⟨rfl, trivial⟩ ?_
        exact ⟨rfl, hF⟩
      · skip
        -- region 5 (trees.go:556)
        refine Go'.draw (fun H' => Rd H' H.size 0 [.slice av mv cv, .int .i64 (d : Int), .bool nl] ∧ Rd H' B2.size 0 (EJ.enc y2) ∧ Rd H' B3.size 0 (EJ.enc y3) ∧ Rd H' B1.size 0 (EJ.enc y1)) [(0, 1), (1, 1), (2, 1), (4, 0), (5, 0), (6, 0), (8, 0), (9, 0), (10, 0), (3, 2), (7, 2), (11, 2), (12, 0), (13, 0), (14, 0)] (by kernel_rfl) (by kernel_rfl) (⟨mm, mb, mc, ma⟩) ?_
        refine O.lds rfl rfl rfl (fun w => ⟨Go.Proofs.Try.isAgg24 w, Go.Proofs.Try.sizeOf24 w⟩) rfl rfl mm ?_
        refine O.lds rfl rfl rfl (fun w => ⟨Go.Proofs.Try.isAgg27 w, Go.Proofs.Try.sizeOf27 w⟩) rfl rfl ma ?_
        refine O.lds rfl rfl rfl (fun w => ⟨Go.Proofs.Try.isAgg27 w, Go.Proofs.Try.sizeOf27 w⟩) rfl rfl mb ?_
        refine O.ldsC rfl rfl rfl (fun w => ⟨Go.Proofs.Try.isAgg24 w, Go.Proofs.Try.sizeOf24 w⟩) rfl rfl (fun _ h => h.1) ?_
        refine O.ldsC rfl rfl rfl (fun w => ⟨Go.Proofs.Try.isAgg27 w, Go.Proofs.Try.sizeOf27 w⟩) rfl rfl (fun _ h => h.2.1) ?_
        refine O.ldsC rfl rfl rfl (fun w => ⟨Go.Proofs.Try.isAgg27 w, Go.Proofs.Try.sizeOf27 w⟩) rfl rfl (fun _ h => h.2.2.1) ?_
        refine O.ldsC rfl rfl rfl (fun w => ⟨Go.Proofs.Try.isAgg24 w, Go.Proofs.Try.sizeOf24 w⟩) rfl rfl (fun _ h => h.1) ?_
        refine O.ldsC rfl rfl rfl (fun w => ⟨Go.Proofs.Try.isAgg27 w, Go.Proofs.Try.sizeOf27 w⟩) rfl rfl (fun _ h => h.2.2.2) ?_
        refine O.ldsC rfl rfl rfl (fun w => ⟨Go.Proofs.Try.isAgg27 w, Go.Proofs.Try.sizeOf27 w⟩) rfl rfl (fun _ h => h.2.2.1) ?_
        refine O.call rfl rfl rfl Go.Proofs.Try.call29 rfl (gless_spec hd (ho.fr hF) (by omega) y1 y2) ?_
        rintro _ H8 ⟨rfl, hF8⟩
        replace hF := hF.trans hF8
        replace mm := hF8.rd mm (fun _ _ => nw)
        replace mm0 := hF8.keep mm0 nw
        replace mm1 := hF8.keep mm1 nw
        replace ma := hF8.rd ma (fun _ _ => nw)
        replace mb := hF8.rd mb (fun _ _ => nw)
        replace mc := hF8.rd mc (fun _ _ => nw)
        refine ⟨⟨mm, mb, mc, ma⟩, ?_⟩
        refine O.call rfl rfl rfl Go.Proofs.Try.call29 rfl (gless_spec hd (ho.fr hF) (by omega) y2 y3) ?_
        rintro _ H9 ⟨rfl, hF9⟩
        replace hF := hF.trans hF9
        replace mm := hF9.rd mm (fun _ _ => nw)
        replace mm0 := hF9.keep mm0 nw
        replace mm1 := hF9.keep mm1 nw
        replace ma := hF9.rd ma (fun _ _ => nw)
        replace mb := hF9.rd mb (fun _ _ => nw)
        replace mc := hF9.rd mc (fun _ _ => nw)
        refine ⟨⟨mm, mb, mc, ma⟩, ?_⟩
        refine O.call rfl rfl rfl Go.Proofs.Try.call29 rfl (gless_spec hd (ho.fr hF) (by omega) y1 y3) ?_
        rintro _ H10 ⟨rfl, hF10⟩
        replace hF := hF.trans hF10
        replace mm := hF10.rd mm (fun _ _ => nw)
        replace mm0 := hF10.keep mm0 nw
        replace mm1 := hF10.keep mm1 nw
        replace ma := hF10.rd ma (fun _ _ => nw)
        replace mb := hF10.rd mb (fun _ _ => nw)
        replace mc := hF10.rd mc (fun _ _ => nw)
        refine ⟨⟨mm, mb, mc, ma⟩, ?_⟩
        refine O.asg rfl rfl rfl rfl rfl ?_
        refine O.asg rfl rfl rfl rfl rfl ?_
        refine O.asg rfl rfl rfl rfl rfl ?_
        refine Pl.fin [(4, _), (5, _), (6, _), (8, _), (9, _), (10, _), (11, _)] ⟨rfl, rfl, rfl, rfl, rfl, rfl, rfl, trivial⟩ ?_
        refine Go'.seq ?_
        rw [hab, hbc, hac]
        -- region 6 (trees.go:557)
        refine Go'.region [(0, 1), (1, 1), (2, 1), (3, 2), (4, 0), (5, 0), (6, 0), (7, 0), (8, 1), (9, 1), (10, 1), (11, 2), (12, 0), (13, 0), (14, 0), (15, 0), (16, 0), (17, 0), (18, 0), (19, 0), (20, 0), (21, 0), (22, 0), (23, 0), (24, 0), (25, 0), (26, 0), (27, 2), (28, 0), (29, 0), (30, 2), (31, 0), (32, 0)] rfl ?_
        refine O.lds rfl rfl rfl (fun w => ⟨Go.Proofs.Try.isAgg24 w, Go.Proofs.Try.sizeOf24 w⟩) rfl rfl mm ?_
        refine O.lds rfl rfl rfl (fun w => ⟨Go.Proofs.Try.isAgg27 w, Go.Proofs.Try.sizeOf27 w⟩) rfl rfl ma ?_
        refine O.lds rfl rfl rfl (fun w => ⟨Go.Proofs.Try.isAgg27 w, Go.Proofs.Try.sizeOf27 w⟩) rfl rfl ma ?_
        refine O.call rfl rfl rfl Go.Proofs.Try.call29 rfl (gless_spec hd (ho.fr hF) (by omega) y1 y1) ?_
        rintro _ H11 ⟨rfl, hF11⟩
        replace hF := hF.trans hF11
        replace mm := hF11.rd mm (fun _ _ => nw)
        replace mm0 := hF11.keep mm0 nw
        replace mm1 := hF11.keep mm1 nw
        replace ma := hF11.rd ma (fun _ _ => nw)
        replace mb := hF11.rd mb (fun _ _ => nw)
        replace mc := hF11.rd mc (fun _ _ => nw)
        rw [hir]
        refine ⟨trivial, ?_⟩
        refine O.not rfl rfl rfl rfl rfl ?_
        refine O.mv rfl rfl rfl rfl rfl ?_
        refine O.mv rfl rfl rfl rfl rfl ?_
        refine O.mv rfl rfl rfl rfl rfl ?_
        refine Pl.pass rfl rfl rfl rfl ?_
        refine Pl.pass rfl rfl rfl rfl ?_
        refine Pl.pass rfl rfl rfl rfl ?_
        refine Pl.pass2 rfl rfl rfl rfl trivial ?_
        refine O.pick rfl rfl rfl rfl rfl rfl ?_
        refine O.not rfl rfl rfl rfl rfl ?_
        refine O.pick rfl rfl rfl rfl rfl rfl ?_
        refine O.mv rfl rfl rfl rfl rfl ?_
        refine O.mv rfl rfl rfl rfl rfl ?_
        refine O.not rfl rfl rfl rfl rfl ?_
        refine O.mv rfl rfl rfl rfl rfl ?_
        refine Pl.pass rfl rfl rfl rfl ?_
        refine Pl.pass rfl rfl rfl rfl ?_
        refine O.pick rfl rfl rfl rfl rfl rfl ?_
        refine O.mv rfl rfl rfl rfl rfl ?_
        refine Pl.pass rfl rfl rfl rfl ?_
        refine O.pick rfl rfl rfl rfl rfl rfl ?_
        refine O.pick rfl rfl rfl rfl rfl rfl ?_
        refine O.mv rfl rfl rfl rfl rfl ?_
        refine O.call rfl rfl rfl Go.Proofs.Try.call30 rfl exMake_spec ?_
        rintro _ H13 ⟨rfl, hF13⟩
        replace hF := hF.trans hF13
        replace mm := hF13.rd mm (fun _ _ => nw)
        replace mm0 := hF13.keep mm0 nw
        replace mm1 := hF13.keep mm1 nw
        replace ma := hF13.rd ma (fun _ _ => nw)
        replace mb := hF13.rd mb (fun _ _ => nw)
        replace mc := hF13.rd mc (fun _ _ => nw)
        refine ⟨trivial, ?_⟩
        refine O.bld (cs := [.int .i64 1, .int .i64 0]) rfl rfl rfl rfl (st27) rfl (by kernel_rfl) ?_
        refine O.bld (cs := [.int .i64 2, .int .i64 0]) rfl rfl rfl rfl (st27) rfl (by kernel_rfl) ?_
        refine O.call rfl rfl rfl Go.Proofs.Try.call29 rfl (gless_spec (d := 2) (by decide) (InS.nil EN _) (by decide) (1, 0) (2, 0)) ?_
        rintro _ H14 ⟨rfl, hF14⟩
        replace hF := hF.trans hF14
        replace mm := hF14.rd mm (fun _ _ => nw)
        replace mm0 := hF14.keep mm0 nw
        replace mm1 := hF14.keep mm1 nw
        replace ma := hF14.rd ma (fun _ _ => nw)
        replace mb := hF14.rd mb (fun _ _ => nw)
        replace mc := hF14.rd mc (fun _ _ => nw)
        rw [hex]
        refine ⟨trivial, ?_⟩
        refine O.pick rfl rfl rfl rfl rfl rfl ?_
        refine O.asg rfl rfl rfl rfl rfl ?_
        refine Pl.fin [(8, _)] ⟨rfl, trivial⟩ ?_
        refine Go'.ret (vs := [_]) Go.Proofs.Try.func4 Go.Proofs.Try.results4 ⟨rfl, trivial⟩ ?_
        exact ⟨rfl, hF⟩
      · skip
        -- region 5 (trees.go:556)
        refine Go'.draw (fun H' => Rd H' H.size 0 [.slice av mv cv, .int .i64 (d : Int), .bool nl] ∧ Rd H' B2.size 0 (EJ.enc y2) ∧ Rd H' B3.size 0 (EJ.enc y3) ∧ Rd H' B1.size 0 (EJ.enc y1)) [(0, 1), (1, 1), (2, 1), (4, 0), (5, 0), (6, 0), (8, 0), (9, 0), (10, 0), (3, 2), (7, 2), (11, 2), (12, 0), (13, 0), (14, 0)] (by kernel_rfl) (by kernel_rfl) (⟨mm, mb, mc, ma⟩) ?_
        refine O.lds rfl rfl rfl (fun w => ⟨Go.Proofs.Try.isAgg24 w, Go.Proofs.Try.sizeOf24 w⟩) rfl rfl mm ?_
        refine O.lds rfl rfl rfl (fun w => ⟨Go.Proofs.Try.isAgg27 w, Go.Proofs.Try.sizeOf27 w⟩) rfl rfl ma ?_
        refine O.lds rfl rfl rfl (fun w => ⟨Go.Proofs.Try.isAgg27 w, Go.Proofs.Try.sizeOf27 w⟩) rfl rfl mb ?_
        refine O.ldsC rfl rfl rfl (fun w => ⟨Go.Proofs.Try.isAgg24 w, Go.Proofs.Try.sizeOf24 w⟩) rfl rfl (fun _ h => h.1) ?_
        refine O.ldsC rfl rfl rfl (fun w => ⟨Go.Proofs.Try.isAgg27 w, Go.Proofs.Try.sizeOf27 w⟩) rfl rfl (fun _ h => h.2.1) ?_
        refine O.ldsC rfl rfl rfl (fun w => ⟨Go.Proofs.Try.isAgg27 w, Go.Proofs.Try.sizeOf27 w⟩) rfl rfl (fun _ h => h.2.2.1) ?_
        refine O.ldsC rfl rfl rfl (fun w => ⟨Go.Proofs.Try.isAgg24 w, Go.Proofs.Try.sizeOf24 w⟩) rfl rfl (fun _ h => h.1) ?_
        refine O.ldsC rfl rfl rfl (fun w => ⟨Go.Proofs.Try.isAgg27 w, Go.Proofs.Try.sizeOf27 w⟩) rfl rfl (fun _ h => h.2.2.2) ?_
        refine O.ldsC rfl rfl rfl (fun w => ⟨Go.Proofs.Try.isAgg27 w, Go.Proofs.Try.sizeOf27 w⟩) rfl rfl (fun _ h => h.2.2.1) ?_
        refine O.call rfl rfl rfl Go.Proofs.Try.call29 rfl (gless_spec hd (ho.fr hF) (by omega) y1 y2) ?_
        rintro _ H8 ⟨rfl, hF8⟩
        replace hF := hF.trans hF8
        replace mm := hF8.rd mm (fun _ _ => nw)
        replace mm0 := hF8.keep mm0 nw
        replace mm1 := hF8.keep mm1 nw
        replace ma := hF8.rd ma (fun _ _ => nw)
        replace mb := hF8.rd mb (fun _ _ => nw)
        replace mc := hF8.rd mc (fun _ _ => nw)
        refine ⟨⟨mm, mb, mc, ma⟩, ?_⟩
        refine O.call rfl rfl rfl Go.Proofs.Try.call29 rfl (gless_spec hd (ho.fr hF) (by omega) y2 y3) ?_
        rintro _ H9 ⟨rfl, hF9⟩
        replace hF := hF.trans hF9
        replace mm := hF9.rd mm (fun _ _ => nw)
        replace mm0 := hF9.keep mm0 nw
        replace mm1 := hF9.keep mm1 nw
        replace ma := hF9.rd ma (fun _ _ => nw)
        replace mb := hF9.rd mb (fun _ _ => nw)
        replace mc := hF9.rd mc (fun _ _ => nw)
        refine ⟨⟨mm, mb, mc, ma⟩, ?_⟩
        refine O.call rfl rfl rfl Go.Proofs.Try.call29 rfl (gless_spec hd (ho.fr hF) (by omega) y1 y3) ?_
        rintro _ H10 ⟨rfl, hF10⟩
        replace hF := hF.trans hF10
        replace mm := hF10.rd mm (fun _ _ => nw)
        replace mm0 := hF10.keep mm0 nw
        replace mm1 := hF10.keep mm1 nw
        replace ma := hF10.rd ma (fun _ _ => nw)
        replace mb := hF10.rd mb (fun _ _ => nw)
        replace mc := hF10.rd mc (fun _ _ => nw)
        refine ⟨⟨mm, mb, mc, ma⟩, ?_⟩
        refine O.asg rfl rfl rfl rfl rfl ?_
        refine O.asg rfl rfl rfl rfl rfl ?_
        refine O.asg rfl rfl rfl rfl rfl ?_
        refine Pl.fin [(4, _), (5, _), (6, _), (8, _), (9, _), (10, _), (11, _)] ⟨rfl, rfl, rfl, rfl, rfl, rfl, rfl, trivial⟩ ?_
        refine Go'.seq ?_
        rw [hab, hbc, hac]
        -- region 6 (trees.go:557)
        refine Go'.region [(0, 1), (1, 1), (2, 1), (3, 2), (4, 0), (5, 0), (6, 0), (7, 0), (8, 1), (9, 1), (10, 1), (11, 2), (12, 0), (13, 0), (14, 0), (15, 0), (16, 0), (17, 0), (18, 0), (19, 0), (20, 0), (21, 0), (22, 0), (23, 0), (24, 0), (25, 0), (26, 0), (27, 2), (28, 0), (29, 0), (30, 2), (31, 0), (32, 0)] rfl ?_
        refine O.lds rfl rfl rfl (fun w => ⟨Go.Proofs.Try.isAgg24 w, Go.Proofs.Try.sizeOf24 w⟩) rfl rfl mm ?_
        refine O.lds rfl rfl rfl (fun w => ⟨Go.Proofs.Try.isAgg27 w, Go.Proofs.Try.sizeOf27 w⟩) rfl rfl ma ?_
        refine O.lds rfl rfl rfl (fun w => ⟨Go.Proofs.Try.isAgg27 w, Go.Proofs.Try.sizeOf27 w⟩) rfl rfl ma ?_
        refine O.call rfl rfl rfl Go.Proofs.Try.call29 rfl (gless_spec hd (ho.fr hF) (by omega) y1 y1) ?_
        rintro _ H11 ⟨rfl, hF11⟩
        replace hF := hF.trans hF11
        replace mm := hF11.rd mm (fun _ _ => nw)
        replace mm0 := hF11.keep mm0 nw
        replace mm1 := hF11.keep mm1 nw
        replace ma := hF11.rd ma (fun _ _ => nw)
        replace mb := hF11.rd mb (fun _ _ => nw)
        replace mc := hF11.rd mc (fun _ _ => nw)
        rw [hir]
        refine ⟨trivial, ?_⟩
        refine O.not rfl rfl rfl rfl rfl ?_
        refine O.mv rfl rfl rfl rfl rfl ?_
        refine O.mv rfl rfl rfl rfl rfl ?_
        refine O.mv rfl rfl rfl rfl rfl ?_
        refine Pl.pass rfl rfl rfl rfl ?_
        refine Pl.pass rfl rfl rfl rfl ?_
        refine Pl.pass rfl rfl rfl rfl ?_
        refine Pl.pass2 rfl rfl rfl rfl trivial ?_
        refine O.pick rfl rfl rfl rfl rfl rfl ?_
        refine O.not rfl rfl rfl rfl rfl ?_
        refine O.pick rfl rfl rfl rfl rfl rfl ?_
        refine O.mv rfl rfl rfl rfl rfl ?_
        refine O.mv rfl rfl rfl rfl rfl ?_
        refine O.not rfl rfl rfl rfl rfl ?_
        refine O.mv rfl rfl rfl rfl rfl ?_
        refine Pl.pass rfl rfl rfl rfl ?_
        refine Pl.pass rfl rfl rfl rfl ?_
        refine O.pick rfl rfl rfl rfl rfl rfl ?_
        refine O.mv rfl rfl rfl rfl rfl ?_
        refine Pl.pass rfl rfl rfl rfl ?_
        refine O.pick rfl rfl rfl rfl rfl rfl ?_
        refine O.pick rfl rfl rfl rfl rfl rfl ?_
        refine O.mv rfl rfl rfl rfl rfl ?_
        refine O.call rfl rfl rfl Go.Proofs.Try.call30 rfl exMake_spec ?_
        rintro _ H13 ⟨rfl, hF13⟩
        replace hF := hF.trans hF13
        replace mm := hF13.rd mm (fun _ _ => nw)
        replace mm0 := hF13.keep mm0 nw
        replace mm1 := hF13.keep mm1 nw
        replace ma := hF13.rd ma (fun _ _ => nw)
        replace mb := hF13.rd mb (fun _ _ => nw)
        replace mc := hF13.rd mc (fun _ _ => nw)
        refine ⟨trivial, ?_⟩
        refine O.bld (cs := [.int .i64 1, .int .i64 0]) rfl rfl rfl rfl (st27) rfl (by kernel_rfl) ?_
        refine O.bld (cs := [.int .i64 2, .int .i64 0]) rfl rfl rfl rfl (st27) rfl (by kernel_rfl) ?_
        refine O.call rfl rfl rfl Go.Proofs.Try.call29 rfl (gless_spec (d := 2) (by decide) (InS.nil EN _) (by decide) (1, 0) (2, 0)) ?_
        rintro _ H14 ⟨rfl, hF14⟩
        replace hF := hF.trans hF14
        replace mm := hF14.rd mm (fun _ _ => nw)
        replace mm0 := hF14.keep mm0 nw
        replace mm1 := hF14.keep mm1 nw
        replace ma := hF14.rd ma (fun _ _ => nw)
        replace mb := hF14.rd mb (fun _ _ => nw)
        replace mc := hF14.rd mc (fun _ _ => nw)
        rw [hex]
        refine ⟨trivial, ?_⟩
        refine O.pick rfl rfl rfl rfl rfl rfl ?_
        refine O.asg rfl rfl rfl rfl rfl ?_
        refine Pl.fin [(8, _)] ⟨rfl, trivial⟩ ?_
        refine Go'.ret (vs := [_]) Go.Proofs.Try.func4 Go.Proofs.Try.results4 ⟨rfl, trivial⟩ ?_
        exact ⟨rfl, hF⟩
      · skip
        -- region 5 (trees.go:556)
        refine Go'.draw (fun H' => Rd H' H.size 0 [.slice av mv cv, .int .i64 (d : Int), .bool nl] ∧ Rd H' B2.size 0 (EJ.enc y2) ∧ Rd H' B3.size 0 (EJ.enc y3) ∧ Rd H' B1.size 0 (EJ.enc y1)) [(0, 1), (1, 1), (2, 1), (4, 0), (5, 0), (6, 0), (8, 0), (9, 0), (10, 0), (3, 2), (7, 2), (11, 2), (12, 0), (13, 0), (14, 0)] (by kernel_rfl) (by kernel_rfl) (⟨mm, mb, mc, ma⟩) ?_
        refine O.lds rfl rfl rfl (fun w => ⟨Go.Proofs.Try.isAgg24 w, Go.Proofs.Try.sizeOf24 w⟩) rfl rfl mm ?_
        refine O.lds rfl rfl rfl (fun w => ⟨Go.Proofs.Try.isAgg27 w, Go.Proofs.Try.sizeOf27 w⟩) rfl rfl ma ?_
        refine O.lds rfl rfl rfl (fun w => ⟨Go.Proofs.Try.isAgg27 w, Go.Proofs.Try.sizeOf27 w⟩) rfl rfl mb ?_
        refine O.ldsC rfl rfl rfl (fun w => ⟨Go.Proofs.Try.isAgg24 w, Go.Proofs.Try.sizeOf24 w⟩) rfl rfl (fun _ h => h.1) ?_
        refine O.ldsC rfl rfl rfl (fun w => ⟨Go.Proofs.Try.isAgg27 w, Go.Proofs.Try.sizeOf27 w⟩) rfl rfl (fun _ h => h.2.1) ?_
        refine O.ldsC rfl rfl rfl (fun w => ⟨Go.Proofs.Try.isAgg27 w, Go.Proofs.Try.sizeOf27 w⟩) rfl rfl (fun _ h => h.2.2.1) ?_
        refine O.ldsC rfl rfl rfl (fun w => ⟨Go.Proofs.Try.isAgg24 w, Go.Proofs.Try.sizeOf24 w⟩) rfl rfl (fun _ h => h.1) ?_
        refine O.ldsC rfl rfl rfl (fun w => ⟨Go.Proofs.Try.isAgg27 w, Go.Proofs.Try.sizeOf27 w⟩) rfl rfl (fun _ h => h.2.2.2) ?_
        refine O.ldsC rfl rfl rfl (fun w => ⟨Go.Proofs.Try.isAgg27 w, Go.Proofs.Try.sizeOf27 w⟩) rfl rfl (fun _ h => h.2.2.1) ?_
        refine O.call rfl rfl rfl Go.Proofs.Try.call29 rfl (gless_spec hd (ho.fr hF) (by omega) y1 y2) ?_
        rintro _ H8 ⟨rfl, hF8⟩
        replace hF := hF.trans hF8
        replace mm := hF8.rd mm (fun _ _ => nw)
        replace mm0 := hF8.keep mm0 nw
        replace mm1 := hF8.keep mm1 nw
        replace ma := hF8.rd ma (fun _ _ => nw)
        replace mb := hF8.rd mb (fun _ _ => nw)
        replace mc := hF8.rd mc (fun _ _ => nw)
        refine ⟨⟨mm, mb, mc, ma⟩, ?_⟩
        refine O.call rfl rfl rfl Go.Proofs.Try.call29 rfl (gless_spec hd (ho.fr hF) (by omega) y2 y3) ?_
        rintro _ H9 ⟨rfl, hF9⟩
        replace hF := hF.trans hF9
        replace mm := hF9.rd mm (fun _ _ => nw)
        replace mm0 := hF9.keep mm0 nw
        replace mm1 := hF9.keep mm1 nw
        replace ma := hF9.rd ma (fun _ _ => nw)
        replace mb := hF9.rd mb (fun _ _ => nw)
        replace mc := hF9.rd mc (fun _ _ => nw)
        refine ⟨⟨mm, mb, mc, ma⟩, ?_⟩
        refine O.call rfl rfl rfl Go.Proofs.Try.call29 rfl (gless_spec hd (ho.fr hF) (by omega) y1 y3) ?_
        rintro _ H10 ⟨rfl, hF10⟩
        replace hF := hF.trans hF10
        replace mm := hF10.rd mm (fun _ _ => nw)
        replace mm0 := hF10.keep mm0 nw
        replace mm1 := hF10.keep mm1 nw
        replace ma := hF10.rd ma (fun _ _ => nw)
        replace mb := hF10.rd mb (fun _ _ => nw)
        replace mc := hF10.rd mc (fun _ _ => nw)
        refine ⟨⟨mm, mb, mc, ma⟩, ?_⟩
        refine O.asg rfl rfl rfl rfl rfl ?_
        refine O.asg rfl rfl rfl rfl rfl ?_
        refine O.asg rfl rfl rfl rfl rfl ?_
        refine Pl.fin [(4, _), (5, _), (6, _), (8, _), (9, _), (10, _), (11, _)] ⟨rfl, rfl, rfl, rfl, rfl, rfl, rfl, trivial⟩ ?_
        refine Go'.seq ?_
        rw [hab, hbc, hac]
        -- region 6 (trees.go:557)
        refine Go'.region [(0, 1), (1, 1), (2, 1), (3, 2), (4, 0), (5, 0), (6, 0), (7, 0), (8, 1), (9, 1), (10, 1), (11, 2), (12, 0), (13, 0), (14, 0), (15, 0), (16, 0), (17, 0), (18, 0), (19, 0), (20, 0), (21, 0), (22, 0), (23, 0), (24, 0), (25, 0), (26, 0), (27, 2), (28, 0), (29, 0), (30, 2), (31, 0), (32, 0)] rfl ?_
        refine O.lds rfl rfl rfl (fun w => ⟨Go.Proofs.Try.isAgg24 w, Go.Proofs.Try.sizeOf24 w⟩) rfl rfl mm ?_
        refine O.lds rfl rfl rfl (fun w => ⟨Go.Proofs.Try.isAgg27 w, Go.Proofs.Try.sizeOf27 w⟩) rfl rfl ma ?_
        refine O.lds rfl rfl rfl (fun w => ⟨Go.Proofs.Try.isAgg27 w, Go.Proofs.Try.sizeOf27 w⟩) rfl rfl ma ?_
        refine O.call rfl rfl rfl Go.Proofs.Try.call29 rfl (gless_spec hd (ho.fr hF) (by omega) y1 y1) ?_
        rintro _ H11 ⟨rfl, hF11⟩
        replace hF := hF.trans hF11
        replace mm := hF11.rd mm (fun _ _ => nw)
        replace mm0 := hF11.keep mm0 nw
        replace mm1 := hF11.keep mm1 nw
        replace ma := hF11.rd ma (fun _ _ => nw)
        replace mb := hF11.rd mb (fun _ _ => nw)
        replace mc := hF11.rd mc (fun _ _ => nw)
        rw [hir]
        refine ⟨trivial, ?_⟩
        refine O.not rfl rfl rfl rfl rfl ?_
        refine O.mv rfl rfl rfl rfl rfl ?_
        refine O.mv rfl rfl rfl rfl rfl ?_
        refine O.mv rfl rfl rfl rfl rfl ?_
        refine O.lds rfl rfl rfl (fun w => ⟨Go.Proofs.Try.isAgg24 w, Go.Proofs.Try.sizeOf24 w⟩) rfl rfl mm ?_
        refine O.lds rfl rfl rfl (fun w => ⟨Go.Proofs.Try.isAgg27 w, Go.Proofs.Try.sizeOf27 w⟩) rfl rfl mb ?_
        refine O.lds rfl rfl rfl (fun w => ⟨Go.Proofs.Try.isAgg27 w, Go.Proofs.Try.sizeOf27 w⟩) rfl rfl ma ?_
        refine O.call rfl rfl rfl Go.Proofs.Try.call29 rfl (gless_spec hd (ho.fr hF) (by omega) y2 y1) ?_
        rintro _ H12 ⟨rfl, hF12⟩
        replace hF := hF.trans hF12
        replace mm := hF12.rd mm (fun _ _ => nw)
        replace mm0 := hF12.keep mm0 nw
        replace mm1 := hF12.keep mm1 nw
        replace ma := hF12.rd ma (fun _ _ => nw)
        replace mb := hF12.rd mb (fun _ _ => nw)
        replace mc := hF12.rd mc (fun _ _ => nw)
        rw [hsa hab]
        refine ⟨trivial, ?_⟩
        refine O.pick rfl rfl rfl rfl rfl rfl ?_
        refine O.not rfl rfl rfl rfl rfl ?_
        refine O.pick rfl rfl rfl rfl rfl rfl ?_
        refine O.mv rfl rfl rfl rfl rfl ?_
        refine O.mv rfl rfl rfl rfl rfl ?_
        refine O.not rfl rfl rfl rfl rfl ?_
        refine O.mv rfl rfl rfl rfl rfl ?_
        refine O.mv rfl rfl rfl rfl rfl ?_
        refine O.not rfl rfl rfl rfl rfl ?_
        refine O.pick rfl rfl rfl rfl rfl rfl ?_
        refine O.mv rfl rfl rfl rfl rfl ?_
        refine Pl.pass rfl rfl rfl rfl ?_
        refine O.pick rfl rfl rfl rfl rfl rfl ?_
        refine O.pick rfl rfl rfl rfl rfl rfl ?_
        refine O.mv rfl rfl rfl rfl rfl ?_
        refine O.call rfl rfl rfl Go.Proofs.Try.call30 rfl exMake_spec ?_
        rintro _ H13 ⟨rfl, hF13⟩
        replace hF := hF.trans hF13
        replace mm := hF13.rd mm (fun _ _ => nw)
        replace mm0 := hF13.keep mm0 nw
        replace mm1 := hF13.keep mm1 nw
        replace ma := hF13.rd ma (fun _ _ => nw)
        replace mb := hF13.rd mb (fun _ _ => nw)
        replace mc := hF13.rd mc (fun _ _ => nw)
        refine ⟨trivial, ?_⟩
        refine O.bld (cs := [.int .i64 1, .int .i64 0]) rfl rfl rfl rfl (st27) rfl (by kernel_rfl) ?_
        refine O.bld (cs := [.int .i64 2, .int .i64 0]) rfl rfl rfl rfl (st27) rfl (by kernel_rfl) ?_
        refine O.call rfl rfl rfl Go.Proofs.Try.call29 rfl (gless_spec (d := 2) (by decide) (InS.nil EN _) (by decide) (1, 0) (2, 0)) ?_
        rintro _ H14 ⟨rfl, hF14⟩
        replace hF := hF.trans hF14
        replace mm := hF14.rd mm (fun _ _ => nw)
        replace mm0 := hF14.keep mm0 nw
        replace mm1 := hF14.keep mm1 nw
        replace ma := hF14.rd ma (fun _ _ => nw)
        replace mb := hF14.rd mb (fun _ _ => nw)
        replace mc := hF14.rd mc (fun _ _ => nw)
        rw [hex]
        refine ⟨trivial, ?_⟩
        refine O.pick rfl rfl rfl rfl rfl rfl ?_
        refine O.asg rfl rfl rfl rfl rfl ?_
        refine Pl.fin [(8, _)] ⟨rfl, trivial⟩ ?_
        refine Go'.ret (vs := [_]) Go.Proofs.Try.func4 Go.Proofs.Try.results4 ⟨rfl, trivial⟩ ?_
        exact ⟨rfl, hF⟩
      · skip
        -- region 5 (trees.go:556)
        refine Go'.draw (fun H' => Rd H' H.size 0 [.slice av mv cv, .int .i64 (d : Int), .bool nl] ∧ Rd H' B2.size 0 (EJ.enc y2) ∧ Rd H' B3.size 0 (EJ.enc y3) ∧ Rd H' B1.size 0 (EJ.enc y1)) [(0, 1), (1, 1), (2, 1), (4, 0), (5, 0), (6, 0), (8, 0), (9, 0), (10, 0), (3, 2), (7, 2), (11, 2), (12, 0), (13, 0), (14, 0)] (by kernel_rfl) (by kernel_rfl) (⟨mm, mb, mc, ma⟩) ?_
        refine O.lds rfl rfl rfl (fun w => ⟨Go.Proofs.Try.isAgg24 w, Go.Proofs.Try.sizeOf24 w⟩) rfl rfl mm ?_
        refine O.lds rfl rfl rfl (fun w => ⟨Go.Proofs.Try.isAgg27 w, Go.Proofs.Try.sizeOf27 w⟩) rfl rfl ma ?_
        refine O.lds rfl rfl rfl (fun w => ⟨Go.Proofs.Try.isAgg27 w, Go.Proofs.Try.sizeOf27 w⟩) rfl rfl mb ?_
        refine O.ldsC rfl rfl rfl (fun w => ⟨Go.Proofs.Try.isAgg24 w, Go.Proofs.Try.sizeOf24 w⟩) rfl rfl (fun _ h => h.1) ?_
        refine O.ldsC rfl rfl rfl (fun w => ⟨Go.Proofs.Try.isAgg27 w, Go.Proofs.Try.sizeOf27 w⟩) rfl rfl (fun _ h => h.2.1) ?_
        refine O.ldsC rfl rfl rfl (fun w => ⟨Go.Proofs.Try.isAgg27 w, Go.Proofs.Try.sizeOf27 w⟩) rfl rfl (fun _ h => h.2.2.1) ?_
        refine O.ldsC rfl rfl rfl (fun w => ⟨Go.Proofs.Try.isAgg24 w, Go.Proofs.Try.sizeOf24 w⟩) rfl rfl (fun _ h => h.1) ?_
        refine O.ldsC rfl rfl rfl (fun w => ⟨Go.Proofs.Try.isAgg27 w, Go.Proofs.Try.sizeOf27 w⟩) rfl rfl (fun _ h => h.2.2.2) ?_
        refine O.ldsC rfl rfl rfl (fun w => ⟨Go.Proofs.Try.isAgg27 w, Go.Proofs.Try.sizeOf27 w⟩) rfl rfl (fun _ h => h.2.2.1) ?_
        refine O.call rfl rfl rfl Go.Proofs.Try.call29 rfl (gless_spec hd (ho.fr hF) (by omega) y1 y2) ?_
        rintro _ H8 ⟨rfl, hF8⟩
        replace hF := hF.trans hF8
        replace mm := hF8.rd mm (fun _ _ => nw)
        replace mm0 := hF8.keep mm0 nw
        replace mm1 := hF8.keep mm1 nw
        replace ma := hF8.rd ma (fun _ _ => nw)
        replace mb := hF8.rd mb (fun _ _ => nw)
        replace mc := hF8.rd mc (fun _ _ => nw)
        refine ⟨⟨mm, mb, mc, ma⟩, ?_⟩
        refine O.call rfl rfl rfl Go.Proofs.Try.call29 rfl (gless_spec hd (ho.fr hF) (by omega) y2 y3) ?_
        rintro _ H9 ⟨rfl, hF9⟩
        replace hF := hF.trans hF9
        replace mm := hF9.rd mm (fun _ _ => nw)
        replace mm0 := hF9.keep mm0 nw
        replace mm1 := hF9.keep mm1 nw
        replace ma := hF9.rd ma (fun _ _ => nw)
        replace mb := hF9.rd mb (fun _ _ => nw)
        replace mc := hF9.rd mc (fun _ _ => nw)
        refine ⟨⟨mm, mb, mc, ma⟩, ?_⟩
        refine O.call rfl rfl rfl Go.Proofs.Try.call29 rfl (gless_spec hd (ho.fr hF) (by omega) y1 y3) ?_
        rintro _ H10 ⟨rfl, hF10⟩
        replace hF := hF.trans hF10
        replace mm := hF10.rd mm (fun _ _ => nw)
        replace mm0 := hF10.keep mm0 nw
        replace mm1 := hF10.keep mm1 nw
        replace ma := hF10.rd ma (fun _ _ => nw)
        replace mb := hF10.rd mb (fun _ _ => nw)
        replace mc := hF10.rd mc (fun _ _ => nw)
        refine ⟨⟨mm, mb, mc, ma⟩, ?_⟩
        refine O.asg rfl rfl rfl rfl rfl ?_
        refine O.asg rfl rfl rfl rfl rfl ?_
        refine O.asg rfl rfl rfl rfl rfl ?_
        refine Pl.fin [(4, _), (5, _), (6, _), (8, _), (9, _), (10, _), (11, _)] ⟨rfl, rfl, rfl, rfl, rfl, rfl, rfl, trivial⟩ ?_
        refine Go'.seq ?_
        rw [hab, hbc, hac]
        -- region 6 (trees.go:557)
        refine Go'.region [(0, 1), (1, 1), (2, 1), (3, 2), (4, 0), (5, 0), (6, 0), (7, 0), (8, 1), (9, 1), (10, 1), (11, 2), (12, 0), (13, 0), (14, 0), (15, 0), (16, 0), (17, 0), (18, 0), (19, 0), (20, 0), (21, 0), (22, 0), (23, 0), (24, 0), (25, 0), (26, 0), (27, 2), (28, 0), (29, 0), (30, 2), (31, 0), (32, 0)] rfl ?_
        refine O.lds rfl rfl rfl (fun w => ⟨Go.Proofs.Try.isAgg24 w, Go.Proofs.Try.sizeOf24 w⟩) rfl rfl mm ?_
        refine O.lds rfl rfl rfl (fun w => ⟨Go.Proofs.Try.isAgg27 w, Go.Proofs.Try.sizeOf27 w⟩) rfl rfl ma ?_
        refine O.lds rfl rfl rfl (fun w => ⟨Go.Proofs.Try.isAgg27 w, Go.Proofs.Try.sizeOf27 w⟩) rfl rfl ma ?_
        refine O.call rfl rfl rfl Go.Proofs.Try.call29 rfl (gless_spec hd (ho.fr hF) (by omega) y1 y1) ?_
        rintro _ H11 ⟨rfl, hF11⟩
        replace hF := hF.trans hF11
        replace mm := hF11.rd mm (fun _ _ => nw)
        replace mm0 := hF11.keep mm0 nw
        replace mm1 := hF11.keep mm1 nw
        replace ma := hF11.rd ma (fun _ _ => nw)
        replace mb := hF11.rd mb (fun _ _ => nw)
        replace mc := hF11.rd mc (fun _ _ => nw)
        rw [hir]
        refine ⟨trivial, ?_⟩
        refine O.not rfl rfl rfl rfl rfl ?_
        refine O.mv rfl rfl rfl rfl rfl ?_
        refine O.mv rfl rfl rfl rfl rfl ?_
        refine O.mv rfl rfl rfl rfl rfl ?_
        refine O.lds rfl rfl rfl (fun w => ⟨Go.Proofs.Try.isAgg24 w, Go.Proofs.Try.sizeOf24 w⟩) rfl rfl mm ?_
        refine O.lds rfl rfl rfl (fun w => ⟨Go.Proofs.Try.isAgg27 w, Go.Proofs.Try.sizeOf27 w⟩) rfl rfl mb ?_
        refine O.lds rfl rfl rfl (fun w => ⟨Go.Proofs.Try.isAgg27 w, Go.Proofs.Try.sizeOf27 w⟩) rfl rfl ma ?_
        refine O.call rfl rfl rfl Go.Proofs.Try.call29 rfl (gless_spec hd (ho.fr hF) (by omega) y2 y1) ?_
        rintro _ H12 ⟨rfl, hF12⟩
        replace hF := hF.trans hF12
        replace mm := hF12.rd mm (fun _ _ => nw)
        replace mm0 := hF12.keep mm0 nw
        replace mm1 := hF12.keep mm1 nw
        replace ma := hF12.rd ma (fun _ _ => nw)
        replace mb := hF12.rd mb (fun _ _ => nw)
        replace mc := hF12.rd mc (fun _ _ => nw)
        rw [hsa hab]
        refine ⟨trivial, ?_⟩
        refine O.pick rfl rfl rfl rfl rfl rfl ?_
        refine O.not rfl rfl rfl rfl rfl ?_
        refine O.pick rfl rfl rfl rfl rfl rfl ?_
        refine O.mv rfl rfl rfl rfl rfl ?_
        refine O.mv rfl rfl rfl rfl rfl ?_
        refine O.not rfl rfl rfl rfl rfl ?_
        refine O.mv rfl rfl rfl rfl rfl ?_
        refine O.mv rfl rfl rfl rfl rfl ?_
        refine O.not rfl rfl rfl rfl rfl ?_
        refine O.pick rfl rfl rfl rfl rfl rfl ?_
        refine O.mv rfl rfl rfl rfl rfl ?_
        refine Pl.pass rfl rfl rfl rfl ?_
        refine O.pick rfl rfl rfl rfl rfl rfl ?_
        refine O.pick rfl rfl rfl rfl rfl rfl ?_
        refine O.mv rfl rfl rfl rfl rfl ?_
        refine O.call rfl rfl rfl Go.Proofs.Try.call30 rfl exMake_spec ?_
        rintro _ H13 ⟨rfl, hF13⟩
        replace hF := hF.trans hF13
        replace mm := hF13.rd mm (fun _ _ => nw)
        replace mm0 := hF13.keep mm0 nw
        replace mm1 := hF13.keep mm1 nw
        replace ma := hF13.rd ma (fun _ _ => nw)
        replace mb := hF13.rd mb (fun _ _ => nw)
        replace mc := hF13.rd mc (fun _ _ => nw)
        refine ⟨trivial, ?_⟩
        refine O.bld (cs := [.int .i64 1, .int .i64 0]) rfl rfl rfl rfl (st27) rfl (by kernel_rfl) ?_
        refine O.bld (cs := [.int .i64 2, .int .i64 0]) rfl rfl rfl rfl (st27) rfl (by kernel_rfl) ?_
        refine O.call rfl rfl rfl Go.Proofs.Try.call29 rfl (gless_spec (d := 2) (by decide) (InS.nil EN _) (by decide) (1, 0) (2, 0)) ?_
        rintro _ H14 ⟨rfl, hF14⟩
        replace hF := hF.trans hF14
        replace mm := hF14.rd mm (fun _ _ => nw)
        replace mm0 := hF14.keep mm0 nw
        replace mm1 := hF14.keep mm1 nw
        replace ma := hF14.rd ma (fun _ _ => nw)
        replace mb := hF14.rd mb (fun _ _ => nw)
        replace mc := hF14.rd mc (fun _ _ => nw)
        rw [hex]
        refine ⟨trivial, ?_⟩
        refine O.pick rfl rfl rfl rfl rfl rfl ?_
        refine O.asg rfl rfl rfl rfl rfl ?_
        refine Pl.fin [(8, _)] ⟨rfl, trivial⟩ ?_
        refine Go'.ret (vs := [_]) Go.Proofs.Try.func4 Go.Proofs.Try.results4 ⟨rfl, trivial⟩ ?_
        exact ⟨rfl, hF⟩
      · skip
        exact absurd (htr hab hbc) (by rw [hac]; decide)
      · skip
        -- region 5 (trees.go:556)
        refine Go'.draw (fun H' => Rd H' H.size 0 [.slice av mv cv, .int .i64 (d : Int), .bool nl] ∧ Rd H' B2.size 0 (EJ.enc y2) ∧ Rd H' B3.size 0 (EJ.enc y3) ∧ Rd H' B1.size 0 (EJ.enc y1)) [(0, 1), (1, 1), (2, 1), (4, 0), (5, 0), (6, 0), (8, 0), (9, 0), (10, 0), (3, 2), (7, 2), (11, 2), (12, 0), (13, 0), (14, 0)] (by kernel_rfl) (by kernel_rfl) (⟨mm, mb, mc, ma⟩) ?_
        refine O.lds rfl rfl rfl (fun w => ⟨Go.Proofs.Try.isAgg24 w, Go.Proofs.Try.sizeOf24 w⟩) rfl rfl mm ?_
        refine O.lds rfl rfl rfl (fun w => ⟨Go.Proofs.Try.isAgg27 w, Go.Proofs.Try.sizeOf27 w⟩) rfl rfl ma ?_
        refine O.lds rfl rfl rfl (fun w => ⟨Go.Proofs.Try.isAgg27 w, Go.Proofs.Try.sizeOf27 w⟩) rfl rfl mb ?_
        refine O.ldsC rfl rfl rfl (fun w => ⟨Go.Proofs.Try.isAgg24 w, Go.Proofs.Try.sizeOf24 w⟩) rfl rfl (fun _ h => h.1) ?_
        refine O.ldsC rfl rfl rfl (fun w => ⟨Go.Proofs.Try.isAgg27 w, Go.Proofs.Try.sizeOf27 w⟩) rfl rfl (fun _ h => h.2.1) ?_
        refine O.ldsC rfl rfl rfl (fun w => ⟨Go.Proofs.Try.isAgg27 w, Go.Proofs.Try.sizeOf27 w⟩) rfl rfl (fun _ h => h.2.2.1) ?_
        refine O.ldsC rfl rfl rfl (fun w => ⟨Go.Proofs.Try.isAgg24 w, Go.Proofs.Try.sizeOf24 w⟩) rfl rfl (fun _ h => h.1) ?_
        refine O.ldsC rfl rfl rfl (fun w => ⟨Go.Proofs.Try.isAgg27 w, Go.Proofs.Try.sizeOf27 w⟩) rfl rfl (fun _ h => h.2.2.2) ?_
        refine O.ldsC rfl rfl rfl (fun w => ⟨Go.Proofs.Try.isAgg27 w, Go.Proofs.Try.sizeOf27 w⟩) rfl rfl (fun _ h => h.2.2.1) ?_
        refine O.call rfl rfl rfl Go.Proofs.Try.call29 rfl (gless_spec hd (ho.fr hF) (by omega) y1 y2) ?_
        rintro _ H8 ⟨rfl, hF8⟩
        replace hF := hF.trans hF8
        replace mm := hF8.rd mm (fun _ _ => nw)
        replace mm0 := hF8.keep mm0 nw
        replace mm1 := hF8.keep mm1 nw
        replace ma := hF8.rd ma (fun _ _ => nw)
        replace mb := hF8.rd mb (fun _ _ => nw)
        replace mc := hF8.rd mc (fun _ _ => nw)
        refine ⟨⟨mm, mb, mc, ma⟩, ?_⟩
        refine O.call rfl rfl rfl Go.Proofs.Try.call29 rfl (gless_spec hd (ho.fr hF) (by omega) y2 y3) ?_
        rintro _ H9 ⟨rfl, hF9⟩
        replace hF := hF.trans hF9
        replace mm := hF9.rd mm (fun _ _ => nw)
        replace mm0 := hF9.keep mm0 nw
        replace mm1 := hF9.keep mm1 nw
        replace ma := hF9.rd ma (fun _ _ => nw)
        replace mb := hF9.rd mb (fun _ _ => nw)
        replace mc := hF9.rd mc (fun _ _ => nw)
        refine ⟨⟨mm, mb, mc, ma⟩, ?_⟩
        refine O.call rfl rfl rfl Go.Proofs.Try.call29 rfl (gless_spec hd (ho.fr hF) (by omega) y1 y3) ?_
        rintro _ H10 ⟨rfl, hF10⟩
        replace hF := hF.trans hF10
        replace mm := hF10.rd mm (fun _ _ => nw)
        replace mm0 := hF10.keep mm0 nw
        replace mm1 := hF10.keep mm1 nw
        replace ma := hF10.rd ma (fun _ _ => nw)
        replace mb := hF10.rd mb (fun _ _ => nw)
        replace mc := hF10.rd mc (fun _ _ => nw)
        refine ⟨⟨mm, mb, mc, ma⟩, ?_⟩
        refine O.asg rfl rfl rfl rfl rfl ?_
        refine O.asg rfl rfl rfl rfl rfl ?_
        refine O.asg rfl rfl rfl rfl rfl ?_
        refine Pl.fin [(4, _), (5, _), (6, _), (8, _), (9, _), (10, _), (11, _)] ⟨rfl, rfl, rfl, rfl, rfl, rfl, rfl, trivial⟩ ?_
        refine Go'.seq ?_
        rw [hab, hbc, hac]
        -- region 6 (trees.go:557)
        refine Go'.region [(0, 1), (1, 1), (2, 1), (3, 2), (4, 0), (5, 0), (6, 0), (7, 0), (8, 1), (9, 1), (10, 1), (11, 2), (12, 0), (13, 0), (14, 0), (15, 0), (16, 0), (17, 0), (18, 0), (19, 0), (20, 0), (21, 0), (22, 0), (23, 0), (24, 0), (25, 0), (26, 0), (27, 2), (28, 0), (29, 0), (30, 2), (31, 0), (32, 0)] rfl ?_
        refine O.lds rfl rfl rfl (fun w => ⟨Go.Proofs.Try.isAgg24 w, Go.Proofs.Try.sizeOf24 w⟩) rfl rfl mm ?_
        refine O.lds rfl rfl rfl (fun w => ⟨Go.Proofs.Try.isAgg27 w, Go.Proofs.Try.sizeOf27 w⟩) rfl rfl ma ?_
        refine O.lds rfl rfl rfl (fun w => ⟨Go.Proofs.Try.isAgg27 w, Go.Proofs.Try.sizeOf27 w⟩) rfl rfl ma ?_
        refine O.call rfl rfl rfl Go.Proofs.Try.call29 rfl (gless_spec hd (ho.fr hF) (by omega) y1 y1) ?_
        rintro _ H11 ⟨rfl, hF11⟩
        replace hF := hF.trans hF11
        replace mm := hF11.rd mm (fun _ _ => nw)
        replace mm0 := hF11.keep mm0 nw
        replace mm1 := hF11.keep mm1 nw
        replace ma := hF11.rd ma (fun _ _ => nw)
        replace mb := hF11.rd mb (fun _ _ => nw)
        replace mc := hF11.rd mc (fun _ _ => nw)
        rw [hir]
        refine ⟨trivial, ?_⟩
        refine O.not rfl rfl rfl rfl rfl ?_
        refine O.mv rfl rfl rfl rfl rfl ?_
        refine O.mv rfl rfl rfl rfl rfl ?_
        refine O.mv rfl rfl rfl rfl rfl ?_
        refine O.lds rfl rfl rfl (fun w => ⟨Go.Proofs.Try.isAgg24 w, Go.Proofs.Try.sizeOf24 w⟩) rfl rfl mm ?_
        refine O.lds rfl rfl rfl (fun w => ⟨Go.Proofs.Try.isAgg27 w, Go.Proofs.Try.sizeOf27 w⟩) rfl rfl mb ?_
        refine O.lds rfl rfl rfl (fun w => ⟨Go.Proofs.Try.isAgg27 w, Go.Proofs.Try.sizeOf27 w⟩) rfl rfl ma ?_
        refine O.call rfl rfl rfl Go.Proofs.Try.call29 rfl (gless_spec hd (ho.fr hF) (by omega) y2 y1) ?_
        rintro _ H12 ⟨rfl, hF12⟩
        replace hF := hF.trans hF12
        replace mm := hF12.rd mm (fun _ _ => nw)
        replace mm0 := hF12.keep mm0 nw
        replace mm1 := hF12.keep mm1 nw
        replace ma := hF12.rd ma (fun _ _ => nw)
        replace mb := hF12.rd mb (fun _ _ => nw)
        replace mc := hF12.rd mc (fun _ _ => nw)
        rw [hsa hab]
        refine ⟨trivial, ?_⟩
        refine O.pick rfl rfl rfl rfl rfl rfl ?_
        refine O.not rfl rfl rfl rfl rfl ?_
        refine O.pick rfl rfl rfl rfl rfl rfl ?_
        refine O.mv rfl rfl rfl rfl rfl ?_
        refine O.mv rfl rfl rfl rfl rfl ?_
        refine O.not rfl rfl rfl rfl rfl ?_
        refine O.mv rfl rfl rfl rfl rfl ?_
        refine O.mv rfl rfl rfl rfl rfl ?_
        refine O.not rfl rfl rfl rfl rfl ?_
        refine O.pick rfl rfl rfl rfl rfl rfl ?_
        refine O.mv rfl rfl rfl rfl rfl ?_
        refine O.mv rfl rfl rfl rfl rfl ?_
        refine O.pick rfl rfl rfl rfl rfl rfl ?_
        refine O.pick rfl rfl rfl rfl rfl rfl ?_
        refine O.mv rfl rfl rfl rfl rfl ?_
        refine O.call rfl rfl rfl Go.Proofs.Try.call30 rfl exMake_spec ?_
        rintro _ H13 ⟨rfl, hF13⟩
        replace hF := hF.trans hF13
        replace mm := hF13.rd mm (fun _ _ => nw)
        replace mm0 := hF13.keep mm0 nw
        replace mm1 := hF13.keep mm1 nw
        replace ma := hF13.rd ma (fun _ _ => nw)
        replace mb := hF13.rd mb (fun _ _ => nw)
        replace mc := hF13.rd mc (fun _ _ => nw)
        refine ⟨trivial, ?_⟩
        refine O.bld (cs := [.int .i64 1, .int .i64 0]) rfl rfl rfl rfl (st27) rfl (by kernel_rfl) ?_
        refine O.bld (cs := [.int .i64 2, .int .i64 0]) rfl rfl rfl rfl (st27) rfl (by kernel_rfl) ?_
        refine O.call rfl rfl rfl Go.Proofs.Try.call29 rfl (gless_spec (d := 2) (by decide) (InS.nil EN _) (by decide) (1, 0) (2, 0)) ?_
        rintro _ H14 ⟨rfl, hF14⟩
        replace hF := hF.trans hF14
        replace mm := hF14.rd mm (fun _ _ => nw)
        replace mm0 := hF14.keep mm0 nw
        replace mm1 := hF14.keep mm1 nw
        replace ma := hF14.rd ma (fun _ _ => nw)
        replace mb := hF14.rd mb (fun _ _ => nw)
        replace mc := hF14.rd mc (fun _ _ => nw)
        rw [hex]
        refine ⟨trivial, ?_⟩
        refine O.pick rfl rfl rfl rfl rfl rfl ?_
        refine O.asg rfl rfl rfl rfl rfl ?_
        refine Pl.fin [(8, _)] ⟨rfl, trivial⟩ ?_
        refine Go'.ret (vs := [_]) Go.Proofs.Try.func4 Go.Proofs.Try.results4 ⟨rfl, trivial⟩ ?_
        exact ⟨rfl, hF⟩

end Go.Bt.FG
