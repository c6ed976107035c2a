/- Contracts of functions of the program, proved by walking through their code. Conditions: those that each theorem names. -/
import Derived.Test.YtmboghgpakhceaaToiJ
import Derived.Test.YtmboghgpakhceaaToiF
namespace Go.Bt.FG
open Go Go.Proofs
set_option maxRecDepth 20000
set_option maxHeartbeats 4000000
set_option linter.unusedVariables false
set_option linter.unusedSectionVars false

theorem up_first {O : Pl.Swo (Int × Int)} {x : Int × Int} {L : List (Int × Int)} (hs : Pl.Srt O L) (h : L[0]? = some x) : Pl.up O x L = L := by
  have hi : O.lt x x = false := by
    cases h : O.lt x x with
    | false => rfl
    | true => have h2 := O.asy h; rw [h] at h2; cases h2
  obtain ⟨e1, _⟩ := Pl.search_found O hs h hi hi
  unfold Pl.up; rw [e1]; rfl
theorem dn_last {O : Pl.Swo (Int × Int)} {x : Int × Int} {L : List (Int × Int)} (hs : Pl.Srt O L) (h : L[L.length - 1]? = some x) : Pl.dn O x L = L := by
  have hi : O.lt x x = false := by
    cases h : O.lt x x with
    | false => rfl
    | true => have h2 := O.asy h; rw [h] at h2; cases h2
  obtain ⟨e1, e2⟩ := Pl.search_found O hs h hi hi
  have hl := (List.getElem?_eq_some_iff.1 h).1
  unfold Pl.dn; rw [e1, e2, show L.length - 1 + true.toNat = L.length by simp; omega, List.take_length]
theorem firstN_0 {α : Type} (m : List α) : firstN m 0 = m := by unfold firstN; simp

theorem igscan_spec {B : World} {H : Mem} {d : Nat} {nl : Bool} {v u : Value} {ord : List Int} {l : List (Int × Int)} (hd : d = 0 ∨ 2 ≤ d ∧ d ≤ 128) (ho : InS EN H v ord) (hol : ord.length ≤ 4294967296) (hi : InS EJ H u l) (hll : l.length ≤ 4294967296) {n : Int} :
    Fn Try.prog B 57 [.agg #[v, .int .i64 (d : Int), .bool nl], u, .int .i64 n] H (fun r H' => OutS EJ H' r (firstN (Pl.puts (OO ord) l) n) ∧ Fr nowhere H H') := by
  obtain ⟨a, c, hu⟩ := hi.len
  subst hu
  obtain ⟨av, mv, cv, hv⟩ := InS.form ho
  subst hv
  have hF : Fr nowhere H H := Fr.refl _ _
  have hP := PD_ok hd
  refine fn_of Go.Proofs.Try.func57 rfl Go.Proofs.Try.ntmps57 ?_
  refine (show Go' _ _ _ _ 15 [(0, _), (1, _), (2, _)] [.code _] _ from ?_)
  refine Go'.seq ?_
  -- region 0 (treeg.go:199)
  refine Go'.region [(0, 2), (1, 0)] rfl ?_
  refine O.box rfl rfl rfl rfl ?_
  intro B1 MB1
  refine ⟨trivial, ?_⟩
  have hsB1 := MB1.size
  replace hF := hF.trans (MB1.fr nowhere)
  have mm : Rd B1 H.size 0 [.slice av mv cv, .int .i64 (d : Int), .bool nl] := MB1.rd _ [] (by simp [Value.cells])
  have mm0 : cl B1 H.size 0 = some (.slice av mv cv) := mm 0 _ rfl
  have mm1 : cl B1 H.size (0 + 1) = some (.int .i64 (d : Int)) := mm 1 _ rfl
  refine O.asg rfl rfl rfl rfl rfl ?_
  refine Pl.fin [(1, _), (2, _), (3, _), (6, _)] ⟨rfl, rfl, rfl, rfl, trivial⟩ ?_
  refine Go'.seq ?_
  -- region 1 (treeg.go:200)
  refine Go'.region [(0, 2)] rfl ?_
  refine O.alloc rfl rfl rfl Go.Proofs.Try.zeroValue25 ?_
  intro H2 M2
  refine ⟨trivial, ?_⟩
  have hs2 := M2.size
  replace hF := hF.trans (M2.fr nowhere)
  replace mm := (M2.fr nowhere).rd mm (fun _ _ => nw)
  replace mm0 := (M2.fr nowhere).keep mm0 nw
  replace mm1 := (M2.fr nowhere).keep mm1 nw
  have hD : cl H2 B1.size 0 = some (.slice none 0 0) := (M2.cl 0).trans rfl
  have hw : Wr H2 B1.size 0 1 := M2.wr 1 (by decide)
  refine Pl.fin [(1, _), (2, _), (3, _), (6, _), (7, _)] ⟨rfl, rfl, rfl, rfl, rfl, trivial⟩ ?_
  refine Go'.seq ?_
  -- region 2 (treeg.go:201)
  refine Go'.region [(0, 1), (1, 0), (2, 2), (3, 0), (4, 2), (5, 2)] rfl ?_
  refine O.lds rfl rfl rfl (fun w => ⟨Go.Proofs.Try.isAgg24 w, Go.Proofs.Try.sizeOf24 w⟩) rfl rfl mm ?_
  refine O.mv rfl rfl rfl rfl rfl ?_
  refine O.call rfl rfl rfl Go.Proofs.Try.call68 rfl (grow_spec hd (ho.fr hF) hol (hi.fr hF) hll) ?_
  rintro _ H3 ⟨I, hIo, hIw, hIb, tr, S, rfl, hM, hF3, hS⟩
  have hs3 := hF3.size
  replace hF := hF.trans hF3
  replace mm := hF3.rd mm (fun _ _ => nw)
  replace mm0 := hF3.keep mm0 nw
  replace mm1 := hF3.keep mm1 nw
  replace hD := hF3.keep hD nw
  replace hw := hF3.wr hw
  have hSb : ∀ b, S b ∨ (b < cx.base ∧ cx.own b) → H2.size ≤ b := fun b hb => hb.elim (hS b) (fun h => hIw b h.2)
  have hOO : OO ord = OI := by rw [← hIo]; rfl
  have hpl := Pl.puts_length OI l
  have hSlt := hM.lt
  have hbs := hM.tc.hb
  unfold ptr
  refine ⟨trivial, ?_⟩
  refine O.mv rfl rfl rfl rfl rfl ?_
  refine O.call rfl rfl rfl Go.Proofs.Try.call107 rfl (taker_spec (n := n) hD hw) ?_
  rintro _ H4 ⟨b2, b3, rfl, hT, hF4⟩
  have hs4 := hF4.size
  replace hF := hF.trans hF4
  replace hM := hM.fr hF4 (fun _ _ _ => nw)
  refine ⟨trivial, ?_⟩
  refine O.call rfl rfl rfl Go.Proofs.Try.call106 rfl (Scan_spec (cbTk B b2 b3 B1.size n) Try.call152 hP hM hT (fun b hb hz => hz.elim (fun h => by have := hSb b (.inl hb); omega) (fun h => by have := hSlt b hb; omega)) (fun b hz hb => hz.elim (fun h => by have := hSb b (.inr hb); omega) (fun h => by omega)) (by omega)) ?_
  rintro _ H5 ⟨Z5, hT5, hF5, hZ5⟩
  obtain ⟨ov, hv, hov⟩ := TkT.out hT5
  rw [takes_first] at hov
  replace hF := hF.trans' hF5 (fun _ _ _ h => h) (fun b o hb hz => hz.elim (fun h => by omega) (fun h => by omega))
  refine ⟨trivial, ?_⟩
  refine Pl.fin [(6, _), (7, _)] ⟨rfl, rfl, trivial⟩ ?_
  refine Go'.seq ?_
  -- region 3 (treeg.go:202)
  refine Go'.region [(0, 1), (1, 0)] rfl ?_
  refine O.ld rfl rfl rfl (fun w => ⟨Go.Proofs.Try.isAgg25 w, Go.Proofs.Try.sizeOf25 w⟩) rfl hv ?_
  refine O.asg rfl rfl rfl rfl rfl ?_
  refine Pl.fin [(6, _)] ⟨rfl, trivial⟩ ?_
  refine Go'.ret (vs := [_]) Go.Proofs.Try.func57 Go.Proofs.Try.results57 ⟨rfl, trivial⟩ ?_
  rw [hOO]; exact ⟨hov, hF⟩

theorem fnGScans {B : World} {H : Mem} {z : Int} {nl : Bool} {v u : Value} {ord : List Int} {l : List (Int × Int)} (ho : InS EN H v ord) (hi : InS EJ H u l) :
    Fn Try.prog B 17 [.agg #[v, .int .i64 z, .bool nl], u] H (fun r H' => r = .bool true ∧ Fr nowhere H H') := by
  obtain ⟨a, c, hu⟩ := hi.len
  subst hu
  obtain ⟨av, mv, cv, hv⟩ := InS.form ho
  subst hv
  have hF : Fr nowhere H H := Fr.refl _ _
  refine fn_of Go.Proofs.Try.func17 rfl Go.Proofs.Try.ntmps17 ?_
  refine (show Go' _ _ _ _ 65 [(0, _), (1, _)] [.code _] _ from ?_)
  refine Go'.seq ?_
  -- region 0 (trees.go:202)
  refine Go'.region [(0, 2), (1, 0)] rfl ?_
  refine O.box rfl rfl rfl rfl ?_
  intro B1 MB1
  refine ⟨trivial, ?_⟩
  have hsB1 := MB1.size
  replace hF := hF.trans (MB1.fr nowhere)
  have mm : Rd B1 H.size 0 [.slice av mv cv, .int .i64 z, .bool nl] := MB1.rd _ [] (by simp [Value.cells])
  have mm0 : cl B1 H.size 0 = some (.slice av mv cv) := mm 0 _ rfl
  have mm1 : cl B1 H.size (0 + 1) = some (.int .i64 z) := mm 1 _ rfl
  refine O.asg rfl rfl rfl rfl rfl ?_
  refine Pl.fin [(1, _), (2, _), (4, _)] ⟨rfl, rfl, rfl, trivial⟩ ?_
  refine Go'.seq ?_
  refine Go'.seq ?_
  cases hoz : decide (ord.length ≤ 2147483647)
  · skip
    -- region 1 (trees.go:203)
    refine Go'.region [(0, 1), (1, 2), (2, 0), (3, 0), (4, 0), (5, 0), (6, 0), (7, 0)] rfl ?_
    refine O.lds rfl rfl rfl (fun w => ⟨Go.Proofs.Try.isAgg24 w, Go.Proofs.Try.sizeOf24 w⟩) rfl rfl mm ?_
    refine O.call rfl rfl rfl Go.Proofs.Try.call23 rfl (zzFits1_spec (ho.fr hF) hoz) ?_
    rintro _ Hz ⟨rfl, hFz⟩
    replace hF := hF.trans hFz
    replace mm := hFz.rd mm (fun _ _ => nw)
    replace mm0 := hFz.keep mm0 nw
    replace mm1 := hFz.keep mm1 nw
    refine ⟨trivial, ?_⟩
    refine O.not rfl rfl rfl rfl rfl ?_
    refine O.mv rfl rfl rfl rfl rfl ?_
    refine Pl.pass rfl rfl rfl rfl ?_
    refine Pl.pass rfl rfl rfl rfl ?_
    refine Pl.pass rfl rfl rfl rfl ?_
    refine O.pick rfl rfl rfl rfl rfl rfl ?_
    refine Pl.fin [(1, _), (2, _), (4, _), (13, _)] ⟨rfl, rfl, rfl, rfl, trivial⟩ ?_
    refine Go'.condT rfl ?_
    refine Go'.seq ?_
    -- region 2 (trees.go:204)
    refine Go'.region [(0, 0)] rfl ?_
    refine O.asg rfl rfl rfl rfl rfl ?_
    refine Pl.fin [(1, _), (2, _), (4, _)] ⟨rfl, rfl, rfl, trivial⟩ ?_
    refine Go'.ret (vs := [_]) Go.Proofs.Try.func17 Go.Proofs.Try.results17 ⟨rfl, trivial⟩ ?_
    exact ⟨rfl, hF⟩
  · skip
    have hoz2 := of_decide_eq_true hoz
    by_cases hb_lenl : (2147483647 : Int) < (l.length : Int)
    · skip
      -- region 1 (trees.go:203)
      refine Go'.region [(0, 1), (1, 2), (2, 0), (3, 0), (4, 0), (5, 0), (6, 0), (7, 0)] rfl ?_
      refine O.lds rfl rfl rfl (fun w => ⟨Go.Proofs.Try.isAgg24 w, Go.Proofs.Try.sizeOf24 w⟩) rfl rfl mm ?_
      refine O.call rfl rfl rfl Go.Proofs.Try.call23 rfl (zzFits1_spec (ho.fr hF) hoz) ?_
      rintro _ Hz ⟨rfl, hFz⟩
      replace hF := hF.trans hFz
      replace mm := hFz.rd mm (fun _ _ => nw)
      replace mm0 := hFz.keep mm0 nw
      replace mm1 := hFz.keep mm1 nw
      refine ⟨trivial, ?_⟩
      refine O.not rfl rfl rfl rfl rfl ?_
      refine O.mv rfl rfl rfl rfl rfl ?_
      refine O.mv rfl rfl rfl rfl rfl ?_
      refine O.len rfl rfl rfl rfl Go.Proofs.Try.underlying25 rfl ?_
      refine O.cmp rfl rfl rfl rfl rfl rfl (gtrT (by omega)) ?_
      refine O.pick rfl rfl rfl rfl rfl rfl ?_
      refine Pl.fin [(1, _), (2, _), (4, _), (13, _)] ⟨rfl, rfl, rfl, rfl, trivial⟩ ?_
      refine Go'.condT rfl ?_
      refine Go'.seq ?_
      -- region 2 (trees.go:204)
      refine Go'.region [(0, 0)] rfl ?_
      refine O.asg rfl rfl rfl rfl rfl ?_
      refine Pl.fin [(1, _), (2, _), (4, _)] ⟨rfl, rfl, rfl, trivial⟩ ?_
      refine Go'.ret (vs := [_]) Go.Proofs.Try.func17 Go.Proofs.Try.results17 ⟨rfl, trivial⟩ ?_
      exact ⟨rfl, hF⟩
    · skip
      -- region 1 (trees.go:203)
      refine Go'.region [(0, 1), (1, 2), (2, 0), (3, 0), (4, 0), (5, 0), (6, 0), (7, 0)] rfl ?_
      refine O.lds rfl rfl rfl (fun w => ⟨Go.Proofs.Try.isAgg24 w, Go.Proofs.Try.sizeOf24 w⟩) rfl rfl mm ?_
      refine O.call rfl rfl rfl Go.Proofs.Try.call23 rfl (zzFits1_spec (ho.fr hF) hoz) ?_
      rintro _ Hz ⟨rfl, hFz⟩
      replace hF := hF.trans hFz
      replace mm := hFz.rd mm (fun _ _ => nw)
      replace mm0 := hFz.keep mm0 nw
      replace mm1 := hFz.keep mm1 nw
      refine ⟨trivial, ?_⟩
      refine O.not rfl rfl rfl rfl rfl ?_
      refine O.mv rfl rfl rfl rfl rfl ?_
      refine O.mv rfl rfl rfl rfl rfl ?_
      refine O.len rfl rfl rfl rfl Go.Proofs.Try.underlying25 rfl ?_
      refine O.cmp rfl rfl rfl rfl rfl rfl (gtrF (by omega)) ?_
      refine O.pick rfl rfl rfl rfl rfl rfl ?_
      refine Pl.fin [(1, _), (2, _), (4, _), (13, _)] ⟨rfl, rfl, rfl, rfl, trivial⟩ ?_
      refine Go'.condF rfl ?_
      refine Go'.skip ?_
      refine Go'.seq ?_
      refine Go'.seq ?_
      have hpl := Pl.puts_length (OO ord) l
      have hsrt := Pl.puts_srt (OO ord) l
      cases hfz : fitsb z
      · skip
        -- region 3 (trees.go:206)
        refine Go'.region [(0, 1), (1, 2), (2, 0)] rfl ?_
        refine O.lds rfl rfl rfl (fun w => ⟨Go.Proofs.Try.isAgg24 w, Go.Proofs.Try.sizeOf24 w⟩) rfl rfl mm ?_
        refine O.call rfl rfl rfl Go.Proofs.Try.call24 rfl (lfits_spec ⟨_, _, _, rfl⟩ hfz) ?_
        rintro _ H6 ⟨rfl, hF6⟩
        replace hF := hF.trans hF6
        replace mm := hF6.rd mm (fun _ _ => nw)
        replace mm0 := hF6.keep mm0 nw
        replace mm1 := hF6.keep mm1 nw
        refine ⟨trivial, ?_⟩
        refine O.not rfl rfl rfl rfl rfl ?_
        refine Pl.fin [(1, _), (2, _), (4, _), (16, _)] ⟨rfl, rfl, rfl, rfl, trivial⟩ ?_
        refine Go'.condT rfl ?_
        refine Go'.seq ?_
        -- region 4 (trees.go:207)
        refine Go'.region [(0, 2), (1, 0)] rfl ?_
        refine O.call rfl rfl rfl Go.Proofs.Try.call25 rfl alive_spec ?_
        rintro _ Hv ⟨rfl, hFv⟩
        replace hF := hF.trans hFv
        replace mm := hFv.rd mm (fun _ _ => nw)
        replace mm0 := hFv.keep mm0 nw
        replace mm1 := hFv.keep mm1 nw
        refine ⟨trivial, ?_⟩
        refine O.asg rfl rfl rfl rfl rfl ?_
        refine Pl.fin [(1, _), (2, _), (4, _)] ⟨rfl, rfl, rfl, trivial⟩ ?_
        refine Go'.ret (vs := [_]) Go.Proofs.Try.func17 Go.Proofs.Try.results17 ⟨rfl, trivial⟩ ?_
        exact ⟨rfl, hF⟩
      · skip
        obtain ⟨d, rfl, hd⟩ := fitsb_nat hfz
        -- region 3 (trees.go:206)
        refine Go'.region [(0, 1), (1, 2), (2, 0)] rfl ?_
        refine O.lds rfl rfl rfl (fun w => ⟨Go.Proofs.Try.isAgg24 w, Go.Proofs.Try.sizeOf24 w⟩) rfl rfl mm ?_
        refine O.call rfl rfl rfl Go.Proofs.Try.call24 rfl (lfits_spec ⟨_, _, _, rfl⟩ hfz) ?_
        rintro _ H6 ⟨rfl, hF6⟩
        replace hF := hF.trans hF6
        replace mm := hF6.rd mm (fun _ _ => nw)
        replace mm0 := hF6.keep mm0 nw
        replace mm1 := hF6.keep mm1 nw
        refine ⟨trivial, ?_⟩
        refine O.not rfl rfl rfl rfl rfl ?_
        refine Pl.fin [(1, _), (2, _), (4, _), (16, _)] ⟨rfl, rfl, rfl, rfl, trivial⟩ ?_
        refine Go'.condF rfl ?_
        refine Go'.skip ?_
        refine Go'.seq ?_
        -- region 5 (trees.go:209)
        refine Go'.region [(0, 1), (1, 0), (2, 2), (3, 0)] rfl ?_
        refine O.lds rfl rfl rfl (fun w => ⟨Go.Proofs.Try.isAgg24 w, Go.Proofs.Try.sizeOf24 w⟩) rfl rfl mm ?_
        refine O.mv rfl rfl rfl rfl rfl ?_
        refine O.call rfl rfl rfl Go.Proofs.Try.call43 rfl (igitems_spec hd (ho.fr hF) (by omega) (hi.fr hF) (by omega)) ?_
        rintro g8 H8 ⟨hg8, hF8⟩
        replace hF := hF.trans hF8
        replace mm := hF8.rd mm (fun _ _ => nw)
        replace mm0 := hF8.keep mm0 nw
        replace mm1 := hF8.keep mm1 nw
        have hI := hg8.inS
        obtain ⟨ga, gc, hge⟩ := hI.len
        subst hge
        generalize hL : Pl.puts (OO ord) l = L at *
        refine ⟨trivial, ?_⟩
        refine O.asg rfl rfl rfl rfl rfl ?_
        refine Pl.fin [(1, _), (2, _), (4, _), (5, _)] ⟨rfl, rfl, rfl, rfl, trivial⟩ ?_
        refine Go'.seq ?_
        refine Go'.seq ?_
        have hrl : L.reverse.length = L.length := List.length_reverse
        -- region 6 (trees.go:210)
        refine Go'.region [(0, 1), (1, 0), (2, 2), (3, 0), (4, 2), (5, 0), (6, 0), (7, 1), (8, 0), (9, 2), (10, 0), (11, 2), (12, 2), (13, 0), (14, 0)] rfl ?_
        refine O.lds rfl rfl rfl (fun w => ⟨Go.Proofs.Try.isAgg24 w, Go.Proofs.Try.sizeOf24 w⟩) rfl rfl mm ?_
        refine O.mv rfl rfl rfl rfl rfl ?_
        refine O.call rfl rfl rfl Go.Proofs.Try.call57 rfl (igscan_spec hd (ho.fr hF) (by omega) (hi.fr hF) (by omega) (n := 0)) ?_
        rintro v9 H9 ⟨h9, hF9⟩
        replace hF := hF.trans hF9
        replace mm := hF9.rd mm (fun _ _ => nw)
        replace mm0 := hF9.keep mm0 nw
        replace mm1 := hF9.keep mm1 nw
        replace hI := hI.fr hF9
        rw [firstN_0, hL] at h9
        refine ⟨trivial, ?_⟩
        refine O.mv rfl rfl rfl rfl rfl ?_
        refine O.callQ rfl rfl rfl Go.Proofs.Try.call28 rfl (eqItems_spec h9.inS hI (by omega)) trivial ?_
        refine O.not rfl rfl rfl rfl rfl ?_
        refine O.mv rfl rfl rfl rfl rfl ?_
        refine O.lds rfl rfl rfl (fun w => ⟨Go.Proofs.Try.isAgg24 w, Go.Proofs.Try.sizeOf24 w⟩) rfl rfl mm ?_
        refine O.mv rfl rfl rfl rfl rfl ?_
        refine O.call rfl rfl rfl Go.Proofs.Try.call58 rfl (igreverse_spec hd (ho.fr hF) (by omega) (hi.fr hF) (by omega) (n := 0)) ?_
        rintro v10 H10 ⟨h10, hF10⟩
        replace hF := hF.trans hF10
        replace mm := hF10.rd mm (fun _ _ => nw)
        replace mm0 := hF10.keep mm0 nw
        replace mm1 := hF10.keep mm1 nw
        replace hI := hI.fr hF10
        rw [firstN_0, hL] at h10
        refine ⟨trivial, ?_⟩
        refine O.mv rfl rfl rfl rfl rfl ?_
        refine O.call rfl rfl rfl Go.Proofs.Try.call44 rfl (SI.turnedA_spec hI (by omega)) ?_
        rintro v11 H11 ⟨h11, hF11⟩
        replace hF := hF.trans hF11
        replace mm := hF11.rd mm (fun _ _ => nw)
        replace mm0 := hF11.keep mm0 nw
        replace mm1 := hF11.keep mm1 nw
        replace hI := hI.fr hF11
        refine ⟨trivial, ?_⟩
        refine O.callQ rfl rfl rfl Go.Proofs.Try.call28 rfl (eqItems_spec (h10.inS.fr hF11) h11.inS (by omega)) trivial ?_
        refine O.not rfl rfl rfl rfl rfl ?_
        refine O.pick rfl rfl rfl rfl rfl rfl ?_
        refine Pl.fin [(1, _), (2, _), (4, _), (5, _), (35, _)] ⟨rfl, rfl, rfl, rfl, rfl, trivial⟩ ?_
        refine Go'.condF rfl ?_
        refine Go'.skip ?_
        refine Go'.seq ?_
        refine Go'.seq ?_
        by_cases h0 : L.length = 0
        · skip
          -- region 8 (trees.go:213)
          refine Go'.region [(0, 0), (1, 0), (2, 0)] rfl ?_
          refine O.mv rfl rfl rfl rfl rfl ?_
          refine O.len rfl rfl rfl rfl Go.Proofs.Try.underlying25 rfl ?_
          refine O.cmp rfl rfl rfl rfl rfl rfl (eqlT (by omega)) ?_
          refine Pl.fin [(1, _), (2, _), (4, _), (5, _), (38, _)] ⟨rfl, rfl, rfl, rfl, rfl, trivial⟩ ?_
          refine Go'.condT rfl ?_
          refine Go'.seq ?_
          -- region 9 (trees.go:214)
          refine Go'.region [(0, 2), (1, 0)] rfl ?_
          refine O.call rfl rfl rfl Go.Proofs.Try.call25 rfl alive_spec ?_
          rintro _ Hv ⟨rfl, hFv⟩
          replace hF := hF.trans hFv
          replace mm := hFv.rd mm (fun _ _ => nw)
          replace mm0 := hFv.keep mm0 nw
          replace mm1 := hFv.keep mm1 nw
          refine ⟨trivial, ?_⟩
          refine O.asg rfl rfl rfl rfl rfl ?_
          refine Pl.fin [(1, _), (2, _), (4, _), (5, _)] ⟨rfl, rfl, rfl, rfl, trivial⟩ ?_
          refine Go'.ret (vs := [_]) Go.Proofs.Try.func17 Go.Proofs.Try.results17 ⟨rfl, trivial⟩ ?_
          exact ⟨rfl, hF⟩
        · skip
          -- region 8 (trees.go:213)
          refine Go'.region [(0, 0), (1, 0), (2, 0)] rfl ?_
          refine O.mv rfl rfl rfl rfl rfl ?_
          refine O.len rfl rfl rfl rfl Go.Proofs.Try.underlying25 rfl ?_
          refine O.cmp rfl rfl rfl rfl rfl rfl (eqlF (by omega)) ?_
          refine Pl.fin [(1, _), (2, _), (4, _), (5, _), (38, _)] ⟨rfl, rfl, rfl, rfl, rfl, trivial⟩ ?_
          refine Go'.condF rfl ?_
          refine Go'.skip ?_
          refine Go'.seq ?_
          obtain ⟨x0, hx0⟩ : ∃ x, L[0]? = some x := ⟨L[0]'(by omega), List.getElem?_eq_getElem (by omega)⟩
          obtain ⟨xn, hxn⟩ : ∃ x, L[L.length - 1]? = some x := ⟨L[L.length - 1]'(by omega), List.getElem?_eq_getElem (by omega)⟩
          obtain ⟨b, o, c', e, hr0⟩ := hI.at hx0
          cases e
          obtain ⟨b', o', c', e, hrn⟩ := hI.at hxn
          cases e
          have hu0 := up_first hsrt hx0
          have hdn := dn_last hsrt hxn
          -- region 10 (trees.go:216)
          refine Go'.draw (fun _ => True) [(0, 1), (1, 0), (2, 0), (3, 0), (4, 1), (6, 0), (5, 2), (7, 2), (8, 0), (9, 1), (10, 0), (11, 0), (12, 0), (13, 0), (14, 0), (15, 0), (16, 1), (18, 0), (17, 2), (19, 2), (20, 2), (21, 0), (22, 0), (23, 2), (24, 0), (25, 0)] (by kernel_rfl) (by kernel_rfl) (trivial) ?_
          refine O.lds rfl rfl rfl (fun w => ⟨Go.Proofs.Try.isAgg24 w, Go.Proofs.Try.sizeOf24 w⟩) rfl rfl mm ?_
          refine O.mv rfl rfl rfl rfl rfl ?_
          refine O.mv rfl rfl rfl rfl rfl ?_
          refine O.ix (j := 0) rfl rfl rfl rfl Go.Proofs.Try.underlying25 Go.Proofs.Try.sizeOf27 rfl rfl rfl (by omega) ?_
          refine O.lds rfl rfl rfl (fun w => ⟨Go.Proofs.Try.isAgg27 w, Go.Proofs.Try.sizeOf27 w⟩) rfl rfl hr0 ?_
          refine O.mv rfl rfl rfl rfl rfl ?_
          refine O.call rfl rfl rfl Go.Proofs.Try.call59 rfl (igascend_spec hd (ho.fr hF) (by omega) (hi.fr hF) (by omega) x0 (n := 0)) ?_
          rintro v12 H12 ⟨h12, hF12⟩
          replace hF := hF.trans hF12
          replace mm := hF12.rd mm (fun _ _ => nw)
          replace mm0 := hF12.keep mm0 nw
          replace mm1 := hF12.keep mm1 nw
          replace hI := hI.fr hF12
          replace hr0 := hF12.rd hr0 (fun _ _ => nw)
          replace hrn := hF12.rd hrn (fun _ _ => nw)
          rw [firstN_0, hL, hu0] at h12
          refine ⟨trivial, ?_⟩
          refine O.callQ rfl rfl rfl Go.Proofs.Try.call28 rfl (eqItems_spec h12.inS hI (by omega)) trivial ?_
          refine O.mv rfl rfl rfl rfl rfl ?_
          refine O.lds rfl rfl rfl (fun w => ⟨Go.Proofs.Try.isAgg24 w, Go.Proofs.Try.sizeOf24 w⟩) rfl rfl mm ?_
          refine O.mv rfl rfl rfl rfl rfl ?_
          refine O.mv rfl rfl rfl rfl rfl ?_
          refine O.mv rfl rfl rfl rfl rfl ?_
          refine O.len rfl rfl rfl rfl Go.Proofs.Try.underlying25 rfl ?_
          refine O.sub (((L.length - 1 : Nat) : Int)) rfl rfl rfl rfl rfl rfl (by omega) (by omega) ?_
          refine O.ix (j := L.length - 1) rfl rfl rfl rfl Go.Proofs.Try.underlying25 Go.Proofs.Try.sizeOf27 rfl rfl (by omega) (by omega) ?_
          refine O.lds rfl rfl rfl (fun w => ⟨Go.Proofs.Try.isAgg27 w, Go.Proofs.Try.sizeOf27 w⟩) rfl rfl hrn ?_
          refine O.mv rfl rfl rfl rfl rfl ?_
          refine O.call rfl rfl rfl Go.Proofs.Try.call60 rfl (igdescend_spec hd (ho.fr hF) (by omega) (hi.fr hF) (by omega) xn (n := 0)) ?_
          rintro v13 H13 ⟨h13, hF13⟩
          replace hF := hF.trans hF13
          replace mm := hF13.rd mm (fun _ _ => nw)
          replace mm0 := hF13.keep mm0 nw
          replace mm1 := hF13.keep mm1 nw
          replace hI := hI.fr hF13
          replace hr0 := hF13.rd hr0 (fun _ _ => nw)
          replace hrn := hF13.rd hrn (fun _ _ => nw)
          rw [firstN_0, hL, hdn] at h13
          refine ⟨trivial, ?_⟩
          refine O.call rfl rfl rfl Go.Proofs.Try.call44 rfl (SI.turnedA_spec hI (by omega)) ?_
          rintro v14 H14 ⟨h14, hF14⟩
          replace hF := hF.trans hF14
          replace mm := hF14.rd mm (fun _ _ => nw)
          replace mm0 := hF14.keep mm0 nw
          replace mm1 := hF14.keep mm1 nw
          replace hI := hI.fr hF14
          replace hr0 := hF14.rd hr0 (fun _ _ => nw)
          replace hrn := hF14.rd hrn (fun _ _ => nw)
          refine ⟨trivial, ?_⟩
          refine O.callQ rfl rfl rfl Go.Proofs.Try.call28 rfl (eqItems_spec (h13.inS.fr hF14) h14.inS (by omega)) trivial ?_
          refine O.pick rfl rfl rfl rfl rfl rfl ?_
          refine O.mv rfl rfl rfl rfl rfl ?_
          refine O.call rfl rfl rfl Go.Proofs.Try.call25 rfl alive_spec ?_
          rintro _ Hv ⟨rfl, hFv⟩
          replace hF := hF.trans hFv
          replace mm := hFv.rd mm (fun _ _ => nw)
          replace mm0 := hFv.keep mm0 nw
          replace mm1 := hFv.keep mm1 nw
          replace hI := hI.fr hFv
          replace hr0 := hFv.rd hr0 (fun _ _ => nw)
          replace hrn := hFv.rd hrn (fun _ _ => nw)
          refine ⟨trivial, ?_⟩
          refine O.pick rfl rfl rfl rfl rfl rfl ?_
          refine O.asg rfl rfl rfl rfl rfl ?_
          refine Pl.fin [(4, _)] ⟨rfl, trivial⟩ ?_
          refine Go'.ret (vs := [_]) Go.Proofs.Try.func17 Go.Proofs.Try.results17 ⟨rfl, trivial⟩ ?_
          exact ⟨rfl, hF⟩

end Go.Bt.FG
