/- Contracts of functions of the program, proved by walking through their code. Conditions: those that each theorem names. -/
import Derived.Test.YtmboghgpakhceaaTogM
namespace Go.Bt.FG
open Go Go.Proofs
set_option maxRecDepth 20000
set_option maxHeartbeats 4000000
set_option linter.unusedVariables false
set_option linter.unusedSectionVars false

theorem iglen_spec {B : World} {H : Mem} {d : Nat} {nl : Bool} {v u : Value} {ord : List Int} {l : List (Int × Int)} (hd : d = 0 ∨ 2 ≤ d ∧ d ≤ 128) (ho : InS EN H v ord) (hol : ord.length ≤ 4294967296) (hi : InS EJ H u l) (hll : l.length ≤ 4294967296) :
    Fn Try.prog B 78 [.agg #[v, .int .i64 (d : Int), .bool nl], u] H (fun r H' => r = .int .i64 ((Pl.puts (OO ord) l).length : Int) ∧ Fr nowhere H H') := by
  obtain ⟨a, c, hu⟩ := hi.len
  subst hu
  obtain ⟨av, mv, cv, hv⟩ := InS.form ho
  subst hv
  have hF : Fr nowhere H H := Fr.refl _ _
  have hP := PD_ok hd
  refine fn_of Go.Proofs.Try.func78 rfl Go.Proofs.Try.ntmps78 ?_
  refine (show Go' _ _ _ _ 9 [(0, _), (1, _)] [.code _] _ from ?_)
  refine Go'.seq ?_
  -- region 0 (treeg.go:179)
  refine Go'.region [(0, 2), (1, 0)] rfl ?_
  refine O.box rfl rfl rfl rfl ?_
  intro B1 MB1
  refine ⟨trivial, ?_⟩
  have hsB1 := MB1.size
  replace hF := hF.trans (MB1.fr nowhere)
  have mm : Rd B1 H.size 0 [.slice av mv cv, .int .i64 (d : Int), .bool nl] := MB1.rd _ [] (by simp [Value.cells])
  have mm0 : cl B1 H.size 0 = some (.slice av mv cv) := mm 0 _ rfl
  have mm1 : cl B1 H.size (0 + 1) = some (.int .i64 (d : Int)) := mm 1 _ rfl
  refine O.asg rfl rfl rfl rfl rfl ?_
  refine Pl.fin [(1, _), (2, _), (4, _)] ⟨rfl, rfl, rfl, trivial⟩ ?_
  refine Go'.seq ?_
  -- region 1 (treeg.go:180)
  refine Go'.region [(0, 1), (1, 0), (2, 2), (3, 2), (4, 0)] rfl ?_
  refine O.lds rfl rfl rfl (fun w => ⟨Go.Proofs.Try.isAgg24 w, Go.Proofs.Try.sizeOf24 w⟩) rfl rfl mm ?_
  refine O.mv rfl rfl rfl rfl rfl ?_
  refine O.call rfl rfl rfl Go.Proofs.Try.call68 rfl (grow_spec hd (ho.fr hF) hol (hi.fr hF) hll) ?_
  rintro _ H3 ⟨I, hIo, hIw, hIb, tr, S, rfl, hM, hF3, hS⟩
  have hs3 := hF3.size
  replace hF := hF.trans hF3
  replace mm := hF3.rd mm (fun _ _ => nw)
  replace mm0 := hF3.keep mm0 nw
  replace mm1 := hF3.keep mm1 nw
  have hSb : ∀ b, S b ∨ (b < cx.base ∧ cx.own b) → B1.size ≤ b := fun b hb => hb.elim (hS b) (fun h => hIw b h.2)
  have hOO : OO ord = OI := by rw [← hIo]; rfl
  have hpl := Pl.puts_length OI l
  unfold ptr
  refine ⟨trivial, ?_⟩
  refine O.callQ rfl rfl rfl Go.Proofs.Try.call134 rfl (len_spec hM) trivial ?_
  refine O.asg rfl rfl rfl rfl rfl ?_
  refine Pl.fin [(4, _)] ⟨rfl, trivial⟩ ?_
  refine Go'.ret (vs := [_]) Go.Proofs.Try.func78 Go.Proofs.Try.results78 ⟨rfl, trivial⟩ ?_
  rw [hOO]; exact ⟨rfl, hF⟩

theorem lawGLen_spec {B : World} {H : Mem} {d : Nat} {nl : Bool} {v u : Value} {ord : List Int} {l : List (Int × Int)} (hd : d = 0 ∨ 2 ≤ d ∧ d ≤ 128) (ho : InS EN H v ord) (hol : ord.length ≤ 4294967296) (hi : InS EJ H u l) (hll : l.length ≤ 4294967296) :
    Fn Try.prog B 31 [.agg #[v, .int .i64 (d : Int), .bool nl], u] H (fun r H' => r = .bool true ∧ Fr nowhere H H') := by
  obtain ⟨a, c, hu⟩ := hi.len
  subst hu
  obtain ⟨av, mv, cv, hv⟩ := InS.form ho
  subst hv
  have hF : Fr nowhere H H := Fr.refl _ _
  have hP := PD_ok hd
  refine fn_of Go.Proofs.Try.func31 rfl Go.Proofs.Try.ntmps31 ?_
  refine (show Go' _ _ _ _ 18 [(0, _), (1, _)] [.code _] _ from ?_)
  refine Go'.seq ?_
  -- region 0 (exact.go:258)
  refine Go'.region [(0, 2), (1, 0)] rfl ?_
  refine O.box rfl rfl rfl rfl ?_
  intro B1 MB1
  refine ⟨trivial, ?_⟩
  have hsB1 := MB1.size
  replace hF := hF.trans (MB1.fr nowhere)
  have mm : Rd B1 H.size 0 [.slice av mv cv, .int .i64 (d : Int), .bool nl] := MB1.rd _ [] (by simp [Value.cells])
  have mm0 : cl B1 H.size 0 = some (.slice av mv cv) := mm 0 _ rfl
  have mm1 : cl B1 H.size (0 + 1) = some (.int .i64 (d : Int)) := mm 1 _ rfl
  refine O.asg rfl rfl rfl rfl rfl ?_
  refine Pl.fin [(1, _), (2, _), (4, _)] ⟨rfl, rfl, rfl, trivial⟩ ?_
  refine Go'.seq ?_
  -- region 1 (exact.go:259)
  refine Go'.region [(0, 1), (1, 0), (2, 2), (3, 0)] rfl ?_
  refine O.lds rfl rfl rfl (fun w => ⟨Go.Proofs.Try.isAgg24 w, Go.Proofs.Try.sizeOf24 w⟩) rfl rfl mm ?_
  refine O.mv rfl rfl rfl rfl rfl ?_
  refine O.call rfl rfl rfl Go.Proofs.Try.call78 rfl (iglen_spec hd (ho.fr hF) hol (hi.fr hF) hll) ?_
  rintro _ H3 ⟨rfl, hF3⟩
  replace hF := hF.trans hF3
  replace mm := hF3.rd mm (fun _ _ => nw)
  replace mm0 := hF3.keep mm0 nw
  replace mm1 := hF3.keep mm1 nw
  refine ⟨trivial, ?_⟩
  refine O.asg rfl rfl rfl rfl rfl ?_
  refine Pl.fin [(1, _), (2, _), (4, _), (5, _)] ⟨rfl, rfl, rfl, rfl, trivial⟩ ?_
  refine Go'.seq ?_
  -- region 2 (exact.go:260)
  refine Go'.region [(0, 0), (1, 1), (2, 0), (3, 2), (4, 0), (5, 0)] rfl ?_
  refine O.faz rfl rfl rfl rfl ⟨_, _, _, Go.Proofs.Try.underlying24, rfl, rfl, Go.Proofs.Try.sizeOf22⟩ rfl ?_
  refine O.ld rfl rfl rfl (fun w => ⟨Go.Proofs.Try.isAgg22 w, Go.Proofs.Try.sizeOf22 w⟩) rfl mm0 ?_
  refine O.mv rfl rfl rfl rfl rfl ?_
  refine O.call rfl rfl rfl Go.Proofs.Try.call42 rfl (tree_spec (ho.fr hF) (by omega) (hi.fr hF) hll) ?_
  rintro tv H4 ⟨hA4, hF4⟩
  replace hF := hF.trans hF4
  replace mm := hF4.rd mm (fun _ _ => nw)
  replace mm0 := hF4.keep mm0 nw
  replace mm1 := hF4.keep mm1 nw
  obtain ⟨ta, tc, rfl⟩ := hA4.inS.len
  refine ⟨trivial, ?_⟩
  refine O.len rfl rfl rfl rfl Go.Proofs.Try.underlying25 rfl ?_
  refine O.asg rfl rfl rfl rfl rfl ?_
  refine Pl.fin [(4, _), (5, _), (6, _)] ⟨rfl, rfl, rfl, trivial⟩ ?_
  refine Go'.seq ?_
  -- region 3 (exact.go:261)
  refine Go'.region [(0, 0), (1, 0), (2, 0), (3, 0)] rfl ?_
  refine O.mv rfl rfl rfl rfl rfl ?_
  refine O.mv rfl rfl rfl rfl rfl ?_
  refine O.cmp rfl rfl rfl rfl rfl rfl (eqlT (by omega)) ?_
  refine O.asg rfl rfl rfl rfl rfl ?_
  refine Pl.fin [(4, _)] ⟨rfl, trivial⟩ ?_
  refine Go'.ret (vs := [_]) Go.Proofs.Try.func31 Go.Proofs.Try.results31 ⟨rfl, trivial⟩ ?_
  exact ⟨rfl, hF⟩

theorem fnExactGLen {B : World} {H : Mem} {z : Int} {nl : Bool} {v u : Value} {ord : List Int} {l : List (Int × Int)} (ho : InS EN H v ord) (hi : InS EJ H u l) :
    Fn Try.prog B 5 [.agg #[v, .int .i64 z, .bool nl], u] H (fun r H' => r = .bool true ∧ Fr nowhere H H') := by
  obtain ⟨a, c, hu⟩ := hi.len
  subst hu
  obtain ⟨av, mv, cv, hv⟩ := InS.form ho
  subst hv
  have hF : Fr nowhere H H := Fr.refl _ _
  refine fn_of Go.Proofs.Try.func5 rfl Go.Proofs.Try.ntmps5 ?_
  refine (show Go' _ _ _ _ 27 [(0, _), (1, _)] [.code _] _ from ?_)
  refine Go'.seq ?_
  -- region 0 (exact.go:251)
  refine Go'.region [(0, 2), (1, 0)] rfl ?_
  refine O.box rfl rfl rfl rfl ?_
  intro B1 MB1
  refine ⟨trivial, ?_⟩
  have hsB1 := MB1.size
  replace hF := hF.trans (MB1.fr nowhere)
  have mm : Rd B1 H.size 0 [.slice av mv cv, .int .i64 z, .bool nl] := MB1.rd _ [] (by simp [Value.cells])
  have mm0 : cl B1 H.size 0 = some (.slice av mv cv) := mm 0 _ rfl
  have mm1 : cl B1 H.size (0 + 1) = some (.int .i64 z) := mm 1 _ rfl
  refine O.asg rfl rfl rfl rfl rfl ?_
  refine Pl.fin [(1, _), (2, _), (4, _)] ⟨rfl, rfl, rfl, trivial⟩ ?_
  refine Go'.seq ?_
  refine Go'.seq ?_
  cases hoz : decide (ord.length ≤ 2147483647)
  · skip
    -- region 1 (exact.go:252)
    refine Go'.region [(0, 1), (1, 2), (2, 0), (3, 0), (4, 0), (5, 0), (6, 0), (7, 0)] rfl ?_
    refine O.lds rfl rfl rfl (fun w => ⟨Go.Proofs.Try.isAgg24 w, Go.Proofs.Try.sizeOf24 w⟩) rfl rfl mm ?_
    refine O.call rfl rfl rfl Go.Proofs.Try.call23 rfl (zzFits1_spec (ho.fr hF) hoz) ?_
    rintro _ H1 ⟨rfl, hF1⟩
    replace hF := hF.trans hF1
    replace mm := hF1.rd mm (fun _ _ => nw)
    replace mm0 := hF1.keep mm0 nw
    replace mm1 := hF1.keep mm1 nw
    refine ⟨trivial, ?_⟩
    refine O.not rfl rfl rfl rfl rfl ?_
    refine O.mv rfl rfl rfl rfl rfl ?_
    refine Pl.pass rfl rfl rfl rfl ?_
    refine Pl.pass rfl rfl rfl rfl ?_
    refine Pl.pass rfl rfl rfl rfl ?_
    refine O.pick rfl rfl rfl rfl rfl rfl ?_
    refine Pl.fin [(1, _), (2, _), (4, _), (12, _)] ⟨rfl, rfl, rfl, rfl, trivial⟩ ?_
    refine Go'.condT rfl ?_
    refine Go'.seq ?_
    -- region 2 (exact.go:253)
    refine Go'.region [(0, 0)] rfl ?_
    refine O.asg rfl rfl rfl rfl rfl ?_
    refine Pl.fin [(1, _), (2, _), (4, _)] ⟨rfl, rfl, rfl, trivial⟩ ?_
    refine Go'.ret (vs := [_]) Go.Proofs.Try.func5 Go.Proofs.Try.results5 ⟨rfl, trivial⟩ ?_
    exact ⟨rfl, hF⟩
  · skip
    have hoz2 := of_decide_eq_true hoz
    by_cases hb_lenl : (2147483647 : Int) < (l.length : Int)
    · skip
      -- region 1 (exact.go:252)
      refine Go'.region [(0, 1), (1, 2), (2, 0), (3, 0), (4, 0), (5, 0), (6, 0), (7, 0)] rfl ?_
      refine O.lds rfl rfl rfl (fun w => ⟨Go.Proofs.Try.isAgg24 w, Go.Proofs.Try.sizeOf24 w⟩) rfl rfl mm ?_
      refine O.call rfl rfl rfl Go.Proofs.Try.call23 rfl (zzFits1_spec (ho.fr hF) hoz) ?_
      rintro _ H1 ⟨rfl, hF1⟩
      replace hF := hF.trans hF1
      replace mm := hF1.rd mm (fun _ _ => nw)
      replace mm0 := hF1.keep mm0 nw
      replace mm1 := hF1.keep mm1 nw
      refine ⟨trivial, ?_⟩
      refine O.not rfl rfl rfl rfl rfl ?_
      refine O.mv rfl rfl rfl rfl rfl ?_
      refine O.mv rfl rfl rfl rfl rfl ?_
      refine O.len rfl rfl rfl rfl Go.Proofs.Try.underlying25 rfl ?_
      refine O.cmp rfl rfl rfl rfl rfl rfl (gtrT (by omega)) ?_
      refine O.pick rfl rfl rfl rfl rfl rfl ?_
      refine Pl.fin [(1, _), (2, _), (4, _), (12, _)] ⟨rfl, rfl, rfl, rfl, trivial⟩ ?_
      refine Go'.condT rfl ?_
      refine Go'.seq ?_
      -- region 2 (exact.go:253)
      refine Go'.region [(0, 0)] rfl ?_
      refine O.asg rfl rfl rfl rfl rfl ?_
      refine Pl.fin [(1, _), (2, _), (4, _)] ⟨rfl, rfl, rfl, trivial⟩ ?_
      refine Go'.ret (vs := [_]) Go.Proofs.Try.func5 Go.Proofs.Try.results5 ⟨rfl, trivial⟩ ?_
      exact ⟨rfl, hF⟩
    · skip
      -- region 1 (exact.go:252)
      refine Go'.region [(0, 1), (1, 2), (2, 0), (3, 0), (4, 0), (5, 0), (6, 0), (7, 0)] rfl ?_
      refine O.lds rfl rfl rfl (fun w => ⟨Go.Proofs.Try.isAgg24 w, Go.Proofs.Try.sizeOf24 w⟩) rfl rfl mm ?_
      refine O.call rfl rfl rfl Go.Proofs.Try.call23 rfl (zzFits1_spec (ho.fr hF) hoz) ?_
      rintro _ H1 ⟨rfl, hF1⟩
      replace hF := hF.trans hF1
      replace mm := hF1.rd mm (fun _ _ => nw)
      replace mm0 := hF1.keep mm0 nw
      replace mm1 := hF1.keep mm1 nw
      refine ⟨trivial, ?_⟩
      refine O.not rfl rfl rfl rfl rfl ?_
      refine O.mv rfl rfl rfl rfl rfl ?_
      refine O.mv rfl rfl rfl rfl rfl ?_
      refine O.len rfl rfl rfl rfl Go.Proofs.Try.underlying25 rfl ?_
      refine O.cmp rfl rfl rfl rfl rfl rfl (gtrF (by omega)) ?_
      refine O.pick rfl rfl rfl rfl rfl rfl ?_
      refine Pl.fin [(1, _), (2, _), (4, _), (12, _)] ⟨rfl, rfl, rfl, rfl, trivial⟩ ?_
      refine Go'.condF rfl ?_
      refine Go'.skip ?_
      refine Go'.seq ?_
      cases hfz : fitsb z
      · skip
        -- region 3 (exact.go:255)
        refine Go'.region [(0, 2), (1, 2), (2, 2), (3, 0), (4, 0), (5, 1), (6, 2), (7, 0), (8, 0), (9, 1), (10, 0), (11, 2), (12, 0), (13, 0), (14, 0)] rfl ?_
        refine O.call rfl rfl rfl Go.Proofs.Try.call30 rfl exMake_spec ?_
        rintro _ H2 ⟨rfl, hF2⟩
        replace hF := hF.trans hF2
        replace mm := hF2.rd mm (fun _ _ => nw)
        replace mm0 := hF2.keep mm0 nw
        replace mm1 := hF2.keep mm1 nw
        refine ⟨trivial, ?_⟩
        refine O.call rfl rfl rfl Go.Proofs.Try.call32 rfl exItems_spec ?_
        rintro ev H3 ⟨hev, hF3⟩
        replace hF := hF.trans hF3
        replace mm := hF3.rd mm (fun _ _ => nw)
        replace mm0 := hF3.keep mm0 nw
        replace mm1 := hF3.keep mm1 nw
        refine ⟨trivial, ?_⟩
        refine O.call rfl rfl rfl Go.Proofs.Try.call31 rfl (lawGLen_spec (d := 2) (by decide) (InS.nil EN _) (by decide) hev (by decide)) ?_
        rintro _ H4 ⟨rfl, hF4⟩
        replace hF := hF.trans hF4
        replace mm := hF4.rd mm (fun _ _ => nw)
        replace mm0 := hF4.keep mm0 nw
        replace mm1 := hF4.keep mm1 nw
        refine ⟨trivial, ?_⟩
        refine O.mv rfl rfl rfl rfl rfl ?_
        refine O.fa0 (off := 1) rfl rfl rfl rfl ⟨_, _, _, Go.Proofs.Try.underlying24, rfl, rfl, Go.Proofs.Try.sizeOf3⟩ rfl ?_
        refine O.ld rfl rfl rfl (fun w => ⟨Go.Proofs.Try.isAgg3 w, Go.Proofs.Try.sizeOf3 w⟩) rfl mm1 ?_
        refine O.callQ rfl rfl rfl Go.Proofs.Try.call33 rfl (fits_spec' hfz) trivial ?_
        refine O.not rfl rfl rfl rfl rfl ?_
        refine O.mv rfl rfl rfl rfl rfl ?_
        refine Pl.pass rfl rfl rfl rfl ?_
        refine Pl.pass rfl rfl rfl rfl ?_
        refine Pl.pass2 rfl rfl rfl rfl trivial ?_
        refine O.pick rfl rfl rfl rfl rfl rfl ?_
        refine O.pick rfl rfl rfl rfl rfl rfl ?_
        refine O.asg rfl rfl rfl rfl rfl ?_
        refine Pl.fin [(4, _)] ⟨rfl, trivial⟩ ?_
        refine Go'.ret (vs := [_]) Go.Proofs.Try.func5 Go.Proofs.Try.results5 ⟨rfl, trivial⟩ ?_
        exact ⟨rfl, hF⟩
      · skip
        obtain ⟨d, rfl, hd⟩ := fitsb_nat hfz
        -- region 3 (exact.go:255)
        refine Go'.region [(0, 2), (1, 2), (2, 2), (3, 0), (4, 0), (5, 1), (6, 2), (7, 0), (8, 0), (9, 1), (10, 0), (11, 2), (12, 0), (13, 0), (14, 0)] rfl ?_
        refine O.call rfl rfl rfl Go.Proofs.Try.call30 rfl exMake_spec ?_
        rintro _ H2 ⟨rfl, hF2⟩
        replace hF := hF.trans hF2
        replace mm := hF2.rd mm (fun _ _ => nw)
        replace mm0 := hF2.keep mm0 nw
        replace mm1 := hF2.keep mm1 nw
        refine ⟨trivial, ?_⟩
        refine O.call rfl rfl rfl Go.Proofs.Try.call32 rfl exItems_spec ?_
        rintro ev H3 ⟨hev, hF3⟩
        replace hF := hF.trans hF3
        replace mm := hF3.rd mm (fun _ _ => nw)
        replace mm0 := hF3.keep mm0 nw
        replace mm1 := hF3.keep mm1 nw
        refine ⟨trivial, ?_⟩
        refine O.call rfl rfl rfl Go.Proofs.Try.call31 rfl (lawGLen_spec (d := 2) (by decide) (InS.nil EN _) (by decide) hev (by decide)) ?_
        rintro _ H4 ⟨rfl, hF4⟩
        replace hF := hF.trans hF4
        replace mm := hF4.rd mm (fun _ _ => nw)
        replace mm0 := hF4.keep mm0 nw
        replace mm1 := hF4.keep mm1 nw
        refine ⟨trivial, ?_⟩
        refine O.mv rfl rfl rfl rfl rfl ?_
        refine O.fa0 (off := 1) rfl rfl rfl rfl ⟨_, _, _, Go.Proofs.Try.underlying24, rfl, rfl, Go.Proofs.Try.sizeOf3⟩ rfl ?_
        refine O.ld rfl rfl rfl (fun w => ⟨Go.Proofs.Try.isAgg3 w, Go.Proofs.Try.sizeOf3 w⟩) rfl mm1 ?_
        refine O.callQ rfl rfl rfl Go.Proofs.Try.call33 rfl (fits_spec' hfz) trivial ?_
        refine O.not rfl rfl rfl rfl rfl ?_
        refine O.mv rfl rfl rfl rfl rfl ?_
        refine O.lds rfl rfl rfl (fun w => ⟨Go.Proofs.Try.isAgg24 w, Go.Proofs.Try.sizeOf24 w⟩) rfl rfl mm ?_
        refine O.mv rfl rfl rfl rfl rfl ?_
        refine O.call rfl rfl rfl Go.Proofs.Try.call31 rfl (lawGLen_spec hd (ho.fr hF) (by omega) (hi.fr hF) (by omega)) ?_
        rintro _ H5 ⟨rfl, hF5⟩
        replace hF := hF.trans hF5
        replace mm := hF5.rd mm (fun _ _ => nw)
        replace mm0 := hF5.keep mm0 nw
        replace mm1 := hF5.keep mm1 nw
        refine ⟨trivial, ?_⟩
        refine O.pick rfl rfl rfl rfl rfl rfl ?_
        refine O.pick rfl rfl rfl rfl rfl rfl ?_
        refine O.asg rfl rfl rfl rfl rfl ?_
        refine Pl.fin [(4, _)] ⟨rfl, trivial⟩ ?_
        refine Go'.ret (vs := [_]) Go.Proofs.Try.func5 Go.Proofs.Try.results5 ⟨rfl, trivial⟩ ?_
        exact ⟨rfl, hF⟩

end Go.Bt.FG
