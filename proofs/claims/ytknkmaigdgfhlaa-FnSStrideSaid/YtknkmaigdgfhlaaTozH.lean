/- Contracts of functions of the program, proved by walking through their code. Conditions: those that each theorem names. -/
import Derived.Test.YtknkmaigdgfhlaaTozE
namespace Go.Bt.FZ
open Go Go.Proofs
set_option maxRecDepth 20000
set_option maxHeartbeats 4000000
set_option linter.unusedVariables false

theorem nset0 {B : World} {H : Mem} {tr bp op : Nat} {P : Ps} (hP : PsOk P) {x : Int} {t : Gt EI 0} (hp : NPre H tr P 0 t bp op) :
    Fn Try.prog B 161 [.pointer (some ⟨tr, 0, none⟩), .pointer (some ⟨bp, op, none⟩), .agg (EI.enc x).toArray] H (SetQ H P 0 t x) := by
  obtain ⟨g, X⟩ := t
  obtain ⟨tc, hg, hc, hnt, hsX, hlen⟩ := hp
  replace hsX : Pl.Srt OI X := hsX
  have hN : NodeM EI H g X (.pointer none) := hg.1
  have hiso : g.iso = P.iso := hg.2.1
  have hcnt : g.cnt = X.length := hg.2.2.1
  have hxm : X.length ≤ P.mx := hg.2.2.2
  have hx255 := hP.hx
  have hlt : ∀ b o, ncl EI g b o → b < H.size := fun b o hb => NodeM.lt hN hb
  obtain ⟨hpl, hil⟩ := hN.cells
  obtain ⟨hn1, hn2⟩ := off_node (E := EI) (g := g) hN.ic hnt
  have hpi := hN.ne
  have htl : tr < H.size := cl_lt tc.iso
  have hF : Fr nowhere H H := Fr.refl _ _
  refine fn_of Go.Proofs.Try.func161 rfl Go.Proofs.Try.ntmps161 ?_
  refine (show Go' _ _ _ _ 242 [(0, _), (1, _), (2, _)] [.code _] _ from ?_)
  refine Go'.seq ?_
  -- region 0 (map.go:220)
  refine Go'.region [(0, 2), (1, 2), (2, 0), (3, 0)] rfl ?_
  refine O.box rfl rfl rfl rfl ?_
  intro H1 M1
  refine ⟨trivial, ?_⟩
  have hs1 := M1.size
  replace hN := NodeM.fr EI hN (M1.fr nowhere) (fun _ _ _ => nw)
  replace tc := tc.fr (M1.fr nowhere) (fun _ _ _ => nw)
  replace hc := (M1.fr nowhere).keep hc nw
  replace hF := hF.trans' (M1.fr nowhere) (fun _ _ _ h => h) (fun _ _ _ h => h.elim)
  have mi : Rd H1 H.size 0 (EI.enc x) := M1.rd _ [] (by simp [Value.cells])
  refine O.alloc rfl rfl rfl Go.Proofs.Try.zeroValue136 ?_
  intro H1 Mz
  refine ⟨trivial, ?_⟩
  replace hs1 : H1.size = H.size + 2 := by have := Mz.size; omega
  replace hN := NodeM.fr EI hN (Mz.fr nowhere) (fun _ _ _ => nw)
  replace tc := tc.fr (Mz.fr nowhere) (fun _ _ _ => nw)
  replace hc := (Mz.fr nowhere).keep hc nw
  replace hF := hF.trans' (Mz.fr nowhere) (fun _ _ _ h => h) (fun _ _ _ h => h.elim)
  replace mi := (Mz.fr nowhere).rd mi (fun _ _ => nw)
  refine O.asg rfl rfl rfl rfl rfl ?_
  refine O.asg rfl rfl rfl rfl rfl ?_
  refine Pl.fin [(0, _), (1, _), (5, _), (6, _), (7, _), (8, _)] ⟨rfl, rfl, rfl, rfl, rfl, rfl, trivial⟩ ?_
  refine Go'.seq ?_
  have hc0 := hN.c0
  rw [hiso] at hc0
  -- region 1 (map.go:222)
  refine Go'.region [(0, 0), (1, 0), (2, 2), (3, 2), (4, 2)] rfl ?_
  refine O.mv rfl rfl rfl rfl rfl ?_
  refine O.mv rfl rfl rfl rfl rfl ?_
  refine O.callQ rfl rfl rfl Go.Proofs.Try.call151 rfl (isoLoad_spec true hc hc0 tc.iso) trivial ?_
  refine O.alloc rfl rfl rfl Go.Proofs.Try.zeroValue135 ?_
  intro H2 M2
  refine ⟨trivial, ?_⟩
  have hs2 := M2.size
  replace hN := NodeM.fr EI hN (M2.fr nowhere) (fun _ _ _ => nw)
  replace tc := tc.fr (M2.fr nowhere) (fun _ _ _ => nw)
  replace mi := (M2.fr nowhere).rd mi (fun _ _ => nw)
  replace hF := hF.trans' (M2.fr nowhere) (fun _ _ _ h => h) (fun _ _ _ h => h.elim)
  have m9w : Wr H2 H1.size 0 1 := M2.wr 1 (by decide)
  refine O.st rfl rfl Go.Proofs.Try.sizeOf135 rfl rfl rfl rfl rfl m9w ?_
  intro H3 W3
  have hs3 := W3.size
  replace hN := NodeM.fr EI hN W3.fr (fun b o hb => nr (.inl (by have := hlt b o hb; omega)))
  replace tc := tc.fr W3.fr (fun o _ _ => nr (.inl (by omega)))
  replace mi := W3.fr.rd mi (fun _ _ => nr (.inl (by omega)))
  replace hF := hF.trans' W3.fr (fun _ _ _ h => h) (fun b o hb h => by simp only [rng] at h; omega)
  have m9 : cl H3 H1.size 0 = some (.pointer (some ⟨g.p, 0, none⟩)) := W3.at
  refine ⟨trivial, ?_⟩
  refine Pl.fin [(0, _), (5, _), (6, _), (7, _), (8, _), (9, _)] ⟨rfl, rfl, rfl, rfl, rfl, rfl, trivial⟩ ?_
  refine Go'.seq ?_
  -- region 2 (map.go:223)
  refine Go'.region [(0, 0), (1, 1), (2, 0), (3, 1), (4, 2), (5, 0), (6, 0), (7, 0), (8, 0), (9, 0)] rfl ?_
  refine O.mv rfl rfl rfl rfl rfl ?_
  refine O.ld rfl rfl rfl (fun w => ⟨Go.Proofs.Try.isAgg135 w, Go.Proofs.Try.sizeOf135 w⟩) rfl m9 ?_
  refine O.faz rfl rfl rfl rfl ⟨_, _, _, Go.Proofs.Try.underlying138, rfl, rfl, Go.Proofs.Try.sizeOf3⟩ rfl ?_
  refine O.ld rfl rfl rfl (fun w => ⟨Go.Proofs.Try.isAgg3 w, Go.Proofs.Try.sizeOf3 w⟩) rfl (mi 0 (.int .i64 x) rfl) ?_
  refine O.callQ rfl rfl rfl Go.Proofs.Try.call168 rfl (search_spec x hN hsX (by omega)) trivial ?_
  refine O.mv rfl rfl rfl rfl rfl ?_
  refine O.ext rfl rfl rfl rfl rfl rfl ?_
  refine O.ext rfl rfl rfl rfl rfl rfl ?_
  refine O.asg rfl rfl rfl rfl rfl ?_
  refine O.asg rfl rfl rfl rfl rfl ?_
  refine Pl.fin [(0, _), (5, _), (6, _), (7, _), (8, _), (9, _), (10, _), (11, _)] ⟨rfl, rfl, rfl, rfl, rfl, rfl, rfl, rfl, trivial⟩ ?_
  refine Go'.seq ?_
  refine Go'.seq ?_
  -- region 3 (map.go:224)
  refine Go'.region [(0, 0)] rfl ?_
  refine O.mv rfl rfl rfl rfl rfl ?_
  refine Pl.fin [(0, _), (5, _), (6, _), (7, _), (8, _), (9, _), (10, _), (25, _)] ⟨rfl, rfl, rfl, rfl, rfl, rfl, rfl, rfl, trivial⟩ ?_
  generalize hi : Pl.pos OI x X = i at *
  cases hfd : Pl.fnd OI x X
  rotate_left
  · -- found
    obtain ⟨y, hy, _, _⟩ := Pl.fnd_at OI hsX hfd
    rw [hi] at hy
    have hlt' : i < X.length := (List.getElem?_eq_some_iff.1 hy).1
    refine Go'.condT rfl ?_
    refine Go'.seq ?_
    -- region 4 (map.go:225)
    refine Go'.region [(0, 1), (1, 0), (2, 0), (3, 1), (4, 0), (5, 0), (6, 1), (7, 1), (8, 2)] rfl ?_
    refine O.ld rfl rfl rfl (fun w => ⟨Go.Proofs.Try.isAgg135 w, Go.Proofs.Try.sizeOf135 w⟩) rfl m9 ?_
    refine O.nc rfl rfl rfl rfl rfl ?_
    refine O.fa0 (off := 2) rfl rfl rfl rfl ⟨_, _, _, Go.Proofs.Try.underlying205, rfl, rfl, Go.Proofs.Try.sizeOf202⟩ rfl ?_
    refine O.ld rfl rfl rfl (fun w => ⟨Go.Proofs.Try.isAgg202 w, Go.Proofs.Try.sizeOf202 w⟩) rfl hN.c2 ?_
    refine O.mv rfl rfl rfl rfl rfl ?_
    refine O.ix (j := i) rfl rfl rfl rfl Go.Proofs.Try.underlying202 Go.Proofs.Try.sizeOf138 rfl rfl (by omega) hlt' ?_
    refine O.fz1 rfl rfl rfl ty ⟨_, _, Go.Proofs.Try.underlying138, rfl, rfl, rfl, Go.Proofs.Try.sizeOf136⟩ rfl (hN.sl.wri hlt') ?_
    refine O.lds rfl rfl rfl (fun w => ⟨Go.Proofs.Try.isAgg136 w, Go.Proofs.Try.sizeOf136 w⟩) rfl rfl (Rd.nil _ _ _) ?_
    refine O.st0 rfl rfl Go.Proofs.Try.sizeOf136 rfl rfl rfl trivial ?_
    refine Pl.fin [(0, _), (5, _), (6, _), (7, _), (8, _), (9, _), (10, _)] ⟨rfl, rfl, rfl, rfl, rfl, rfl, rfl, trivial⟩ ?_
    refine Go'.seq ?_
    -- region 5 (map.go:226)
    refine Go'.draw (fun _ => True) [(0, 1), (1, 0), (2, 0), (3, 1), (4, 0), (5, 1), (6, 0), (7, 3)] (by kernel_rfl) (by kernel_rfl) (trivial) ?_
    refine O.ld rfl rfl rfl (fun w => ⟨Go.Proofs.Try.isAgg135 w, Go.Proofs.Try.sizeOf135 w⟩) rfl m9 ?_
    refine O.nc rfl rfl rfl rfl rfl ?_
    refine O.fa0 (off := 2) rfl rfl rfl rfl ⟨_, _, _, Go.Proofs.Try.underlying205, rfl, rfl, Go.Proofs.Try.sizeOf202⟩ rfl ?_
    refine O.ld rfl rfl rfl (fun w => ⟨Go.Proofs.Try.isAgg202 w, Go.Proofs.Try.sizeOf202 w⟩) rfl hN.c2 ?_
    refine O.mv rfl rfl rfl rfl rfl ?_
    refine O.lds rfl rfl rfl (fun w => ⟨Go.Proofs.Try.isAgg138 w, Go.Proofs.Try.sizeOf138 w⟩) rfl rfl mi ?_
    refine O.ix (j := i) rfl rfl rfl rfl Go.Proofs.Try.underlying202 Go.Proofs.Try.sizeOf138 rfl rfl (by omega) hlt' ?_
    refine O.st3 rfl rfl Go.Proofs.Try.sizeOf138 rfl rfl rfl rfl rfl (hN.sl.wri hlt') ?_
    intro H4 W4
    have hs4 := W4.size
    replace hF : Fr (ncl EI g) H H4 := hF.trans' W4.fr (fun _ _ _ h => h.elim) (fun b o hb h => by have := W4.as_row.in_items hN (by rw [List.length_singleton]; omega) (by rw [row_one]; exact h); exact .inr this)
    replace hN := hN.set W4 hlt'
    refine Pl.fin [(0, _), (5, _), (6, _), (7, _), (8, _), (9, _), (10, _)] ⟨rfl, rfl, rfl, rfl, rfl, rfl, rfl, trivial⟩ ?_
    refine Go'.seq ?_
    -- region 6 (map.go:227)
    refine Go'.region [(0, 1), (1, 2), (2, 0), (3, 0)] rfl ?_
    refine O.lds rfl rfl rfl (fun w => ⟨Go.Proofs.Try.isAgg136 w, Go.Proofs.Try.sizeOf136 w⟩) rfl rfl (Rd.nil _ _ _) ?_
    refine O.st0 rfl rfl Go.Proofs.Try.sizeOf136 rfl rfl rfl trivial ?_
    refine O.asg rfl rfl rfl rfl rfl ?_
    refine O.asg rfl rfl rfl rfl rfl ?_
    refine Pl.fin [(0, _), (5, _), (6, _), (7, _), (8, _), (9, _), (10, _)] ⟨rfl, rfl, rfl, rfl, rfl, rfl, rfl, trivial⟩ ?_
    refine Go'.ret (vs := [_, _, _]) Go.Proofs.Try.func161 Go.Proofs.Try.results161 ⟨⟨_, _, rfl, fun _ _ => run_loadVar_agg (fun w => ⟨Go.Proofs.Try.isAgg136 w, Go.Proofs.Try.sizeOf136 w⟩) rfl (Rd.nil _ _ _)⟩, rfl, rfl, trivial⟩ ?_
    have hll : (X.take i ++ x :: X.drop (i + 1)).length = X.length := by simp only [List.length_append, List.length_take, List.length_cons, List.length_drop]; omega
    refine .inl ⟨((g, X.take i ++ x :: X.drop (i + 1)) : Gt EI 0), ?_, ⟨hF, ⟨hN, hiso, hcnt.trans hll.symm, by rw [hll]; exact hxm⟩, rfl, fun b o hb => .inl hb, ?_, Nat.le_of_eq hll.symm⟩⟩
    · show _ = Value.tuple #[PV (Pl.got OI x X), .bool (Pl.fnd OI x X), .bool false]
      rw [Pl.got_some OI hfd, hi, hy, hfd]; rfl
    · show _ = Pl.put OI x X
      unfold Pl.put; rw [hfd, hi]; rfl
  · -- not found
    have hle : i ≤ X.length := by rw [← hi]; exact Pl.pos_le OI x X
    refine Go'.condF rfl ?_
    refine Go'.skip ?_
    refine Go'.seq ?_
    refine Go'.seq ?_
    -- region 7 (map.go:229)
    refine Go'.region [(0, 1), (1, 2)] rfl ?_
    refine O.ld rfl rfl rfl (fun w => ⟨Go.Proofs.Try.isAgg135 w, Go.Proofs.Try.sizeOf135 w⟩) rfl m9 ?_
    refine O.callQ rfl rfl rfl Go.Proofs.Try.call152 rfl (leaf_spec hN.c3) trivial ?_
    refine Pl.fin [(0, _), (5, _), (6, _), (7, _), (8, _), (9, _), (10, _), (43, _)] ⟨rfl, rfl, rfl, rfl, rfl, rfl, rfl, rfl, trivial⟩ ?_
    refine Go'.condT rfl ?_
    refine Go'.seq ?_
    refine Go'.seq ?_
    by_cases hful : X.length = P.mx
    · -- full
      -- region 8 (map.go:230)
      refine Go'.draw (fun _ => True) [(0, 1), (1, 0), (2, 0), (3, 1), (4, 0), (5, 0), (6, 0), (7, 0), (8, 1), (9, 0)] (by kernel_rfl) (by kernel_rfl) (trivial) ?_
      refine O.ld rfl rfl rfl (fun w => ⟨Go.Proofs.Try.isAgg135 w, Go.Proofs.Try.sizeOf135 w⟩) rfl m9 ?_
      refine O.nc rfl rfl rfl rfl rfl ?_
      refine O.fa0 (off := 2) rfl rfl rfl rfl ⟨_, _, _, Go.Proofs.Try.underlying205, rfl, rfl, Go.Proofs.Try.sizeOf202⟩ rfl ?_
      refine O.ld rfl rfl rfl (fun w => ⟨Go.Proofs.Try.isAgg202 w, Go.Proofs.Try.sizeOf202 w⟩) rfl hN.c2 ?_
      refine O.len rfl rfl rfl rfl Go.Proofs.Try.underlying202 rfl ?_
      refine O.mv rfl rfl rfl rfl rfl ?_
      refine O.nc rfl rfl rfl rfl rfl ?_
      refine O.fa0 (off := 6) rfl rfl rfl rfl ⟨_, _, _, Go.Proofs.Try.underlying140, rfl, rfl, Go.Proofs.Try.sizeOf3⟩ rfl ?_
      refine O.ld rfl rfl rfl (fun w => ⟨Go.Proofs.Try.isAgg3 w, Go.Proofs.Try.sizeOf3 w⟩) rfl tc.mx' ?_
      refine O.cmp rfl rfl rfl rfl rfl rfl (eqlT (by omega)) ?_
      refine Pl.fin [(0, _), (5, _), (6, _), (7, _), (8, _), (9, _), (10, _), (53, _)] ⟨rfl, rfl, rfl, rfl, rfl, rfl, rfl, rfl, trivial⟩ ?_
      refine Go'.condT rfl ?_
      refine Go'.seq ?_
      -- region 9 (map.go:231)
      refine Go'.region [(0, 0), (1, 0), (2, 0), (3, 1), (4, 1), (5, 2), (6, 0), (7, 0)] rfl ?_
      refine O.mv rfl rfl rfl rfl rfl ?_
      refine O.nc rfl rfl rfl rfl rfl ?_
      refine O.fa0 (off := 4) rfl rfl rfl rfl ⟨_, _, _, Go.Proofs.Try.underlying140, rfl, rfl, Go.Proofs.Try.sizeOf138⟩ rfl ?_
      refine O.fz1 rfl rfl rfl ty ⟨_, _, Go.Proofs.Try.underlying138, rfl, rfl, rfl, Go.Proofs.Try.sizeOf136⟩ rfl (tc.wr.at0 4 1 (by omega)) ?_
      refine O.lds rfl rfl rfl (fun w => ⟨Go.Proofs.Try.isAgg136 w, Go.Proofs.Try.sizeOf136 w⟩) rfl rfl (Rd.nil _ _ _) ?_
      refine O.st0 rfl rfl Go.Proofs.Try.sizeOf136 rfl rfl rfl trivial ?_
      refine O.asg rfl rfl rfl rfl rfl ?_
      refine O.asg rfl rfl rfl rfl rfl ?_
      refine Pl.fin [(0, _), (5, _), (6, _), (7, _), (8, _), (9, _), (10, _)] ⟨rfl, rfl, rfl, rfl, rfl, rfl, rfl, trivial⟩ ?_
      refine Go'.ret (vs := [_, _, _]) Go.Proofs.Try.func161 Go.Proofs.Try.results161 ⟨⟨_, _, rfl, fun _ _ => run_loadVar_agg (fun w => ⟨Go.Proofs.Try.isAgg136 w, Go.Proofs.Try.sizeOf136 w⟩) rfl (Rd.nil _ _ _)⟩, rfl, rfl, trivial⟩ ?_
      exact .inr ⟨rfl, hF, hful, fun hh => by have hh2 : X.length < P.mx := hh; omega⟩
    · -- room
      -- region 8 (map.go:230)
      refine Go'.draw (fun _ => True) [(0, 1), (1, 0), (2, 0), (3, 1), (4, 0), (5, 0), (6, 0), (7, 0), (8, 1), (9, 0)] (by kernel_rfl) (by kernel_rfl) (trivial) ?_
      refine O.ld rfl rfl rfl (fun w => ⟨Go.Proofs.Try.isAgg135 w, Go.Proofs.Try.sizeOf135 w⟩) rfl m9 ?_
      refine O.nc rfl rfl rfl rfl rfl ?_
      refine O.fa0 (off := 2) rfl rfl rfl rfl ⟨_, _, _, Go.Proofs.Try.underlying205, rfl, rfl, Go.Proofs.Try.sizeOf202⟩ rfl ?_
      refine O.ld rfl rfl rfl (fun w => ⟨Go.Proofs.Try.isAgg202 w, Go.Proofs.Try.sizeOf202 w⟩) rfl hN.c2 ?_
      refine O.len rfl rfl rfl rfl Go.Proofs.Try.underlying202 rfl ?_
      refine O.mv rfl rfl rfl rfl rfl ?_
      refine O.nc rfl rfl rfl rfl rfl ?_
      refine O.fa0 (off := 6) rfl rfl rfl rfl ⟨_, _, _, Go.Proofs.Try.underlying140, rfl, rfl, Go.Proofs.Try.sizeOf3⟩ rfl ?_
      refine O.ld rfl rfl rfl (fun w => ⟨Go.Proofs.Try.isAgg3 w, Go.Proofs.Try.sizeOf3 w⟩) rfl tc.mx' ?_
      refine O.cmp rfl rfl rfl rfl rfl rfl (eqlF (by omega)) ?_
      refine Pl.fin [(0, _), (5, _), (6, _), (7, _), (8, _), (9, _), (10, _), (53, _)] ⟨rfl, rfl, rfl, rfl, rfl, rfl, rfl, rfl, trivial⟩ ?_
      refine Go'.condF rfl ?_
      refine Go'.skip ?_
      refine Go'.seq ?_
      -- region 10 (map.go:233)
      refine Go'.draw (fun H' => cl H' H1.size 0 = some (.pointer (some ⟨g.p, 0, none⟩)) ∧ cl H' g.p 2 = some (.slice (some ⟨g.ib, g.io, none⟩) X.length g.ic)) [(0, 0), (1, 0), (2, 0), (3, 0), (4, 0), (5, 0), (6, 0), (7, 0), (8, 1), (9, 2), (10, 2), (11, 0), (12, 0), (13, 3)] (by kernel_rfl) (by kernel_rfl) (⟨m9, hN.c2⟩) ?_
      refine O.ldC rfl rfl rfl (fun w => ⟨Go.Proofs.Try.isAgg135 w, Go.Proofs.Try.sizeOf135 w⟩) rfl (fun _ h => h.1) ?_
      refine O.ldC rfl rfl rfl (fun w => ⟨Go.Proofs.Try.isAgg135 w, Go.Proofs.Try.sizeOf135 w⟩) rfl (fun _ h => h.1) ?_
      refine O.nc rfl rfl rfl rfl rfl ?_
      refine O.fa0 (off := 2) rfl rfl rfl rfl ⟨_, _, _, Go.Proofs.Try.underlying205, rfl, rfl, Go.Proofs.Try.sizeOf202⟩ rfl ?_
      refine O.ldC rfl rfl rfl (fun w => ⟨Go.Proofs.Try.isAgg202 w, Go.Proofs.Try.sizeOf202 w⟩) rfl (fun _ h => h.2) ?_
      refine O.mv rfl rfl rfl rfl rfl ?_
      refine O.nc rfl rfl rfl rfl rfl ?_
      refine O.fa0 (off := 4) rfl rfl rfl rfl ⟨_, _, _, Go.Proofs.Try.underlying140, rfl, rfl, Go.Proofs.Try.sizeOf138⟩ rfl ?_
      refine O.lds rfl rfl rfl (fun w => ⟨Go.Proofs.Try.isAgg138 w, Go.Proofs.Try.sizeOf138 w⟩) rfl rfl (tc.emp) ?_
      refine O.bsl (cs := (EI.enc (0 : Int))) rfl rfl rfl ⟨Go.Proofs.Try.underlying202, Go.Proofs.Try.sizeOf138, Go.Proofs.Try.zeroValue138, ⟨_, Go.Proofs.Try.typeInfo138, rfl⟩, rfl, by decide, by decide⟩ rfl (by decide) (by kernel_rfl) ?_
      intro H4 M4
      have hs4 := M4.size
      replace hN := NodeM.fr EI hN (M4.fr nowhere) (fun _ _ _ => nw)
      replace tc := tc.fr (M4.fr nowhere) (fun _ _ _ => nw)
      replace mi := (M4.fr nowhere).rd mi (fun _ _ => nw)
      replace m9 := (M4.fr nowhere).keep m9 nw
      replace hF := hF.trans' (M4.fr nowhere) (fun _ _ _ h => h) (fun _ _ _ h => h.elim)
      have m4 : Rd H4 H3.size 0 (EI.enc (0 : Int)) := M4.rd _ [] (by simp)
      refine ⟨⟨m9, hN.c2⟩, ?_⟩
      refine O.app (m := 1) (news := (EI.enc (0 : Int))) rfl rfl rfl ⟨Go.Proofs.Try.underlying202, Go.Proofs.Try.sizeOf138, Go.Proofs.Try.zeroValue138, ⟨_, Go.Proofs.Try.typeInfo138, rfl⟩, rfl, by decide, by decide⟩ rfl hN.sl rfl (.inl ⟨_, _, _, rfl, m4⟩) rfl rfl (Nat.le_trans (Nat.mul_le_mul_left _ (Nat.le_of_ble_eq_true (n := _) (m := 4096) rfl)) (by omega)) (by omega) ?_
      intro b' o' c' H5 ha
      have hin : ∀ b o, b < H.size → (b = b' ∧ o' ≤ o ∧ o < o' + c' * EI.s) → ncl EI g b o := fun b o hb hh => .inr (ha.inside (by omega) hh)
      have hbn : b' ≠ tr ∧ b' ≠ H.size ∧ b' ≠ H1.size ∧ b' ≠ g.p := by rcases ha.place with ⟨r, _⟩ | ⟨r, _⟩ <;> omega
      have hsl := SlE.app (E := EI) (x := (0 : Int)) ha
      have hN0 := hN
      replace hN := hN.appd ha
      replace tc := tc.fr ha.fr (fun o _ _ => nr (.inl (by omega)))
      replace mi := ha.fr.rd mi (fun _ _ => nr (.inl (by omega)))
      replace m9 := ha.fr.keep m9 (nr (.inl (by omega)))
      replace hF : Fr (ncl EI g) H H5 := hF.trans' (ha.in_node hN0) (fun _ _ _ h => h.elim) (fun b o _ h => h)
      have hs5 : H4.size ≤ H5.size := ha.fr.size
      refine ⟨⟨m9, hN.c2⟩, ?_⟩
      refine O.nc rfl rfl rfl rfl rfl ?_
      refine O.fa0 (off := 2) rfl rfl rfl rfl ⟨_, _, _, Go.Proofs.Try.underlying205, rfl, rfl, Go.Proofs.Try.sizeOf202⟩ rfl ?_
      refine O.st3 rfl rfl Go.Proofs.Try.sizeOf202 rfl rfl rfl rfl rfl (hN.wr.at0 2 1 (by omega)) ?_
      intro H6 W6
      have hs6 := W6.size
      replace hN := hN0.push (e := (0 : Int)) ha W6
      replace tc := tc.fr W6.fr (fun o _ _ => nr (.inl (by omega)))
      replace mi := W6.fr.rd mi (fun _ _ => nr (.inl (by omega)))
      replace m9 := W6.fr.keep m9 (nr (.inl (by omega)))
      replace hF := hF.trans' W6.fr (fun _ _ _ h => h) (fun b o hb h => NodeM.in1 (H := H5) (H' := H6) (by simp) h)
      refine Pl.fin [(0, _), (5, _), (6, _), (7, _), (8, _), (9, _), (10, _)] ⟨rfl, rfl, rfl, rfl, rfl, rfl, rfl, trivial⟩ ?_
      refine Go'.seq ?_
      have hl1 : (X ++ [(0 : Int)]).length = X.length + 1 := by simp
      have hcp := hN.sl.hle
      rw [hl1] at hcp
      simp only at hcp
      have hh2 : cl H6 g.p 2 = some (.slice (some ⟨b', o', none⟩) (X.length + 1) c') := by have := hN.c2; rwa [hl1] at this
      -- region 11 (map.go:234)
      refine Go'.draw (fun _ => True) [(0, 1), (1, 0), (2, 0), (3, 1), (4, 0), (5, 0), (6, 0), (7, 1), (8, 0), (9, 0), (10, 1), (11, 0), (12, 0), (13, 2)] (by kernel_rfl) (by kernel_rfl) (trivial) ?_
      refine O.ld rfl rfl rfl (fun w => ⟨Go.Proofs.Try.isAgg135 w, Go.Proofs.Try.sizeOf135 w⟩) rfl m9 ?_
      refine O.nc rfl rfl rfl rfl rfl ?_
      refine O.fa0 (off := 2) rfl rfl rfl rfl ⟨_, _, _, Go.Proofs.Try.underlying205, rfl, rfl, Go.Proofs.Try.sizeOf202⟩ rfl ?_
      refine O.ld rfl rfl rfl (fun w => ⟨Go.Proofs.Try.isAgg202 w, Go.Proofs.Try.sizeOf202 w⟩) rfl hh2 ?_
      refine O.mv rfl rfl rfl rfl rfl ?_
      refine O.add (((i + 1 : Nat) : Int)) rfl rfl rfl rfl rfl rfl (by omega) (by omega) ?_
      refine O.slc (jl := i + 1) (jh := X.length + 1) (jm := c') rfl rfl rfl rfl Go.Proofs.Try.underlying202 Go.Proofs.Try.sizeOf138 rfl rfl rfl ⟨_, by rfl⟩ (by omega) (by omega) (by simp) (by simp) ?_
      intro o7 ho7
      refine O.ld rfl rfl rfl (fun w => ⟨Go.Proofs.Try.isAgg135 w, Go.Proofs.Try.sizeOf135 w⟩) rfl m9 ?_
      refine O.nc rfl rfl rfl rfl rfl ?_
      refine O.fa0 (off := 2) rfl rfl rfl rfl ⟨_, _, _, Go.Proofs.Try.underlying205, rfl, rfl, Go.Proofs.Try.sizeOf202⟩ rfl ?_
      refine O.ld rfl rfl rfl (fun w => ⟨Go.Proofs.Try.isAgg202 w, Go.Proofs.Try.sizeOf202 w⟩) rfl hh2 ?_
      refine O.mv rfl rfl rfl rfl rfl ?_
      refine O.slc (jl := i) (jh := X.length + 1) (jm := c') rfl rfl rfl rfl Go.Proofs.Try.underlying202 Go.Proofs.Try.sizeOf138 rfl rfl rfl ⟨_, by rfl⟩ (by omega) (by omega) (by simp) (by simp) ?_
      intro o8 ho8
      obtain rfl := ho8 (by omega)
      refine O.copy (b := b') (o := (o' + (i + 1) * 1)) (j := (X.length - i)) (cs := (row EI (X.drop i))) rfl rfl rfl ⟨Go.Proofs.Try.underlying202, Go.Proofs.Try.sizeOf138, Go.Proofs.Try.zeroValue138, ⟨_, Go.Proofs.Try.typeInfo138, rfl⟩, rfl, by decide, by decide⟩ rfl rfl (show _ = min _ _ by omega) ((Nat.lt_or_ge i X.length).elim (fun h => .inl (by rw [ho7 (by omega)])) (fun h => .inr (by omega))) (.inl ⟨_, _, _, rfl, hN.sl.tail hle⟩) (by rw [row_len, List.length_drop]; rfl) (row_ones EI _) (hN.sl.wrm (i := i + 1) (m := X.length - i) (by rw [hl1]; omega)) ?_
      intro H7 W7
      have hs7 := W7.size
      have hN1 := hN
      have hdl : (X.drop i).length = X.length - i := List.length_drop
      replace hN := hN.cpy (i := i + 1) (Y := X.drop i) W7 (by rw [hl1, hdl]; omega)
      replace tc := tc.fr W7.fr (fun o _ _ => nr (.inl (by omega)))
      replace mi := W7.fr.rd mi (fun _ _ => nr (.inl (by omega)))
      replace m9 := W7.fr.keep m9 (nr (.inl (by omega)))
      replace hh2 := W7.fr.keep hh2 (nr (.inl (by omega)))
      replace hF := hF.trans' W7.fr (fun _ _ _ h => h) (fun b o hb h => hin b o hb (W7.in_items (i := i + 1) (Y := X.drop i) hN1 (by rw [hl1, hdl]; omega) h))
      refine ⟨trivial, ?_⟩
      refine Pl.fin [(0, _), (5, _), (6, _), (7, _), (8, _), (9, _), (10, _)] ⟨rfl, rfl, rfl, rfl, rfl, rfl, rfl, trivial⟩ ?_
      refine Go'.seq ?_
      have hl2 := Pl.ins_len X (0 : Int) i hle
      -- region 12 (map.go:235)
      refine Go'.draw (fun _ => True) [(0, 1), (1, 0), (2, 0), (3, 1), (4, 0), (5, 1), (6, 0), (7, 3)] (by kernel_rfl) (by kernel_rfl) (trivial) ?_
      refine O.ld rfl rfl rfl (fun w => ⟨Go.Proofs.Try.isAgg135 w, Go.Proofs.Try.sizeOf135 w⟩) rfl m9 ?_
      refine O.nc rfl rfl rfl rfl rfl ?_
      refine O.fa0 (off := 2) rfl rfl rfl rfl ⟨_, _, _, Go.Proofs.Try.underlying205, rfl, rfl, Go.Proofs.Try.sizeOf202⟩ rfl ?_
      refine O.ld rfl rfl rfl (fun w => ⟨Go.Proofs.Try.isAgg202 w, Go.Proofs.Try.sizeOf202 w⟩) rfl hh2 ?_
      refine O.mv rfl rfl rfl rfl rfl ?_
      refine O.lds rfl rfl rfl (fun w => ⟨Go.Proofs.Try.isAgg138 w, Go.Proofs.Try.sizeOf138 w⟩) rfl rfl mi ?_
      refine O.ix (j := i) rfl rfl rfl rfl Go.Proofs.Try.underlying202 Go.Proofs.Try.sizeOf138 rfl rfl (by omega) (by omega) ?_
      refine O.st3 rfl rfl Go.Proofs.Try.sizeOf138 rfl rfl rfl rfl rfl (hN.sl.wri (i := i) (by rw [hl2]; omega)) ?_
      intro H8 W8
      have hs8 := W8.size
      have hN2 := hN
      replace hN := hN.set (i := i) W8 (by rw [hl2]; omega)
      rw [Pl.ins_list X _ x i hle] at hN
      replace tc := tc.fr W8.fr (fun o _ _ => nr (.inl (by omega)))
      replace mi := W8.fr.rd mi (fun _ _ => nr (.inl (by omega)))
      replace m9 := W8.fr.keep m9 (nr (.inl (by omega)))
      replace hh2 := W8.fr.keep hh2 (nr (.inl (by omega)))
      replace hF := hF.trans' W8.fr (fun _ _ _ h => h) (fun b o hb h => hin b o hb (W8.as_row.in_items (i := i) hN2 (by rw [hl2, List.length_singleton]; omega) (by rw [row_one]; exact h)))
      refine Pl.fin [(0, _), (5, _), (6, _), (7, _), (8, _), (9, _), (10, _)] ⟨rfl, rfl, rfl, rfl, rfl, rfl, rfl, trivial⟩ ?_
      refine Go'.seq ?_
      have hc1 : cl H8 g.p 1 = some (.int .i64 (g.cnt : Int)) := hN.c1
      -- region 13 (map.go:236)
      refine Go'.region [(0, 1), (1, 0), (2, 0), (3, 1), (4, 0), (5, 0), (6, 0), (7, 2)] rfl ?_
      refine O.ld rfl rfl rfl (fun w => ⟨Go.Proofs.Try.isAgg135 w, Go.Proofs.Try.sizeOf135 w⟩) rfl m9 ?_
      refine O.nc rfl rfl rfl rfl rfl ?_
      refine O.fa0 (off := 1) rfl rfl rfl rfl ⟨_, _, _, Go.Proofs.Try.underlying205, rfl, rfl, Go.Proofs.Try.sizeOf3⟩ rfl ?_
      refine O.ld rfl rfl rfl (fun w => ⟨Go.Proofs.Try.isAgg3 w, Go.Proofs.Try.sizeOf3 w⟩) rfl hc1 ?_
      refine O.add (((g.cnt + 1 : Nat) : Int)) rfl rfl rfl rfl rfl rfl (by omega) (by omega) ?_
      refine O.nc rfl rfl rfl rfl rfl ?_
      refine O.fa0 (off := 1) rfl rfl rfl rfl ⟨_, _, _, Go.Proofs.Try.underlying205, rfl, rfl, Go.Proofs.Try.sizeOf3⟩ rfl ?_
      refine O.st rfl rfl Go.Proofs.Try.sizeOf3 rfl rfl rfl rfl rfl (hN.wr.at0 1 1 (by omega)) ?_
      intro H9 W9
      have hs9 := W9.size
      replace hN := hN.count W9
      replace tc := tc.fr W9.fr (fun o _ _ => nr (.inl (by omega)))
      replace mi := W9.fr.rd mi (fun _ _ => nr (.inl (by omega)))
      replace m9 := W9.fr.keep m9 (nr (.inl (by omega)))
      replace hF := hF.trans' W9.fr (fun _ _ _ h => h) (fun b o hb h => NodeM.in1 (H := H5) (H' := H6) (by simp) h)
      refine ⟨trivial, ?_⟩
      refine Pl.fin [(0, _), (5, _), (6, _), (7, _), (8, _), (9, _), (10, _)] ⟨rfl, rfl, rfl, rfl, rfl, rfl, rfl, trivial⟩ ?_
      refine Go'.seq ?_
      -- region 14 (map.go:237)
      refine Go'.region [(0, 0), (1, 0), (2, 0), (3, 1), (4, 1), (5, 2), (6, 0), (7, 0)] rfl ?_
      refine O.mv rfl rfl rfl rfl rfl ?_
      refine O.nc rfl rfl rfl rfl rfl ?_
      refine O.fa0 (off := 4) rfl rfl rfl rfl ⟨_, _, _, Go.Proofs.Try.underlying140, rfl, rfl, Go.Proofs.Try.sizeOf138⟩ rfl ?_
      refine O.fz1 rfl rfl rfl ty ⟨_, _, Go.Proofs.Try.underlying138, rfl, rfl, rfl, Go.Proofs.Try.sizeOf136⟩ rfl (tc.wr.at0 4 1 (by omega)) ?_
      refine O.lds rfl rfl rfl (fun w => ⟨Go.Proofs.Try.isAgg136 w, Go.Proofs.Try.sizeOf136 w⟩) rfl rfl (Rd.nil _ _ _) ?_
      refine O.st0 rfl rfl Go.Proofs.Try.sizeOf136 rfl rfl rfl trivial ?_
      refine O.asg rfl rfl rfl rfl rfl ?_
      refine O.asg rfl rfl rfl rfl rfl ?_
      refine Pl.fin [(0, _), (5, _), (6, _), (7, _), (8, _), (9, _), (10, _)] ⟨rfl, rfl, rfl, rfl, rfl, rfl, rfl, trivial⟩ ?_
      refine Go'.ret (vs := [_, _, _]) Go.Proofs.Try.func161 Go.Proofs.Try.results161 ⟨⟨_, _, rfl, fun _ _ => run_loadVar_agg (fun w => ⟨Go.Proofs.Try.isAgg136 w, Go.Proofs.Try.sizeOf136 w⟩) rfl (Rd.nil _ _ _)⟩, rfl, rfl, trivial⟩ ?_
      have hll : (X.take i ++ x :: X.drop i).length = X.length + 1 := by simp only [List.length_append, List.length_take, List.length_cons, List.length_drop]; omega
      refine .inl ⟨(({ g with cnt := g.cnt + 1, ib := b', io := o', ic := c' }, X.take i ++ x :: X.drop i) : Gt EI 0), ?_, ⟨hF, ⟨hN, hiso, ?_, by rw [hll]; omega⟩, rfl, fun b o hb => ?_, ?_, ?_⟩⟩
      · show _ = Value.tuple #[PV (Pl.got OI x X), .bool (Pl.fnd OI x X), .bool false]
        rw [Pl.got_none OI hfd, hfd]; rfl
      · show g.cnt + 1 = _; rw [hll, hcnt]
      · rcases Nat.lt_or_ge b H.size with hl | hl
        · left
          rcases hb with hb | hb
          · exact .inl hb
          · exact hin b o hl hb
        · exact .inr hl
      · show _ = Pl.put OI x X
        unfold Pl.put; rw [hfd, hi]; rfl
      · show X.length ≤ (X.take i ++ x :: X.drop i).length
        omega

end Go.Bt.FZ
namespace Go.Bt.FZ
open Go Go.Proofs
set_option maxRecDepth 20000
set_option maxHeartbeats 4000000
set_option linter.unusedVariables false

theorem SetQ.uni {H : Mem} {P : Ps} {h : Nat} {t : Gt EI h} {x : Int} {v : Value} {H' : Mem} (hq : SetQ H P h t x v H') : ∃ pv r sp, v = .tuple #[pv, .bool r, .bool sp] ∧
    ((sp = false ∧ ∃ t', pv = PV (Pl.got OI x (Gt.L h t)) ∧ r = Pl.fnd OI x (Gt.L h t) ∧ SetT OI H H' P h t t' x) ∨ (sp = true ∧ pv = PV none ∧ r = false ∧ Fr nowhere H H' ∧ (Gt.X h t).length = P.mx ∧ ¬ Gt.NF OI P x h t)) := by
  rcases hq with ⟨t', e, hs⟩ | ⟨e, hs⟩
  · exact ⟨_, _, _, e, .inl ⟨rfl, t', rfl, rfl, hs⟩⟩
  · exact ⟨_, _, _, e, .inr ⟨rfl, rfl, rfl, hs⟩⟩

theorem nset_step {B : World} {tr : Nat} {P : Ps} (hP : PsOk P) {x : Int} {h : Nat}
    (ih : ∀ {H : Mem} {bp op : Nat} {t : Gt EI h}, NPre H tr P h t bp op → Fn Try.prog B 161 [.pointer (some ⟨tr, 0, none⟩), .pointer (some ⟨bp, op, none⟩), .agg (EI.enc x).toArray] H (SetQ H P h t x))
    {H : Mem} {bp op : Nat} {t : Gt EI (h + 1)} (hp : NPre H tr P (h + 1) t bp op)
    (hag : ¬ Gt.NF OI P x (h + 1) t → ∀ {H1 : Mem} {bp1 op1 : Nat} {t1 : Gt EI (h + 1)}, NPre H1 tr P (h + 1) t1 bp1 op1 → Gt.NF OI P x (h + 1) t1 →
      Fn Try.prog B 161 [.pointer (some ⟨tr, 0, none⟩), .pointer (some ⟨bp1, op1, none⟩), .agg (EI.enc x).toArray] H1 (SetQ H1 P (h + 1) t1 x)) :
    Fn Try.prog B 161 [.pointer (some ⟨tr, 0, none⟩), .pointer (some ⟨bp, op, none⟩), .agg (EI.enc x).toArray] H (SetQ H P (h + 1) t x) := by
  obtain ⟨g, X, K⟩ := t
  obtain ⟨tc, hg, hc, hnt, hs, hlen⟩ := hp
  have hI : Inn H P h g X ((Gt.ps h K).map some) K := hg.inn
  have hiso : g.iso = P.iso := hI.iso
  have hKl : K.length = X.length + 1 := hg.2.2.2.2.2.1
  have hxm : X.length ≤ P.mx := hg.2.2.2.2.1
  have hmn := hP.h1
  have hmm := hP.hm
  have hKL : (K.map (Gt.L h)).length = X.length + 1 := by rw [List.length_map]; exact hKl
  replace hs : Pl.Srt OI (Pl.inter X (K.map (Gt.L h))) := hs
  replace hlen : (Pl.inter X (K.map (Gt.L h))).length < 4611686018427387904 := hlen
  have hcnt : g.cnt = (Pl.inter X (K.map (Gt.L h))).length := hg.2.2.2.1
  have hsX : Pl.Srt OI X := hs.sublist (Pl.sublist_inter X _ (by omega))
  have hx255 := hP.hx
  have hlt : ∀ b o, innc h g K b o → b < H.size := fun b o hb => hI.lt hb
  obtain ⟨hpl, hil, hcl, hkl⟩ := hI.cells
  obtain ⟨hn1, hn2⟩ := off_node (E := EI) (g := g) hI.n.ic (fun o ho => hnt o (.inl ho))
  obtain ⟨hn3, hn4⟩ := off_kids (g := g) hI.k.kc (fun o ho => hnt o (.inr (.inl ho)))
  have hpi := hI.n.ne
  obtain ⟨hk1, hk2, hk3, hk4, hk5⟩ := And.intro hI.k.n1 (And.intro hI.k.n2 (And.intro hI.k.n3 (And.intro hI.k.n4 hI.k.n5)))
  have htl : tr < H.size := cl_lt tc.iso
  have hF : Fr nowhere H H := Fr.refl _ _
  refine fn_of Go.Proofs.Try.func161 rfl Go.Proofs.Try.ntmps161 ?_
  refine (show Go' _ _ _ _ 242 [(0, _), (1, _), (2, _)] [.code _] _ from ?_)
  refine Go'.seq ?_
  -- region 0 (map.go:220)
  refine Go'.region [(0, 2), (1, 2), (2, 0), (3, 0)] rfl ?_
  refine O.box rfl rfl rfl rfl ?_
  intro H1 M1
  refine ⟨trivial, ?_⟩
  have hs1 := M1.size
  replace hI := hI.fr (M1.fr nowhere) (fun _ _ _ => nw)
  replace tc := tc.fr (M1.fr nowhere) (fun _ _ _ => nw)
  replace hc := (M1.fr nowhere).keep hc nw
  replace hF := hF.trans' (M1.fr nowhere) (fun _ _ _ h => h) (fun _ _ _ h => h.elim)
  have mi : Rd H1 H.size 0 (EI.enc x) := M1.rd _ [] (by simp [Value.cells])
  refine O.alloc rfl rfl rfl Go.Proofs.Try.zeroValue136 ?_
  intro H1 Mz
  refine ⟨trivial, ?_⟩
  replace hs1 : H1.size = H.size + 2 := by have := Mz.size; omega
  replace hI := hI.fr (Mz.fr nowhere) (fun _ _ _ => nw)
  replace tc := tc.fr (Mz.fr nowhere) (fun _ _ _ => nw)
  replace hc := (Mz.fr nowhere).keep hc nw
  replace hF := hF.trans' (Mz.fr nowhere) (fun _ _ _ h => h) (fun _ _ _ h => h.elim)
  replace mi := (Mz.fr nowhere).rd mi (fun _ _ => nw)
  refine O.asg rfl rfl rfl rfl rfl ?_
  refine O.asg rfl rfl rfl rfl rfl ?_
  refine Pl.fin [(0, _), (1, _), (5, _), (6, _), (7, _), (8, _)] ⟨rfl, rfl, rfl, rfl, rfl, rfl, trivial⟩ ?_
  refine Go'.seq ?_
  have hc0 := hI.n.c0
  rw [hiso] at hc0
  -- region 1 (map.go:222)
  refine Go'.region [(0, 0), (1, 0), (2, 2), (3, 2), (4, 2)] rfl ?_
  refine O.mv rfl rfl rfl rfl rfl ?_
  refine O.mv rfl rfl rfl rfl rfl ?_
  refine O.callQ rfl rfl rfl Go.Proofs.Try.call151 rfl (isoLoad_spec true hc hc0 tc.iso) trivial ?_
  refine O.alloc rfl rfl rfl Go.Proofs.Try.zeroValue135 ?_
  intro H2 M2
  refine ⟨trivial, ?_⟩
  have hs2 := M2.size
  replace hI := hI.fr (M2.fr nowhere) (fun _ _ _ => nw)
  replace tc := tc.fr (M2.fr nowhere) (fun _ _ _ => nw)
  replace mi := (M2.fr nowhere).rd mi (fun _ _ => nw)
  replace hF := hF.trans' (M2.fr nowhere) (fun _ _ _ h => h) (fun _ _ _ h => h.elim)
  have m9w : Wr H2 H1.size 0 1 := M2.wr 1 (by decide)
  refine O.st rfl rfl Go.Proofs.Try.sizeOf135 rfl rfl rfl rfl rfl m9w ?_
  intro H3 W3
  have hs3 := W3.size
  replace hI := hI.fr W3.fr (fun b o hb => nr (.inl (by have := hlt b o hb; omega)))
  replace tc := tc.fr W3.fr (fun o _ _ => nr (.inl (by omega)))
  replace mi := W3.fr.rd mi (fun _ _ => nr (.inl (by omega)))
  replace hF := hF.trans' W3.fr (fun _ _ _ h => h) (fun b o hb h => by simp only [rng] at h; omega)
  have m9 : cl H3 H1.size 0 = some (.pointer (some ⟨g.p, 0, none⟩)) := W3.at
  refine ⟨trivial, ?_⟩
  refine Pl.fin [(0, _), (5, _), (6, _), (7, _), (8, _), (9, _)] ⟨rfl, rfl, rfl, rfl, rfl, rfl, trivial⟩ ?_
  refine Go'.seq ?_
  -- region 2 (map.go:223)
  refine Go'.region [(0, 0), (1, 1), (2, 0), (3, 1), (4, 2), (5, 0), (6, 0), (7, 0), (8, 0), (9, 0)] rfl ?_
  refine O.mv rfl rfl rfl rfl rfl ?_
  refine O.ld rfl rfl rfl (fun w => ⟨Go.Proofs.Try.isAgg135 w, Go.Proofs.Try.sizeOf135 w⟩) rfl m9 ?_
  refine O.faz rfl rfl rfl rfl ⟨_, _, _, Go.Proofs.Try.underlying138, rfl, rfl, Go.Proofs.Try.sizeOf3⟩ rfl ?_
  refine O.ld rfl rfl rfl (fun w => ⟨Go.Proofs.Try.isAgg3 w, Go.Proofs.Try.sizeOf3 w⟩) rfl (mi 0 (.int .i64 x) rfl) ?_
  refine O.callQ rfl rfl rfl Go.Proofs.Try.call168 rfl (search_spec x hI.n hsX (by omega)) trivial ?_
  refine O.mv rfl rfl rfl rfl rfl ?_
  refine O.ext rfl rfl rfl rfl rfl rfl ?_
  refine O.ext rfl rfl rfl rfl rfl rfl ?_
  refine O.asg rfl rfl rfl rfl rfl ?_
  refine O.asg rfl rfl rfl rfl rfl ?_
  refine Pl.fin [(0, _), (5, _), (6, _), (7, _), (8, _), (9, _), (10, _), (11, _)] ⟨rfl, rfl, rfl, rfl, rfl, rfl, rfl, rfl, trivial⟩ ?_
  refine Go'.seq ?_
  refine Go'.seq ?_
  -- region 3 (map.go:224)
  refine Go'.region [(0, 0)] rfl ?_
  refine O.mv rfl rfl rfl rfl rfl ?_
  refine Pl.fin [(0, _), (5, _), (6, _), (7, _), (8, _), (9, _), (10, _), (25, _)] ⟨rfl, rfl, rfl, rfl, rfl, rfl, rfl, rfl, trivial⟩ ?_
  generalize hi : Pl.pos OI x X = i at *
  cases hfd : Pl.fnd OI x X
  rotate_left
  · -- found
    obtain ⟨y', hy', _, _, _, q1, q2, q3, _⟩ := Pl.inter_found OI hs hKL hfd
    rw [hi] at hy' q3
    obtain ⟨y, hy, _, _⟩ := Pl.fnd_at OI hsX hfd
    rw [hi] at hy
    have hlt' : i < X.length := (List.getElem?_eq_some_iff.1 hy).1
    refine Go'.condT rfl ?_
    refine Go'.seq ?_
    -- region 4 (map.go:225)
    refine Go'.region [(0, 1), (1, 0), (2, 0), (3, 1), (4, 0), (5, 0), (6, 1), (7, 1), (8, 2)] rfl ?_
    refine O.ld rfl rfl rfl (fun w => ⟨Go.Proofs.Try.isAgg135 w, Go.Proofs.Try.sizeOf135 w⟩) rfl m9 ?_
    refine O.nc rfl rfl rfl rfl rfl ?_
    refine O.fa0 (off := 2) rfl rfl rfl rfl ⟨_, _, _, Go.Proofs.Try.underlying205, rfl, rfl, Go.Proofs.Try.sizeOf202⟩ rfl ?_
    refine O.ld rfl rfl rfl (fun w => ⟨Go.Proofs.Try.isAgg202 w, Go.Proofs.Try.sizeOf202 w⟩) rfl hI.n.c2 ?_
    refine O.mv rfl rfl rfl rfl rfl ?_
    refine O.ix (j := i) rfl rfl rfl rfl Go.Proofs.Try.underlying202 Go.Proofs.Try.sizeOf138 rfl rfl (by omega) hlt' ?_
    refine O.fz1 rfl rfl rfl ty ⟨_, _, Go.Proofs.Try.underlying138, rfl, rfl, rfl, Go.Proofs.Try.sizeOf136⟩ rfl (hI.n.sl.wri hlt') ?_
    refine O.lds rfl rfl rfl (fun w => ⟨Go.Proofs.Try.isAgg136 w, Go.Proofs.Try.sizeOf136 w⟩) rfl rfl (Rd.nil _ _ _) ?_
    refine O.st0 rfl rfl Go.Proofs.Try.sizeOf136 rfl rfl rfl trivial ?_
    refine Pl.fin [(0, _), (5, _), (6, _), (7, _), (8, _), (9, _), (10, _)] ⟨rfl, rfl, rfl, rfl, rfl, rfl, rfl, trivial⟩ ?_
    refine Go'.seq ?_
    -- region 5 (map.go:226)
    refine Go'.draw (fun _ => True) [(0, 1), (1, 0), (2, 0), (3, 1), (4, 0), (5, 1), (6, 0), (7, 3)] (by kernel_rfl) (by kernel_rfl) (trivial) ?_
    refine O.ld rfl rfl rfl (fun w => ⟨Go.Proofs.Try.isAgg135 w, Go.Proofs.Try.sizeOf135 w⟩) rfl m9 ?_
    refine O.nc rfl rfl rfl rfl rfl ?_
    refine O.fa0 (off := 2) rfl rfl rfl rfl ⟨_, _, _, Go.Proofs.Try.underlying205, rfl, rfl, Go.Proofs.Try.sizeOf202⟩ rfl ?_
    refine O.ld rfl rfl rfl (fun w => ⟨Go.Proofs.Try.isAgg202 w, Go.Proofs.Try.sizeOf202 w⟩) rfl hI.n.c2 ?_
    refine O.mv rfl rfl rfl rfl rfl ?_
    refine O.lds rfl rfl rfl (fun w => ⟨Go.Proofs.Try.isAgg138 w, Go.Proofs.Try.sizeOf138 w⟩) rfl rfl mi ?_
    refine O.ix (j := i) rfl rfl rfl rfl Go.Proofs.Try.underlying202 Go.Proofs.Try.sizeOf138 rfl rfl (by omega) hlt' ?_
    refine O.st3 rfl rfl Go.Proofs.Try.sizeOf138 rfl rfl rfl rfl rfl (hI.n.sl.wri hlt') ?_
    intro H4 W4
    have hs4 := W4.size
    replace hF : Fr (Gt.af (h + 1) ((g, X, K) : Gt EI (h + 1))) H H4 := hF.trans' W4.fr (fun _ _ _ h => h.elim) (fun b o hb h => by have := W4.as_row.in_items hI.n (by rw [List.length_singleton]; omega) (by rw [row_one]; exact h); exact .inl (.inr this))
    replace hI := hI.set W4 hlt'
    refine Pl.fin [(0, _), (5, _), (6, _), (7, _), (8, _), (9, _), (10, _)] ⟨rfl, rfl, rfl, rfl, rfl, rfl, rfl, trivial⟩ ?_
    refine Go'.seq ?_
    -- region 6 (map.go:227)
    refine Go'.region [(0, 1), (1, 2), (2, 0), (3, 0)] rfl ?_
    refine O.lds rfl rfl rfl (fun w => ⟨Go.Proofs.Try.isAgg136 w, Go.Proofs.Try.sizeOf136 w⟩) rfl rfl (Rd.nil _ _ _) ?_
    refine O.st0 rfl rfl Go.Proofs.Try.sizeOf136 rfl rfl rfl trivial ?_
    refine O.asg rfl rfl rfl rfl rfl ?_
    refine O.asg rfl rfl rfl rfl rfl ?_
    refine Pl.fin [(0, _), (5, _), (6, _), (7, _), (8, _), (9, _), (10, _)] ⟨rfl, rfl, rfl, rfl, rfl, rfl, rfl, trivial⟩ ?_
    refine Go'.ret (vs := [_, _, _]) Go.Proofs.Try.func161 Go.Proofs.Try.results161 ⟨⟨_, _, rfl, fun _ _ => run_loadVar_agg (fun w => ⟨Go.Proofs.Try.isAgg136 w, Go.Proofs.Try.sizeOf136 w⟩) rfl (Rd.nil _ _ _)⟩, rfl, rfl, trivial⟩ ?_
    have hll : (X.take i ++ x :: X.drop (i + 1)).length = X.length := by simp only [List.length_append, List.length_take, List.length_cons, List.length_drop]; omega
    refine .inl ⟨((g, X.take i ++ x :: X.drop (i + 1), K) : Gt EI (h + 1)), ?_, ⟨hF, hI.good ?_ (by rw [hll]; exact hxm) (by rw [hll]; exact hKl), rfl, fun b o hb => .inl hb, q3.symm, Nat.le_of_eq hll.symm⟩⟩
    · show _ = Value.tuple #[PV (Pl.got OI x (Pl.inter X (K.map (Gt.L h)))), .bool (Pl.fnd OI x (Pl.inter X (K.map (Gt.L h)))), .bool false]
      rw [q1, q2]
      obtain rfl : y' = y := Option.some.inj (hy'.symm.trans hy)
      rfl
    · rw [hcnt, Pl.inter_length _ _ hKL, Pl.inter_length _ _ (by rw [hll]; exact hKL), hll]
  · -- not found
    have hle : i ≤ X.length := by rw [← hi]; exact Pl.pos_le OI x X
    obtain ⟨k, hkk⟩ : ∃ k, K[i]? = some k := ⟨K[i], List.getElem?_eq_getElem (by omega)⟩
    have hkK : k ∈ K := List.mem_of_getElem? hkk
    have hsp : K = K.take i ++ [k] ++ K.drop (i + 1) := by
      have hil : i < K.length := by omega
      rw [List.append_assoc, List.singleton_append, ← (List.getElem?_eq_some_iff.1 hkk).2, List.getElem_cons_drop, List.take_append_drop]
    obtain ⟨hgk, hmk, hdk⟩ := hI.c.1 k hkK
    have hklt : ∀ b o, Gt.af h k b o → b < H.size := fun b o hb => hlt b o (.inr (.inr ⟨k, hkK, hb⟩))
    have hkL : (K.map (Gt.L h))[i]? = some (Gt.L h k) := by rw [List.getElem?_map, hkk]; rfl
    obtain ⟨e1, e2, e3, e4⟩ := Pl.inter_child OI hs hKL hfd (by rw [hi]; exact hkL)
    rw [hi] at e1 e2 e3 e4
    have hsk : Pl.Srt OI (Gt.L h k) := by
      rw [e1, Pl.Srt.append, Pl.Srt.append] at hs
      exact hs.1.2.1
    have hlk : (Gt.L h k).length < 4611686018427387904 := by
      rw [e1, List.length_append, List.length_append] at hlen; omega
    have hok : ((Gt.ps h K).map some)[i]? = some (some (Gt.p h k)) := by rw [Gt.ps, List.map_map, List.getElem?_map, hkk]; rfl
    have hol : ((Gt.ps h K).map some).length = K.length := by rw [List.length_map, Gt.ps, List.length_map]
    generalize hos : (Gt.ps h K).map some = os at *
    have hf1 := Pl.fnd_mid OI e2 e3 (m := Gt.L h k)
    have hf2 := Pl.got_mid OI e2 e3 (m := Gt.L h k)
    have hf3 := Pl.put_mid OI e2 e3 (m := Gt.L h k)
    rw [← e1] at hf1 hf2 hf3
    refine Go'.condF rfl ?_
    refine Go'.skip ?_
    refine Go'.seq ?_
    refine Go'.seq ?_
    -- region 7 (map.go:229)
    refine Go'.region [(0, 1), (1, 2)] rfl ?_
    refine O.ld rfl rfl rfl (fun w => ⟨Go.Proofs.Try.isAgg135 w, Go.Proofs.Try.sizeOf135 w⟩) rfl m9 ?_
    refine O.callQ rfl rfl rfl Go.Proofs.Try.call152 rfl (leaf_spec hI.n.c3) trivial ?_
    refine Pl.fin [(0, _), (5, _), (6, _), (7, _), (8, _), (9, _), (10, _), (43, _)] ⟨rfl, rfl, rfl, rfl, rfl, rfl, rfl, rfl, trivial⟩ ?_
    refine Go'.condF rfl ?_
    refine Go'.skip ?_
    refine Go'.seq ?_
    -- region 15 (map.go:239)
    refine Go'.draw (fun _ => True) [(0, 0), (1, 1), (2, 0), (3, 0), (4, 1), (5, 0), (6, 1), (7, 0), (8, 0), (9, 1), (10, 2), (11, 0), (12, 0), (13, 0), (14, 0), (15, 2), (16, 0), (17, 0)] (by kernel_rfl) (by kernel_rfl) (trivial) ?_
    refine O.mv rfl rfl rfl rfl rfl ?_
    refine O.ld rfl rfl rfl (fun w => ⟨Go.Proofs.Try.isAgg135 w, Go.Proofs.Try.sizeOf135 w⟩) rfl m9 ?_
    refine O.nc rfl rfl rfl rfl rfl ?_
    refine O.fa0 (off := 3) rfl rfl rfl rfl ⟨_, _, _, Go.Proofs.Try.underlying205, rfl, rfl, Go.Proofs.Try.sizeOf203⟩ rfl ?_
    refine O.ld rfl rfl rfl (fun w => ⟨Go.Proofs.Try.isAgg203 w, Go.Proofs.Try.sizeOf203 w⟩) rfl hI.n.c3 ?_
    refine O.nc rfl rfl rfl rfl rfl ?_
    refine O.ld rfl rfl rfl (fun w => ⟨Go.Proofs.Try.isAgg206 w, Go.Proofs.Try.sizeOf206 w⟩) rfl hI.k.c ?_
    refine O.mv rfl rfl rfl rfl rfl ?_
    refine O.ix (j := i) rfl rfl rfl rfl Go.Proofs.Try.underlying206 Go.Proofs.Try.sizeOf135 rfl rfl (by omega) (by omega) ?_
    refine O.lds rfl rfl rfl (fun w => ⟨Go.Proofs.Try.isAgg138 w, Go.Proofs.Try.sizeOf138 w⟩) rfl rfl mi ?_
    refine O.call rfl rfl rfl Go.Proofs.Try.call161 rfl ((ih (t := k) ⟨tc, hgk, hI.k.at hok, fun o ho => hnt o (.inr (.inr ⟨k, hkK, ho⟩)), hsk, hlk⟩).mono fun _ _ => SetQ.uni) ?_
    rintro _ H4 ⟨pv, r, sp, rfl, hq⟩
    obtain rfl : pv = .agg #[] := by rcases hq with ⟨_, _, h, _⟩ | ⟨_, h, _⟩ <;> exact h
    refine ⟨trivial, ?_⟩
    refine O.mv rfl rfl rfl rfl rfl ?_
    refine O.ext rfl rfl rfl rfl rfl rfl ?_
    refine O.ext rfl rfl rfl rfl rfl rfl ?_
    refine O.ext rfl rfl rfl rfl rfl rfl ?_
    refine O.st0 rfl rfl Go.Proofs.Try.sizeOf136 rfl rfl rfl trivial ?_
    refine O.asg rfl rfl rfl rfl rfl ?_
    refine O.asg rfl rfl rfl rfl rfl ?_
    refine Pl.fin [(0, _), (5, _), (6, _), (7, _), (8, _), (9, _), (10, _)] ⟨rfl, rfl, rfl, rfl, rfl, rfl, rfl, trivial⟩ ?_
    refine Go'.seq ?_
    refine Go'.seq ?_
    rcases hq with ⟨rfl, t', _, rfl, hS⟩ | ⟨rfl, _, rfl, hfr, hful, hnf⟩
    · -- set below
      -- region 16 (map.go:240)
      refine Go'.region [(0, 0)] rfl ?_
      refine O.mv rfl rfl rfl rfl rfl ?_
      refine Pl.fin [(0, _), (5, _), (6, _), (7, _), (8, _), (9, _), (10, _), (120, _)] ⟨rfl, rfl, rfl, rfl, rfl, rfl, rfl, rfl, trivial⟩ ?_
      refine Go'.condF rfl ?_
      refine Go'.skip ?_
      refine Go'.seq ?_
      refine Go'.seq ?_
      have hs4 : H3.size ≤ H4.size := hS.fr.size
      replace tc := tc.fr hS.fr (fun o _ _ hz => hnt o (.inr (.inr ⟨k, hkK, hz⟩)))
      replace mi := hS.fr.rd mi (fun _ _ hz => by have := hklt _ _ hz; omega)
      replace m9 := hS.fr.keep m9 (fun hz => by have := hklt _ _ hz; omega)
      replace hF : Fr (Gt.af (h + 1) ((g, X, K) : Gt EI (h + 1))) H H4 := hF.trans' hS.fr (fun _ _ _ h => h.elim) (fun b o _ hz => .inr (.inr ⟨k, hkK, hz⟩))
      rw [hsp] at hI
      replace hI := hI.repl (A := [k]) (M := [t']) hS.fr (fun b o hz => ⟨k, List.mem_singleton.2 rfl, hz⟩) (fun m hm => by
        rw [List.mem_singleton] at hm; subst hm
        exact ⟨hS.g, Nat.le_trans hmk hS.x, fun b o hb => (hS.a b o hb).imp (fun h => ⟨k, List.mem_singleton.2 rfl, h⟩) id⟩) (List.pairwise_singleton _ _)
      have hos' : os = (Gt.ps h (K.take i ++ [t'] ++ K.drop (i + 1))).map some := by
        rw [← hos]
        conv => lhs; rw [hsp]
        simp only [Gt.ps, List.map_append, List.map_cons, List.map_nil, hS.p]
      have hL' : Pl.inter X ((K.take i ++ [t'] ++ K.drop (i + 1)).map (Gt.L h)) = Pl.put OI x (Pl.inter X (K.map (Gt.L h))) := by
        rw [List.append_assoc, List.map_append, List.map_append, List.map_take, List.map_drop, List.map_singleton, List.singleton_append, e4, hS.l]
        exact hf3.symm
      have hKl' : (K.take i ++ [t'] ++ K.drop (i + 1)).length = X.length + 1 := by simp only [List.length_append, List.length_take, List.length_cons, List.length_drop, List.length_nil]; omega
      have haf : ∀ b o, innc h g (K.take i ++ [t'] ++ K.drop (i + 1)) b o → Gt.af (h + 1) ((g, X, K) : Gt EI (h + 1)) b o ∨ H.size ≤ b := by
        intro b o hb
        rcases hb with hb | hb | ⟨m, hm, hb⟩
        · exact .inl (.inl hb)
        · exact .inl (.inr (.inl hb))
        · simp only [List.mem_append, List.mem_singleton] at hm
          rcases hm with (hm | hm) | hm
          · exact .inl (.inr (.inr ⟨m, List.mem_of_mem_take hm, hb⟩))
          · subst hm
            exact (hS.a b o hb).elim (fun h => .inl (.inr (.inr ⟨k, hkK, h⟩))) (fun h => .inr (by omega))
          · exact .inl (.inr (.inr ⟨m, List.mem_of_mem_drop hm, hb⟩))
      have hlp := Pl.length_put OI x (Pl.inter X (K.map (Gt.L h)))
      have hcc : cl H4 g.p 1 = some (.int .i64 (g.cnt : Int)) := hI.n.c1
      rw [hos'] at hI
      rw [← hf1]
      -- region 27 (map.go:253)
      refine Go'.region [(0, 0), (1, 0)] rfl ?_
      refine O.mv rfl rfl rfl rfl rfl ?_
      refine O.not rfl rfl rfl rfl rfl ?_
      refine Pl.fin [(6, _), (7, _), (8, _), (9, _), (232, _)] ⟨rfl, rfl, rfl, rfl, rfl, trivial⟩ ?_
      cases hfk : Pl.fnd OI x (Pl.inter X (K.map (Gt.L h)))
      · -- new
        refine Go'.condT rfl ?_
        -- region 28 (map.go:254)
        refine Go'.region [(0, 1), (1, 0), (2, 0), (3, 1), (4, 0), (5, 0), (6, 0), (7, 2)] rfl ?_
        refine O.ld rfl rfl rfl (fun w => ⟨Go.Proofs.Try.isAgg135 w, Go.Proofs.Try.sizeOf135 w⟩) rfl m9 ?_
        refine O.nc rfl rfl rfl rfl rfl ?_
        refine O.fa0 (off := 1) rfl rfl rfl rfl ⟨_, _, _, Go.Proofs.Try.underlying205, rfl, rfl, Go.Proofs.Try.sizeOf3⟩ rfl ?_
        refine O.ld rfl rfl rfl (fun w => ⟨Go.Proofs.Try.isAgg3 w, Go.Proofs.Try.sizeOf3 w⟩) rfl hcc ?_
        refine O.add (((g.cnt + 1 : Nat) : Int)) rfl rfl rfl rfl rfl rfl (by omega) (by omega) ?_
        refine O.nc rfl rfl rfl rfl rfl ?_
        refine O.fa0 (off := 1) rfl rfl rfl rfl ⟨_, _, _, Go.Proofs.Try.underlying205, rfl, rfl, Go.Proofs.Try.sizeOf3⟩ rfl ?_
        refine O.st rfl rfl Go.Proofs.Try.sizeOf3 rfl rfl rfl rfl rfl (hI.n.wr.at0 1 1 (by omega)) ?_
        intro H5 W5
        replace hF := hF.trans' W5.fr (fun _ _ _ h => h) (fun b o hb h => .inl (NodeM.in1 (H := H4) (H' := H5) (by simp) h))
        replace hI := hI.count W5
        refine ⟨trivial, ?_⟩
        refine Pl.fin [(6, _), (7, _), (8, _)] ⟨rfl, rfl, rfl, trivial⟩ ?_
        refine Go'.seq ?_
        -- region 29 (map.go:256)
        refine Go'.region [(0, 1), (1, 0), (2, 2), (3, 0), (4, 0)] rfl ?_
        refine O.lds rfl rfl rfl (fun w => ⟨Go.Proofs.Try.isAgg136 w, Go.Proofs.Try.sizeOf136 w⟩) rfl rfl (Rd.nil _ _ _) ?_
        refine O.mv rfl rfl rfl rfl rfl ?_
        refine O.st0 rfl rfl Go.Proofs.Try.sizeOf136 rfl rfl rfl trivial ?_
        refine O.asg rfl rfl rfl rfl rfl ?_
        refine O.asg rfl rfl rfl rfl rfl ?_
        refine Pl.fin [(6, _), (7, _), (8, _)] ⟨rfl, rfl, rfl, trivial⟩ ?_
        refine Go'.ret (vs := [_, _, _]) Go.Proofs.Try.func161 Go.Proofs.Try.results161 ⟨⟨_, _, rfl, fun _ _ => run_loadVar_agg (fun w => ⟨Go.Proofs.Try.isAgg136 w, Go.Proofs.Try.sizeOf136 w⟩) rfl (Rd.nil _ _ _)⟩, rfl, rfl, trivial⟩ ?_
        refine .inl ⟨(({ g with cnt := g.cnt + 1 }, X, K.take i ++ [t'] ++ K.drop (i + 1)) : Gt EI (h + 1)), ?_, ⟨hF, hI.good ?_ hxm hKl', rfl, haf, hL', Nat.le_refl _⟩⟩
        · show _ = Value.tuple #[PV (Pl.got OI x (Pl.inter X (K.map (Gt.L h)))), .bool (Pl.fnd OI x (Pl.inter X (K.map (Gt.L h)))), .bool false]
          rw [hf2, hfk]; rfl
        · show g.cnt + 1 = _; rw [hL', hlp, hfk, hcnt]; rfl
      · -- replaced
        refine Go'.condF rfl ?_
        refine Go'.skip ?_
        refine Go'.seq ?_
        -- region 29 (map.go:256)
        refine Go'.region [(0, 1), (1, 0), (2, 2), (3, 0), (4, 0)] rfl ?_
        refine O.lds rfl rfl rfl (fun w => ⟨Go.Proofs.Try.isAgg136 w, Go.Proofs.Try.sizeOf136 w⟩) rfl rfl (Rd.nil _ _ _) ?_
        refine O.mv rfl rfl rfl rfl rfl ?_
        refine O.st0 rfl rfl Go.Proofs.Try.sizeOf136 rfl rfl rfl trivial ?_
        refine O.asg rfl rfl rfl rfl rfl ?_
        refine O.asg rfl rfl rfl rfl rfl ?_
        refine Pl.fin [(6, _), (7, _), (8, _)] ⟨rfl, rfl, rfl, trivial⟩ ?_
        refine Go'.ret (vs := [_, _, _]) Go.Proofs.Try.func161 Go.Proofs.Try.results161 ⟨⟨_, _, rfl, fun _ _ => run_loadVar_agg (fun w => ⟨Go.Proofs.Try.isAgg136 w, Go.Proofs.Try.sizeOf136 w⟩) rfl (Rd.nil _ _ _)⟩, rfl, rfl, trivial⟩ ?_
        refine .inl ⟨((g, X, K.take i ++ [t'] ++ K.drop (i + 1)) : Gt EI (h + 1)), ?_, ⟨hF, hI.good ?_ hxm hKl', rfl, haf, hL', Nat.le_refl _⟩⟩
        · show _ = Value.tuple #[PV (Pl.got OI x (Pl.inter X (K.map (Gt.L h)))), .bool (Pl.fnd OI x (Pl.inter X (K.map (Gt.L h)))), .bool false]
          rw [hf2, hfk]; rfl
        · rw [hL', hlp, hfk, hcnt]; rfl
    · -- the child is full
      -- region 16 (map.go:240)
      refine Go'.region [(0, 0)] rfl ?_
      refine O.mv rfl rfl rfl rfl rfl ?_
      refine Pl.fin [(0, _), (5, _), (6, _), (7, _), (8, _), (9, _), (10, _), (120, _)] ⟨rfl, rfl, rfl, rfl, rfl, rfl, rfl, rfl, trivial⟩ ?_
      refine Go'.condT rfl ?_
      refine Go'.seq ?_
      refine Go'.seq ?_
      have hs4 : H3.size ≤ H4.size := hfr.size
      replace hI := hI.fr hfr (fun _ _ _ => nw)
      replace tc := tc.fr hfr (fun _ _ _ => nw)
      replace mi := hfr.rd mi (fun _ _ => nw)
      replace m9 := hfr.keep m9 nw
      replace hF := hF.trans' hfr (fun _ _ _ h => h) (fun _ _ _ h => h.elim)
      have hNF : ¬ Gt.NF OI P x (h + 1) ((g, X, K) : Gt EI (h + 1)) := by
        rintro (hn | hn)
        · have hn' : Pl.fnd OI x X = true := hn
          rw [hfd] at hn'; cases hn'
        · have := hn k (by show K[Pl.pos OI x X]? = some k; rw [hi]; exact hkk)
          omega
      by_cases hfu : X.length = P.mx
      · -- and so is the node
        -- region 17 (map.go:241)
        refine Go'.draw (fun _ => True) [(0, 1), (1, 0), (2, 0), (3, 1), (4, 0), (5, 0), (6, 0), (7, 0), (8, 1), (9, 0)] (by kernel_rfl) (by kernel_rfl) (trivial) ?_
        refine O.ld rfl rfl rfl (fun w => ⟨Go.Proofs.Try.isAgg135 w, Go.Proofs.Try.sizeOf135 w⟩) rfl m9 ?_
        refine O.nc rfl rfl rfl rfl rfl ?_
        refine O.fa0 (off := 2) rfl rfl rfl rfl ⟨_, _, _, Go.Proofs.Try.underlying205, rfl, rfl, Go.Proofs.Try.sizeOf202⟩ rfl ?_
        refine O.ld rfl rfl rfl (fun w => ⟨Go.Proofs.Try.isAgg202 w, Go.Proofs.Try.sizeOf202 w⟩) rfl hI.n.c2 ?_
        refine O.len rfl rfl rfl rfl Go.Proofs.Try.underlying202 rfl ?_
        refine O.mv rfl rfl rfl rfl rfl ?_
        refine O.nc rfl rfl rfl rfl rfl ?_
        refine O.fa0 (off := 6) rfl rfl rfl rfl ⟨_, _, _, Go.Proofs.Try.underlying140, rfl, rfl, Go.Proofs.Try.sizeOf3⟩ rfl ?_
        refine O.ld rfl rfl rfl (fun w => ⟨Go.Proofs.Try.isAgg3 w, Go.Proofs.Try.sizeOf3 w⟩) rfl tc.mx' ?_
        refine O.cmp rfl rfl rfl rfl rfl rfl (eqlT (by omega)) ?_
        refine Pl.fin [(0, _), (5, _), (6, _), (7, _), (8, _), (9, _), (10, _), (130, _)] ⟨rfl, rfl, rfl, rfl, rfl, rfl, rfl, rfl, trivial⟩ ?_
        refine Go'.condT rfl ?_
        refine Go'.seq ?_
        -- region 18 (map.go:242)
        refine Go'.region [(0, 0), (1, 0), (2, 0), (3, 1), (4, 1), (5, 2), (6, 0), (7, 0)] rfl ?_
        refine O.mv rfl rfl rfl rfl rfl ?_
        refine O.nc rfl rfl rfl rfl rfl ?_
        refine O.fa0 (off := 4) rfl rfl rfl rfl ⟨_, _, _, Go.Proofs.Try.underlying140, rfl, rfl, Go.Proofs.Try.sizeOf138⟩ rfl ?_
        refine O.fz1 rfl rfl rfl ty ⟨_, _, Go.Proofs.Try.underlying138, rfl, rfl, rfl, Go.Proofs.Try.sizeOf136⟩ rfl (tc.wr.at0 4 1 (by omega)) ?_
        refine O.lds rfl rfl rfl (fun w => ⟨Go.Proofs.Try.isAgg136 w, Go.Proofs.Try.sizeOf136 w⟩) rfl rfl (Rd.nil _ _ _) ?_
        refine O.st0 rfl rfl Go.Proofs.Try.sizeOf136 rfl rfl rfl trivial ?_
        refine O.asg rfl rfl rfl rfl rfl ?_
        refine O.asg rfl rfl rfl rfl rfl ?_
        refine Pl.fin [(0, _), (5, _), (6, _), (7, _), (8, _), (9, _), (10, _)] ⟨rfl, rfl, rfl, rfl, rfl, rfl, rfl, trivial⟩ ?_
        refine Go'.ret (vs := [_, _, _]) Go.Proofs.Try.func161 Go.Proofs.Try.results161 ⟨⟨_, _, rfl, fun _ _ => run_loadVar_agg (fun w => ⟨Go.Proofs.Try.isAgg136 w, Go.Proofs.Try.sizeOf136 w⟩) rfl (Rd.nil _ _ _)⟩, rfl, rfl, trivial⟩ ?_
        exact .inr ⟨rfl, hF, hfu, hNF⟩
      · -- the node has room
        -- region 17 (map.go:241)
        refine Go'.draw (fun _ => True) [(0, 1), (1, 0), (2, 0), (3, 1), (4, 0), (5, 0), (6, 0), (7, 0), (8, 1), (9, 0)] (by kernel_rfl) (by kernel_rfl) (trivial) ?_
        refine O.ld rfl rfl rfl (fun w => ⟨Go.Proofs.Try.isAgg135 w, Go.Proofs.Try.sizeOf135 w⟩) rfl m9 ?_
        refine O.nc rfl rfl rfl rfl rfl ?_
        refine O.fa0 (off := 2) rfl rfl rfl rfl ⟨_, _, _, Go.Proofs.Try.underlying205, rfl, rfl, Go.Proofs.Try.sizeOf202⟩ rfl ?_
        refine O.ld rfl rfl rfl (fun w => ⟨Go.Proofs.Try.isAgg202 w, Go.Proofs.Try.sizeOf202 w⟩) rfl hI.n.c2 ?_
        refine O.len rfl rfl rfl rfl Go.Proofs.Try.underlying202 rfl ?_
        refine O.mv rfl rfl rfl rfl rfl ?_
        refine O.nc rfl rfl rfl rfl rfl ?_
        refine O.fa0 (off := 6) rfl rfl rfl rfl ⟨_, _, _, Go.Proofs.Try.underlying140, rfl, rfl, Go.Proofs.Try.sizeOf3⟩ rfl ?_
        refine O.ld rfl rfl rfl (fun w => ⟨Go.Proofs.Try.isAgg3 w, Go.Proofs.Try.sizeOf3 w⟩) rfl tc.mx' ?_
        refine O.cmp rfl rfl rfl rfl rfl rfl (eqlF (by omega)) ?_
        refine Pl.fin [(0, _), (5, _), (6, _), (7, _), (8, _), (9, _), (10, _), (130, _)] ⟨rfl, rfl, rfl, rfl, rfl, rfl, rfl, rfl, trivial⟩ ?_
        refine Go'.condF rfl ?_
        refine Go'.skip ?_
        refine Go'.seq ?_
        have hxl : X.length + 1 ≤ P.mx := Nat.lt_of_le_of_ne hxm hfu
        replace hgk := (hI.c.1 k hkK).1
        -- region 19 (map.go:244)
        refine Go'.region [(0, 0), (1, 1), (2, 0), (3, 0), (4, 1), (5, 0), (6, 1), (7, 0), (8, 0), (9, 1), (10, 2), (11, 0), (12, 0), (13, 0), (14, 2), (15, 0), (16, 2)] rfl ?_
        refine O.mv rfl rfl rfl rfl rfl ?_
        refine O.ld rfl rfl rfl (fun w => ⟨Go.Proofs.Try.isAgg135 w, Go.Proofs.Try.sizeOf135 w⟩) rfl m9 ?_
        refine O.nc rfl rfl rfl rfl rfl ?_
        refine O.fa0 (off := 3) rfl rfl rfl rfl ⟨_, _, _, Go.Proofs.Try.underlying205, rfl, rfl, Go.Proofs.Try.sizeOf203⟩ rfl ?_
        refine O.ld rfl rfl rfl (fun w => ⟨Go.Proofs.Try.isAgg203 w, Go.Proofs.Try.sizeOf203 w⟩) rfl hI.n.c3 ?_
        refine O.nc rfl rfl rfl rfl rfl ?_
        refine O.ld rfl rfl rfl (fun w => ⟨Go.Proofs.Try.isAgg206 w, Go.Proofs.Try.sizeOf206 w⟩) rfl hI.k.c ?_
        refine O.mv rfl rfl rfl rfl rfl ?_
        refine O.ix (j := i) rfl rfl rfl rfl Go.Proofs.Try.underlying206 Go.Proofs.Try.sizeOf135 rfl rfl (by omega) (by omega) ?_
        refine O.ld rfl rfl rfl (fun w => ⟨Go.Proofs.Try.isAgg135 w, Go.Proofs.Try.sizeOf135 w⟩) rfl (hI.k.at hok) ?_
        refine O.call rfl rfl rfl Go.Proofs.Try.call162 rfl (split_spec hP tc hgk hful (fun o ho => hnt o (.inr (.inr ⟨k, hkK, ho⟩))) hlk) ?_
        rintro _ H5 ⟨t1, t2, med, rfl, hS⟩
        have hs5 : H4.size ≤ H5.size := hS.fr.size
        replace tc := tc.fr hS.fr (fun o _ _ hz => hnt o (.inr (.inr ⟨k, hkK, hz⟩)))
        replace mi := hS.fr.rd mi (fun _ _ hz => by have := hklt _ _ hz; omega)
        replace m9 := hS.fr.keep m9 (fun hz => by have := hklt _ _ hz; omega)
        replace hF : Fr (Gt.af (h + 1) ((g, X, K) : Gt EI (h + 1))) H H5 := hF.trans' hS.fr (fun _ _ _ h => h.elim) (fun b o _ hz => .inr (.inr ⟨k, hkK, hz⟩))
        rw [hsp] at hI
        replace hI := hI.repl (A := [k]) (M := [t1, t2]) hS.fr (fun b o hz => ⟨k, List.mem_singleton.2 rfl, hz⟩) (fun m hm => by
          simp only [List.mem_cons, List.not_mem_nil, or_false] at hm
          rcases hm with rfl | rfl
          · exact ⟨hS.g1, Nat.le_of_eq hS.x1.symm, fun b o hb => (hS.a1 b o hb).imp (fun h => ⟨k, List.mem_singleton.2 rfl, h⟩) id⟩
          · exact ⟨hS.g2, Nat.le_of_eq hS.x2.symm, fun b o hb => (hS.a2 b o hb).imp (fun h => ⟨k, List.mem_singleton.2 rfl, h⟩) id⟩) (List.pairwise_pair.2 hS.dis)
        have hlt5 : ∀ b o, innc h g (K.take i ++ [t1, t2] ++ K.drop (i + 1)) b o → b < H5.size := fun b o hb => hI.lt hb
        have haf5 : ∀ m ∈ K.take i ++ [t1, t2] ++ K.drop (i + 1), ∀ b o, Gt.af h m b o → Gt.af (h + 1) ((g, X, K) : Gt EI (h + 1)) b o ∨ H.size ≤ b := by
          intro m hm b o hb
          simp only [List.mem_append, List.mem_cons, List.not_mem_nil, or_false] at hm
          rcases hm with (hm | rfl | rfl) | hm
          · exact .inl (.inr (.inr ⟨m, List.mem_of_mem_take hm, hb⟩))
          · exact (hS.a1 b o hb).elim (fun h => .inl (.inr (.inr ⟨k, hkK, h⟩))) (fun h => .inr (by omega))
          · exact (hS.a2 b o hb).elim (fun h => .inl (.inr (.inr ⟨k, hkK, h⟩))) (fun h => .inr (by omega))
          · exact .inl (.inr (.inr ⟨m, List.mem_of_mem_drop hm, hb⟩))
        have hnt5 : ∀ m ∈ K.take i ++ [t1, t2] ++ K.drop (i + 1), ∀ o, ¬ Gt.af h m tr o := fun m hm o hb => (haf5 m hm _ _ hb).elim (hnt o) (fun h => by omega)
        refine ⟨trivial, ?_⟩
        refine O.mv rfl rfl rfl rfl rfl ?_
        refine O.ext rfl rfl rfl rfl rfl rfl ?_
        refine O.ext rfl rfl rfl rfl rfl rfl ?_
        refine O.alloc rfl rfl rfl Go.Proofs.Try.zeroValue138 ?_
        intro H6 M6
        refine ⟨trivial, ?_⟩
        have hs6 := M6.size
        replace hI := hI.fr (M6.fr nowhere) (fun _ _ _ => nw)
        replace tc := tc.fr (M6.fr nowhere) (fun _ _ _ => nw)
        replace mi := (M6.fr nowhere).rd mi (fun _ _ => nw)
        replace m9 := (M6.fr nowhere).keep m9 nw
        replace hF := hF.trans' (M6.fr nowhere) (fun _ _ _ h => h) (fun _ _ _ h => h.elim)
        have m13w : Wr H6 H5.size 0 1 := M6.wr 1 (by decide)
        refine O.asg rfl rfl rfl rfl rfl ?_
        refine O.st rfl rfl Go.Proofs.Try.sizeOf138 rfl rfl rfl rfl rfl m13w ?_
        intro H7 W7
        have hs7 := W7.size
        replace hI := hI.fr W7.fr (fun b o hb => nr (.inl (by have := hlt5 b o hb; omega)))
        replace tc := tc.fr W7.fr (fun o _ _ => nr (.inl (by omega)))
        replace mi := W7.fr.rd mi (fun _ _ => nr (.inl (by omega)))
        replace m9 := W7.fr.keep m9 (nr (.inl (by omega)))
        replace hF := hF.trans' W7.fr (fun _ _ _ h => h) (fun b o hb h => by simp only [rng] at h; omega)
        have m13 : Rd H7 H5.size 0 (EI.enc med) := W7.all
        refine ⟨trivial, ?_⟩
        refine Pl.fin [(0, _), (5, _), (6, _), (7, _), (8, _), (9, _), (10, _), (12, _), (13, _)] ⟨rfl, rfl, rfl, rfl, rfl, rfl, rfl, rfl, rfl, trivial⟩ ?_
        refine Go'.seq ?_
        have hkcap := hI.k.sl.hle
        -- region 20 (map.go:245)
        refine Go'.draw (fun H' => cl H' H1.size 0 = some (.pointer (some ⟨g.p, 0, none⟩)) ∧ cl H' g.p 3 = some (.pointer (some ⟨g.cb, 0, none⟩)) ∧ cl H' g.cb 0 = some (.slice (some ⟨g.kb, g.ko, none⟩) os.length g.kc)) [(0, 0), (1, 0), (2, 0), (3, 0), (4, 0), (5, 0), (6, 0), (7, 0), (8, 0), (9, 0), (10, 2), (11, 2), (12, 0), (13, 3)] (by kernel_rfl) (by kernel_rfl) (⟨m9, hI.n.c3, hI.k.c⟩) ?_
        refine O.ldC rfl rfl rfl (fun w => ⟨Go.Proofs.Try.isAgg135 w, Go.Proofs.Try.sizeOf135 w⟩) rfl (fun _ h => h.1) ?_
        refine O.nc rfl rfl rfl rfl rfl ?_
        refine O.fa0 (off := 3) rfl rfl rfl rfl ⟨_, _, _, Go.Proofs.Try.underlying205, rfl, rfl, Go.Proofs.Try.sizeOf203⟩ rfl ?_
        refine O.ldC rfl rfl rfl (fun w => ⟨Go.Proofs.Try.isAgg203 w, Go.Proofs.Try.sizeOf203 w⟩) rfl (fun _ h => h.2.1) ?_
        refine O.ldC rfl rfl rfl (fun w => ⟨Go.Proofs.Try.isAgg135 w, Go.Proofs.Try.sizeOf135 w⟩) rfl (fun _ h => h.1) ?_
        refine O.nc rfl rfl rfl rfl rfl ?_
        refine O.fa0 (off := 3) rfl rfl rfl rfl ⟨_, _, _, Go.Proofs.Try.underlying205, rfl, rfl, Go.Proofs.Try.sizeOf203⟩ rfl ?_
        refine O.ldC rfl rfl rfl (fun w => ⟨Go.Proofs.Try.isAgg203 w, Go.Proofs.Try.sizeOf203 w⟩) rfl (fun _ h => h.2.1) ?_
        refine O.nc rfl rfl rfl rfl rfl ?_
        refine O.ldC rfl rfl rfl (fun w => ⟨Go.Proofs.Try.isAgg206 w, Go.Proofs.Try.sizeOf206 w⟩) rfl (fun _ h => h.2.2) ?_
        refine O.bsl (cs := [.pointer none]) rfl rfl rfl ⟨Go.Proofs.Try.underlying206, Go.Proofs.Try.sizeOf135, Go.Proofs.Try.zeroValue135, ⟨_, Go.Proofs.Try.typeInfo135, rfl⟩, rfl, by decide, by decide⟩ rfl (by decide) (by kernel_rfl) ?_
        intro H8 M8
        have hs8 := M8.size
        replace hI := hI.fr (M8.fr nowhere) (fun _ _ _ => nw)
        replace tc := tc.fr (M8.fr nowhere) (fun _ _ _ => nw)
        replace mi := (M8.fr nowhere).rd mi (fun _ _ => nw)
        replace m9 := (M8.fr nowhere).keep m9 nw
        replace m13 := (M8.fr nowhere).rd m13 (fun _ _ => nw)
        replace hF := hF.trans' (M8.fr nowhere) (fun _ _ _ h => h) (fun _ _ _ h => h.elim)
        have m8 : Rd H8 H7.size 0 [.pointer none] := M8.rd _ [] (by simp)
        refine ⟨⟨m9, hI.n.c3, hI.k.c⟩, ?_⟩
        refine O.app (m := 1) (news := [.pointer none]) rfl rfl rfl ⟨Go.Proofs.Try.underlying206, Go.Proofs.Try.sizeOf135, Go.Proofs.Try.zeroValue135, ⟨_, Go.Proofs.Try.typeInfo135, rfl⟩, rfl, by decide, by decide⟩ rfl hI.k.sl rfl (.inl ⟨_, _, _, rfl, m8⟩) rfl rfl (Nat.le_trans (Nat.mul_le_mul_left _ (Nat.le_of_ble_eq_true (n := _) (m := 4096) rfl)) (by omega)) (by omega) ?_
        intro bk ok ck H9 ha
        have hkin : ∀ b o, b < H.size → (b = bk ∧ ok ≤ o ∧ o < ok + ck * 1) → kcl g b o := fun b o hb hh => .inr (by have h0 := ha.inside (by omega) hh; exact ⟨h0.1, h0.2.1, by omega⟩)
        have hbk : bk ≠ tr ∧ bk ≠ H.size ∧ bk ≠ H1.size ∧ bk ≠ g.p ∧ bk ≠ H5.size ∧ bk ≠ g.cb ∧ bk ≠ g.ib := by rcases ha.place with ⟨r, _⟩ | ⟨r, _⟩ <;> omega
        have hI0 := hI
        replace hI := hI.kapp ha
        replace tc := tc.fr ha.fr (fun o _ _ => nr (.inl (by omega)))
        replace mi := ha.fr.rd mi (fun _ _ => nr (.inl (by omega)))
        replace m9 := ha.fr.keep m9 (nr (.inl (by omega)))
        replace m13 := ha.fr.rd m13 (fun _ _ => nr (.inl (by omega)))
        replace hF := hF.trans' ha.fr (fun _ _ _ h => h) (fun b o hb h => .inr (.inl (show kcl g b o from .inr ⟨h.1, by have := h.2.1; omega, by have := h.2.2; omega⟩)))
        have hs9 : H8.size ≤ H9.size := ha.fr.size
        refine ⟨⟨m9, hI.n.c3, hI.k.c⟩, ?_⟩
        refine O.nc rfl rfl rfl rfl rfl ?_
        refine O.st3 rfl rfl Go.Proofs.Try.sizeOf206 rfl rfl rfl rfl rfl hI.k.wr ?_
        intro H10 W10
        have hs10 := W10.size
        replace hI := hI0.kpush (e := none) rfl ha W10
        replace tc := tc.fr W10.fr (fun o _ _ => nr (.inl (by omega)))
        replace mi := W10.fr.rd mi (fun _ _ => nr (.inl (by omega)))
        replace m9 := W10.fr.keep m9 (nr (.inl (by omega)))
        replace m13 := W10.fr.rd m13 (fun _ _ => nr (.inl (by omega)))
        replace hF := hF.trans' W10.fr (fun _ _ _ h => h) (fun b o hb h => .inr (.inl (.inl ⟨h.1, by have := h.2.2; simpa using this⟩)))
        refine Pl.fin [(0, _), (5, _), (6, _), (7, _), (8, _), (9, _), (10, _), (12, _), (13, _)] ⟨rfl, rfl, rfl, rfl, rfl, rfl, rfl, rfl, rfl, trivial⟩ ?_
        refine Go'.seq ?_
        have hl1 : (os ++ [none]).length = os.length + 1 := by simp
        have hcp := hI.k.sl.hle
        rw [hl1] at hcp
        simp only at hcp
        have hh3 : cl H10 g.p 3 = some (.pointer (some ⟨g.cb, 0, none⟩)) := hI.n.c3
        have hh4 : cl H10 g.cb 0 = some (.slice (some ⟨bk, ok, none⟩) (os.length + 1) ck) := by have := hI.k.c; rwa [hl1] at this
        -- region 21 (map.go:246)
        refine Go'.draw (fun _ => True) [(0, 1), (1, 0), (2, 0), (3, 1), (4, 0), (5, 1), (6, 0), (7, 0), (8, 0), (9, 1), (10, 0), (11, 0), (12, 1), (13, 0), (14, 1), (15, 0), (16, 0), (17, 2)] (by kernel_rfl) (by kernel_rfl) (trivial) ?_
        refine O.ld rfl rfl rfl (fun w => ⟨Go.Proofs.Try.isAgg135 w, Go.Proofs.Try.sizeOf135 w⟩) rfl m9 ?_
        refine O.nc rfl rfl rfl rfl rfl ?_
        refine O.fa0 (off := 3) rfl rfl rfl rfl ⟨_, _, _, Go.Proofs.Try.underlying205, rfl, rfl, Go.Proofs.Try.sizeOf203⟩ rfl ?_
        refine O.ld rfl rfl rfl (fun w => ⟨Go.Proofs.Try.isAgg203 w, Go.Proofs.Try.sizeOf203 w⟩) rfl hh3 ?_
        refine O.nc rfl rfl rfl rfl rfl ?_
        refine O.ld rfl rfl rfl (fun w => ⟨Go.Proofs.Try.isAgg206 w, Go.Proofs.Try.sizeOf206 w⟩) rfl hh4 ?_
        refine O.mv rfl rfl rfl rfl rfl ?_
        refine O.add (((i + 1 : Nat) : Int)) rfl rfl rfl rfl rfl rfl (by omega) (by omega) ?_
        refine O.slc (jl := i + 1) (jh := os.length + 1) (jm := ck) rfl rfl rfl rfl Go.Proofs.Try.underlying206 Go.Proofs.Try.sizeOf135 rfl rfl rfl ⟨_, by rfl⟩ (by omega) (by omega) (by simp) (by simp) ?_
        intro o11 ho11
        refine O.ld rfl rfl rfl (fun w => ⟨Go.Proofs.Try.isAgg135 w, Go.Proofs.Try.sizeOf135 w⟩) rfl m9 ?_
        refine O.nc rfl rfl rfl rfl rfl ?_
        refine O.fa0 (off := 3) rfl rfl rfl rfl ⟨_, _, _, Go.Proofs.Try.underlying205, rfl, rfl, Go.Proofs.Try.sizeOf203⟩ rfl ?_
        refine O.ld rfl rfl rfl (fun w => ⟨Go.Proofs.Try.isAgg203 w, Go.Proofs.Try.sizeOf203 w⟩) rfl hh3 ?_
        refine O.nc rfl rfl rfl rfl rfl ?_
        refine O.ld rfl rfl rfl (fun w => ⟨Go.Proofs.Try.isAgg206 w, Go.Proofs.Try.sizeOf206 w⟩) rfl hh4 ?_
        refine O.mv rfl rfl rfl rfl rfl ?_
        refine O.slc (jl := i) (jh := os.length + 1) (jm := ck) rfl rfl rfl rfl Go.Proofs.Try.underlying206 Go.Proofs.Try.sizeOf135 rfl rfl rfl ⟨_, by rfl⟩ (by omega) (by omega) (by simp) (by simp) ?_
        intro o12 ho12
        obtain rfl := ho12 (by omega)
        refine O.copy (b := bk) (o := (ok + (i + 1) * 1)) (j := (os.length - i)) (cs := (row EP (os.drop i))) rfl rfl rfl ⟨Go.Proofs.Try.underlying206, Go.Proofs.Try.sizeOf135, Go.Proofs.Try.zeroValue135, ⟨_, Go.Proofs.Try.typeInfo135, rfl⟩, rfl, by decide, by decide⟩ rfl rfl (show _ = min _ _ by omega) (.inl (by rw [ho11 (by omega)])) (.inl ⟨_, _, _, rfl, hI.k.sl.tail (by omega)⟩) (by rw [row_len, List.length_drop]; rfl) (row_ones EP _) (hI.k.sl.wrm (i := i + 1) (m := os.length - i) (by rw [hl1]; omega)) ?_
        intro H11 W11
        have hs11 := W11.size
        have hdl : (os.drop i).length = os.length - i := List.length_drop
        have hrl : (row EP (os.drop i)).length = os.length - i := by rw [row_len, hdl]; exact Nat.mul_one _
        replace hI := hI.kcpy (i := i + 1) (Y := os.drop i) W11 (by rw [hl1, hdl]; omega)
        replace tc := tc.fr W11.fr (fun o _ _ => nr (.inl (by omega)))
        replace mi := W11.fr.rd mi (fun _ _ => nr (.inl (by omega)))
        replace m9 := W11.fr.keep m9 (nr (.inl (by omega)))
        replace m13 := W11.fr.rd m13 (fun _ _ => nr (.inl (by omega)))
        replace hh3 := W11.fr.keep hh3 (nr (.inl (by omega)))
        replace hh4 := W11.fr.keep hh4 (nr (.inl (by omega)))
        replace hF := hF.trans' W11.fr (fun _ _ _ h => h) (fun b o hb h => .inr (.inl (hkin b o hb ⟨h.1, by have := h.2.1; omega, by have := h.2.2; omega⟩)))
        refine ⟨trivial, ?_⟩
        refine Pl.fin [(0, _), (5, _), (6, _), (7, _), (8, _), (9, _), (10, _), (12, _), (13, _)] ⟨rfl, rfl, rfl, rfl, rfl, rfl, rfl, rfl, rfl, trivial⟩ ?_
        refine Go'.seq ?_
        have hl2 := Pl.ins_len os none i (by omega)
        -- region 22 (map.go:247)
        refine Go'.region [(0, 1), (1, 0), (2, 0), (3, 1), (4, 0), (5, 1), (6, 0), (7, 0), (8, 0), (9, 0), (10, 2)] rfl ?_
        refine O.ld rfl rfl rfl (fun w => ⟨Go.Proofs.Try.isAgg135 w, Go.Proofs.Try.sizeOf135 w⟩) rfl m9 ?_
        refine O.nc rfl rfl rfl rfl rfl ?_
        refine O.fa0 (off := 3) rfl rfl rfl rfl ⟨_, _, _, Go.Proofs.Try.underlying205, rfl, rfl, Go.Proofs.Try.sizeOf203⟩ rfl ?_
        refine O.ld rfl rfl rfl (fun w => ⟨Go.Proofs.Try.isAgg203 w, Go.Proofs.Try.sizeOf203 w⟩) rfl hh3 ?_
        refine O.nc rfl rfl rfl rfl rfl ?_
        refine O.ld rfl rfl rfl (fun w => ⟨Go.Proofs.Try.isAgg206 w, Go.Proofs.Try.sizeOf206 w⟩) rfl hh4 ?_
        refine O.mv rfl rfl rfl rfl rfl ?_
        refine O.add (((i + 1 : Nat) : Int)) rfl rfl rfl rfl rfl rfl (by omega) (by omega) ?_
        refine O.mv rfl rfl rfl rfl rfl ?_
        refine O.ix (j := i + 1) rfl rfl rfl rfl Go.Proofs.Try.underlying206 Go.Proofs.Try.sizeOf135 rfl rfl (by omega) (by omega) ?_
        refine O.st rfl rfl Go.Proofs.Try.sizeOf135 rfl rfl rfl rfl rfl (hI.k.sl.wri (i := i + 1) (by rw [hl2]; omega)) ?_
        intro H12 W12
        have hs12 := W12.size
        replace hI := hI.kset (i := i + 1) (q := some (Gt.p h t2)) W12 rfl (by rw [hl2]; omega)
        rw [Pl.ins_list2 os none _ i (by omega)] at hI
        replace tc := tc.fr W12.fr (fun o _ _ => nr (.inl (by omega)))
        replace mi := W12.fr.rd mi (fun _ _ => nr (.inl (by omega)))
        replace m9 := W12.fr.keep m9 (nr (.inl (by omega)))
        replace m13 := W12.fr.rd m13 (fun _ _ => nr (.inl (by omega)))
        replace hh3 := W12.fr.keep hh3 (nr (.inl (by omega)))
        replace hh4 := W12.fr.keep hh4 (nr (.inl (by omega)))
        replace hF := hF.trans' W12.fr (fun _ _ _ h => h) (fun b o hb h => .inr (.inl (hkin b o hb ⟨h.1, by have := h.2.1; omega, by have := h.2.2; simp only [List.length_cons, List.length_nil] at this; omega⟩)))
        refine ⟨trivial, ?_⟩
        refine Pl.fin [(0, _), (5, _), (6, _), (7, _), (8, _), (9, _), (10, _), (13, _)] ⟨rfl, rfl, rfl, rfl, rfl, rfl, rfl, rfl, trivial⟩ ?_
        refine Go'.seq ?_
        have hos' : os.take (i + 1) ++ some (Gt.p h t2) :: os.drop (i + 1) = (Gt.ps h (K.take i ++ [t1, t2] ++ K.drop (i + 1))).map some := by
          have h1 : os.take (i + 1) = (Gt.ps h (K.take i)).map some ++ [some (Gt.p h t1)] := by
            rw [List.take_add_one, hok, hS.p1, ← hos]
            simp only [Gt.ps, List.map_take, Option.toList_some]
          have h2 : os.drop (i + 1) = (Gt.ps h (K.drop (i + 1))).map some := by rw [← hos]; simp only [Gt.ps, List.map_drop]
          rw [h1, h2]
          simp only [Gt.ps, List.map_append, List.map_cons, List.append_assoc, List.cons_append, List.nil_append]
        rw [hos'] at hI
        generalize hK' : K.take i ++ [t1, t2] ++ K.drop (i + 1) = K' at *
        -- region 23 (map.go:248)
        refine Go'.draw (fun H' => cl H' H1.size 0 = some (.pointer (some ⟨g.p, 0, none⟩)) ∧ cl H' g.p 2 = some (.slice (some ⟨g.ib, g.io, none⟩) X.length g.ic)) [(0, 0), (1, 0), (2, 0), (3, 0), (4, 0), (5, 0), (6, 0), (7, 0), (8, 1), (9, 2), (10, 2), (11, 0), (12, 0), (13, 3)] (by kernel_rfl) (by kernel_rfl) (⟨m9, hI.n.c2⟩) ?_
        refine O.ldC rfl rfl rfl (fun w => ⟨Go.Proofs.Try.isAgg135 w, Go.Proofs.Try.sizeOf135 w⟩) rfl (fun _ h => h.1) ?_
        refine O.ldC rfl rfl rfl (fun w => ⟨Go.Proofs.Try.isAgg135 w, Go.Proofs.Try.sizeOf135 w⟩) rfl (fun _ h => h.1) ?_
        refine O.nc rfl rfl rfl rfl rfl ?_
        refine O.fa0 (off := 2) rfl rfl rfl rfl ⟨_, _, _, Go.Proofs.Try.underlying205, rfl, rfl, Go.Proofs.Try.sizeOf202⟩ rfl ?_
        refine O.ldC rfl rfl rfl (fun w => ⟨Go.Proofs.Try.isAgg202 w, Go.Proofs.Try.sizeOf202 w⟩) rfl (fun _ h => h.2) ?_
        refine O.mv rfl rfl rfl rfl rfl ?_
        refine O.nc rfl rfl rfl rfl rfl ?_
        refine O.fa0 (off := 4) rfl rfl rfl rfl ⟨_, _, _, Go.Proofs.Try.underlying140, rfl, rfl, Go.Proofs.Try.sizeOf138⟩ rfl ?_
        refine O.lds rfl rfl rfl (fun w => ⟨Go.Proofs.Try.isAgg138 w, Go.Proofs.Try.sizeOf138 w⟩) rfl rfl tc.emp ?_
        refine O.bsl (cs := (EI.enc (0 : Int))) rfl rfl rfl ⟨Go.Proofs.Try.underlying202, Go.Proofs.Try.sizeOf138, Go.Proofs.Try.zeroValue138, ⟨_, Go.Proofs.Try.typeInfo138, rfl⟩, rfl, by decide, by decide⟩ rfl (by decide) (by kernel_rfl) ?_
        intro H13 M13
        have hs13 := M13.size
        replace hI := hI.fr (M13.fr nowhere) (fun _ _ _ => nw)
        replace tc := tc.fr (M13.fr nowhere) (fun _ _ _ => nw)
        replace mi := (M13.fr nowhere).rd mi (fun _ _ => nw)
        replace m9 := (M13.fr nowhere).keep m9 nw
        replace m13 := (M13.fr nowhere).rd m13 (fun _ _ => nw)
        replace hF := hF.trans' (M13.fr nowhere) (fun _ _ _ h => h) (fun _ _ _ h => h.elim)
        have m4 : Rd H13 H12.size 0 (EI.enc (0 : Int)) := M13.rd _ [] (by simp)
        refine ⟨⟨m9, hI.n.c2⟩, ?_⟩
        refine O.app (m := 1) (news := (EI.enc (0 : Int))) rfl rfl rfl ⟨Go.Proofs.Try.underlying202, Go.Proofs.Try.sizeOf138, Go.Proofs.Try.zeroValue138, ⟨_, Go.Proofs.Try.typeInfo138, rfl⟩, rfl, by decide, by decide⟩ rfl hI.n.sl rfl (.inl ⟨_, _, _, rfl, m4⟩) rfl rfl (Nat.le_trans (Nat.mul_le_mul_left _ (Nat.le_of_ble_eq_true (n := _) (m := 4096) rfl)) (by omega)) (by omega) ?_
        intro b' o' c' H14 ha2
        have hin : ∀ b o, b < H.size → (b = b' ∧ o' ≤ o ∧ o < o' + c' * EI.s) → ncl EI g b o := fun b o hb hh => .inr (ha2.inside (by omega) hh)
        have hbn : b' ≠ tr ∧ b' ≠ H.size ∧ b' ≠ H1.size ∧ b' ≠ g.p ∧ b' ≠ H5.size := by rcases ha2.place with ⟨r, _⟩ | ⟨r, _⟩ <;> omega
        have hI0 := hI
        have hFa : Fr (ncl EI g) H13 H14 := (ha2.in_node hI0.n).mono (fun b o _ h => h)
        replace hI := hI.app ha2
        replace tc := tc.fr ha2.fr (fun o _ _ => nr (.inl (by omega)))
        replace mi := ha2.fr.rd mi (fun _ _ => nr (.inl (by omega)))
        replace m9 := ha2.fr.keep m9 (nr (.inl (by omega)))
        replace m13 := ha2.fr.rd m13 (fun _ _ => nr (.inl (by omega)))
        replace hF := hF.trans' hFa (fun _ _ _ h => h) (fun b o _ h => .inl h)
        have hs14 : H13.size ≤ H14.size := ha2.fr.size
        refine ⟨⟨m9, hI.n.c2⟩, ?_⟩
        refine O.nc rfl rfl rfl rfl rfl ?_
        refine O.fa0 (off := 2) rfl rfl rfl rfl ⟨_, _, _, Go.Proofs.Try.underlying205, rfl, rfl, Go.Proofs.Try.sizeOf202⟩ rfl ?_
        refine O.st3 rfl rfl Go.Proofs.Try.sizeOf202 rfl rfl rfl rfl rfl (hI.n.wr.at0 2 1 (by omega)) ?_
        intro H15 W15
        have hs15 := W15.size
        replace hI := hI0.push (e := (0 : Int)) ha2 W15
        replace tc := tc.fr W15.fr (fun o _ _ => nr (.inl (by omega)))
        replace mi := W15.fr.rd mi (fun _ _ => nr (.inl (by omega)))
        replace m9 := W15.fr.keep m9 (nr (.inl (by omega)))
        replace m13 := W15.fr.rd m13 (fun _ _ => nr (.inl (by omega)))
        replace hF := hF.trans' W15.fr (fun _ _ _ h => h) (fun b o hb h => .inl (NodeM.in1 (H := H14) (H' := H15) (by simp) h))
        refine Pl.fin [(0, _), (5, _), (6, _), (7, _), (8, _), (9, _), (10, _), (13, _)] ⟨rfl, rfl, rfl, rfl, rfl, rfl, rfl, rfl, trivial⟩ ?_
        refine Go'.seq ?_
        have hl3 : (X ++ [(0 : Int)]).length = X.length + 1 := by simp
        have hcp2 := hI.n.sl.hle
        rw [hl3] at hcp2
        simp only at hcp2
        have hh2 : cl H15 g.p 2 = some (.slice (some ⟨b', o', none⟩) (X.length + 1) c') := by have := hI.n.c2; rwa [hl3] at this
        -- region 24 (map.go:249)
        refine Go'.draw (fun _ => True) [(0, 1), (1, 0), (2, 0), (3, 1), (4, 0), (5, 0), (6, 0), (7, 1), (8, 0), (9, 0), (10, 1), (11, 0), (12, 0), (13, 2)] (by kernel_rfl) (by kernel_rfl) (trivial) ?_
        refine O.ld rfl rfl rfl (fun w => ⟨Go.Proofs.Try.isAgg135 w, Go.Proofs.Try.sizeOf135 w⟩) rfl m9 ?_
        refine O.nc rfl rfl rfl rfl rfl ?_
        refine O.fa0 (off := 2) rfl rfl rfl rfl ⟨_, _, _, Go.Proofs.Try.underlying205, rfl, rfl, Go.Proofs.Try.sizeOf202⟩ rfl ?_
        refine O.ld rfl rfl rfl (fun w => ⟨Go.Proofs.Try.isAgg202 w, Go.Proofs.Try.sizeOf202 w⟩) rfl hh2 ?_
        refine O.mv rfl rfl rfl rfl rfl ?_
        refine O.add (((i + 1 : Nat) : Int)) rfl rfl rfl rfl rfl rfl (by omega) (by omega) ?_
        refine O.slc (jl := i + 1) (jh := X.length + 1) (jm := c') rfl rfl rfl rfl Go.Proofs.Try.underlying202 Go.Proofs.Try.sizeOf138 rfl rfl rfl ⟨_, by rfl⟩ (by omega) (by omega) (by simp) (by simp) ?_
        intro o16 ho16
        refine O.ld rfl rfl rfl (fun w => ⟨Go.Proofs.Try.isAgg135 w, Go.Proofs.Try.sizeOf135 w⟩) rfl m9 ?_
        refine O.nc rfl rfl rfl rfl rfl ?_
        refine O.fa0 (off := 2) rfl rfl rfl rfl ⟨_, _, _, Go.Proofs.Try.underlying205, rfl, rfl, Go.Proofs.Try.sizeOf202⟩ rfl ?_
        refine O.ld rfl rfl rfl (fun w => ⟨Go.Proofs.Try.isAgg202 w, Go.Proofs.Try.sizeOf202 w⟩) rfl hh2 ?_
        refine O.mv rfl rfl rfl rfl rfl ?_
        refine O.slc (jl := i) (jh := X.length + 1) (jm := c') rfl rfl rfl rfl Go.Proofs.Try.underlying202 Go.Proofs.Try.sizeOf138 rfl rfl rfl ⟨_, by rfl⟩ (by omega) (by omega) (by simp) (by simp) ?_
        intro o17 ho17
        obtain rfl := ho17 (by omega)
        refine O.copy (b := b') (o := (o' + (i + 1) * 1)) (j := (X.length - i)) (cs := (row EI (X.drop i))) rfl rfl rfl ⟨Go.Proofs.Try.underlying202, Go.Proofs.Try.sizeOf138, Go.Proofs.Try.zeroValue138, ⟨_, Go.Proofs.Try.typeInfo138, rfl⟩, rfl, by decide, by decide⟩ rfl rfl (show _ = min _ _ by omega) ((Nat.lt_or_ge i X.length).elim (fun h => .inl (by rw [ho16 (by omega)])) (fun h => .inr (by omega))) (.inl ⟨_, _, _, rfl, hI.n.sl.tail hle⟩) (by rw [row_len, List.length_drop]; rfl) (row_ones EI _) (hI.n.sl.wrm (i := i + 1) (m := X.length - i) (by rw [hl3]; omega)) ?_
        intro H16 W16
        have hs16 := W16.size
        have hI1 := hI
        have hdl2 : (X.drop i).length = X.length - i := List.length_drop
        replace hI := hI.cpy (i := i + 1) (Y := X.drop i) W16 (by rw [hl3, hdl2]; omega)
        replace tc := tc.fr W16.fr (fun o _ _ => nr (.inl (by omega)))
        replace mi := W16.fr.rd mi (fun _ _ => nr (.inl (by omega)))
        replace m9 := W16.fr.keep m9 (nr (.inl (by omega)))
        replace m13 := W16.fr.rd m13 (fun _ _ => nr (.inl (by omega)))
        replace hh2 := W16.fr.keep hh2 (nr (.inl (by omega)))
        replace hF := hF.trans' W16.fr (fun _ _ _ h => h) (fun b o hb h => .inl (hin b o hb (W16.in_items (i := i + 1) (Y := X.drop i) hI1.n (by rw [hl3, hdl2]; omega) h)))
        refine ⟨trivial, ?_⟩
        refine Pl.fin [(0, _), (5, _), (6, _), (7, _), (8, _), (9, _), (10, _), (13, _)] ⟨rfl, rfl, rfl, rfl, rfl, rfl, rfl, rfl, trivial⟩ ?_
        refine Go'.seq ?_
        have hl4 := Pl.ins_len X (0 : Int) i hle
        -- region 25 (map.go:250)
        refine Go'.draw (fun _ => True) [(0, 1), (1, 0), (2, 0), (3, 1), (4, 0), (5, 1), (6, 0), (7, 3)] (by kernel_rfl) (by kernel_rfl) (trivial) ?_
        refine O.ld rfl rfl rfl (fun w => ⟨Go.Proofs.Try.isAgg135 w, Go.Proofs.Try.sizeOf135 w⟩) rfl m9 ?_
        refine O.nc rfl rfl rfl rfl rfl ?_
        refine O.fa0 (off := 2) rfl rfl rfl rfl ⟨_, _, _, Go.Proofs.Try.underlying205, rfl, rfl, Go.Proofs.Try.sizeOf202⟩ rfl ?_
        refine O.ld rfl rfl rfl (fun w => ⟨Go.Proofs.Try.isAgg202 w, Go.Proofs.Try.sizeOf202 w⟩) rfl hh2 ?_
        refine O.mv rfl rfl rfl rfl rfl ?_
        refine O.lds rfl rfl rfl (fun w => ⟨Go.Proofs.Try.isAgg138 w, Go.Proofs.Try.sizeOf138 w⟩) rfl rfl m13 ?_
        refine O.ix (j := i) rfl rfl rfl rfl Go.Proofs.Try.underlying202 Go.Proofs.Try.sizeOf138 rfl rfl (by omega) (by omega) ?_
        refine O.st3 rfl rfl Go.Proofs.Try.sizeOf138 rfl rfl rfl rfl rfl (hI.n.sl.wri (i := i) (by rw [hl4]; omega)) ?_
        intro H17 W17
        have hs17 := W17.size
        have hI2 := hI
        replace hI := hI.set (i := i) W17 (by rw [hl4]; omega)
        rw [Pl.ins_list X _ med i hle] at hI
        replace tc := tc.fr W17.fr (fun o _ _ => nr (.inl (by omega)))
        replace mi := W17.fr.rd mi (fun _ _ => nr (.inl (by omega)))
        replace m9 := W17.fr.keep m9 (nr (.inl (by omega)))
        replace m13 := W17.fr.rd m13 (fun _ _ => nr (.inl (by omega)))
        replace hh2 := W17.fr.keep hh2 (nr (.inl (by omega)))
        replace hF := hF.trans' W17.fr (fun _ _ _ h => h) (fun b o hb h => .inl (hin b o hb (W17.as_row.in_items (i := i) hI2.n (by rw [hl4, List.length_singleton]; omega) (by rw [row_one]; exact h))))
        refine Pl.fin [(0, _), (5, _), (6, _), (7, _), (8, _), (9, _)] ⟨rfl, rfl, rfl, rfl, rfl, rfl, trivial⟩ ?_
        refine Go'.seq ?_
        have hll : (X.take i ++ med :: X.drop i).length = X.length + 1 := by simp only [List.length_append, List.length_take, List.length_cons, List.length_drop]; omega
        have hKl' : K'.length = X.length + 1 + 1 := by rw [← hK']; simp only [List.length_append, List.length_take, List.length_cons, List.length_drop, List.length_nil]; omega
        have hLL : Pl.inter (X.take i ++ med :: X.drop i) (K'.map (Gt.L h)) = Pl.inter X (K.map (Gt.L h)) := by
          have h1 : K'.map (Gt.L h) = (K.map (Gt.L h)).take i ++ Gt.L h t1 :: Gt.L h t2 :: (K.map (Gt.L h)).drop (i + 1) := by
            rw [← hK']; simp only [List.map_append, List.map_cons, List.map_take, List.map_drop, List.append_assoc, List.cons_append, List.nil_append]
          have h2 := Pl.inter_split (X1 := X.take i) (X2 := X.drop i) (K1 := (K.map (Gt.L h)).take i) (K2 := (K.map (Gt.L h)).drop (i + 1)) (a := Gt.L h t1) (b := Gt.L h t2) (m := med) (by rw [List.length_take, List.length_take]; omega) (by rw [List.length_drop, List.length_drop]; omega)
          rw [h1, ← h2, List.take_append_drop, ← hS.l, e4, e1]
        have hG := hI.good (by show g.cnt = _; rw [hLL]; exact hcnt) (by rw [hll]; exact hxl) (by rw [hll]; exact hKl')
        clear hI hI0 hI1 hI2 ha ha2 hl4 hl2 hl3 hl1 hcp hcp2 hos' hdl hdl2 hrl hFa W17 W16 W15 W12 W11 W10
        obtain ⟨g', hgg⟩ : ∃ g' : Ng, ({ p := g.p, iso := g.iso, cnt := g.cnt, ib := b', io := o', ic := c', cb := g.cb, kb := bk, ko := ok, kc := ck } : Ng) = g' := ⟨_, rfl⟩
        rw [hgg] at hG
        have hNF' : Gt.NF OI P x (h + 1) ((g', X.take i ++ med :: X.drop i, K') : Gt EI (h + 1)) := by
          right
          intro k' hk'
          have hx' := Pl.pos_ins OI (m := med) hsX hfd
          rw [hi] at hx'
          have hk'' : K'[Pl.pos OI x (X.take i ++ med :: X.drop i)]? = some k' := hk'
          have hj1 : K'[i]? = some t1 := by
            rw [← hK', List.append_assoc, List.getElem?_append_right (by rw [List.length_take]; omega), List.length_take, Nat.min_eq_left (by omega), Nat.sub_self]; rfl
          have hj2 : K'[i + 1]? = some t2 := by
            rw [← hK', List.append_assoc, List.getElem?_append_right (by rw [List.length_take]; omega), List.length_take, Nat.min_eq_left (by omega), show i + 1 - i = 1 by omega]; rfl
          rcases hx' with hx' | hx' <;> rw [hx'] at hk''
          · obtain rfl := Option.some.inj (hj1.symm.trans hk'')
            rw [hS.x1]; omega
          · obtain rfl := Option.some.inj (hj2.symm.trans hk'')
            rw [hS.x2]; omega
        have hafn : ∀ b o, Gt.af (h + 1) ((g', X.take i ++ med :: X.drop i, K') : Gt EI (h + 1)) b o → Gt.af (h + 1) ((g, X, K) : Gt EI (h + 1)) b o ∨ H.size ≤ b := by
          intro b o hb
          rcases Nat.lt_or_ge b H.size with hl | hl
          · replace hb : ncl EI g' b o ∨ kcl g' b o ∨ ∃ k ∈ K', Gt.af h k b o := hb
            rcases hb with hb | hb | ⟨m, hm, hb⟩
            · left
              rw [← hgg] at hb
              rcases hb with hb | hb
              · exact .inl (.inl hb)
              · exact .inl (hin b o hl hb)
            · left
              rw [← hgg] at hb
              rcases hb with hb | hb
              · exact .inr (.inl (.inl hb))
              · exact .inr (.inl (hkin b o hl ⟨hb.1, hb.2.1, by have := hb.2.2; simp only at this; omega⟩))
            · exact haf5 m hm b o hb
          · exact .inr hl
        have hnt' : ∀ o, ¬ Gt.af (h + 1) ((g', X.take i ++ med :: X.drop i, K') : Gt EI (h + 1)) tr o := fun o ho => (hafn _ _ ho).elim (hnt o) (fun h => by omega)
        have hs' : Pl.Srt OI (Gt.L (h + 1) ((g', X.take i ++ med :: X.drop i, K') : Gt EI (h + 1))) := by
          show Pl.Srt OI (Pl.inter (X.take i ++ med :: X.drop i) (K'.map (Gt.L h)))
          rw [hLL]; exact hs
        have hlen' : (Gt.L (h + 1) ((g', X.take i ++ med :: X.drop i, K') : Gt EI (h + 1))).length < 4611686018427387904 := by
          show (Pl.inter (X.take i ++ med :: X.drop i) (K'.map (Gt.L h))).length < _
          rw [hLL]; exact hlen
        have hp' : g'.p = g.p := by rw [← hgg]
        have hs18 : H.size ≤ H17.size := by omega
        -- region 26 (map.go:251)
        refine Go'.region [(0, 0), (1, 1), (2, 2), (3, 0), (4, 0), (5, 0), (6, 2), (7, 0), (8, 0)] rfl ?_
        refine O.mv rfl rfl rfl rfl rfl ?_
        refine O.lds rfl rfl rfl (fun w => ⟨Go.Proofs.Try.isAgg138 w, Go.Proofs.Try.sizeOf138 w⟩) rfl rfl mi ?_
        refine O.call rfl rfl rfl Go.Proofs.Try.call161 rfl ((hag hNF (t1 := ((g', X.take i ++ med :: X.drop i, K') : Gt EI (h + 1))) (bp1 := H1.size) (op1 := 0) ⟨tc, hG, by show cl H17 H1.size 0 = some (ptr g'.p); rw [hp']; exact m9, hnt', hs', hlen'⟩ hNF').mono fun _ _ => SetQ.uni) ?_
        rintro _ H18 ⟨pv, r, sp, rfl, hq⟩
        obtain rfl : pv = .agg #[] := by rcases hq with ⟨_, _, h, _⟩ | ⟨_, h, _⟩ <;> exact h
        refine ⟨trivial, ?_⟩
        refine O.ext rfl rfl rfl rfl rfl rfl ?_
        refine O.ext rfl rfl rfl rfl rfl rfl ?_
        refine O.ext rfl rfl rfl rfl rfl rfl ?_
        refine O.st0 rfl rfl Go.Proofs.Try.sizeOf136 rfl rfl rfl trivial ?_
        refine O.asg rfl rfl rfl rfl rfl ?_
        refine O.asg rfl rfl rfl rfl rfl ?_
        refine Pl.fin [(6, _), (7, _), (8, _), (9, _)] ⟨rfl, rfl, rfl, rfl, trivial⟩ ?_
        rcases hq with ⟨rfl, t', _, rfl, hT⟩ | ⟨_, _, _, _, _, hnf2⟩
        rotate_left
        · exact absurd hNF' hnf2
        refine Go'.ret (vs := [_, _, _]) Go.Proofs.Try.func161 Go.Proofs.Try.results161 ⟨⟨_, _, rfl, fun _ _ => run_loadVar_agg (fun w => ⟨Go.Proofs.Try.isAgg136 w, Go.Proofs.Try.sizeOf136 w⟩) rfl (Rd.nil _ _ _)⟩, rfl, rfl, trivial⟩ ?_
        have hL2 : Gt.L (h + 1) ((g', X.take i ++ med :: X.drop i, K') : Gt EI (h + 1)) = Pl.inter X (K.map (Gt.L h)) := hLL
        refine .inl ⟨t', ?_, ⟨hF.trans' hT.fr (fun _ _ _ h => h) (fun b o hb hz => (hafn b o hz).elim id (fun h => by omega)), hT.g, hT.p.trans hp', fun b o hb => (hT.a b o hb).elim (hafn b o) (fun h => .inr (by omega)), by rw [hT.l, hL2]; rfl, ?_⟩⟩
        · rw [hL2]; rfl
        · refine Nat.le_trans ?_ hT.x
          show X.length ≤ (X.take i ++ med :: X.drop i).length
          omega

theorem nset {B : World} {tr : Nat} {P : Ps} (hP : PsOk P) {x : Int} : ∀ (h : Nat) {H : Mem} {bp op : Nat} {t : Gt EI h}, NPre H tr P h t bp op →
    Fn Try.prog B 161 [.pointer (some ⟨tr, 0, none⟩), .pointer (some ⟨bp, op, none⟩), .agg (EI.enc x).toArray] H (SetQ H P h t x)
  | 0, _, _, _, _, hp => nset0 hP hp
  | h + 1, _, _, _, _, hp => nset_step hP (fun hp => nset hP h hp) hp fun _ _ _ _ _ hp1 hnf => nset_step hP (fun hp => nset hP h hp) hp1 fun hn => absurd hnf hn

end Go.Bt.FZ
namespace Go.Bt.FZ
open Go Go.Proofs
set_option maxRecDepth 20000
set_option maxHeartbeats 4000000
set_option linter.unusedVariables false

theorem st138 : StT Try.prog 138 [(0, 0), (0, 1)] [.int .i64 0] := ⟨⟨_, Try.underlying138, fun w => by simp [Array.mapM_eq_mapM_toList, Try.sizeOf3, Try.sizeOf136]⟩, Try.zeroValue138⟩
/-- A map in memory: its items in order; its cells are all in the blocks S. -/
structure MapM (H : Mem) (tr : Nat) (P : Ps) (S : Nat → Prop) (l : List Int) : Prop where
  tc : TrC H tr P.iso P.mx P.mn
  srt : Pl.Srt OI l
  cnt : cl H tr 3 = some (.int .i64 (l.length : Int))
  own : S tr
  lt : ∀ b, S b → b < H.size
  rt : (l = [] ∧ cl H tr 2 = some (.pointer none)) ∨ ∃ h, ∃ t : Gt EI h, Gt.Good H P h t ∧ 1 ≤ (Gt.X h t).length ∧ Gt.L h t = l ∧ cl H tr 2 = some (ptr (Gt.p h t)) ∧ (∀ o, ¬ Gt.af h t tr o) ∧ ∀ b o, Gt.af h t b o → S b
theorem MapM.fr {H H' : Mem} {Z : Nat → Nat → Prop} {tr : Nat} {P : Ps} {S : Nat → Prop} {l : List Int} (h : MapM H tr P S l) (hf : Fr Z H H') (hz : ∀ b o, S b → ¬ Z b o) : MapM H' tr P S l where
  tc := h.tc.fr hf fun o _ _ => hz _ _ h.own
  srt := h.srt
  cnt := hf.keep h.cnt (hz _ _ h.own)
  own := h.own
  lt := fun b hb => Nat.lt_of_lt_of_le (h.lt b hb) hf.size
  rt := h.rt.elim (fun ⟨e, k⟩ => .inl ⟨e, hf.keep k (hz _ _ h.own)⟩) fun ⟨hh, t, g, x1, e, k, n, s⟩ => .inr ⟨hh, t, g.fr hf fun b o hb => hz b o (s b o hb), x1, e, hf.keep k (hz _ _ h.own), n, s⟩
/-- What a change of a map does: the items are these; only the map's own cells were written; its blocks are old ones and new ones. -/
def MapTo (H H' : Mem) (tr : Nat) (P : Ps) (S : Nat → Prop) (l' : List Int) : Prop := ∃ S', MapM H' tr P S' l' ∧ Fr (fun b _ => S b) H H' ∧ ∀ b, S' b → S b ∨ H.size ≤ b

/-- A map that nothing was done to. -/
structure MapZ (H : Mem) (tr : Nat) : Prop where
  h0 : cl H tr 0 = some (.int .u64 0)
  h2 : cl H tr 2 = some (.pointer none)
  h3 : cl H tr 3 = some (.int .i64 0)
  he : Rd H tr 4 [.int .i64 0]
  h6 : cl H tr 5 = some (.int .i64 0)
  h8 : cl H tr 7 = some (.bool false)
  h9 : cl H tr 8 = some (.bool false)
  hw : Wr H tr 0 9
theorem MapZ.fr {H H' : Mem} {Z : Nat → Nat → Prop} {tr : Nat} (h : MapZ H tr) (hf : Fr Z H H') (hz : ∀ o, ¬ Z tr o) : MapZ H' tr :=
  ⟨hf.keep h.h0 (hz _), hf.keep h.h2 (hz _), hf.keep h.h3 (hz _), hf.rd h.he fun _ _ => hz _, hf.keep h.h6 (hz _), hf.keep h.h8 (hz _), hf.keep h.h9 (hz _), hf.wr h.hw⟩

theorem init_again {B : World} {H : Mem} {tr id mx mn : Nat} {d : Int} (ht : TrC H tr id mx mn) (h1 : 1 ≤ mn) :
    Fn Try.prog B 159 [.pointer (some ⟨tr, 0, none⟩), .int .i64 d] H (fun v H' => v = resVal [] ∧ H' = H) := by
  refine fn_of Go.Proofs.Try.func159 rfl Go.Proofs.Try.ntmps159 ?_
  refine (show Go' _ _ _ _ 51 [(0, _), (1, _)] [.code _] _ from ?_)
  refine Go'.seq ?_
  refine Go'.seq ?_
  -- region 0 (map.go:149)
  refine Go'.region [(0, 0), (1, 0), (2, 0), (3, 1), (4, 0)] rfl ?_
  refine O.mv rfl rfl rfl rfl rfl ?_
  refine O.nc rfl rfl rfl rfl rfl ?_
  refine O.fa0 (off := 5) rfl rfl rfl rfl ⟨_, _, _, Go.Proofs.Try.underlying140, rfl, rfl, Go.Proofs.Try.sizeOf3⟩ rfl ?_
  refine O.ld rfl rfl rfl (fun w => ⟨Go.Proofs.Try.isAgg3 w, Go.Proofs.Try.sizeOf3 w⟩) rfl ht.mn' ?_
  refine O.cmp rfl rfl rfl rfl rfl rfl (neqT (by omega)) ?_
  refine Pl.fin [(0, _), (1, _), (8, _)] ⟨rfl, rfl, rfl, trivial⟩ ?_
  refine Go'.condT rfl ?_
  refine Go'.ret Go.Proofs.Try.func159 Go.Proofs.Try.results159 (vs := []) trivial ?_
  exact ⟨rfl, rfl⟩

theorem init_new {B : World} {H : Mem} {tr : Nat} (h0 : cl H tr 0 = some (.int .u64 0)) (h2 : cl H tr 2 = some (.pointer none)) (h3 : cl H tr 3 = some (.int .i64 0)) (he : Rd H tr 4 [.int .i64 0])
    (h6 : cl H tr 5 = some (.int .i64 0)) (h8 : cl H tr 7 = some (.bool false)) (h9 : cl H tr 8 = some (.bool false)) (hw : Wr H tr 0 9) :
    Fn Try.prog B 159 [.pointer (some ⟨tr, 0, none⟩), .int .i64 0] H (fun v H' => v = resVal [] ∧ H'.size = H.size ∧ Fr (fun b _ => b = tr) H H' ∧ MapM H' tr ⟨0, 63, 31⟩ (fun b => b = tr) [] ∧ cl H' tr 2 = some (.pointer none)) := by
  have htl : tr < H.size := cl_lt h0
  have hF : Fr (fun b _ => b = tr) H H := Fr.refl _ _
  have hS : H.size = H.size := rfl
  refine fn_of Go.Proofs.Try.func159 rfl Go.Proofs.Try.ntmps159 ?_
  refine (show Go' _ _ _ _ 51 [(0, _), (1, _)] [.code _] _ from ?_)
  refine Go'.seq ?_
  refine Go'.seq ?_
  -- region 0 (map.go:149)
  refine Go'.region [(0, 0), (1, 0), (2, 0), (3, 1), (4, 0)] rfl ?_
  refine O.mv rfl rfl rfl rfl rfl ?_
  refine O.nc rfl rfl rfl rfl rfl ?_
  refine O.fa0 (off := 5) rfl rfl rfl rfl ⟨_, _, _, Go.Proofs.Try.underlying140, rfl, rfl, Go.Proofs.Try.sizeOf3⟩ rfl ?_
  refine O.ld rfl rfl rfl (fun w => ⟨Go.Proofs.Try.isAgg3 w, Go.Proofs.Try.sizeOf3 w⟩) rfl h6 ?_
  refine O.cmp rfl rfl rfl rfl rfl rfl (neqF (by omega)) ?_
  refine Pl.fin [(0, _), (1, _), (8, _)] ⟨rfl, rfl, rfl, trivial⟩ ?_
  refine Go'.condF rfl ?_
  refine Go'.skip ?_
  refine Go'.seq ?_
  -- region 1 (map.go:152)
  refine Go'.region [(0, 0), (1, 0), (2, 0), (3, 2), (4, 0), (5, 0), (6, 0), (7, 0), (8, 0), (9, 2), (10, 0), (11, 0), (12, 2)] rfl ?_
  refine O.mv rfl rfl rfl rfl rfl ?_
  refine O.mv rfl rfl rfl rfl rfl ?_
  refine O.mv rfl rfl rfl rfl rfl ?_
  refine O.callQ rfl rfl rfl Go.Proofs.Try.call157 rfl deg0_spec trivial ?_
  refine O.mv rfl rfl rfl rfl rfl ?_
  refine O.ext rfl rfl rfl rfl rfl rfl ?_
  refine O.ext rfl rfl rfl rfl rfl rfl ?_
  refine O.nc rfl rfl rfl rfl rfl ?_
  refine O.fa0 (off := 5) rfl rfl rfl rfl ⟨_, _, _, Go.Proofs.Try.underlying140, rfl, rfl, Go.Proofs.Try.sizeOf3⟩ rfl ?_
  refine O.st rfl rfl Go.Proofs.Try.sizeOf3 rfl rfl rfl rfl rfl (hw.at0 5 1 (by omega)) ?_
  intro H1 W1
  have hsW1 := W1.size
  replace h0 := W1.keep1 h0 (by omega)
  replace h2 := W1.keep1 h2 (by omega)
  replace h3 := W1.keep1 h3 (by omega)
  replace he := W1.fr.rd he (fun i hi => nr (by simp only [List.length_cons, List.length_nil] at hi ⊢; omega))
  replace h6 := W1.at
  replace h8 := W1.keep1 h8 (by omega)
  replace h9 := W1.keep1 h9 (by omega)
  replace hw := W1.fr.wr hw
  replace hF := hF.trans' W1.fr (fun _ _ _ h => h) (fun b o _ h => h.1)
  refine ⟨trivial, ?_⟩
  refine O.nc rfl rfl rfl rfl rfl ?_
  refine O.fa0 (off := 6) rfl rfl rfl rfl ⟨_, _, _, Go.Proofs.Try.underlying140, rfl, rfl, Go.Proofs.Try.sizeOf3⟩ rfl ?_
  refine O.st rfl rfl Go.Proofs.Try.sizeOf3 rfl rfl rfl rfl rfl (hw.at0 6 1 (by omega)) ?_
  intro H2 W2
  have hsW2 := W2.size
  replace h0 := W2.keep1 h0 (by omega)
  replace h2 := W2.keep1 h2 (by omega)
  replace h3 := W2.keep1 h3 (by omega)
  replace he := W2.fr.rd he (fun i hi => nr (by simp only [List.length_cons, List.length_nil] at hi ⊢; omega))
  replace h6 := W2.keep1 h6 (by omega)
  replace h8 := W2.keep1 h8 (by omega)
  replace h9 := W2.keep1 h9 (by omega)
  replace hw := W2.fr.wr hw
  replace hF := hF.trans' W2.fr (fun _ _ _ h => h) (fun b o _ h => h.1)
  have h7 := W2.at
  refine ⟨trivial, ?_⟩
  refine Pl.fin [(0, _)] ⟨rfl, trivial⟩ ?_
  refine Go'.seq ?_
  -- region 2 (map.go:153)
  refine Go'.region [(0, 0), (1, 0), (2, 0), (3, 0), (4, 1), (5, 1), (6, 0), (7, 0), (8, 0), (9, 0), (10, 0), (11, 0), (12, 0), (13, 2)] rfl ?_
  refine O.mv rfl rfl rfl rfl rfl ?_
  refine O.mv rfl rfl rfl rfl rfl ?_
  refine O.nc rfl rfl rfl rfl rfl ?_
  refine O.fa0 (off := 4) rfl rfl rfl rfl ⟨_, _, _, Go.Proofs.Try.underlying140, rfl, rfl, Go.Proofs.Try.sizeOf138⟩ rfl ?_
  refine O.fz1 rfl rfl rfl ty ⟨_, _, Go.Proofs.Try.underlying138, rfl, rfl, rfl, Go.Proofs.Try.sizeOf136⟩ rfl (hw.at0 4 1 (by omega)) ?_
  refine O.lds rfl rfl rfl (fun w => ⟨Go.Proofs.Try.isAgg136 w, Go.Proofs.Try.sizeOf136 w⟩) rfl rfl (Rd.nil _ _ _) ?_
  refine O.mki rfl rfl rfl rfl Go.Proofs.Try.underlying136 rfl rfl ?_
  refine O.tya rfl rfl rfl rfl rfl (run_assert_no' Go.Proofs.Try.underlying238 Go.Proofs.Try.typeInfo136 rfl Go.Proofs.Try.zeroValue238) ?_
  refine O.mv rfl rfl rfl rfl rfl ?_
  refine O.ext rfl rfl rfl rfl rfl rfl ?_
  refine O.ext rfl rfl rfl rfl rfl rfl ?_
  refine O.nc rfl rfl rfl rfl rfl ?_
  refine O.fa0 (off := 7) rfl rfl rfl rfl ⟨_, _, _, Go.Proofs.Try.underlying140, rfl, rfl, Go.Proofs.Try.sizeOf4⟩ rfl ?_
  refine O.st rfl rfl Go.Proofs.Try.sizeOf4 rfl rfl rfl rfl rfl (hw.at0 7 1 (by omega)) ?_
  intro H3 W3
  have hsW3 := W3.size
  replace h0 := W3.keep1 h0 (by omega)
  replace h2 := W3.keep1 h2 (by omega)
  replace h3 := W3.keep1 h3 (by omega)
  replace he := W3.fr.rd he (fun i hi => nr (by simp only [List.length_cons, List.length_nil] at hi ⊢; omega))
  replace h6 := W3.keep1 h6 (by omega)
  replace h8 := W3.at
  replace h9 := W3.keep1 h9 (by omega)
  replace h7 := W3.keep1 h7 (by omega)
  replace hw := W3.fr.wr hw
  replace hF := hF.trans' W3.fr (fun _ _ _ h => h) (fun b o _ h => h.1)
  refine ⟨trivial, ?_⟩
  refine Pl.fin [(0, _)] ⟨rfl, trivial⟩ ?_
  refine Go'.seq ?_
  -- region 3 (map.go:154)
  refine Go'.region [(0, 0), (1, 0), (2, 0), (3, 1), (4, 0)] rfl ?_
  refine O.mv rfl rfl rfl rfl rfl ?_
  refine O.nc rfl rfl rfl rfl rfl ?_
  refine O.fa0 (off := 7) rfl rfl rfl rfl ⟨_, _, _, Go.Proofs.Try.underlying140, rfl, rfl, Go.Proofs.Try.sizeOf4⟩ rfl ?_
  refine O.ld rfl rfl rfl (fun w => ⟨Go.Proofs.Try.isAgg4 w, Go.Proofs.Try.sizeOf4 w⟩) rfl h8 ?_
  refine O.not rfl rfl rfl rfl rfl ?_
  refine Pl.fin [(0, _), (37, _)] ⟨rfl, rfl, trivial⟩ ?_
  refine Go'.condT rfl ?_
  -- region 4 (map.go:155)
  refine Go'.region [(0, 0), (1, 0), (2, 0), (3, 0), (4, 1), (5, 1), (6, 0), (7, 0), (8, 0), (9, 0), (10, 0), (11, 0), (12, 0), (13, 2)] rfl ?_
  refine O.mv rfl rfl rfl rfl rfl ?_
  refine O.mv rfl rfl rfl rfl rfl ?_
  refine O.nc rfl rfl rfl rfl rfl ?_
  refine O.fa0 (off := 4) rfl rfl rfl rfl ⟨_, _, _, Go.Proofs.Try.underlying140, rfl, rfl, Go.Proofs.Try.sizeOf138⟩ rfl ?_
  refine O.fz1 rfl rfl rfl ty ⟨_, _, Go.Proofs.Try.underlying138, rfl, rfl, rfl, Go.Proofs.Try.sizeOf136⟩ rfl (hw.at0 4 1 (by omega)) ?_
  refine O.lds rfl rfl rfl (fun w => ⟨Go.Proofs.Try.isAgg136 w, Go.Proofs.Try.sizeOf136 w⟩) rfl rfl (Rd.nil _ _ _) ?_
  refine O.mki rfl rfl rfl rfl Go.Proofs.Try.underlying136 rfl rfl ?_
  refine O.tya rfl rfl rfl rfl rfl (run_assert_no' Go.Proofs.Try.underlying241 Go.Proofs.Try.typeInfo136 rfl Go.Proofs.Try.zeroValue241) ?_
  refine O.mv rfl rfl rfl rfl rfl ?_
  refine O.ext rfl rfl rfl rfl rfl rfl ?_
  refine O.ext rfl rfl rfl rfl rfl rfl ?_
  refine O.nc rfl rfl rfl rfl rfl ?_
  refine O.fa0 (off := 8) rfl rfl rfl rfl ⟨_, _, _, Go.Proofs.Try.underlying140, rfl, rfl, Go.Proofs.Try.sizeOf4⟩ rfl ?_
  refine O.st rfl rfl Go.Proofs.Try.sizeOf4 rfl rfl rfl rfl rfl (hw.at0 8 1 (by omega)) ?_
  intro H4 W4
  have hsW4 := W4.size
  replace h0 := W4.keep1 h0 (by omega)
  replace h2 := W4.keep1 h2 (by omega)
  replace h3 := W4.keep1 h3 (by omega)
  replace he := W4.fr.rd he (fun i hi => nr (by simp only [List.length_cons, List.length_nil] at hi ⊢; omega))
  replace h6 := W4.keep1 h6 (by omega)
  replace h8 := W4.keep1 h8 (by omega)
  replace h9 := W4.at
  replace h7 := W4.keep1 h7 (by omega)
  replace hw := W4.fr.wr hw
  replace hF := hF.trans' W4.fr (fun _ _ _ h => h) (fun b o _ h => h.1)
  refine ⟨trivial, ?_⟩
  refine Pl.fin [] trivial ?_
  refine Go'.fall Go.Proofs.Try.func159 Go.Proofs.Try.results159 (vs := []) trivial ?_
  exact ⟨rfl, by omega, hF, ⟨⟨h0, he, h6, h7, h8, h9, hw⟩, List.Pairwise.nil, h3, rfl, fun b hb => by subst hb; omega, .inl ⟨rfl, h2⟩⟩, h2⟩

end Go.Bt.FZ
