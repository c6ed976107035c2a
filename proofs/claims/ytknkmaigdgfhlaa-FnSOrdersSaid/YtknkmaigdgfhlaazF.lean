/- Contracts of functions of the program, proved by walking through their code. Conditions: those that each theorem names. -/
import Derived.Test.YtknkmaigdgfhlaazE
namespace Go.Bt.FZ
open Go Go.Proofs
set_option maxRecDepth 20000
set_option maxHeartbeats 4000000
set_option linter.unusedVariables false

theorem nset0 {B : World} {H : Mem} {tr bp op : Nat} {P : Ps} (hP : PsOk P) {x : Int} {t : Gt EI 0} (hp : NPre H tr P 0 t bp op) :
    Fn Try.prog B 161 [.pointer (some ⟨tr, 0, none⟩), .pointer (some ⟨bp, op, none⟩), .agg (EI.enc x).toArray] H (SetQ H P 0 t x) := by
  obtain ⟨g, X⟩ := t
  obtain ⟨tc, hg, hc, hnt, hsX, hlen⟩ := hp
  replace hsX : Pl.Srt OI X := hsX
  have hN : NodeM EI H g X (.pointer none) := hg.1
  have hiso : g.iso = P.iso := hg.2.1
  have hcnt : g.cnt = X.length := hg.2.2.1
  have hxm : X.length ≤ P.mx := hg.2.2.2
  have hx255 := hP.hx
  have hlt : ∀ b o, ncl EI g b o → b < H.size := fun b o hb => NodeM.lt hN hb
  obtain ⟨hpl, hil⟩ := hN.cells
  obtain ⟨hn1, hn2⟩ := off_node (E := EI) (g := g) hN.ic hnt
  have hpi := hN.ne
  have htl : tr < H.size := cl_lt tc.iso
  have hF : Fr nowhere H H := Fr.refl _ _
  refine fn_of Go.Proofs.Try.func161 rfl Go.Proofs.Try.ntmps161 ?_
  refine (show Go' _ _ _ _ 242 [(0, _), (1, _), (2, _)] [.code _] _ from ?_)
  refine Go'.seq ?_
  -- region 0 (map.go:220)
  refine Go'.region [(0, 2), (1, 2), (2, 0), (3, 0)] rfl ?_
  refine O.box rfl rfl rfl rfl ?_
  intro H1 M1
  refine ⟨trivial, ?_⟩
  have hs1 := M1.size
  replace hN := NodeM.fr EI hN (M1.fr nowhere) (fun _ _ _ => nw)
  replace tc := tc.fr (M1.fr nowhere) (fun _ _ _ => nw)
  replace hc := (M1.fr nowhere).keep hc nw
  replace hF := hF.trans' (M1.fr nowhere) (fun _ _ _ h => h) (fun _ _ _ h => h.elim)
  have mi : Rd H1 H.size 0 (EI.enc x) := M1.rd _ [] (by simp [Value.cells])
  refine O.alloc rfl rfl rfl Go.Proofs.Try.zeroValue136 ?_
  intro H1 Mz
  refine ⟨trivial, ?_⟩
  replace hs1 : H1.size = H.size + 2 := by have := Mz.size; omega
  replace hN := NodeM.fr EI hN (Mz.fr nowhere) (fun _ _ _ => nw)
  replace tc := tc.fr (Mz.fr nowhere) (fun _ _ _ => nw)
  replace hc := (Mz.fr nowhere).keep hc nw
  replace hF := hF.trans' (Mz.fr nowhere) (fun _ _ _ h => h) (fun _ _ _ h => h.elim)
  replace mi := (Mz.fr nowhere).rd mi (fun _ _ => nw)
  refine O.asg rfl rfl rfl rfl rfl ?_
  refine O.asg rfl rfl rfl rfl rfl ?_
  refine Pl.fin [(0, _), (1, _), (5, _), (6, _), (7, _), (8, _)] ⟨rfl, rfl, rfl, rfl, rfl, rfl, trivial⟩ ?_
  refine Go'.seq ?_
  have hc0 := hN.c0
  rw [hiso] at hc0
  -- region 1 (map.go:222)
  refine Go'.region [(0, 0), (1, 0), (2, 2), (3, 2), (4, 2)] rfl ?_
  refine O.mv rfl rfl rfl rfl rfl ?_
  refine O.mv rfl rfl rfl rfl rfl ?_
  refine O.callQ rfl rfl rfl Go.Proofs.Try.call151 rfl (isoLoad_spec true hc hc0 tc.iso) trivial ?_
  refine O.alloc rfl rfl rfl Go.Proofs.Try.zeroValue135 ?_
  intro H2 M2
  refine ⟨trivial, ?_⟩
  have hs2 := M2.size
  replace hN := NodeM.fr EI hN (M2.fr nowhere) (fun _ _ _ => nw)
  replace tc := tc.fr (M2.fr nowhere) (fun _ _ _ => nw)
  replace mi := (M2.fr nowhere).rd mi (fun _ _ => nw)
  replace hF := hF.trans' (M2.fr nowhere) (fun _ _ _ h => h) (fun _ _ _ h => h.elim)
  have m9w : Wr H2 H1.size 0 1 := M2.wr 1 (by decide)
  refine O.st rfl rfl Go.Proofs.Try.sizeOf135 rfl rfl rfl rfl rfl m9w ?_
  intro H3 W3
  have hs3 := W3.size
  replace hN := NodeM.fr EI hN W3.fr (fun b o hb => nr (.inl (by have := hlt b o hb; omega)))
  replace tc := tc.fr W3.fr (fun o _ _ => nr (.inl (by omega)))
  replace mi := W3.fr.rd mi (fun _ _ => nr (.inl (by omega)))
  replace hF := hF.trans' W3.fr (fun _ _ _ h => h) (fun b o hb h => by simp only [rng] at h; omega)
  have m9 : cl H3 H1.size 0 = some (.pointer (some ⟨g.p, 0, none⟩)) := W3.at
  refine ⟨trivial, ?_⟩
  refine Pl.fin [(0, _), (5, _), (6, _), (7, _), (8, _), (9, _)] ⟨rfl, rfl, rfl, rfl, rfl, rfl, trivial⟩ ?_
  refine Go'.seq ?_
  -- region 2 (map.go:223)
  refine Go'.region [(0, 0), (1, 1), (2, 0), (3, 1), (4, 2), (5, 0), (6, 0), (7, 0), (8, 0), (9, 0)] rfl ?_
  refine O.mv rfl rfl rfl rfl rfl ?_
  refine O.ld rfl rfl rfl (fun w => ⟨Go.Proofs.Try.isAgg135 w, Go.Proofs.Try.sizeOf135 w⟩) rfl m9 ?_
  refine O.faz rfl rfl rfl rfl ⟨_, _, _, Go.Proofs.Try.underlying138, rfl, rfl, Go.Proofs.Try.sizeOf3⟩ rfl ?_
  refine O.ld rfl rfl rfl (fun w => ⟨Go.Proofs.Try.isAgg3 w, Go.Proofs.Try.sizeOf3 w⟩) rfl (mi 0 (.int .i64 x) rfl) ?_
  refine O.callQ rfl rfl rfl Go.Proofs.Try.call168 rfl (search_spec x hN hsX (by omega)) trivial ?_
  refine O.mv rfl rfl rfl rfl rfl ?_
  refine O.ext rfl rfl rfl rfl rfl rfl ?_
  refine O.ext rfl rfl rfl rfl rfl rfl ?_
  refine O.asg rfl rfl rfl rfl rfl ?_
  refine O.asg rfl rfl rfl rfl rfl ?_
  refine Pl.fin [(0, _), (5, _), (6, _), (7, _), (8, _), (9, _), (10, _), (11, _)] ⟨rfl, rfl, rfl, rfl, rfl, rfl, rfl, rfl, trivial⟩ ?_
  refine Go'.seq ?_
  refine Go'.seq ?_
  -- region 3 (map.go:224)
  refine Go'.region [(0, 0)] rfl ?_
  refine O.mv rfl rfl rfl rfl rfl ?_
  refine Pl.fin [(0, _), (5, _), (6, _), (7, _), (8, _), (9, _), (10, _), (25, _)] ⟨rfl, rfl, rfl, rfl, rfl, rfl, rfl, rfl, trivial⟩ ?_
  generalize hi : Pl.pos OI x X = i at *
  cases hfd : Pl.fnd OI x X
  rotate_left
  · -- found
    obtain ⟨y, hy, _, _⟩ := Pl.fnd_at OI hsX hfd
    rw [hi] at hy
    have hlt' : i < X.length := (List.getElem?_eq_some_iff.1 hy).1
    refine Go'.condT rfl ?_
    refine Go'.seq ?_
    -- region 4 (map.go:225)
    refine Go'.region [(0, 1), (1, 0), (2, 0), (3, 1), (4, 0), (5, 0), (6, 1), (7, 1), (8, 2)] rfl ?_
    refine O.ld rfl rfl rfl (fun w => ⟨Go.Proofs.Try.isAgg135 w, Go.Proofs.Try.sizeOf135 w⟩) rfl m9 ?_
    refine O.nc rfl rfl rfl rfl rfl ?_
    refine O.fa0 (off := 2) rfl rfl rfl rfl ⟨_, _, _, Go.Proofs.Try.underlying205, rfl, rfl, Go.Proofs.Try.sizeOf202⟩ rfl ?_
    refine O.ld rfl rfl rfl (fun w => ⟨Go.Proofs.Try.isAgg202 w, Go.Proofs.Try.sizeOf202 w⟩) rfl hN.c2 ?_
    refine O.mv rfl rfl rfl rfl rfl ?_
    refine O.ix (j := i) rfl rfl rfl rfl Go.Proofs.Try.underlying202 Go.Proofs.Try.sizeOf138 rfl rfl (by omega) hlt' ?_
    refine O.fz1 rfl rfl rfl ty ⟨_, _, Go.Proofs.Try.underlying138, rfl, rfl, rfl, Go.Proofs.Try.sizeOf136⟩ rfl (hN.sl.wri hlt') ?_
    refine O.lds rfl rfl rfl (fun w => ⟨Go.Proofs.Try.isAgg136 w, Go.Proofs.Try.sizeOf136 w⟩) rfl rfl (Rd.nil _ _ _) ?_
    refine O.st0 rfl rfl Go.Proofs.Try.sizeOf136 rfl rfl rfl trivial ?_
    refine Pl.fin [(0, _), (5, _), (6, _), (7, _), (8, _), (9, _), (10, _)] ⟨rfl, rfl, rfl, rfl, rfl, rfl, rfl, trivial⟩ ?_
    refine Go'.seq ?_
    -- region 5 (map.go:226)
    refine Go'.draw (fun _ => True) [(0, 1), (1, 0), (2, 0), (3, 1), (4, 0), (5, 1), (6, 0), (7, 3)] (by kernel_rfl) (by kernel_rfl) (trivial) ?_
    refine O.ld rfl rfl rfl (fun w => ⟨Go.Proofs.Try.isAgg135 w, Go.Proofs.Try.sizeOf135 w⟩) rfl m9 ?_
    refine O.nc rfl rfl rfl rfl rfl ?_
    refine O.fa0 (off := 2) rfl rfl rfl rfl ⟨_, _, _, Go.Proofs.Try.underlying205, rfl, rfl, Go.Proofs.Try.sizeOf202⟩ rfl ?_
    refine O.ld rfl rfl rfl (fun w => ⟨Go.Proofs.Try.isAgg202 w, Go.Proofs.Try.sizeOf202 w⟩) rfl hN.c2 ?_
    refine O.mv rfl rfl rfl rfl rfl ?_
    refine O.lds rfl rfl rfl (fun w => ⟨Go.Proofs.Try.isAgg138 w, Go.Proofs.Try.sizeOf138 w⟩) rfl rfl mi ?_
    refine O.ix (j := i) rfl rfl rfl rfl Go.Proofs.Try.underlying202 Go.Proofs.Try.sizeOf138 rfl rfl (by omega) hlt' ?_
    refine O.st3 rfl rfl Go.Proofs.Try.sizeOf138 rfl rfl rfl rfl rfl (hN.sl.wri hlt') ?_
    intro H4 W4
    have hs4 := W4.size
    replace hF : Fr (ncl EI g) H H4 := hF.trans' W4.fr (fun _ _ _ h => h.elim) (fun b o hb h => by have := W4.as_row.in_items hN (by rw [List.length_singleton]; omega) (by rw [row_one]; exact h); exact .inr this)
    replace hN := hN.set W4 hlt'
    refine Pl.fin [(0, _), (5, _), (6, _), (7, _), (8, _), (9, _), (10, _)] ⟨rfl, rfl, rfl, rfl, rfl, rfl, rfl, trivial⟩ ?_
    refine Go'.seq ?_
    -- region 6 (map.go:227)
    refine Go'.region [(0, 1), (1, 2), (2, 0), (3, 0)] rfl ?_
    refine O.lds rfl rfl rfl (fun w => ⟨Go.Proofs.Try.isAgg136 w, Go.Proofs.Try.sizeOf136 w⟩) rfl rfl (Rd.nil _ _ _) ?_
    refine O.st0 rfl rfl Go.Proofs.Try.sizeOf136 rfl rfl rfl trivial ?_
    refine O.asg rfl rfl rfl rfl rfl ?_
    refine O.asg rfl rfl rfl rfl rfl ?_
    refine Pl.fin [(0, _), (5, _), (6, _), (7, _), (8, _), (9, _), (10, _)] ⟨rfl, rfl, rfl, rfl, rfl, rfl, rfl, trivial⟩ ?_
    refine Go'.ret (vs := [_, _, _]) Go.Proofs.Try.func161 Go.Proofs.Try.results161 ⟨⟨_, _, rfl, fun _ _ => run_loadVar_agg (fun w => ⟨Go.Proofs.Try.isAgg136 w, Go.Proofs.Try.sizeOf136 w⟩) rfl (Rd.nil _ _ _)⟩, rfl, rfl, trivial⟩ ?_
    have hll : (X.take i ++ x :: X.drop (i + 1)).length = X.length := by simp only [List.length_append, List.length_take, List.length_cons, List.length_drop]; omega
    refine .inl ⟨((g, X.take i ++ x :: X.drop (i + 1)) : Gt EI 0), ?_, ⟨hF, ⟨hN, hiso, hcnt.trans hll.symm, by rw [hll]; exact hxm⟩, rfl, fun b o hb => .inl hb, ?_, Nat.le_of_eq hll.symm⟩⟩
    · show _ = Value.tuple #[PV (Pl.got OI x X), .bool (Pl.fnd OI x X), .bool false]
      rw [Pl.got_some OI hfd, hi, hy, hfd]; rfl
    · show _ = Pl.put OI x X
      unfold Pl.put; rw [hfd, hi]; rfl
  · -- not found
    have hle : i ≤ X.length := by rw [← hi]; exact Pl.pos_le OI x X
    refine Go'.condF rfl ?_
    refine Go'.skip ?_
    refine Go'.seq ?_
    refine Go'.seq ?_
    -- region 7 (map.go:229)
    refine Go'.region [(0, 1), (1, 2)] rfl ?_
    refine O.ld rfl rfl rfl (fun w => ⟨Go.Proofs.Try.isAgg135 w, Go.Proofs.Try.sizeOf135 w⟩) rfl m9 ?_
    refine O.callQ rfl rfl rfl Go.Proofs.Try.call152 rfl (leaf_spec hN.c3) trivial ?_
    refine Pl.fin [(0, _), (5, _), (6, _), (7, _), (8, _), (9, _), (10, _), (43, _)] ⟨rfl, rfl, rfl, rfl, rfl, rfl, rfl, rfl, trivial⟩ ?_
    refine Go'.condT rfl ?_
    refine Go'.seq ?_
    refine Go'.seq ?_
    by_cases hful : X.length = P.mx
    · -- full
      -- region 8 (map.go:230)
      refine Go'.draw (fun _ => True) [(0, 1), (1, 0), (2, 0), (3, 1), (4, 0), (5, 0), (6, 0), (7, 0), (8, 1), (9, 0)] (by kernel_rfl) (by kernel_rfl) (trivial) ?_
      refine O.ld rfl rfl rfl (fun w => ⟨Go.Proofs.Try.isAgg135 w, Go.Proofs.Try.sizeOf135 w⟩) rfl m9 ?_
      refine O.nc rfl rfl rfl rfl rfl ?_
      refine O.fa0 (off := 2) rfl rfl rfl rfl ⟨_, _, _, Go.Proofs.Try.underlying205, rfl, rfl, Go.Proofs.Try.sizeOf202⟩ rfl ?_
      refine O.ld rfl rfl rfl (fun w => ⟨Go.Proofs.Try.isAgg202 w, Go.Proofs.Try.sizeOf202 w⟩) rfl hN.c2 ?_
      refine O.len rfl rfl rfl rfl Go.Proofs.Try.underlying202 rfl ?_
      refine O.mv rfl rfl rfl rfl rfl ?_
      refine O.nc rfl rfl rfl rfl rfl ?_
      refine O.fa0 (off := 6) rfl rfl rfl rfl ⟨_, _, _, Go.Proofs.Try.underlying140, rfl, rfl, Go.Proofs.Try.sizeOf3⟩ rfl ?_
      refine O.ld rfl rfl rfl (fun w => ⟨Go.Proofs.Try.isAgg3 w, Go.Proofs.Try.sizeOf3 w⟩) rfl tc.mx' ?_
      refine O.cmp rfl rfl rfl rfl rfl rfl (eqlT (by omega)) ?_
      refine Pl.fin [(0, _), (5, _), (6, _), (7, _), (8, _), (9, _), (10, _), (53, _)] ⟨rfl, rfl, rfl, rfl, rfl, rfl, rfl, rfl, trivial⟩ ?_
      refine Go'.condT rfl ?_
      refine Go'.seq ?_
      -- region 9 (map.go:231)
      refine Go'.region [(0, 0), (1, 0), (2, 0), (3, 1), (4, 1), (5, 2), (6, 0), (7, 0)] rfl ?_
      refine O.mv rfl rfl rfl rfl rfl ?_
      refine O.nc rfl rfl rfl rfl rfl ?_
      refine O.fa0 (off := 4) rfl rfl rfl rfl ⟨_, _, _, Go.Proofs.Try.underlying140, rfl, rfl, Go.Proofs.Try.sizeOf138⟩ rfl ?_
      refine O.fz1 rfl rfl rfl ty ⟨_, _, Go.Proofs.Try.underlying138, rfl, rfl, rfl, Go.Proofs.Try.sizeOf136⟩ rfl (tc.wr.at0 4 1 (by omega)) ?_
      refine O.lds rfl rfl rfl (fun w => ⟨Go.Proofs.Try.isAgg136 w, Go.Proofs.Try.sizeOf136 w⟩) rfl rfl (Rd.nil _ _ _) ?_
      refine O.st0 rfl rfl Go.Proofs.Try.sizeOf136 rfl rfl rfl trivial ?_
      refine O.asg rfl rfl rfl rfl rfl ?_
      refine O.asg rfl rfl rfl rfl rfl ?_
      refine Pl.fin [(0, _), (5, _), (6, _), (7, _), (8, _), (9, _), (10, _)] ⟨rfl, rfl, rfl, rfl, rfl, rfl, rfl, trivial⟩ ?_
      refine Go'.ret (vs := [_, _, _]) Go.Proofs.Try.func161 Go.Proofs.Try.results161 ⟨⟨_, _, rfl, fun _ _ => run_loadVar_agg (fun w => ⟨Go.Proofs.Try.isAgg136 w, Go.Proofs.Try.sizeOf136 w⟩) rfl (Rd.nil _ _ _)⟩, rfl, rfl, trivial⟩ ?_
      exact .inr ⟨rfl, hF, hful, fun hh => by have hh2 : X.length < P.mx := hh; omega⟩
    · -- room
      -- region 8 (map.go:230)
      refine Go'.draw (fun _ => True) [(0, 1), (1, 0), (2, 0), (3, 1), (4, 0), (5, 0), (6, 0), (7, 0), (8, 1), (9, 0)] (by kernel_rfl) (by kernel_rfl) (trivial) ?_
      refine O.ld rfl rfl rfl (fun w => ⟨Go.Proofs.Try.isAgg135 w, Go.Proofs.Try.sizeOf135 w⟩) rfl m9 ?_
      refine O.nc rfl rfl rfl rfl rfl ?_
      refine O.fa0 (off := 2) rfl rfl rfl rfl ⟨_, _, _, Go.Proofs.Try.underlying205, rfl, rfl, Go.Proofs.Try.sizeOf202⟩ rfl ?_
      refine O.ld rfl rfl rfl (fun w => ⟨Go.Proofs.Try.isAgg202 w, Go.Proofs.Try.sizeOf202 w⟩) rfl hN.c2 ?_
      refine O.len rfl rfl rfl rfl Go.Proofs.Try.underlying202 rfl ?_
      refine O.mv rfl rfl rfl rfl rfl ?_
      refine O.nc rfl rfl rfl rfl rfl ?_
      refine O.fa0 (off := 6) rfl rfl rfl rfl ⟨_, _, _, Go.Proofs.Try.underlying140, rfl, rfl, Go.Proofs.Try.sizeOf3⟩ rfl ?_
      refine O.ld rfl rfl rfl (fun w => ⟨Go.Proofs.Try.isAgg3 w, Go.Proofs.Try.sizeOf3 w⟩) rfl tc.mx' ?_
      refine O.cmp rfl rfl rfl rfl rfl rfl (eqlF (by omega)) ?_
      refine Pl.fin [(0, _), (5, _), (6, _), (7, _), (8, _), (9, _), (10, _), (53, _)] ⟨rfl, rfl, rfl, rfl, rfl, rfl, rfl, rfl, trivial⟩ ?_
      refine Go'.condF rfl ?_
      refine Go'.skip ?_
      refine Go'.seq ?_
      -- region 10 (map.go:233)
      refine Go'.draw (fun H' => cl H' H1.size 0 = some (.pointer (some ⟨g.p, 0, none⟩)) ∧ cl H' g.p 2 = some (.slice (some ⟨g.ib, g.io, none⟩) X.length g.ic)) [(0, 0), (1, 0), (2, 0), (3, 0), (4, 0), (5, 0), (6, 0), (7, 0), (8, 1), (9, 2), (10, 2), (11, 0), (12, 0), (13, 3)] (by kernel_rfl) (by kernel_rfl) (⟨m9, hN.c2⟩) ?_
      refine O.ldC rfl rfl rfl (fun w => ⟨Go.Proofs.Try.isAgg135 w, Go.Proofs.Try.sizeOf135 w⟩) rfl (fun _ h => h.1) ?_
      refine O.ldC rfl rfl rfl (fun w => ⟨Go.Proofs.Try.isAgg135 w, Go.Proofs.Try.sizeOf135 w⟩) rfl (fun _ h => h.1) ?_
      refine O.nc rfl rfl rfl rfl rfl ?_
      refine O.fa0 (off := 2) rfl rfl rfl rfl ⟨_, _, _, Go.Proofs.Try.underlying205, rfl, rfl, Go.Proofs.Try.sizeOf202⟩ rfl ?_
      refine O.ldC rfl rfl rfl (fun w => ⟨Go.Proofs.Try.isAgg202 w, Go.Proofs.Try.sizeOf202 w⟩) rfl (fun _ h => h.2) ?_
      refine O.mv rfl rfl rfl rfl rfl ?_
      refine O.nc rfl rfl rfl rfl rfl ?_
      refine O.fa0 (off := 4) rfl rfl rfl rfl ⟨_, _, _, Go.Proofs.Try.underlying140, rfl, rfl, Go.Proofs.Try.sizeOf138⟩ rfl ?_
      refine O.lds rfl rfl rfl (fun w => ⟨Go.Proofs.Try.isAgg138 w, Go.Proofs.Try.sizeOf138 w⟩) rfl rfl (tc.emp) ?_
      refine O.bsl (cs := (EI.enc (0 : Int))) rfl rfl rfl ⟨Go.Proofs.Try.underlying202, Go.Proofs.Try.sizeOf138, Go.Proofs.Try.zeroValue138, ⟨_, Go.Proofs.Try.typeInfo138, rfl⟩, rfl, by decide, by decide⟩ rfl (by decide) (by kernel_rfl) ?_
      intro H4 M4
      have hs4 := M4.size
      replace hN := NodeM.fr EI hN (M4.fr nowhere) (fun _ _ _ => nw)
      replace tc := tc.fr (M4.fr nowhere) (fun _ _ _ => nw)
      replace mi := (M4.fr nowhere).rd mi (fun _ _ => nw)
      replace m9 := (M4.fr nowhere).keep m9 nw
      replace hF := hF.trans' (M4.fr nowhere) (fun _ _ _ h => h) (fun _ _ _ h => h.elim)
      have m4 : Rd H4 H3.size 0 (EI.enc (0 : Int)) := M4.rd _ [] (by simp)
      refine ⟨⟨m9, hN.c2⟩, ?_⟩
      refine O.app (m := 1) (news := (EI.enc (0 : Int))) rfl rfl rfl ⟨Go.Proofs.Try.underlying202, Go.Proofs.Try.sizeOf138, Go.Proofs.Try.zeroValue138, ⟨_, Go.Proofs.Try.typeInfo138, rfl⟩, rfl, by decide, by decide⟩ rfl hN.sl rfl (.inl ⟨_, _, _, rfl, m4⟩) rfl rfl (Nat.le_trans (Nat.mul_le_mul_left _ (Nat.le_of_ble_eq_true (n := _) (m := 4096) rfl)) (by omega)) (by omega) ?_
      intro b' o' c' H5 ha
      have hin : ∀ b o, b < H.size → (b = b' ∧ o' ≤ o ∧ o < o' + c' * EI.s) → ncl EI g b o := fun b o hb hh => .inr (ha.inside (by omega) hh)
      have hbn : b' ≠ tr ∧ b' ≠ H.size ∧ b' ≠ H1.size ∧ b' ≠ g.p := by rcases ha.place with ⟨r, _⟩ | ⟨r, _⟩ <;> omega
      have hsl := SlE.app (E := EI) (x := (0 : Int)) ha
      have hN0 := hN
      replace hN := hN.appd ha
      replace tc := tc.fr ha.fr (fun o _ _ => nr (.inl (by omega)))
      replace mi := ha.fr.rd mi (fun _ _ => nr (.inl (by omega)))
      replace m9 := ha.fr.keep m9 (nr (.inl (by omega)))
      replace hF : Fr (ncl EI g) H H5 := hF.trans' (ha.in_node hN0) (fun _ _ _ h => h.elim) (fun b o _ h => h)
      have hs5 : H4.size ≤ H5.size := ha.fr.size
      refine ⟨⟨m9, hN.c2⟩, ?_⟩
      refine O.nc rfl rfl rfl rfl rfl ?_
      refine O.fa0 (off := 2) rfl rfl rfl rfl ⟨_, _, _, Go.Proofs.Try.underlying205, rfl, rfl, Go.Proofs.Try.sizeOf202⟩ rfl ?_
      refine O.st3 rfl rfl Go.Proofs.Try.sizeOf202 rfl rfl rfl rfl rfl (hN.wr.at0 2 1 (by omega)) ?_
      intro H6 W6
      have hs6 := W6.size
      replace hN := hN0.push (e := (0 : Int)) ha W6
      replace tc := tc.fr W6.fr (fun o _ _ => nr (.inl (by omega)))
      replace mi := W6.fr.rd mi (fun _ _ => nr (.inl (by omega)))
      replace m9 := W6.fr.keep m9 (nr (.inl (by omega)))
      replace hF := hF.trans' W6.fr (fun _ _ _ h => h) (fun b o hb h => NodeM.in1 (H := H5) (H' := H6) (by simp) h)
      refine Pl.fin [(0, _), (5, _), (6, _), (7, _), (8, _), (9, _), (10, _)] ⟨rfl, rfl, rfl, rfl, rfl, rfl, rfl, trivial⟩ ?_
      refine Go'.seq ?_
      have hl1 : (X ++ [(0 : Int)]).length = X.length + 1 := by simp
      have hcp := hN.sl.hle
      rw [hl1] at hcp
      simp only at hcp
      have hh2 : cl H6 g.p 2 = some (.slice (some ⟨b', o', none⟩) (X.length + 1) c') := by have := hN.c2; rwa [hl1] at this
      -- region 11 (map.go:234)
      refine Go'.draw (fun _ => True) [(0, 1), (1, 0), (2, 0), (3, 1), (4, 0), (5, 0), (6, 0), (7, 1), (8, 0), (9, 0), (10, 1), (11, 0), (12, 0), (13, 2)] (by kernel_rfl) (by kernel_rfl) (trivial) ?_
      refine O.ld rfl rfl rfl (fun w => ⟨Go.Proofs.Try.isAgg135 w, Go.Proofs.Try.sizeOf135 w⟩) rfl m9 ?_
      refine O.nc rfl rfl rfl rfl rfl ?_
      refine O.fa0 (off := 2) rfl rfl rfl rfl ⟨_, _, _, Go.Proofs.Try.underlying205, rfl, rfl, Go.Proofs.Try.sizeOf202⟩ rfl ?_
      refine O.ld rfl rfl rfl (fun w => ⟨Go.Proofs.Try.isAgg202 w, Go.Proofs.Try.sizeOf202 w⟩) rfl hh2 ?_
      refine O.mv rfl rfl rfl rfl rfl ?_
      refine O.add (((i + 1 : Nat) : Int)) rfl rfl rfl rfl rfl rfl (by omega) (by omega) ?_
      refine O.slc (jl := i + 1) (jh := X.length + 1) (jm := c') rfl rfl rfl rfl Go.Proofs.Try.underlying202 Go.Proofs.Try.sizeOf138 rfl rfl rfl ⟨_, by rfl⟩ (by omega) (by omega) (by simp) (by simp) ?_
      intro o7 ho7
      refine O.ld rfl rfl rfl (fun w => ⟨Go.Proofs.Try.isAgg135 w, Go.Proofs.Try.sizeOf135 w⟩) rfl m9 ?_
      refine O.nc rfl rfl rfl rfl rfl ?_
      refine O.fa0 (off := 2) rfl rfl rfl rfl ⟨_, _, _, Go.Proofs.Try.underlying205, rfl, rfl, Go.Proofs.Try.sizeOf202⟩ rfl ?_
      refine O.ld rfl rfl rfl (fun w => ⟨Go.Proofs.Try.isAgg202 w, Go.Proofs.Try.sizeOf202 w⟩) rfl hh2 ?_
      refine O.mv rfl rfl rfl rfl rfl ?_
      refine O.slc (jl := i) (jh := X.length + 1) (jm := c') rfl rfl rfl rfl Go.Proofs.Try.underlying202 Go.Proofs.Try.sizeOf138 rfl rfl rfl ⟨_, by rfl⟩ (by omega) (by omega) (by simp) (by simp) ?_
      intro o8 ho8
      obtain rfl := ho8 (by omega)
      refine O.copy (b := b') (o := (o' + (i + 1) * 1)) (j := (X.length - i)) (cs := (row EI (X.drop i))) rfl rfl rfl ⟨Go.Proofs.Try.underlying202, Go.Proofs.Try.sizeOf138, Go.Proofs.Try.zeroValue138, ⟨_, Go.Proofs.Try.typeInfo138, rfl⟩, rfl, by decide, by decide⟩ rfl rfl (show _ = min _ _ by omega) ((Nat.lt_or_ge i X.length).elim (fun h => .inl (by rw [ho7 (by omega)])) (fun h => .inr (by omega))) (.inl ⟨_, _, _, rfl, hN.sl.tail hle⟩) (by rw [row_len, List.length_drop]; rfl) (row_ones EI _) (hN.sl.wrm (i := i + 1) (m := X.length - i) (by rw [hl1]; omega)) ?_
      intro H7 W7
      have hs7 := W7.size
      have hN1 := hN
      have hdl : (X.drop i).length = X.length - i := List.length_drop
      replace hN := hN.cpy (i := i + 1) (Y := X.drop i) W7 (by rw [hl1, hdl]; omega)
      replace tc := tc.fr W7.fr (fun o _ _ => nr (.inl (by omega)))
      replace mi := W7.fr.rd mi (fun _ _ => nr (.inl (by omega)))
      replace m9 := W7.fr.keep m9 (nr (.inl (by omega)))
      replace hh2 := W7.fr.keep hh2 (nr (.inl (by omega)))
      replace hF := hF.trans' W7.fr (fun _ _ _ h => h) (fun b o hb h => hin b o hb (W7.in_items (i := i + 1) (Y := X.drop i) hN1 (by rw [hl1, hdl]; omega) h))
      refine ⟨trivial, ?_⟩
      refine Pl.fin [(0, _), (5, _), (6, _), (7, _), (8, _), (9, _), (10, _)] ⟨rfl, rfl, rfl, rfl, rfl, rfl, rfl, trivial⟩ ?_
      refine Go'.seq ?_
      have hl2 := Pl.ins_len X (0 : Int) i hle
      -- region 12 (map.go:235)
      refine Go'.draw (fun _ => True) [(0, 1), (1, 0), (2, 0), (3, 1), (4, 0), (5, 1), (6, 0), (7, 3)] (by kernel_rfl) (by kernel_rfl) (trivial) ?_
      refine O.ld rfl rfl rfl (fun w => ⟨Go.Proofs.Try.isAgg135 w, Go.Proofs.Try.sizeOf135 w⟩) rfl m9 ?_
      refine O.nc rfl rfl rfl rfl rfl ?_
      refine O.fa0 (off := 2) rfl rfl rfl rfl ⟨_, _, _, Go.Proofs.Try.underlying205, rfl, rfl, Go.Proofs.Try.sizeOf202⟩ rfl ?_
      refine O.ld rfl rfl rfl (fun w => ⟨Go.Proofs.Try.isAgg202 w, Go.Proofs.Try.sizeOf202 w⟩) rfl hh2 ?_
      refine O.mv rfl rfl rfl rfl rfl ?_
      refine O.lds rfl rfl rfl (fun w => ⟨Go.Proofs.Try.isAgg138 w, Go.Proofs.Try.sizeOf138 w⟩) rfl rfl mi ?_
      refine O.ix (j := i) rfl rfl rfl rfl Go.Proofs.Try.underlying202 Go.Proofs.Try.sizeOf138 rfl rfl (by omega) (by omega) ?_
      refine O.st3 rfl rfl Go.Proofs.Try.sizeOf138 rfl rfl rfl rfl rfl (hN.sl.wri (i := i) (by rw [hl2]; omega)) ?_
      intro H8 W8
      have hs8 := W8.size
      have hN2 := hN
      replace hN := hN.set (i := i) W8 (by rw [hl2]; omega)
      rw [Pl.ins_list X _ x i hle] at hN
      replace tc := tc.fr W8.fr (fun o _ _ => nr (.inl (by omega)))
      replace mi := W8.fr.rd mi (fun _ _ => nr (.inl (by omega)))
      replace m9 := W8.fr.keep m9 (nr (.inl (by omega)))
      replace hh2 := W8.fr.keep hh2 (nr (.inl (by omega)))
      replace hF := hF.trans' W8.fr (fun _ _ _ h => h) (fun b o hb h => hin b o hb (W8.as_row.in_items (i := i) hN2 (by rw [hl2, List.length_singleton]; omega) (by rw [row_one]; exact h)))
      refine Pl.fin [(0, _), (5, _), (6, _), (7, _), (8, _), (9, _), (10, _)] ⟨rfl, rfl, rfl, rfl, rfl, rfl, rfl, trivial⟩ ?_
      refine Go'.seq ?_
      have hc1 : cl H8 g.p 1 = some (.int .i64 (g.cnt : Int)) := hN.c1
      -- region 13 (map.go:236)
      refine Go'.region [(0, 1), (1, 0), (2, 0), (3, 1), (4, 0), (5, 0), (6, 0), (7, 2)] rfl ?_
      refine O.ld rfl rfl rfl (fun w => ⟨Go.Proofs.Try.isAgg135 w, Go.Proofs.Try.sizeOf135 w⟩) rfl m9 ?_
      refine O.nc rfl rfl rfl rfl rfl ?_
      refine O.fa0 (off := 1) rfl rfl rfl rfl ⟨_, _, _, Go.Proofs.Try.underlying205, rfl, rfl, Go.Proofs.Try.sizeOf3⟩ rfl ?_
      refine O.ld rfl rfl rfl (fun w => ⟨Go.Proofs.Try.isAgg3 w, Go.Proofs.Try.sizeOf3 w⟩) rfl hc1 ?_
      refine O.add (((g.cnt + 1 : Nat) : Int)) rfl rfl rfl rfl rfl rfl (by omega) (by omega) ?_
      refine O.nc rfl rfl rfl rfl rfl ?_
      refine O.fa0 (off := 1) rfl rfl rfl rfl ⟨_, _, _, Go.Proofs.Try.underlying205, rfl, rfl, Go.Proofs.Try.sizeOf3⟩ rfl ?_
      refine O.st rfl rfl Go.Proofs.Try.sizeOf3 rfl rfl rfl rfl rfl (hN.wr.at0 1 1 (by omega)) ?_
      intro H9 W9
      have hs9 := W9.size
      replace hN := hN.count W9
      replace tc := tc.fr W9.fr (fun o _ _ => nr (.inl (by omega)))
      replace mi := W9.fr.rd mi (fun _ _ => nr (.inl (by omega)))
      replace m9 := W9.fr.keep m9 (nr (.inl (by omega)))
      replace hF := hF.trans' W9.fr (fun _ _ _ h => h) (fun b o hb h => NodeM.in1 (H := H5) (H' := H6) (by simp) h)
      refine ⟨trivial, ?_⟩
      refine Pl.fin [(0, _), (5, _), (6, _), (7, _), (8, _), (9, _), (10, _)] ⟨rfl, rfl, rfl, rfl, rfl, rfl, rfl, trivial⟩ ?_
      refine Go'.seq ?_
      -- region 14 (map.go:237)
      refine Go'.region [(0, 0), (1, 0), (2, 0), (3, 1), (4, 1), (5, 2), (6, 0), (7, 0)] rfl ?_
      refine O.mv rfl rfl rfl rfl rfl ?_
      refine O.nc rfl rfl rfl rfl rfl ?_
      refine O.fa0 (off := 4) rfl rfl rfl rfl ⟨_, _, _, Go.Proofs.Try.underlying140, rfl, rfl, Go.Proofs.Try.sizeOf138⟩ rfl ?_
      refine O.fz1 rfl rfl rfl ty ⟨_, _, Go.Proofs.Try.underlying138, rfl, rfl, rfl, Go.Proofs.Try.sizeOf136⟩ rfl (tc.wr.at0 4 1 (by omega)) ?_
      refine O.lds rfl rfl rfl (fun w => ⟨Go.Proofs.Try.isAgg136 w, Go.Proofs.Try.sizeOf136 w⟩) rfl rfl (Rd.nil _ _ _) ?_
      refine O.st0 rfl rfl Go.Proofs.Try.sizeOf136 rfl rfl rfl trivial ?_
      refine O.asg rfl rfl rfl rfl rfl ?_
      refine O.asg rfl rfl rfl rfl rfl ?_
      refine Pl.fin [(0, _), (5, _), (6, _), (7, _), (8, _), (9, _), (10, _)] ⟨rfl, rfl, rfl, rfl, rfl, rfl, rfl, trivial⟩ ?_
      refine Go'.ret (vs := [_, _, _]) Go.Proofs.Try.func161 Go.Proofs.Try.results161 ⟨⟨_, _, rfl, fun _ _ => run_loadVar_agg (fun w => ⟨Go.Proofs.Try.isAgg136 w, Go.Proofs.Try.sizeOf136 w⟩) rfl (Rd.nil _ _ _)⟩, rfl, rfl, trivial⟩ ?_
      have hll : (X.take i ++ x :: X.drop i).length = X.length + 1 := by simp only [List.length_append, List.length_take, List.length_cons, List.length_drop]; omega
      refine .inl ⟨(({ g with cnt := g.cnt + 1, ib := b', io := o', ic := c' }, X.take i ++ x :: X.drop i) : Gt EI 0), ?_, ⟨hF, ⟨hN, hiso, ?_, by rw [hll]; omega⟩, rfl, fun b o hb => ?_, ?_, ?_⟩⟩
      · show _ = Value.tuple #[PV (Pl.got OI x X), .bool (Pl.fnd OI x X), .bool false]
        rw [Pl.got_none OI hfd, hfd]; rfl
      · show g.cnt + 1 = _; rw [hll, hcnt]
      · rcases Nat.lt_or_ge b H.size with hl | hl
        · left
          rcases hb with hb | hb
          · exact .inl hb
          · exact hin b o hl hb
        · exact .inr hl
      · show _ = Pl.put OI x X
        unfold Pl.put; rw [hfd, hi]; rfl
      · show X.length ≤ (X.take i ++ x :: X.drop i).length
        omega

end Go.Bt.FZ