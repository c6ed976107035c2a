/- Contracts of functions of the program, proved by walking through their code. Conditions: those that each theorem names. -/
import Derived.Test.YtknkmaigdgfhlaavB
namespace Go.Bt.FZ
open Go Go.Proofs
set_option maxRecDepth 20000
set_option maxHeartbeats 4000000
set_option linter.unusedVariables false

theorem get_spec {B : World} {H : Mem} {tr : Nat} {S : Nat → Prop} {l : List Int} {x : Int} (hU : MapU H tr S l) (mt : Bool) :
    Fn Try.prog B 154 [.pointer (some ⟨tr, 0, none⟩), .int .i64 x, .bool mt] H (fun r H' => r = .tuple #[.agg #[], .bool (Pl.fnd OI x l)] ∧ Fr nowhere H H') := by
  obtain ⟨z6, hz6⟩ : ∃ z, z = H.size := ⟨_, rfl⟩
  refine fn_of Go.Proofs.Try.func154 rfl Go.Proofs.Try.ntmps154 ?_
  refine (show Go' _ _ _ _ 61 [(0, _), (1, _), (2, _)] [.code _] _ from ?_)
  refine Go'.seq ?_
  -- region 0 (map.go:317)
  refine Go'.region [(0, 2), (1, 0)] rfl ?_
  refine O.alloc rfl rfl rfl Go.Proofs.Try.zeroValue136 ?_
  intro H Mz
  refine ⟨trivial, ?_⟩
  replace hU := hU.fr (Mz.fr nowhere) (fun _ _ _ => nw)
  refine O.asg rfl rfl rfl rfl rfl ?_
  refine Pl.fin [(0, _), (1, _), (2, _), (6, _), (7, _)] ⟨rfl, rfl, rfl, rfl, rfl, trivial⟩ ?_
  refine Go'.seq ?_
  refine Go'.seq ?_
  refine Go'.mono (Q := fun r H' => r = .tuple #[.agg #[], .bool (Pl.fnd OI x l)] ∧ Fr nowhere H H') (fun v H' hq => ⟨hq.1, (Mz.fr nowhere).trans hq.2⟩) ?_
  rw [← hz6]
  have hwr := hU.wr
  rcases hU.cases with ⟨rfl, hptr⟩ | ⟨tc, srt, h, t, hg, hx1, e, hc, hnt, hown⟩
  · skip
    -- region 1 (map.go:318)
    refine Go'.region [(0, 0), (1, 0), (2, 0), (3, 1), (4, 0)] rfl ?_
    refine O.mv rfl rfl rfl rfl rfl ?_
    refine O.nc rfl rfl rfl rfl rfl ?_
    refine O.fa0 (off := 2) rfl rfl rfl rfl ⟨_, _, _, Go.Proofs.Try.underlying140, rfl, rfl, Go.Proofs.Try.sizeOf135⟩ rfl ?_
    refine O.ld rfl rfl rfl (fun w => ⟨Go.Proofs.Try.isAgg135 w, Go.Proofs.Try.sizeOf135 w⟩) rfl hptr ?_
    refine O.isNil rfl rfl rfl rfl Go.Proofs.Try.underlying135 rfl rfl ?_
    refine Pl.fin [(0, _), (1, _), (2, _), (6, _), (7, _), (15, _)] ⟨rfl, rfl, rfl, rfl, rfl, rfl, trivial⟩ ?_
    refine Go'.condT rfl ?_
    refine Go'.seq ?_
    -- region 2 (map.go:319)
    refine Go'.region [(0, 0), (1, 0), (2, 0), (3, 1), (4, 1), (5, 2), (6, 0)] rfl ?_
    refine O.mv rfl rfl rfl rfl rfl ?_
    refine O.nc rfl rfl rfl rfl rfl ?_
    refine O.fa0 (off := 4) rfl rfl rfl rfl ⟨_, _, _, Go.Proofs.Try.underlying140, rfl, rfl, Go.Proofs.Try.sizeOf138⟩ rfl ?_
    refine O.fz1 rfl rfl rfl ty ⟨_, _, Go.Proofs.Try.underlying138, rfl, rfl, rfl, Go.Proofs.Try.sizeOf136⟩ rfl (hwr.at0 4 1 (by omega)) ?_
    refine O.lds rfl rfl rfl (fun w => ⟨Go.Proofs.Try.isAgg136 w, Go.Proofs.Try.sizeOf136 w⟩) rfl rfl (Rd.nil _ _ _) ?_
    refine O.st0 rfl rfl Go.Proofs.Try.sizeOf136 rfl rfl rfl trivial ?_
    refine O.asg rfl rfl rfl rfl rfl ?_
    refine Pl.fin [(0, _), (1, _), (2, _), (6, _), (7, _)] ⟨rfl, rfl, rfl, rfl, rfl, trivial⟩ ?_
    refine Go'.ret (vs := [_, _]) Go.Proofs.Try.func154 Go.Proofs.Try.results154 ⟨⟨_, _, rfl, fun _ _ => run_loadVar_agg (fun w => ⟨Go.Proofs.Try.isAgg136 w, Go.Proofs.Try.sizeOf136 w⟩) rfl (Rd.nil _ _ _)⟩, rfl, trivial⟩ ?_
    exact ⟨rfl, Fr.refl _ _⟩
  · skip
    obtain ⟨kp, hN⟩ := hg.node
    have hiso : (Gt.g h t).iso = P0.iso := hg.isoe
    have hc0 := hN.c0
    rw [hiso] at hc0
    have hptr : cl H tr 2 = some (.pointer (some ⟨Gt.p h t, 0, none⟩)) := hc
    rw [← e] at srt
    -- region 1 (map.go:318)
    refine Go'.region [(0, 0), (1, 0), (2, 0), (3, 1), (4, 0)] rfl ?_
    refine O.mv rfl rfl rfl rfl rfl ?_
    refine O.nc rfl rfl rfl rfl rfl ?_
    refine O.fa0 (off := 2) rfl rfl rfl rfl ⟨_, _, _, Go.Proofs.Try.underlying140, rfl, rfl, Go.Proofs.Try.sizeOf135⟩ rfl ?_
    refine O.ld rfl rfl rfl (fun w => ⟨Go.Proofs.Try.isAgg135 w, Go.Proofs.Try.sizeOf135 w⟩) rfl hptr ?_
    refine O.isNil rfl rfl rfl rfl Go.Proofs.Try.underlying135 rfl rfl ?_
    refine Pl.fin [(0, _), (1, _), (2, _), (6, _), (7, _), (15, _)] ⟨rfl, rfl, rfl, rfl, rfl, rfl, trivial⟩ ?_
    refine Go'.condF rfl ?_
    refine Go'.skip ?_
    refine Go'.seq ?_
    -- region 3 (map.go:321)
    refine Go'.region [(0, 0), (1, 0), (2, 0), (3, 0), (4, 0), (5, 2), (6, 0)] rfl ?_
    refine O.mv rfl rfl rfl rfl rfl ?_
    refine O.mv rfl rfl rfl rfl rfl ?_
    refine O.nc rfl rfl rfl rfl rfl ?_
    refine O.fa0 (off := 2) rfl rfl rfl rfl ⟨_, _, _, Go.Proofs.Try.underlying140, rfl, rfl, Go.Proofs.Try.sizeOf135⟩ rfl ?_
    refine O.mv rfl rfl rfl rfl rfl ?_
    refine O.callQ rfl rfl rfl Go.Proofs.Try.call151 rfl (isoLoad_spec mt hc hc0 tc.iso) trivial ?_
    refine O.asg rfl rfl rfl rfl rfl ?_
    refine Pl.fin [(0, _), (1, _), (2, _), (6, _), (7, _), (8, _)] ⟨rfl, rfl, rfl, rfl, rfl, rfl, trivial⟩ ?_
    refine Go'.block ?_
    refine Go'.loop ?_
    refine Go'.keep [(0, _), (1, _), (2, _), (6, _), (7, _), (8, _)] ⟨rfl, rfl, rfl, rfl, rfl, rfl, trivial⟩ ?_
    refine Go'.ind (σ := (h : Nat) × Gt EI h) (fun s => s.1) (fun s H' => H' = H ∧ Gt.Good H P0 s.1 s.2 ∧ Pl.Srt OI (Gt.L s.1 s.2) ∧ Pl.fnd OI x (Gt.L s.1 s.2) = Pl.fnd OI x l)
      (fun s => [(0, .pointer (some ⟨tr, 0, none⟩)), (1, .int .i64 x), (2, .bool mt), (6, .pointer (some ⟨z6, 0, none⟩)), (7, .bool false), (8, .pointer (some ⟨Gt.p s.1 s.2, 0, none⟩))]) ⟨h, t⟩ ⟨rfl, hg, srt, by rw [e]⟩ rfl ?_
    clear hg hx1 e hc hnt hown hN hiso hc0 hptr t h kp srt
    rintro ⟨h, t⟩ H2 ⟨hHH, hg, srt, hL⟩ ih
    have eH : H = H2 := hHH.symm
    subst eH
    simp only at hg srt hL
    clear hHH
    refine Go'.block ?_
    refine Go'.seq ?_
    rcases h with _ | h
    · -- a leaf
      obtain ⟨g, X⟩ := t
      have hN : NodeM EI H g X (.pointer none) := hg.1
      have hxm : X.length ≤ 63 := hg.2.2.2
      replace srt : Pl.Srt OI X := srt
      replace hL : Pl.fnd OI x X = Pl.fnd OI x l := hL
      rw [← hL]
      -- region 4 (map.go:323)
      refine Go'.region [(0, 0), (1, 0), (2, 0), (3, 2), (4, 0), (5, 0), (6, 0), (7, 0), (8, 0)] rfl ?_
      refine O.mv rfl rfl rfl rfl rfl ?_
      refine O.mv rfl rfl rfl rfl rfl ?_
      refine O.mv rfl rfl rfl rfl rfl ?_
      refine O.callQ rfl rfl rfl Go.Proofs.Try.call168 rfl (search_spec x hN srt (by omega)) trivial ?_
      refine O.mv rfl rfl rfl rfl rfl ?_
      refine O.ext rfl rfl rfl rfl rfl rfl ?_
      refine O.ext rfl rfl rfl rfl rfl rfl ?_
      refine O.asg rfl rfl rfl rfl rfl ?_
      refine O.asg rfl rfl rfl rfl rfl ?_
      refine Pl.fin [(0, _), (1, _), (2, _), (6, _), (7, _), (8, _), (9, _), (10, _)] ⟨rfl, rfl, rfl, rfl, rfl, rfl, rfl, rfl, trivial⟩ ?_
      refine Go'.seq ?_
      refine Go'.seq ?_
      -- region 5 (map.go:324)
      refine Go'.region [(0, 0)] rfl ?_
      refine O.mv rfl rfl rfl rfl rfl ?_
      refine Pl.fin [(0, _), (1, _), (2, _), (6, _), (7, _), (8, _), (9, _), (10, _), (34, _)] ⟨rfl, rfl, rfl, rfl, rfl, rfl, rfl, rfl, rfl, trivial⟩ ?_
      have hlt := fun h => Pl.fnd_pos_lt OI (x := x) (l := X) h
      cases hfd : Pl.fnd OI x X
      · skip
        refine Go'.condF rfl ?_
        refine Go'.skip ?_
        refine Go'.seq ?_
        refine Go'.seq ?_
        -- region 7 (map.go:327)
        refine Go'.region [(0, 0), (1, 2)] rfl ?_
        refine O.mv rfl rfl rfl rfl rfl ?_
        refine O.callQ rfl rfl rfl Go.Proofs.Try.call152 rfl (leaf_spec hN.c3) trivial ?_
        refine Pl.fin [(0, _), (1, _), (2, _), (6, _), (7, _), (8, _), (9, _), (10, _), (34, _), (44, _)] ⟨rfl, rfl, rfl, rfl, rfl, rfl, rfl, rfl, rfl, rfl, trivial⟩ ?_
        refine Go'.condT rfl ?_
        refine Go'.seq ?_
        -- region 8 (map.go:328)
        refine Go'.region [(0, 0), (1, 0), (2, 0), (3, 1), (4, 1), (5, 2), (6, 0)] rfl ?_
        refine O.mv rfl rfl rfl rfl rfl ?_
        refine O.nc rfl rfl rfl rfl rfl ?_
        refine O.fa0 (off := 4) rfl rfl rfl rfl ⟨_, _, _, Go.Proofs.Try.underlying140, rfl, rfl, Go.Proofs.Try.sizeOf138⟩ rfl ?_
        refine O.fz1 rfl rfl rfl ty ⟨_, _, Go.Proofs.Try.underlying138, rfl, rfl, rfl, Go.Proofs.Try.sizeOf136⟩ rfl (tc.wr.at0 4 1 (by omega)) ?_
        refine O.lds rfl rfl rfl (fun w => ⟨Go.Proofs.Try.isAgg136 w, Go.Proofs.Try.sizeOf136 w⟩) rfl rfl (Rd.nil _ _ _) ?_
        refine O.st0 rfl rfl Go.Proofs.Try.sizeOf136 rfl rfl rfl trivial ?_
        refine O.asg rfl rfl rfl rfl rfl ?_
        refine Pl.fin [(0, _), (1, _), (2, _), (6, _), (7, _), (8, _), (9, _), (10, _), (34, _), (44, _)] ⟨rfl, rfl, rfl, rfl, rfl, rfl, rfl, rfl, rfl, rfl, trivial⟩ ?_
        refine Go'.ret (vs := [_, _]) Go.Proofs.Try.func154 Go.Proofs.Try.results154 ⟨⟨_, _, rfl, fun _ _ => run_loadVar_agg (fun w => ⟨Go.Proofs.Try.isAgg136 w, Go.Proofs.Try.sizeOf136 w⟩) rfl (Rd.nil _ _ _)⟩, rfl, trivial⟩ ?_
        exact ⟨rfl, Fr.refl _ _⟩
      · skip
        replace hlt := hlt hfd
        generalize Pl.pos OI x X = i at *
        refine Go'.condT rfl ?_
        refine Go'.seq ?_
        -- region 6 (map.go:325)
        refine Go'.region [(0, 0), (1, 0), (2, 0), (3, 1), (4, 0), (5, 0), (6, 1), (7, 1), (8, 2), (9, 0)] rfl ?_
        refine O.mv rfl rfl rfl rfl rfl ?_
        refine O.nc rfl rfl rfl rfl rfl ?_
        refine O.fa0 (off := 2) rfl rfl rfl rfl ⟨_, _, _, Go.Proofs.Try.underlying205, rfl, rfl, Go.Proofs.Try.sizeOf202⟩ rfl ?_
        refine O.ld rfl rfl rfl (fun w => ⟨Go.Proofs.Try.isAgg202 w, Go.Proofs.Try.sizeOf202 w⟩) rfl hN.c2 ?_
        refine O.mv rfl rfl rfl rfl rfl ?_
        refine O.ix (j := i) rfl rfl rfl rfl Go.Proofs.Try.underlying202 Go.Proofs.Try.sizeOf138 rfl rfl (by omega) hlt ?_
        refine O.fz1 rfl rfl rfl ty ⟨_, _, Go.Proofs.Try.underlying138, rfl, rfl, rfl, Go.Proofs.Try.sizeOf136⟩ rfl (hN.sl.wri hlt) ?_
        refine O.lds rfl rfl rfl (fun w => ⟨Go.Proofs.Try.isAgg136 w, Go.Proofs.Try.sizeOf136 w⟩) rfl rfl (Rd.nil _ _ _) ?_
        refine O.st0 rfl rfl Go.Proofs.Try.sizeOf136 rfl rfl rfl trivial ?_
        refine O.asg rfl rfl rfl rfl rfl ?_
        refine Pl.fin [(0, _), (1, _), (2, _), (6, _), (7, _), (8, _), (9, _), (10, _), (34, _)] ⟨rfl, rfl, rfl, rfl, rfl, rfl, rfl, rfl, rfl, trivial⟩ ?_
        refine Go'.ret (vs := [_, _]) Go.Proofs.Try.func154 Go.Proofs.Try.results154 ⟨⟨_, _, rfl, fun _ _ => run_loadVar_agg (fun w => ⟨Go.Proofs.Try.isAgg136 w, Go.Proofs.Try.sizeOf136 w⟩) rfl (Rd.nil _ _ _)⟩, rfl, trivial⟩ ?_
        exact ⟨rfl, Fr.refl _ _⟩
    · -- an inner node
      obtain ⟨g, X, K⟩ := t
      have hI : Inn H P0 h g X ((Gt.ps h K).map some) K := hg.inn
      have hKl : K.length = X.length + 1 := hg.2.2.2.2.2.1
      have hxm : X.length ≤ 63 := hg.2.2.2.2.1
      have hKL : (K.map (Gt.L h)).length = X.length + 1 := by rw [List.length_map]; exact hKl
      have hol : ((Gt.ps h K).map some).length = X.length + 1 := by rw [List.length_map, Gt.ps, List.length_map]; exact hKl
      replace srt : Pl.Srt OI (Pl.inter X (K.map (Gt.L h))) := srt
      replace hL : Pl.fnd OI x (Pl.inter X (K.map (Gt.L h))) = Pl.fnd OI x l := hL
      have hsX : Pl.Srt OI X := srt.sublist (Pl.sublist_inter X _ (by omega))
      rw [← hL]
      -- region 4 (map.go:323)
      refine Go'.region [(0, 0), (1, 0), (2, 0), (3, 2), (4, 0), (5, 0), (6, 0), (7, 0), (8, 0)] rfl ?_
      refine O.mv rfl rfl rfl rfl rfl ?_
      refine O.mv rfl rfl rfl rfl rfl ?_
      refine O.mv rfl rfl rfl rfl rfl ?_
      refine O.callQ rfl rfl rfl Go.Proofs.Try.call168 rfl (search_spec x hI.n hsX (by omega)) trivial ?_
      refine O.mv rfl rfl rfl rfl rfl ?_
      refine O.ext rfl rfl rfl rfl rfl rfl ?_
      refine O.ext rfl rfl rfl rfl rfl rfl ?_
      refine O.asg rfl rfl rfl rfl rfl ?_
      refine O.asg rfl rfl rfl rfl rfl ?_
      refine Pl.fin [(0, _), (1, _), (2, _), (6, _), (7, _), (8, _), (9, _), (10, _)] ⟨rfl, rfl, rfl, rfl, rfl, rfl, rfl, rfl, trivial⟩ ?_
      refine Go'.seq ?_
      refine Go'.seq ?_
      -- region 5 (map.go:324)
      refine Go'.region [(0, 0)] rfl ?_
      refine O.mv rfl rfl rfl rfl rfl ?_
      refine Pl.fin [(0, _), (1, _), (2, _), (6, _), (7, _), (8, _), (9, _), (10, _), (34, _)] ⟨rfl, rfl, rfl, rfl, rfl, rfl, rfl, rfl, rfl, trivial⟩ ?_
      cases hfd : Pl.fnd OI x X
      · skip
        have hple := Pl.pos_le OI x X
        obtain ⟨k, hkk⟩ : ∃ k, K[Pl.pos OI x X]? = some k := ⟨K[Pl.pos OI x X], List.getElem?_eq_getElem (by omega)⟩
        have hkL : (K.map (Gt.L h))[Pl.pos OI x X]? = some (Gt.L h k) := by rw [List.getElem?_map, hkk]; rfl
        obtain ⟨e1, e2, e3, _⟩ := Pl.inter_child OI srt hKL hfd hkL
        have hfm := Pl.fnd_mid OI e2 e3 (m := Gt.L h k)
        rw [← e1] at hfm
        have hsk := Pl.child_srt OI srt hKL hfd hkL
        have hkK : k ∈ K := List.mem_of_getElem? hkk
        have hok : ((Gt.ps h K).map some)[Pl.pos OI x X]? = some (some (Gt.p h k)) := by rw [Gt.ps, List.map_map, List.getElem?_map, hkk]; rfl
        obtain ⟨hgk, hmk, _⟩ := hI.c.1 k hkK
        obtain ⟨kp, hNk⟩ := hgk.node
        have hc0 := hNk.c0
        rw [hgk.isoe] at hc0
        have hck := hI.k.at hok
        clear e1 e2 e3
        generalize Pl.pos OI x X = i at *
        refine Go'.condF rfl ?_
        refine Go'.skip ?_
        refine Go'.seq ?_
        refine Go'.seq ?_
        -- region 7 (map.go:327)
        refine Go'.region [(0, 0), (1, 2)] rfl ?_
        refine O.mv rfl rfl rfl rfl rfl ?_
        refine O.callQ rfl rfl rfl Go.Proofs.Try.call152 rfl (leaf_spec hI.n.c3) trivial ?_
        refine Pl.fin [(0, _), (1, _), (2, _), (6, _), (7, _), (8, _), (9, _), (10, _), (34, _), (44, _)] ⟨rfl, rfl, rfl, rfl, rfl, rfl, rfl, rfl, rfl, rfl, trivial⟩ ?_
        refine Go'.condF rfl ?_
        refine Go'.skip ?_
        -- region 9 (map.go:330)
        refine Go'.region [(0, 0), (1, 0), (2, 0), (3, 0), (4, 1), (5, 0), (6, 1), (7, 0), (8, 0), (9, 0), (10, 2), (11, 0)] rfl ?_
        refine O.mv rfl rfl rfl rfl rfl ?_
        refine O.mv rfl rfl rfl rfl rfl ?_
        refine O.nc rfl rfl rfl rfl rfl ?_
        refine O.fa0 (off := 3) rfl rfl rfl rfl ⟨_, _, _, Go.Proofs.Try.underlying205, rfl, rfl, Go.Proofs.Try.sizeOf203⟩ rfl ?_
        refine O.ld rfl rfl rfl (fun w => ⟨Go.Proofs.Try.isAgg203 w, Go.Proofs.Try.sizeOf203 w⟩) rfl hI.n.c3 ?_
        refine O.nc rfl rfl rfl rfl rfl ?_
        refine O.ld rfl rfl rfl (fun w => ⟨Go.Proofs.Try.isAgg206 w, Go.Proofs.Try.sizeOf206 w⟩) rfl hI.k.c ?_
        refine O.mv rfl rfl rfl rfl rfl ?_
        refine O.ix (j := i) rfl rfl rfl rfl Go.Proofs.Try.underlying206 Go.Proofs.Try.sizeOf135 rfl rfl (by omega) (by omega) ?_
        refine O.mv rfl rfl rfl rfl rfl ?_
        refine O.callQ rfl rfl rfl Go.Proofs.Try.call151 rfl (isoLoad_spec mt hck hc0 tc.iso) trivial ?_
        refine O.asg rfl rfl rfl rfl rfl ?_
        refine Pl.fin [(0, _), (1, _), (2, _), (6, _), (7, _), (8, _), (9, _), (10, _), (34, _), (44, _)] ⟨rfl, rfl, rfl, rfl, rfl, rfl, rfl, rfl, rfl, rfl, trivial⟩ ?_
        refine Go'.inBlock ?_
        refine Go'.keep [(0, _), (1, _), (2, _), (6, _), (7, _), (8, _)] ⟨rfl, rfl, rfl, rfl, rfl, rfl, trivial⟩ ?_
        refine Go'.inLoop ?_
        rw [hL]
        exact ih ⟨h, k⟩ H ⟨rfl, hgk, hsk, by rw [← hfm, hL]⟩ (Nat.lt_succ_self h)
      · skip
        obtain ⟨_, _, _, _, _, hf, _⟩ := Pl.inter_found OI srt hKL hfd
        have hlt := Pl.fnd_pos_lt OI hfd
        rw [hf]
        generalize Pl.pos OI x X = i at *
        refine Go'.condT rfl ?_
        refine Go'.seq ?_
        -- region 6 (map.go:325)
        refine Go'.region [(0, 0), (1, 0), (2, 0), (3, 1), (4, 0), (5, 0), (6, 1), (7, 1), (8, 2), (9, 0)] rfl ?_
        refine O.mv rfl rfl rfl rfl rfl ?_
        refine O.nc rfl rfl rfl rfl rfl ?_
        refine O.fa0 (off := 2) rfl rfl rfl rfl ⟨_, _, _, Go.Proofs.Try.underlying205, rfl, rfl, Go.Proofs.Try.sizeOf202⟩ rfl ?_
        refine O.ld rfl rfl rfl (fun w => ⟨Go.Proofs.Try.isAgg202 w, Go.Proofs.Try.sizeOf202 w⟩) rfl hI.n.c2 ?_
        refine O.mv rfl rfl rfl rfl rfl ?_
        refine O.ix (j := i) rfl rfl rfl rfl Go.Proofs.Try.underlying202 Go.Proofs.Try.sizeOf138 rfl rfl (by omega) hlt ?_
        refine O.fz1 rfl rfl rfl ty ⟨_, _, Go.Proofs.Try.underlying138, rfl, rfl, rfl, Go.Proofs.Try.sizeOf136⟩ rfl (hI.n.sl.wri hlt) ?_
        refine O.lds rfl rfl rfl (fun w => ⟨Go.Proofs.Try.isAgg136 w, Go.Proofs.Try.sizeOf136 w⟩) rfl rfl (Rd.nil _ _ _) ?_
        refine O.st0 rfl rfl Go.Proofs.Try.sizeOf136 rfl rfl rfl trivial ?_
        refine O.asg rfl rfl rfl rfl rfl ?_
        refine Pl.fin [(0, _), (1, _), (2, _), (6, _), (7, _), (8, _), (9, _), (10, _), (34, _)] ⟨rfl, rfl, rfl, rfl, rfl, rfl, rfl, rfl, rfl, trivial⟩ ?_
        refine Go'.ret (vs := [_, _]) Go.Proofs.Try.func154 Go.Proofs.Try.results154 ⟨⟨_, _, rfl, fun _ _ => run_loadVar_agg (fun w => ⟨Go.Proofs.Try.isAgg136 w, Go.Proofs.Try.sizeOf136 w⟩) rfl (Rd.nil _ _ _)⟩, rfl, trivial⟩ ?_
        exact ⟨rfl, Fr.refl _ _⟩

theorem Get_spec {B : World} {H : Mem} {tr : Nat} {S : Nat → Prop} {l : List Int} {x : Int} (hU : MapU H tr S l) :
    Fn Try.prog B 124 [.pointer (some ⟨tr, 0, none⟩), .int .i64 x] H (fun r H' => r = .tuple #[.agg #[], .bool (Pl.fnd OI x l)] ∧ Fr nowhere H H') := by
  refine fn_of Go.Proofs.Try.func124 rfl Go.Proofs.Try.ntmps124 ?_
  refine (show Go' _ _ _ _ 11 [(0, _), (1, _)] [.code _] _ from ?_)
  refine Go'.seq ?_
  -- region 0 (map.go:298)
  refine Go'.region [(0, 2), (1, 0)] rfl ?_
  refine O.alloc rfl rfl rfl Go.Proofs.Try.zeroValue136 ?_
  intro H1 M1
  refine ⟨trivial, ?_⟩
  replace hU := hU.fr (M1.fr nowhere) (fun _ _ _ => nw)
  refine O.asg rfl rfl rfl rfl rfl ?_
  refine Pl.fin [(0, _), (1, _), (4, _), (5, _)] ⟨rfl, rfl, rfl, rfl, trivial⟩ ?_
  refine Go'.seq ?_
  -- region 1 (map.go:299)
  refine Go'.region [(0, 0), (1, 0), (2, 2), (3, 0), (4, 0), (5, 2), (6, 0)] rfl ?_
  refine O.mv rfl rfl rfl rfl rfl ?_
  refine O.mv rfl rfl rfl rfl rfl ?_
  refine O.call rfl rfl rfl Go.Proofs.Try.call154 rfl (get_spec hU false) ?_
  rintro _ H2 ⟨rfl, hF2⟩
  refine ⟨trivial, ?_⟩
  refine O.ext rfl rfl rfl rfl rfl rfl ?_
  refine O.ext rfl rfl rfl rfl rfl rfl ?_
  refine O.st0 rfl rfl Go.Proofs.Try.sizeOf136 rfl rfl rfl trivial ?_
  refine O.asg rfl rfl rfl rfl rfl ?_
  refine Pl.fin [(4, _), (5, _)] ⟨rfl, rfl, trivial⟩ ?_
  refine Go'.ret (vs := [_, _]) Go.Proofs.Try.func124 Go.Proofs.Try.results124 ⟨⟨_, _, rfl, fun _ _ => run_loadVar_agg (fun w => ⟨Go.Proofs.Try.isAgg136 w, Go.Proofs.Try.sizeOf136 w⟩) rfl (Rd.nil _ _ _)⟩, rfl, trivial⟩ ?_
  exact ⟨rfl, (M1.fr nowhere).trans hF2⟩

theorem contains_spec {B : World} {H : Mem} {tr : Nat} {S : Nat → Prop} {l : List Int} {x : Int} (hU : MapU H tr S l) :
    Fn Try.prog B 88 [.pointer (some ⟨tr, 0, none⟩), .int .i64 x] H (fun r H' => r = .bool (Pl.fnd OI x l) ∧ Fr nowhere H H') := by
  refine fn_of Go.Proofs.Try.func88 rfl Go.Proofs.Try.ntmps88 ?_
  refine (show Go' _ _ _ _ 16 [(0, _), (1, _)] [.code _] _ from ?_)
  refine Go'.seq ?_
  -- region 0 (set.go:32)
  refine Go'.region [(0, 0)] rfl ?_
  refine O.asg rfl rfl rfl rfl rfl ?_
  refine Pl.fin [(0, _), (1, _), (4, _)] ⟨rfl, rfl, rfl, trivial⟩ ?_
  refine Go'.seq ?_
  -- region 1 (set.go:33)
  refine Go'.region [(0, 0), (1, 0), (2, 0), (3, 0), (4, 2), (5, 0), (6, 0), (7, 0), (8, 2), (9, 2), (10, 0)] rfl ?_
  refine O.mv rfl rfl rfl rfl rfl ?_
  refine O.nc rfl rfl rfl rfl rfl ?_
  refine O.faz rfl rfl rfl rfl ⟨_, _, _, Go.Proofs.Try.underlying142, rfl, rfl, Go.Proofs.Try.sizeOf140⟩ rfl ?_
  refine O.mv rfl rfl rfl rfl rfl ?_
  refine O.call rfl rfl rfl Go.Proofs.Try.call124 rfl (Get_spec hU) ?_
  rintro _ H2 ⟨rfl, hF2⟩
  refine ⟨trivial, ?_⟩
  refine O.mv rfl rfl rfl rfl rfl ?_
  refine O.ext rfl rfl rfl rfl rfl rfl ?_
  refine O.ext rfl rfl rfl rfl rfl rfl ?_
  refine O.alloc rfl rfl rfl Go.Proofs.Try.zeroValue136 ?_
  intro H3 M3
  refine ⟨trivial, ?_⟩
  refine O.st0 rfl rfl Go.Proofs.Try.sizeOf136 rfl rfl rfl trivial ?_
  refine O.asg rfl rfl rfl rfl rfl ?_
  refine Pl.fin [(4, _), (6, _)] ⟨rfl, rfl, trivial⟩ ?_
  refine Go'.seq ?_
  -- region 2 (set.go:34)
  refine Go'.region [(0, 0), (1, 0)] rfl ?_
  refine O.mv rfl rfl rfl rfl rfl ?_
  refine O.asg rfl rfl rfl rfl rfl ?_
  refine Pl.fin [(4, _)] ⟨rfl, trivial⟩ ?_
  refine Go'.ret (vs := [_]) Go.Proofs.Try.func88 Go.Proofs.Try.results88 ⟨rfl, trivial⟩ ?_
  exact ⟨rfl, hF2.trans (M3.fr nowhere)⟩

def EB : Elt Bool := { enc := fun x => [.bool x], s := 1, len := fun _ => rfl, one := fun _ => rfl, pos := by decide }
theorem scontains_spec {B : World} {H : Mem} {u v : Value} {l ks : List Int} (hi : InS EN H u l) (hll : l.length ≤ 4294967296) (hk : InS EN H v ks) (hkl : ks.length ≤ 4294967296) :
    Fn Try.prog B 44 [u, v] H (fun r H' => OutS EB H' r (ks.map fun k => Pl.fnd OI k (Pl.puts OI l)) ∧ Fr nowhere H H') := by
  obtain ⟨a, c, hu⟩ := hk.len
  subst hu
  refine fn_of Go.Proofs.Try.func44 rfl Go.Proofs.Try.ntmps44 ?_
  refine (show Go' _ _ _ _ 25 [(0, _), (1, _)] [.code _] _ from ?_)
  refine Go'.seq ?_
  -- region 0 (set.go:123)
  refine Go'.region [(0, 0)] rfl ?_
  refine O.asg rfl rfl rfl rfl rfl ?_
  refine Pl.fin [(0, _), (1, _), (4, _)] ⟨rfl, rfl, rfl, trivial⟩ ?_
  refine Go'.seq ?_
  -- region 1 (set.go:124)
  refine Go'.region [(0, 0), (1, 2), (2, 0)] rfl ?_
  refine O.mv rfl rfl rfl rfl rfl ?_
  refine O.call rfl rfl rfl Go.Proofs.Try.call55 rfl (growSet_spec hi hll) ?_
  rintro _ H1 ⟨tr, S, rfl, hU, hF1, _⟩
  unfold ptr
  have hSl := hU.lt
  refine ⟨trivial, ?_⟩
  refine O.asg rfl rfl rfl rfl rfl ?_
  refine Pl.fin [(1, _), (4, _), (5, _)] ⟨rfl, rfl, rfl, trivial⟩ ?_
  refine Go'.seq ?_
  -- region 2 (set.go:125)
  refine Go'.region [(0, 0)] rfl ?_
  refine O.asg rfl rfl rfl rfl rfl ?_
  refine Pl.fin [(1, _), (4, _), (5, _), (6, _)] ⟨rfl, rfl, rfl, rfl, trivial⟩ ?_
  refine Go'.seq ?_
  refine Go'.seq ?_
  -- region 3 (set.go:126)
  refine Go'.region [(0, 0), (1, 0), (2, 0)] rfl ?_
  refine O.mv rfl rfl rfl rfl rfl ?_
  refine O.len rfl rfl rfl rfl Go.Proofs.Try.underlying22 rfl ?_
  refine O.mv rfl rfl rfl rfl rfl ?_
  refine Pl.fin [(4, _), (5, _), (6, _), (11, _), (12, _), (13, _)] ⟨rfl, rfl, rfl, rfl, rfl, rfl, trivial⟩ ?_
  refine Go'.block ?_
  refine Go'.loop ?_
  refine Go'.keep [(5, _), (6, _), (11, _), (12, _), (13, _)] ⟨rfl, rfl, rfl, rfl, rfl, trivial⟩ ?_
  refine Go'.ind (σ := Nat × Value) (fun s => ks.length - s.1) (fun s H' => Fr nowhere H1 H' ∧ s.1 ≤ ks.length ∧ MapU H' tr S (Pl.puts OI l) ∧ Acc EB (fun b => H1.size ≤ b) H' s.2 ((ks.take s.1).map fun k => Pl.fnd OI k (Pl.puts OI l)))
    (fun s => [(5, .pointer (some ⟨tr, 0, none⟩)), (6, s.2), (11, .slice a ks.length c), (12, .int .i64 (ks.length : Int)), (13, .int .i64 (s.1 : Int))]) (0, .slice none 0 0) ⟨Fr.refl _ _, Nat.zero_le _, hU, Acc.nil _ _ _⟩ rfl ?_
  rintro ⟨j, sv⟩ H2 ⟨hF, hjl, hM, hA⟩ ih
  simp only at hjl hA hM
  have hi2 := (hk.fr hF1).fr hF
  refine Go'.seq ?_
  by_cases hlt : j < ks.length
  · skip
    obtain ⟨y, hy⟩ : ∃ y, ks[j]? = some y := ⟨ks[j], List.getElem?_eq_getElem hlt⟩
    obtain ⟨b, o, c', e, hr⟩ := hi2.at hy
    cases e
    have hsz := hF.size
    have hx : (ks.take (j + 1)).map (fun k => Pl.fnd OI k (Pl.puts OI l)) = (ks.take j).map (fun k => Pl.fnd OI k (Pl.puts OI l)) ++ [Pl.fnd OI y (Pl.puts OI l)] := by rw [List.take_add_one, hy, List.map_append]; rfl
    have hlout : ((ks.take j).map (fun k => Pl.fnd OI k (Pl.puts OI l))).length = j := by rw [List.length_map, List.length_take]; omega
    -- region 4 (set.go:126)
    refine Go'.region [(0, 0)] rfl ?_
    refine O.cmp rfl rfl rfl rfl rfl rfl (lssT (by omega)) ?_
    refine Pl.fin [(5, _), (6, _), (11, _), (12, _), (13, _), (14, _)] ⟨rfl, rfl, rfl, rfl, rfl, rfl, trivial⟩ ?_
    refine Go'.seq ?_
    refine Go'.condT rfl ?_
    refine Go'.skip ?_
    refine Go'.seq ?_
    refine Go'.block ?_
    refine Go'.seq ?_
    -- region 5 (set.go:126)
    refine Go'.region [(0, 0), (1, 1), (2, 0)] rfl ?_
    refine O.ix (j := j) rfl rfl rfl rfl Go.Proofs.Try.underlying22 Go.Proofs.Try.sizeOf3 rfl rfl (by omega) hlt ?_
    refine O.ld rfl rfl rfl (fun w => ⟨Go.Proofs.Try.isAgg3 w, Go.Proofs.Try.sizeOf3 w⟩) rfl (hr 0 _ rfl) ?_
    refine O.asg rfl rfl rfl rfl rfl ?_
    refine Pl.fin [(5, _), (6, _), (8, _), (11, _), (12, _), (13, _), (14, _)] ⟨rfl, rfl, rfl, rfl, rfl, rfl, rfl, trivial⟩ ?_
    -- region 6 (set.go:127)
    refine Go'.region [(0, 0), (1, 0), (2, 0), (3, 2), (4, 2), (5, 2), (6, 0)] rfl ?_
    refine O.mv rfl rfl rfl rfl rfl ?_
    refine O.mv rfl rfl rfl rfl rfl ?_
    refine O.mv rfl rfl rfl rfl rfl ?_
    refine O.call rfl rfl rfl Go.Proofs.Try.call88 rfl (contains_spec (x := y) hM) ?_
    rintro _ H4 ⟨rfl, hF4⟩
    have hs4 := hF4.size
    have hA4 := hA.fr hF4 (fun _ _ _ _ => nw)
    have hM4 := hM.fr hF4 (fun _ _ _ => nw)
    refine ⟨trivial, ?_⟩
    refine O.bsl (cs := (EB.enc (Pl.fnd OI y (Pl.puts OI l)))) rfl rfl rfl ⟨Go.Proofs.Try.underlying50, Go.Proofs.Try.sizeOf4, Go.Proofs.Try.zeroValue4, ⟨_, Go.Proofs.Try.typeInfo4, rfl⟩, rfl, by decide, by decide⟩ rfl (by decide) (by kernel_rfl) ?_
    intro H5 M5
    have hs5 := M5.size
    have hA5 := hA4.fr (M5.fr nowhere) (fun _ _ _ _ => nw)
    have hM5 := hM4.fr (M5.fr nowhere) (fun _ _ _ => nw)
    have m5 : Rd H5 H4.size 0 (row EB [Pl.fnd OI y (Pl.puts OI l)]) := M5.rd _ [] (by simp [row, EB])
    refine ⟨trivial, ?_⟩
    refine O.appA (E := EB) (Y := [Pl.fnd OI y (Pl.puts OI l)]) rfl rfl rfl ⟨Go.Proofs.Try.underlying50, Go.Proofs.Try.sizeOf4, Go.Proofs.Try.zeroValue4, ⟨_, Go.Proofs.Try.typeInfo4, rfl⟩, rfl, by decide, by decide⟩ rfl hA5 rfl ⟨_, _, _, rfl, m5⟩ (Nat.succ_pos _) (by rw [hlout]; exact Nat.le_trans (Nat.mul_le_mul_left _ (Nat.le_of_ble_eq_true (n := _) (m := 4096) rfl)) (by simp only [List.length_cons, List.length_nil]; omega)) (by rw [hlout]; simp only [List.length_cons, List.length_nil]; omega) ?_
    intro v6 H6 hA6 hF6 hs6
    rw [← hx] at hA6
    have hM6 := hM5.fr hF6 (fun b _ hb hz => by have h1 := hSl b hb; have hz' : H1.size ≤ b := hz; omega)
    refine ⟨trivial, ?_⟩
    refine O.asg rfl rfl rfl rfl rfl ?_
    refine Pl.fin [(5, _), (6, _), (8, _), (11, _), (12, _), (13, _), (14, _)] ⟨rfl, rfl, rfl, rfl, rfl, rfl, rfl, trivial⟩ ?_
    refine Go'.inBlock ?_
    -- region 7 (set.go:126)
    refine Go'.region [(0, 0), (1, 0)] rfl ?_
    refine O.add (((j + 1 : Nat) : Int)) rfl rfl rfl rfl rfl rfl (by omega) (by omega) ?_
    refine O.mv rfl rfl rfl rfl rfl ?_
    refine Pl.fin [(5, _), (6, _), (8, _), (11, _), (12, _), (13, _), (14, _)] ⟨rfl, rfl, rfl, rfl, rfl, rfl, rfl, trivial⟩ ?_
    refine Go'.keep [(5, _), (6, _), (11, _), (12, _), (13, _)] ⟨rfl, rfl, rfl, rfl, rfl, trivial⟩ ?_
    refine Go'.inLoop ?_
    exact ih (j + 1, v6) H6 ⟨((hF.trans hF4).trans (M5.fr nowhere)).trans' hF6 (fun _ _ _ h => h) (fun b o hb hz => by have hz' : H1.size ≤ b := hz; omega), hlt, hM6, hA6.mono (fun b hb hz => hz.elim id (fun h => by omega))⟩ (by simp only; omega)
  · skip
    obtain rfl : j = ks.length := by omega
    rw [List.take_length] at hA
    -- region 4 (set.go:126)
    refine Go'.region [(0, 0)] rfl ?_
    refine O.cmp rfl rfl rfl rfl rfl rfl (lssF (by omega)) ?_
    refine Pl.fin [(5, _), (6, _), (11, _), (12, _), (13, _), (14, _)] ⟨rfl, rfl, rfl, rfl, rfl, rfl, trivial⟩ ?_
    refine Go'.seq ?_
    refine Go'.condF rfl ?_
    refine Go'.exit rfl ?_
    refine Go'.seq ?_
    -- region 8 (set.go:129)
    refine Go'.region [(0, 0), (1, 0)] rfl ?_
    refine O.mv rfl rfl rfl rfl rfl ?_
    refine O.asg rfl rfl rfl rfl rfl ?_
    refine Pl.fin [(4, _)] ⟨rfl, trivial⟩ ?_
    refine Go'.ret (vs := [_]) Go.Proofs.Try.func44 Go.Proofs.Try.results44 ⟨rfl, trivial⟩ ?_
    exact ⟨hA.out, hF1.trans hF⟩

end Go.Bt.FZ