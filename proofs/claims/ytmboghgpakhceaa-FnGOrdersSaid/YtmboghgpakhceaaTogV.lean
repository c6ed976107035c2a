/- Contracts of functions of the program, proved by walking through their code. Conditions: those that each theorem names. -/
import Derived.Test.YtmboghgpakhceaaTogR
namespace Go.Bt.FG
open Go Go.Proofs
set_option maxRecDepth 20000
set_option maxHeartbeats 4000000
set_option linter.unusedVariables false
set_option linter.unusedSectionVars false

end Go.Bt.FG
namespace Go.Bt.FG
open Go Go.Proofs
set_option maxRecDepth 20000
set_option maxHeartbeats 4000000
set_option linter.unusedVariables false
set_option linter.unusedSectionVars false

end Go.Bt.FG
namespace Go.Bt.FG
open Go Go.Proofs
set_option maxRecDepth 20000
set_option maxHeartbeats 4000000
set_option linter.unusedVariables false
set_option linter.unusedSectionVars false

section
variable [Inhabited Cx]
theorem HintM.new {H H' : Mem} {c : Array Value} {e : TypeId} (M : Made H H' c e) (hu : ∀ i, i < 8 → c[i]? = some (.bool false)) (hp : ∀ i, i < 8 → c[8 + i]? = some (.int .u8 0)) (hs : 16 ≤ c.size) (he : e < 1000 := by decide) : HintM H' H.size :=
  ⟨fun i hi => ⟨false, (M.cl i).trans (hu i hi)⟩, fun i hi => ⟨0, by decide, (M.cl (8 + i)).trans (hp i hi)⟩, M.wr 16 hs he⟩
theorem getHint_spec {B : World} {H : Mem} {tr : Nat} {P : Ps} (hP : PsOk P) {S : Nat → Prop} {l : List (Int × Int)} (hM : MapM H tr P S l) (x : Int × Int) {hv : Value} {hz : Nat → Prop} (hk : HintOk H hv hz) (hzS : ∀ b, hz b → ¬ S b) (hll : l.length < 4611686018427387904) (mt : Bool) :
    Fn Try.prog B 185 [.pointer (some ⟨tr, 0, none⟩), .agg (EJ.enc x).toArray, hv, .bool mt] H (fun r H' => r = .tuple #[PV (Pl.got OI x l), .bool (Pl.got OI x l).isSome] ∧ Fr (fun b _ => hz b) H H' ∧ HintOk H' hv hz) := by
  have hh1 := hP.h1
  have hx255 := hP.hx
  have lt0 := hM.lt
  have hzb := hk.base
  have hb0 := hM.tc.hb
  refine fn_of Go.Proofs.Try.func185 rfl Go.Proofs.Try.ntmps185 ?_
  refine (show Go' _ _ _ _ 73 [(0, _), (1, _), (2, _), (3, _)] [.code _] _ from ?_)
  refine Go'.seq ?_
  -- region 0 (btreeg.go:397)
  refine Go'.region [(0, 2), (1, 2), (2, 0)] rfl ?_
  refine O.box rfl rfl rfl rfl ?_
  intro H0 M0
  refine ⟨trivial, ?_⟩
  have hs0 := M0.size
  replace hM := hM.fr (M0.fr nowhere) (fun _ _ _ => nw)
  replace hk := hk.fr (M0.fr nowhere) (fun _ _ _ => nw)
  have mi : Rd H0 H.size 0 (EJ.enc x) := M0.rd _ [] (by simp [Value.cells])
  refine O.alloc rfl rfl rfl Go.Proofs.Try.zeroValue27 ?_
  intro H1 M1
  refine ⟨trivial, ?_⟩
  have hs1 : H1.size = H.size + 2 := by have := M1.size; omega
  replace hM := hM.fr (M1.fr nowhere) (fun _ _ _ => nw)
  replace hk := hk.fr (M1.fr nowhere) (fun _ _ _ => nw)
  replace mi := (M1.fr nowhere).rd mi (fun _ _ => nw)
  have mw : Wr H1 H0.size 0 2 := M1.wr 2 (by decide)
  have hF : Fr (fun b _ => hz b) H H1 := ((M0.fr nowhere).trans (M1.fr nowhere)).mono fun _ _ _ h => h.elim
  refine O.asg rfl rfl rfl rfl rfl ?_
  refine Pl.fin [(0, _), (2, _), (3, _), (5, _), (8, _), (9, _)] ⟨rfl, rfl, rfl, rfl, rfl, rfl, trivial⟩ ?_
  refine Go'.seq ?_
  refine Go'.seq ?_
  -- region 1 (btreeg.go:398)
  refine Go'.region [(0, 0), (1, 0), (2, 2)] rfl ?_
  refine O.mv rfl rfl rfl rfl rfl ?_
  refine O.mv rfl rfl rfl rfl rfl ?_
  refine O.callQ rfl rfl rfl Go.Proofs.Try.call128 rfl lock_spec trivial ?_
  refine Pl.fin [(0, _), (2, _), (3, _), (5, _), (8, _), (9, _), (16, _)] ⟨rfl, rfl, rfl, rfl, rfl, rfl, rfl, trivial⟩ ?_
  refine Go'.condF rfl ?_
  refine Go'.skip ?_
  refine Go'.seq ?_
  refine Go'.seq ?_
  obtain ⟨tc, srt, cnt, own, lt, bs, hr⟩ := hM
  rcases hr with ⟨rfl, hptr⟩ | ⟨h, t, hg, hx1, e, hc, hnt, hown⟩
  · skip
    -- region 3 (btreeg.go:401)
    refine Go'.region [(0, 0), (1, 0), (2, 0), (3, 1), (4, 0)] rfl ?_
    refine O.mv rfl rfl rfl rfl rfl ?_
    refine O.nc rfl rfl rfl rfl rfl ?_
    refine O.fa0 (off := 2) rfl rfl rfl rfl ⟨_, _, _, Go.Proofs.Try.underlying158, rfl, rfl, Go.Proofs.Try.sizeOf129⟩ rfl ?_
    refine O.ld rfl rfl rfl (fun w => ⟨Go.Proofs.Try.isAgg129 w, Go.Proofs.Try.sizeOf129 w⟩) rfl hptr ?_
    refine O.isNil rfl rfl rfl rfl Go.Proofs.Try.underlying129 rfl rfl ?_
    refine Pl.fin [(0, _), (2, _), (3, _), (5, _), (8, _), (9, _), (23, _)] ⟨rfl, rfl, rfl, rfl, rfl, rfl, rfl, trivial⟩ ?_
    refine Go'.condT rfl ?_
    refine Go'.seq ?_
    -- region 4 (btreeg.go:402)
    refine Go'.region [(0, 0), (1, 0), (2, 0), (3, 1), (4, 2), (5, 0)] rfl ?_
    refine O.mv rfl rfl rfl rfl rfl ?_
    refine O.nc rfl rfl rfl rfl rfl ?_
    refine O.fa0 (off := 7) rfl rfl rfl rfl ⟨_, _, _, Go.Proofs.Try.underlying158, rfl, rfl, Go.Proofs.Try.sizeOf27⟩ rfl ?_
    refine O.lds rfl rfl rfl (fun w => ⟨Go.Proofs.Try.isAgg27 w, Go.Proofs.Try.sizeOf27 w⟩) rfl rfl tc.emp ?_
    refine O.st (vs := (EJ.enc (0, 0))) rfl rfl Go.Proofs.Try.sizeOf27 rfl rfl rfl rfl rfl mw ?_
    intro H3 W3
    replace hF : Fr (fun b _ => hz b) H H3 := hF.trans' W3.fr (fun _ _ _ h => h) (fun b o hb h => by have h' := h.1; omega)
    replace hk := hk.fr W3.fr (fun b o hb => nr (.inl (by have := (hzb b hb).2; omega)))
    refine ⟨trivial, ?_⟩
    refine O.asg rfl rfl rfl rfl rfl ?_
    refine Pl.fin [(0, _), (2, _), (3, _), (5, _), (8, _), (9, _)] ⟨rfl, rfl, rfl, rfl, rfl, rfl, trivial⟩ ?_
    refine Go'.ret (vs := [_, _]) Go.Proofs.Try.func185 Go.Proofs.Try.results185 ⟨⟨_, _, rfl, fun _ _ => run_loadVar_agg (fun w => ⟨Go.Proofs.Try.isAgg27 w, Go.Proofs.Try.sizeOf27 w⟩) rfl W3.all⟩, rfl, trivial⟩ ?_
    exact ⟨rfl, hF, hk⟩
  · skip
    obtain ⟨kp, hN⟩ := hg.node
    have hc0 := hN.c0
    rw [hg.isoe] at hc0
    have hptr : cl H1 tr 2 = some (.pointer (some ⟨Gt.p h t, 0, none⟩)) := hc
    have hht := Gt.Good.tall hP hg hx1
    -- region 3 (btreeg.go:401)
    refine Go'.region [(0, 0), (1, 0), (2, 0), (3, 1), (4, 0)] rfl ?_
    refine O.mv rfl rfl rfl rfl rfl ?_
    refine O.nc rfl rfl rfl rfl rfl ?_
    refine O.fa0 (off := 2) rfl rfl rfl rfl ⟨_, _, _, Go.Proofs.Try.underlying158, rfl, rfl, Go.Proofs.Try.sizeOf129⟩ rfl ?_
    refine O.ld rfl rfl rfl (fun w => ⟨Go.Proofs.Try.isAgg129 w, Go.Proofs.Try.sizeOf129 w⟩) rfl hptr ?_
    refine O.isNil rfl rfl rfl rfl Go.Proofs.Try.underlying129 rfl rfl ?_
    refine Pl.fin [(0, _), (2, _), (3, _), (5, _), (8, _), (9, _), (23, _)] ⟨rfl, rfl, rfl, rfl, rfl, rfl, rfl, trivial⟩ ?_
    refine Go'.condF rfl ?_
    refine Go'.skip ?_
    refine Go'.seq ?_
    -- region 5 (btreeg.go:404)
    refine Go'.region [(0, 0), (1, 0), (2, 0), (3, 0), (4, 0), (5, 2), (6, 0)] rfl ?_
    refine O.mv rfl rfl rfl rfl rfl ?_
    refine O.mv rfl rfl rfl rfl rfl ?_
    refine O.nc rfl rfl rfl rfl rfl ?_
    refine O.fa0 (off := 2) rfl rfl rfl rfl ⟨_, _, _, Go.Proofs.Try.underlying158, rfl, rfl, Go.Proofs.Try.sizeOf129⟩ rfl ?_
    refine O.mv rfl rfl rfl rfl rfl ?_
    refine O.callQ rfl rfl rfl Go.Proofs.Try.call130 rfl (isoLoad_spec mt hc hc0 tc.iso) trivial ?_
    refine O.asg rfl rfl rfl rfl rfl ?_
    refine Pl.fin [(0, _), (2, _), (3, _), (5, _), (8, _), (9, _), (10, _)] ⟨rfl, rfl, rfl, rfl, rfl, rfl, rfl, trivial⟩ ?_
    refine Go'.seq ?_
    -- region 6 (btreeg.go:405)
    refine Go'.region [(0, 0)] rfl ?_
    refine O.asg rfl rfl rfl rfl rfl ?_
    refine Pl.fin [(0, _), (2, _), (3, _), (5, _), (8, _), (9, _), (10, _), (11, _)] ⟨rfl, rfl, rfl, rfl, rfl, rfl, rfl, rfl, trivial⟩ ?_
    refine Go'.block ?_
    refine Go'.loop ?_
    refine Go'.keep [(0, _), (2, _), (3, _), (5, _), (8, _), (9, _), (10, _), (11, _)] ⟨rfl, rfl, rfl, rfl, rfl, rfl, rfl, rfl, trivial⟩ ?_
    refine Go'.ind (σ := (h : Nat) × Gt EJ h × Nat) (fun s => s.1) (fun s H' => Fr (fun b _ => hz b) H H' ∧ HintOk H' hv hz ∧ TrC H' tr P.iso P.mx P.mn ∧ Rd H' H.size 0 (EJ.enc x) ∧ Wr H' H0.size 0 2 ∧ Gt.Good H' P s.1 s.2.1 ∧ 1 ≤ (Gt.X s.1 s.2.1).length ∧ Pl.Srt OI (Gt.L s.1 s.2.1) ∧ Pl.got OI x (Gt.L s.1 s.2.1) = Pl.got OI x l ∧ (∀ b o, Gt.af s.1 s.2.1 b o → ¬ hz b) ∧ s.2.2 + s.1 < 4611686018427387904 ∧ H1.size ≤ H'.size)
      (fun s => [(0, .pointer (some ⟨tr, 0, none⟩)), (2, hv), (3, .bool mt), (5, .pointer (some ⟨H.size, 0, none⟩)), (8, .pointer (some ⟨H0.size, 0, none⟩)), (9, .bool false), (10, .pointer (some ⟨Gt.p s.1 s.2.1, 0, none⟩)), (11, .int .i64 (s.2.2 : Int))]) ⟨h, t, 0⟩ ⟨hF, hk, tc, mi, mw, hg, hx1, by rw [e]; exact srt, by rw [e], fun b o hb hzz => hzS b hzz (hown b o hb), by simp only; rw [e] at hht; omega, Nat.le_refl _⟩ rfl ?_
    clear hF hk tc mi mw hg hx1 e hc hnt hown hN hc0 hptr hht t h kp cnt
    rintro ⟨h, t, dp⟩ H2 ⟨hF, hk, tc, mi, mw, hg, hx1, hs, hL, hoff, hdp, hsz⟩ ih
    simp only at hg hx1 hs hL hoff hdp ⊢
    refine Go'.block ?_
    refine Go'.seq ?_
    rcases h with _ | h
    · -- a leaf
      obtain ⟨g, X⟩ := t
      have hN : NodeM EJ H2 g X (.pointer none) := hg.1
      replace hx1 : 1 ≤ X.length := hx1
      have hxm : X.length ≤ P.mx := hg.2.2.2
      replace hs : Pl.Srt OI X := hs
      replace hL : Pl.got OI x X = Pl.got OI x l := hL
      replace hoff : ∀ b o, ncl EJ g b o → ¬ hz b := hoff
      rw [← hL]
      -- region 7 (btreeg.go:407)
      refine Go'.region [(0, 0), (1, 0), (2, 1), (3, 0), (4, 0), (5, 2), (6, 0), (7, 0), (8, 0), (9, 0), (10, 0)] rfl ?_
      refine O.mv rfl rfl rfl rfl rfl ?_
      refine O.mv rfl rfl rfl rfl rfl ?_
      refine O.lds rfl rfl rfl (fun w => ⟨Go.Proofs.Try.isAgg27 w, Go.Proofs.Try.sizeOf27 w⟩) rfl rfl mi ?_
      refine O.mv rfl rfl rfl rfl rfl ?_
      refine O.mv rfl rfl rfl rfl rfl ?_
      refine O.call rfl rfl rfl Go.Proofs.Try.call131 rfl (find_spec tc x hN hs (by omega) hx1 hk (fun b o hb hn => hoff b o hn hb) (by omega)) ?_
      rintro _ H3 ⟨rfl, hF3, hk⟩
      have hs3 := hF3.size
      replace hF := hF.trans hF3
      replace tc := tc.fr hF3 (fun b o hb _ hz => (hzb b hz).1 hb)
      replace mi := hF3.rd mi (fun _ _ hz => by have := (hzb _ hz).2; omega)
      replace mw := hF3.wr mw
      replace hN := NodeM.fr EJ hN hF3 (fun b o hb hz => hoff b o hb hz)
      generalize hi : Pl.pos OI x X = i
      generalize hfb : Pl.fnd OI x X = fb
      refine ⟨trivial, ?_⟩
      refine O.mv rfl rfl rfl rfl rfl ?_
      refine O.ext rfl rfl rfl rfl rfl rfl ?_
      refine O.ext rfl rfl rfl rfl rfl rfl ?_
      refine O.asg rfl rfl rfl rfl rfl ?_
      refine O.asg rfl rfl rfl rfl rfl ?_
      refine Pl.fin [(0, _), (2, _), (3, _), (5, _), (8, _), (9, _), (10, _), (11, _), (12, _), (13, _)] ⟨rfl, rfl, rfl, rfl, rfl, rfl, rfl, rfl, rfl, rfl, trivial⟩ ?_
      refine Go'.seq ?_
      refine Go'.seq ?_
      -- region 8 (btreeg.go:408)
      refine Go'.region [(0, 0)] rfl ?_
      refine O.mv rfl rfl rfl rfl rfl ?_
      refine Pl.fin [(0, _), (2, _), (3, _), (5, _), (8, _), (9, _), (10, _), (11, _), (12, _), (13, _), (43, _)] ⟨rfl, rfl, rfl, rfl, rfl, rfl, rfl, rfl, rfl, rfl, rfl, trivial⟩ ?_
      cases fb
      · skip
        refine Go'.condF rfl ?_
        refine Go'.skip ?_
        refine Go'.seq ?_
        refine Go'.seq ?_
        -- region 10 (btreeg.go:411)
        refine Go'.region [(0, 0), (1, 0), (2, 0), (3, 1), (4, 0)] rfl ?_
        refine O.mv rfl rfl rfl rfl rfl ?_
        refine O.nc rfl rfl rfl rfl rfl ?_
        refine O.fa0 (off := 3) rfl rfl rfl rfl ⟨_, _, _, Go.Proofs.Try.underlying168, rfl, rfl, Go.Proofs.Try.sizeOf166⟩ rfl ?_
        refine O.ld rfl rfl rfl (fun w => ⟨Go.Proofs.Try.isAgg166 w, Go.Proofs.Try.sizeOf166 w⟩) rfl hN.c3 ?_
        refine O.isNil rfl rfl rfl rfl Go.Proofs.Try.underlying166 rfl rfl ?_
        refine Pl.fin [(0, _), (2, _), (3, _), (5, _), (8, _), (9, _), (10, _), (11, _), (12, _), (13, _), (43, _), (55, _)] ⟨rfl, rfl, rfl, rfl, rfl, rfl, rfl, rfl, rfl, rfl, rfl, rfl, trivial⟩ ?_
        refine Go'.condT rfl ?_
        refine Go'.seq ?_
        -- region 11 (btreeg.go:412)
        refine Go'.region [(0, 0), (1, 0), (2, 0), (3, 1), (4, 2), (5, 0)] rfl ?_
        refine O.mv rfl rfl rfl rfl rfl ?_
        refine O.nc rfl rfl rfl rfl rfl ?_
        refine O.fa0 (off := 7) rfl rfl rfl rfl ⟨_, _, _, Go.Proofs.Try.underlying158, rfl, rfl, Go.Proofs.Try.sizeOf27⟩ rfl ?_
        refine O.lds rfl rfl rfl (fun w => ⟨Go.Proofs.Try.isAgg27 w, Go.Proofs.Try.sizeOf27 w⟩) rfl rfl tc.emp ?_
        refine O.st (vs := (EJ.enc (0, 0))) rfl rfl Go.Proofs.Try.sizeOf27 rfl rfl rfl rfl rfl mw ?_
        intro H4 W4
        replace hF : Fr (fun b _ => hz b) H H4 := hF.trans' W4.fr (fun _ _ _ h => h) (fun b o hb h => by have h' := h.1; omega)
        replace hk := hk.fr W4.fr (fun b o hb => nr (.inl (by have := (hzb b hb).2; omega)))
        refine ⟨trivial, ?_⟩
        refine O.asg rfl rfl rfl rfl rfl ?_
        refine Pl.fin [(0, _), (2, _), (3, _), (5, _), (8, _), (9, _), (10, _), (11, _), (12, _), (13, _), (43, _), (55, _)] ⟨rfl, rfl, rfl, rfl, rfl, rfl, rfl, rfl, rfl, rfl, rfl, rfl, trivial⟩ ?_
        refine Go'.ret (vs := [_, _]) Go.Proofs.Try.func185 Go.Proofs.Try.results185 ⟨⟨_, _, rfl, fun _ _ => run_loadVar_agg (fun w => ⟨Go.Proofs.Try.isAgg27 w, Go.Proofs.Try.sizeOf27 w⟩) rfl W4.all⟩, rfl, trivial⟩ ?_
        exact ⟨by rw [Pl.got_none OI hfb]; rfl, hF, hk⟩
      · skip
        obtain ⟨y, hy, _, _⟩ := Pl.fnd_at OI hs hfb
        rw [hi] at hy
        have hlt' : i < X.length := (List.getElem?_eq_some_iff.1 hy).1
        refine Go'.condT rfl ?_
        refine Go'.seq ?_
        -- region 9 (btreeg.go:409)
        refine Go'.region [(0, 0), (1, 0), (2, 0), (3, 1), (4, 0), (5, 0), (6, 1), (7, 2), (8, 0)] rfl ?_
        refine O.mv rfl rfl rfl rfl rfl ?_
        refine O.nc rfl rfl rfl rfl rfl ?_
        refine O.fa0 (off := 2) rfl rfl rfl rfl ⟨_, _, _, Go.Proofs.Try.underlying168, rfl, rfl, Go.Proofs.Try.sizeOf25⟩ rfl ?_
        refine O.ld rfl rfl rfl (fun w => ⟨Go.Proofs.Try.isAgg25 w, Go.Proofs.Try.sizeOf25 w⟩) rfl hN.c2 ?_
        refine O.mv rfl rfl rfl rfl rfl ?_
        refine O.ix (j := i) rfl rfl rfl rfl Go.Proofs.Try.underlying25 Go.Proofs.Try.sizeOf27 rfl rfl (by omega) hlt' ?_
        refine O.lds rfl rfl rfl (fun w => ⟨Go.Proofs.Try.isAgg27 w, Go.Proofs.Try.sizeOf27 w⟩) rfl rfl (hN.sl.item hy) ?_
        refine O.st (vs := (EJ.enc y)) rfl rfl Go.Proofs.Try.sizeOf27 rfl rfl rfl rfl rfl mw ?_
        intro H4 W4
        replace hF : Fr (fun b _ => hz b) H H4 := hF.trans' W4.fr (fun _ _ _ h => h) (fun b o hb h => by have h' := h.1; omega)
        replace hk := hk.fr W4.fr (fun b o hb => nr (.inl (by have := (hzb b hb).2; omega)))
        refine ⟨trivial, ?_⟩
        refine O.asg rfl rfl rfl rfl rfl ?_
        refine Pl.fin [(0, _), (2, _), (3, _), (5, _), (8, _), (9, _), (10, _), (11, _), (12, _), (13, _), (43, _)] ⟨rfl, rfl, rfl, rfl, rfl, rfl, rfl, rfl, rfl, rfl, rfl, trivial⟩ ?_
        refine Go'.ret (vs := [_, _]) Go.Proofs.Try.func185 Go.Proofs.Try.results185 ⟨⟨_, _, rfl, fun _ _ => run_loadVar_agg (fun w => ⟨Go.Proofs.Try.isAgg27 w, Go.Proofs.Try.sizeOf27 w⟩) rfl W4.all⟩, rfl, trivial⟩ ?_
        exact ⟨by rw [Pl.got_some OI hfb, hi, hy]; rfl, hF, hk⟩
    · -- an inner node
      obtain ⟨g, X, K⟩ := t
      have hI : Inn H2 P h g X ((Gt.ps h K).map some) K := hg.inn
      have hKl : K.length = X.length + 1 := hg.2.2.2.2.2.1
      have hxm : X.length ≤ P.mx := hg.2.2.2.2.1
      replace hx1 : 1 ≤ X.length := hx1
      have hKL : (K.map (Gt.L h)).length = X.length + 1 := by rw [List.length_map]; exact hKl
      replace hs : Pl.Srt OI (Pl.inter X (K.map (Gt.L h))) := hs
      replace hL : Pl.got OI x (Pl.inter X (K.map (Gt.L h))) = Pl.got OI x l := hL
      replace hoff : ∀ b o, innc h g K b o → ¬ hz b := hoff
      have hsX : Pl.Srt OI X := hs.sublist (Pl.sublist_inter X _ (by omega))
      rw [← hL]
      -- region 7 (btreeg.go:407)
      refine Go'.region [(0, 0), (1, 0), (2, 1), (3, 0), (4, 0), (5, 2), (6, 0), (7, 0), (8, 0), (9, 0), (10, 0)] rfl ?_
      refine O.mv rfl rfl rfl rfl rfl ?_
      refine O.mv rfl rfl rfl rfl rfl ?_
      refine O.lds rfl rfl rfl (fun w => ⟨Go.Proofs.Try.isAgg27 w, Go.Proofs.Try.sizeOf27 w⟩) rfl rfl mi ?_
      refine O.mv rfl rfl rfl rfl rfl ?_
      refine O.mv rfl rfl rfl rfl rfl ?_
      refine O.call rfl rfl rfl Go.Proofs.Try.call131 rfl (find_spec tc x hI.n hsX (by omega) hx1 hk (fun b o hb hn => hoff b o (.inl hn) hb) (by omega)) ?_
      rintro _ H3 ⟨rfl, hF3, hk⟩
      have hs3 := hF3.size
      replace hF := hF.trans hF3
      replace tc := tc.fr hF3 (fun b o hb _ hz => (hzb b hz).1 hb)
      replace mi := hF3.rd mi (fun _ _ hz => by have := (hzb _ hz).2; omega)
      replace mw := hF3.wr mw
      replace hI := hI.fr hF3 (fun b o hb hz => hoff b o hb hz)
      generalize hi : Pl.pos OI x X = i
      generalize hfb : Pl.fnd OI x X = fb
      refine ⟨trivial, ?_⟩
      refine O.mv rfl rfl rfl rfl rfl ?_
      refine O.ext rfl rfl rfl rfl rfl rfl ?_
      refine O.ext rfl rfl rfl rfl rfl rfl ?_
      refine O.asg rfl rfl rfl rfl rfl ?_
      refine O.asg rfl rfl rfl rfl rfl ?_
      refine Pl.fin [(0, _), (2, _), (3, _), (5, _), (8, _), (9, _), (10, _), (11, _), (12, _), (13, _)] ⟨rfl, rfl, rfl, rfl, rfl, rfl, rfl, rfl, rfl, rfl, trivial⟩ ?_
      refine Go'.seq ?_
      refine Go'.seq ?_
      -- region 8 (btreeg.go:408)
      refine Go'.region [(0, 0)] rfl ?_
      refine O.mv rfl rfl rfl rfl rfl ?_
      refine Pl.fin [(0, _), (2, _), (3, _), (5, _), (8, _), (9, _), (10, _), (11, _), (12, _), (13, _), (43, _)] ⟨rfl, rfl, rfl, rfl, rfl, rfl, rfl, rfl, rfl, rfl, rfl, trivial⟩ ?_
      cases fb
      rotate_left
      · -- found
        obtain ⟨y, hy, _, _, _, q1, q2, _⟩ := Pl.inter_found OI hs hKL hfb
        rw [hi] at hy
        have hlt' : i < X.length := (List.getElem?_eq_some_iff.1 hy).1
        refine Go'.condT rfl ?_
        refine Go'.seq ?_
        -- region 9 (btreeg.go:409)
        refine Go'.region [(0, 0), (1, 0), (2, 0), (3, 1), (4, 0), (5, 0), (6, 1), (7, 2), (8, 0)] rfl ?_
        refine O.mv rfl rfl rfl rfl rfl ?_
        refine O.nc rfl rfl rfl rfl rfl ?_
        refine O.fa0 (off := 2) rfl rfl rfl rfl ⟨_, _, _, Go.Proofs.Try.underlying168, rfl, rfl, Go.Proofs.Try.sizeOf25⟩ rfl ?_
        refine O.ld rfl rfl rfl (fun w => ⟨Go.Proofs.Try.isAgg25 w, Go.Proofs.Try.sizeOf25 w⟩) rfl hI.n.c2 ?_
        refine O.mv rfl rfl rfl rfl rfl ?_
        refine O.ix (j := i) rfl rfl rfl rfl Go.Proofs.Try.underlying25 Go.Proofs.Try.sizeOf27 rfl rfl (by omega) hlt' ?_
        refine O.lds rfl rfl rfl (fun w => ⟨Go.Proofs.Try.isAgg27 w, Go.Proofs.Try.sizeOf27 w⟩) rfl rfl (hI.n.sl.item hy) ?_
        refine O.st (vs := (EJ.enc y)) rfl rfl Go.Proofs.Try.sizeOf27 rfl rfl rfl rfl rfl mw ?_
        intro H4 W4
        replace hF : Fr (fun b _ => hz b) H H4 := hF.trans' W4.fr (fun _ _ _ h => h) (fun b o hb h => by have h' := h.1; omega)
        replace hk := hk.fr W4.fr (fun b o hb => nr (.inl (by have := (hzb b hb).2; omega)))
        refine ⟨trivial, ?_⟩
        refine O.asg rfl rfl rfl rfl rfl ?_
        refine Pl.fin [(0, _), (2, _), (3, _), (5, _), (8, _), (9, _), (10, _), (11, _), (12, _), (13, _), (43, _)] ⟨rfl, rfl, rfl, rfl, rfl, rfl, rfl, rfl, rfl, rfl, rfl, trivial⟩ ?_
        refine Go'.ret (vs := [_, _]) Go.Proofs.Try.func185 Go.Proofs.Try.results185 ⟨⟨_, _, rfl, fun _ _ => run_loadVar_agg (fun w => ⟨Go.Proofs.Try.isAgg27 w, Go.Proofs.Try.sizeOf27 w⟩) rfl W4.all⟩, rfl, trivial⟩ ?_
        exact ⟨by rw [q2]; rfl, hF, hk⟩
      · -- below
        have hle : i ≤ X.length := by rw [← hi]; exact Pl.pos_le OI x X
        obtain ⟨k, hkk⟩ : ∃ k, K[i]? = some k := ⟨K[i], List.getElem?_eq_getElem (by omega)⟩
        have hkK : k ∈ K := List.mem_of_getElem? hkk
        obtain ⟨hgk, hmk, hdk⟩ := hI.c.1 k hkK
        have hkL : (K.map (Gt.L h))[i]? = some (Gt.L h k) := by rw [List.getElem?_map, hkk]; rfl
        obtain ⟨e1, e2, e3, e4⟩ := Pl.inter_child OI hs hKL hfb (by rw [hi]; exact hkL)
        have hsk : Pl.Srt OI (Gt.L h k) := by
          rw [e1, Pl.Srt.append, Pl.Srt.append] at hs
          exact hs.1.2.1
        have hok : ((Gt.ps h K).map some)[i]? = some (some (Gt.p h k)) := by rw [Gt.ps, List.map_map, List.getElem?_map, hkk]; rfl
        have hol : ((Gt.ps h K).map some).length = X.length + 1 := by rw [List.length_map, Gt.ps, List.length_map]; exact hKl
        have hf2 := Pl.got_mid OI e2 e3 (m := Gt.L h k)
        rw [← e1] at hf2
        obtain ⟨kp, hNk⟩ := hgk.node
        have hk0 := hNk.c0
        rw [hgk.isoe] at hk0
        have hck := hI.k.at hok
        refine Go'.condF rfl ?_
        refine Go'.skip ?_
        refine Go'.seq ?_
        refine Go'.seq ?_
        -- region 10 (btreeg.go:411)
        refine Go'.region [(0, 0), (1, 0), (2, 0), (3, 1), (4, 0)] rfl ?_
        refine O.mv rfl rfl rfl rfl rfl ?_
        refine O.nc rfl rfl rfl rfl rfl ?_
        refine O.fa0 (off := 3) rfl rfl rfl rfl ⟨_, _, _, Go.Proofs.Try.underlying168, rfl, rfl, Go.Proofs.Try.sizeOf166⟩ rfl ?_
        refine O.ld rfl rfl rfl (fun w => ⟨Go.Proofs.Try.isAgg166 w, Go.Proofs.Try.sizeOf166 w⟩) rfl hI.n.c3 ?_
        refine O.isNil rfl rfl rfl rfl Go.Proofs.Try.underlying166 rfl rfl ?_
        refine Pl.fin [(0, _), (2, _), (3, _), (5, _), (8, _), (9, _), (10, _), (11, _), (12, _), (13, _), (43, _), (55, _)] ⟨rfl, rfl, rfl, rfl, rfl, rfl, rfl, rfl, rfl, rfl, rfl, rfl, trivial⟩ ?_
        refine Go'.condF rfl ?_
        refine Go'.skip ?_
        refine Go'.seq ?_
        -- region 12 (btreeg.go:414)
        refine Go'.region [(0, 0), (1, 0), (2, 0), (3, 0), (4, 1), (5, 0), (6, 1), (7, 0), (8, 0), (9, 0), (10, 2), (11, 0)] rfl ?_
        refine O.mv rfl rfl rfl rfl rfl ?_
        refine O.mv rfl rfl rfl rfl rfl ?_
        refine O.nc rfl rfl rfl rfl rfl ?_
        refine O.fa0 (off := 3) rfl rfl rfl rfl ⟨_, _, _, Go.Proofs.Try.underlying168, rfl, rfl, Go.Proofs.Try.sizeOf166⟩ rfl ?_
        refine O.ld rfl rfl rfl (fun w => ⟨Go.Proofs.Try.isAgg166 w, Go.Proofs.Try.sizeOf166 w⟩) rfl hI.n.c3 ?_
        refine O.nc rfl rfl rfl rfl rfl ?_
        refine O.ld rfl rfl rfl (fun w => ⟨Go.Proofs.Try.isAgg170 w, Go.Proofs.Try.sizeOf170 w⟩) rfl hI.k.c ?_
        refine O.mv rfl rfl rfl rfl rfl ?_
        refine O.ix (j := i) rfl rfl rfl rfl Go.Proofs.Try.underlying170 Go.Proofs.Try.sizeOf129 rfl rfl (by omega) (by omega) ?_
        refine O.mv rfl rfl rfl rfl rfl ?_
        refine O.callQ rfl rfl rfl Go.Proofs.Try.call130 rfl (isoLoad_spec mt hck hk0 tc.iso) trivial ?_
        refine O.asg rfl rfl rfl rfl rfl ?_
        refine Pl.fin [(0, _), (2, _), (3, _), (5, _), (8, _), (9, _), (10, _), (11, _), (12, _), (13, _), (43, _), (55, _)] ⟨rfl, rfl, rfl, rfl, rfl, rfl, rfl, rfl, rfl, rfl, rfl, rfl, trivial⟩ ?_
        -- region 13 (btreeg.go:415)
        refine Go'.region [(0, 0), (1, 0), (2, 0)] rfl ?_
        refine O.mv rfl rfl rfl rfl rfl ?_
        refine O.add (((dp + 1 : Nat) : Int)) rfl rfl rfl rfl rfl rfl (by omega) (by omega) ?_
        refine O.asg rfl rfl rfl rfl rfl ?_
        refine Pl.fin [(0, _), (2, _), (3, _), (5, _), (8, _), (9, _), (10, _), (11, _), (12, _), (13, _), (43, _), (55, _)] ⟨rfl, rfl, rfl, rfl, rfl, rfl, rfl, rfl, rfl, rfl, rfl, rfl, trivial⟩ ?_
        refine Go'.inBlock ?_
        refine Go'.keep [(0, _), (2, _), (3, _), (5, _), (8, _), (9, _), (10, _), (11, _)] ⟨rfl, rfl, rfl, rfl, rfl, rfl, rfl, rfl, trivial⟩ ?_
        refine Go'.inLoop ?_
        rw [hL]
        exact ih ⟨h, k, dp + 1⟩ H3 ⟨hF, hk, tc, mi, mw, hgk, Nat.le_trans hh1 hmk, hsk, by simp only; rw [← hf2]; exact hL, fun b o hb => hoff b o (.inr (.inr ⟨k, hkK, hb⟩)), by simp only; omega, by omega⟩ (Nat.lt_succ_self h)

theorem gethint_spec {B : World} {H : Mem} {tr : Nat} {P : Ps} (hP : PsOk P) {S : Nat → Prop} {l : List (Int × Int)} (hM : MapM H tr P S l) (x : Int × Int) {hv : Value} {hz : Nat → Prop} (hk : HintOk H hv hz) (hzS : ∀ b, hz b → ¬ S b) (hll : l.length < 4611686018427387904) :
    Fn Try.prog B 142 [.pointer (some ⟨tr, 0, none⟩), .agg (EJ.enc x).toArray, hv] H (fun r H' => r = .tuple #[PV (Pl.got OI x l), .bool (Pl.got OI x l).isSome] ∧ Fr (fun b _ => hz b) H H' ∧ HintOk H' hv hz) := by
  have hzb := hk.base
  refine fn_of Go.Proofs.Try.func142 rfl Go.Proofs.Try.ntmps142 ?_
  refine (show Go' _ _ _ _ 14 [(0, _), (1, _), (2, _)] [.code _] _ from ?_)
  refine Go'.seq ?_
  -- region 0 (btreeg.go:389)
  refine Go'.region [(0, 2), (1, 2), (2, 0)] rfl ?_
  refine O.box rfl rfl rfl rfl ?_
  intro H0 M0
  refine ⟨trivial, ?_⟩
  have hs0 := M0.size
  replace hM := hM.fr (M0.fr nowhere) (fun _ _ _ => nw)
  replace hk := hk.fr (M0.fr nowhere) (fun _ _ _ => nw)
  have mi : Rd H0 H.size 0 (EJ.enc x) := M0.rd _ [] (by simp [Value.cells])
  refine O.alloc rfl rfl rfl Go.Proofs.Try.zeroValue27 ?_
  intro H1 M1
  refine ⟨trivial, ?_⟩
  have hs1 : H1.size = H.size + 2 := by have := M1.size; omega
  replace hM := hM.fr (M1.fr nowhere) (fun _ _ _ => nw)
  replace hk := hk.fr (M1.fr nowhere) (fun _ _ _ => nw)
  replace mi := (M1.fr nowhere).rd mi (fun _ _ => nw)
  have mw : Wr H1 H0.size 0 2 := M1.wr 2 (by decide)
  have hF : Fr nowhere H H1 := (M0.fr nowhere).trans (M1.fr nowhere)
  refine O.asg rfl rfl rfl rfl rfl ?_
  refine Pl.fin [(0, _), (2, _), (4, _), (6, _), (7, _)] ⟨rfl, rfl, rfl, rfl, rfl, trivial⟩ ?_
  refine Go'.seq ?_
  -- region 1 (btreeg.go:390)
  refine Go'.region [(0, 0), (1, 1), (2, 0), (3, 2), (4, 0), (5, 0), (6, 2), (7, 0)] rfl ?_
  refine O.mv rfl rfl rfl rfl rfl ?_
  refine O.lds rfl rfl rfl (fun w => ⟨Go.Proofs.Try.isAgg27 w, Go.Proofs.Try.sizeOf27 w⟩) rfl rfl mi ?_
  refine O.mv rfl rfl rfl rfl rfl ?_
  refine O.call rfl rfl rfl Go.Proofs.Try.call185 rfl (getHint_spec hP hM x hk hzS hll false) ?_
  rintro _ H2 ⟨rfl, hF2, hk2⟩
  have hs2 := hF2.size
  replace mw := hF2.wr mw
  refine ⟨trivial, ?_⟩
  refine O.ext rfl rfl rfl rfl rfl rfl ?_
  refine O.ext rfl rfl rfl rfl rfl rfl ?_
  refine O.st (vs := (EJ.enc ((Pl.got OI x l).getD (0, 0)))) rfl rfl Go.Proofs.Try.sizeOf27 rfl rfl rfl rfl rfl mw ?_
  intro H3 W3
  refine ⟨trivial, ?_⟩
  refine O.asg rfl rfl rfl rfl rfl ?_
  refine Pl.fin [(6, _), (7, _)] ⟨rfl, rfl, trivial⟩ ?_
  refine Go'.ret (vs := [_, _]) Go.Proofs.Try.func142 Go.Proofs.Try.results142 ⟨⟨_, _, rfl, fun _ _ => run_loadVar_agg (fun w => ⟨Go.Proofs.Try.isAgg27 w, Go.Proofs.Try.sizeOf27 w⟩) rfl W3.all⟩, rfl, trivial⟩ ?_
  exact ⟨rfl, (hF.trans' hF2 (fun _ _ _ h => h.elim) (fun _ _ _ h => h)).trans' W3.fr (fun _ _ _ h => h) (fun b o hb h => by have h' := h.1; omega), hk2.fr W3.fr (fun b o hb => nr (.inl (by have := (hzb b hb).2; omega)))⟩
end
end Go.Bt.FG
