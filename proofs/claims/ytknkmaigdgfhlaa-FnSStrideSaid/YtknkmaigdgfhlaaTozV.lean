/- Contracts of functions of the program, proved by walking through their code. Conditions: those that each theorem names. -/
import Derived.Test.YtknkmaigdgfhlaaTozU
namespace Go.Bt.FZ
open Go Go.Proofs
set_option maxRecDepth 20000
set_option maxHeartbeats 4000000
set_option linter.unusedVariables false

theorem popMax_spec {B : World} {H : Mem} {tr : Nat} {P : Ps} (hP : PsOk P) {S : Nat → Prop} {l : List Int} (hM : MapM H tr P S l) (hlen : l.length < 2305843009213693952) :
    Fn Try.prog B 120 [.pointer (some ⟨tr, 0, none⟩)] H (PopP H tr P S l true) := by
  refine fn_of Go.Proofs.Try.func120 rfl Go.Proofs.Try.ntmps120 ?_
  refine (show Go' _ _ _ _ 175 [(0, _)] [.code _] _ from ?_)
  refine Go'.seq ?_
  -- region 0 (map.go:753)
  refine Go'.region [(0, 0), (1, 2), (2, 0)] rfl ?_
  refine O.asg rfl rfl rfl rfl rfl ?_
  refine O.alloc rfl rfl rfl Go.Proofs.Try.zeroValue136 ?_
  intro H0 M0
  refine ⟨trivial, ?_⟩
  have hR0 := M0.fr nowhere
  replace hM := hM.fr hR0 (fun _ _ _ => nw)
  refine O.asg rfl rfl rfl rfl rfl ?_
  refine Pl.fin [(0, _), (2, _), (3, _), (4, _)] ⟨rfl, rfl, rfl, rfl, trivial⟩ ?_
  refine Go'.seq ?_
  refine Go'.seq ?_
  refine Go'.mono (fun v H' hq => PopP.rebase hR0 hq) ?_
  generalize H.size = z0
  clear hR0 M0
  clear H
  rename Mem => H
  have hM0 := hM
  have hh1 := hP.h1
  have hmm := hP.hm
  obtain ⟨tc, srt, cnt, own, lt, hr⟩ := hM
  have htl : tr < H.size := cl_lt tc.iso
  rcases hr with ⟨rfl, hptr⟩ | ⟨h0, t0, hg, hx0, e, hc, hnt, hown⟩
  · -- none at all
    -- region 1 (map.go:754)
    refine Go'.region [(0, 0), (1, 0), (2, 0), (3, 1), (4, 0)] rfl ?_
    refine O.mv rfl rfl rfl rfl rfl ?_
    refine O.nc rfl rfl rfl rfl rfl ?_
    refine O.fa0 (off := 2) rfl rfl rfl rfl ⟨_, _, _, Go.Proofs.Try.underlying140, rfl, rfl, Go.Proofs.Try.sizeOf135⟩ rfl ?_
    refine O.ld rfl rfl rfl (fun w => ⟨Go.Proofs.Try.isAgg135 w, Go.Proofs.Try.sizeOf135 w⟩) rfl hptr ?_
    refine O.isNil rfl rfl rfl rfl Go.Proofs.Try.underlying135 rfl rfl ?_
    refine Pl.fin [(0, _), (2, _), (3, _), (4, _), (13, _)] ⟨rfl, rfl, rfl, rfl, rfl, trivial⟩ ?_
    refine Go'.condT rfl ?_
    refine Go'.seq ?_
    -- region 2 (map.go:755)
    refine Go'.draw (fun _ => True) [(0, 0), (1, 0), (2, 0), (3, 0), (4, 1), (5, 0), (6, 0), (7, 0), (8, 1), (9, 1), (10, 0), (11, 2), (12, 0)] (by kernel_rfl) (by kernel_rfl) (trivial) ?_
    refine O.mv rfl rfl rfl rfl rfl ?_
    refine O.nc rfl rfl rfl rfl rfl ?_
    refine O.fa0 (off := 4) rfl rfl rfl rfl ⟨_, _, _, Go.Proofs.Try.underlying140, rfl, rfl, Go.Proofs.Try.sizeOf138⟩ rfl ?_
    refine O.faz rfl rfl rfl rfl ⟨_, _, _, Go.Proofs.Try.underlying138, rfl, rfl, Go.Proofs.Try.sizeOf3⟩ rfl ?_
    refine O.ld rfl rfl rfl (fun w => ⟨Go.Proofs.Try.isAgg3 w, Go.Proofs.Try.sizeOf3 w⟩) rfl (tc.emp 0 _ rfl) ?_
    refine O.mv rfl rfl rfl rfl rfl ?_
    refine O.nc rfl rfl rfl rfl rfl ?_
    refine O.fa0 (off := 4) rfl rfl rfl rfl ⟨_, _, _, Go.Proofs.Try.underlying140, rfl, rfl, Go.Proofs.Try.sizeOf138⟩ rfl ?_
    refine O.fz1 rfl rfl rfl ty ⟨_, _, Go.Proofs.Try.underlying138, rfl, rfl, rfl, Go.Proofs.Try.sizeOf136⟩ rfl (tc.wr.at0 4 1 (by omega)) ?_
    refine O.lds rfl rfl rfl (fun w => ⟨Go.Proofs.Try.isAgg136 w, Go.Proofs.Try.sizeOf136 w⟩) rfl rfl (Rd.nil _ _ _) ?_
    refine O.asg rfl rfl rfl rfl rfl ?_
    refine O.st0 rfl rfl Go.Proofs.Try.sizeOf136 rfl rfl rfl trivial ?_
    refine O.asg rfl rfl rfl rfl rfl ?_
    refine Pl.fin [(0, _), (2, _), (3, _), (4, _)] ⟨rfl, rfl, rfl, rfl, trivial⟩ ?_
    refine Go'.ret (vs := [_, _, _]) Go.Proofs.Try.func120 Go.Proofs.Try.results120 ⟨rfl, ⟨_, _, rfl, fun _ _ => run_loadVar_agg (fun w => ⟨Go.Proofs.Try.isAgg136 w, Go.Proofs.Try.sizeOf136 w⟩) rfl (Rd.nil _ _ _)⟩, rfl, trivial⟩ ?_
    exact ⟨rfl, S, hM0, Fr.refl _ _, fun b hb => .inl hb⟩
  · -- a tree
    -- region 1 (map.go:754)
    refine Go'.region [(0, 0), (1, 0), (2, 0), (3, 1), (4, 0)] rfl ?_
    refine O.mv rfl rfl rfl rfl rfl ?_
    refine O.nc rfl rfl rfl rfl rfl ?_
    refine O.fa0 (off := 2) rfl rfl rfl rfl ⟨_, _, _, Go.Proofs.Try.underlying140, rfl, rfl, Go.Proofs.Try.sizeOf135⟩ rfl ?_
    refine O.ld rfl rfl rfl (fun w => ⟨Go.Proofs.Try.isAgg135 w, Go.Proofs.Try.sizeOf135 w⟩) rfl (show cl _ tr 2 = some (.pointer (some ⟨Gt.p h0 t0, 0, none⟩)) from hc) ?_
    refine O.isNil rfl rfl rfl rfl Go.Proofs.Try.underlying135 rfl rfl ?_
    refine Pl.fin [(0, _), (2, _), (3, _), (4, _), (13, _)] ⟨rfl, rfl, rfl, rfl, rfl, trivial⟩ ?_
    refine Go'.condF rfl ?_
    refine Go'.skip ?_
    refine Go'.seq ?_
    obtain ⟨kp0, hn0⟩ := hg.node
    have hiso0 := hn0.c0
    rw [hg.isoe] at hiso0
    -- region 3 (map.go:757)
    refine Go'.region [(0, 0), (1, 0), (2, 0), (3, 0), (4, 2), (5, 0)] rfl ?_
    refine O.mv rfl rfl rfl rfl rfl ?_
    refine O.mv rfl rfl rfl rfl rfl ?_
    refine O.nc rfl rfl rfl rfl rfl ?_
    refine O.fa0 (off := 2) rfl rfl rfl rfl ⟨_, _, _, Go.Proofs.Try.underlying140, rfl, rfl, Go.Proofs.Try.sizeOf135⟩ rfl ?_
    refine O.callQ rfl rfl rfl Go.Proofs.Try.call151 rfl (isoLoad_spec true hc hiso0 tc.iso) trivial ?_
    refine O.asg rfl rfl rfl rfl rfl ?_
    refine Pl.fin [(0, _), (2, _), (3, _), (4, _), (5, _)] ⟨rfl, rfl, rfl, rfl, rfl, trivial⟩ ?_
    refine Go'.seq ?_
    -- region 4 (map.go:758)
    refine Go'.region [(0, 2)] rfl ?_
    refine O.alloc rfl rfl rfl Go.Proofs.Try.zeroValue138 ?_
    intro H1 M1
    refine ⟨trivial, ?_⟩
    have hs1 := M1.size
    have hg1 := hg.fr (M1.fr nowhere) (fun _ _ _ => nw)
    replace tc := tc.fr (M1.fr nowhere) (fun _ _ _ => nw)
    replace cnt := M1.keep cnt
    replace hc := M1.keep hc
    have w6 : Wr H1 H.size 0 1 := M1.wr 1 (by decide)
    have hb6n : ∀ o, ¬ Gt.af h0 t0 H.size o := fun o hb => by have := hg.lt hb; omega
    have hF1 := M1.fr nowhere
    have hb6 : H.size < H1.size := by omega
    generalize hb6e : H.size = b6 at *
    clear M1 hn0 hiso0 hg
    have hlt0 : ∀ b o, Gt.af h0 t0 b o → b < H1.size := fun b o hb => hg1.lt hb
    refine Pl.fin [(0, _), (2, _), (3, _), (4, _), (5, _), (6, _)] ⟨rfl, rfl, rfl, rfl, rfl, rfl, trivial⟩ ?_
    refine Go'.seq ?_
    refine Go'.block ?_
    refine Go'.loop ?_
    refine Go'.keep [(0, _), (2, _), (3, _), (4, _), (5, _), (6, _)] ⟨rfl, rfl, rfl, rfl, rfl, rfl, trivial⟩ ?_
    refine Go'.ind (σ := (h : Nat) × Gt EI h) (fun s => s.1) (fun s H' => (∃ D, Spn H1 H' P true (fun n => n - 1) h0 t0 D s.1 s.2) ∧ Wr H' b6 0 1)
      (fun s => [(0, .pointer (some ⟨tr, 0, none⟩)), (2, .int .i64 0), (3, .pointer (some ⟨z0, 0, none⟩)), (4, .bool false), (5, .pointer (some ⟨Gt.p s.1 s.2, 0, none⟩)), (6, .pointer (some ⟨b6, 0, none⟩))]) ⟨h0, t0⟩ ⟨⟨_, Spn.start hg1 hx0⟩, w6⟩ rfl ?_
    clear w6
    rintro ⟨h, t⟩ H2 ⟨⟨D, hs⟩, w6⟩ ih
    simp only at hs
    have hDt : ∀ b, b = tr → ¬ D b := fun b e2 hd => hnt 1 (e2 ▸ Gt.sp_af ((hs.all b).2 (.inl hd)) 1 (by omega))
    have tc2 := tc.fr hs.fr (fun o _ _ hz => hDt tr rfl hz.2)
    have cnt2 := hs.fr.keep cnt (fun hz => hDt tr rfl hz.2)
    have hc2 := hs.fr.keep hc (fun hz => hDt tr rfl hz.2)
    have hsz2 := hs.fr.size
    have hnow := hs.now
    have hle := hs.le
    have hcn := (hs.g.cnOf).2
    have hne := hs.g.ne hs.x1
    have hcc := hs.cnt
    rw [e] at hle
    refine Go'.block ?_
    refine Go'.seq ?_
    rcases h with _ | h
    rotate_left
    · -- further down
      obtain ⟨g, X, K⟩ := t
      have hI := hnow.inn
      have hKl : K.length = X.length + 1 := hnow.2.2.2.2.2.1
      obtain ⟨k, hk⟩ : ∃ k, K[cix true K.length]? = some k := ⟨K[cix true K.length]'(cix_lt (by omega)), List.getElem?_eq_getElem (cix_lt (by omega))⟩
      have hkK := List.mem_of_getElem? hk
      have hx255 := hnow.2.2.2.2.1
      have hP255 := hP.hx
      replace hx255 : X.length ≤ P.mx := hx255
      replace hcn : cnOf H1 g.p = (Gt.L (h + 1) ((g, X, K) : Gt EI (h + 1))).length := hcn
      -- region 5 (map.go:760)
      refine Go'.region [(0, 0), (1, 0), (2, 0), (3, 1), (4, 0), (5, 0), (6, 0), (7, 2)] rfl ?_
      refine O.mv rfl rfl rfl rfl rfl ?_
      refine O.nc rfl rfl rfl rfl rfl ?_
      refine O.fa0 (off := 1) rfl rfl rfl rfl ⟨_, _, _, Go.Proofs.Try.underlying205, rfl, rfl, Go.Proofs.Try.sizeOf3⟩ rfl ?_
      refine O.ld rfl rfl rfl (fun w => ⟨Go.Proofs.Try.isAgg3 w, Go.Proofs.Try.sizeOf3 w⟩) rfl (show cl _ g.p 1 = some (.int .i64 (cnOf H1 g.p : Int)) from hcc) ?_
      refine O.sub ((((cnOf H1 g.p) - 1 : Nat) : Int)) rfl rfl rfl rfl rfl rfl (by omega) (by omega) ?_
      refine O.nc rfl rfl rfl rfl rfl ?_
      refine O.fa0 (off := 1) rfl rfl rfl rfl ⟨_, _, _, Go.Proofs.Try.underlying205, rfl, rfl, Go.Proofs.Try.sizeOf3⟩ rfl ?_
      refine O.st rfl rfl Go.Proofs.Try.sizeOf3 rfl rfl rfl rfl rfl (hI.n.wr.at0 1 1 (by omega)) ?_
      intro H3 W3
      have hs3 := hs.step (t := (g, X, K)) hh1 hk W3
      replace hI := hI.count W3
      have tc3 := tc2.fr W3.fr (fun o _ _ => nr (.inl (fun e2 => hnt 1 (hs.sub _ _ (show Gt.af (h + 1) ((g, X, K) : Gt EI (h + 1)) tr 1 from .inl (.inl ⟨e2, by omega⟩))))))
      replace w6 := W3.fr.wr w6
      refine ⟨trivial, ?_⟩
      refine Pl.fin [(0, _), (2, _), (3, _), (4, _), (5, _), (6, _)] ⟨rfl, rfl, rfl, rfl, rfl, rfl, trivial⟩ ?_
      refine Go'.seq ?_
      refine Go'.seq ?_
      -- region 6 (map.go:761)
      refine Go'.region [(0, 0), (1, 2)] rfl ?_
      refine O.mv rfl rfl rfl rfl rfl ?_
      refine O.callQ rfl rfl rfl Go.Proofs.Try.call152 rfl (leaf_spec hI.n.c3) trivial ?_
      refine Pl.fin [(0, _), (2, _), (3, _), (4, _), (5, _), (6, _), (37, _)] ⟨rfl, rfl, rfl, rfl, rfl, rfl, rfl, trivial⟩ ?_
      refine Go'.condF rfl ?_
      refine Go'.skip ?_
      obtain ⟨hgk, _⟩ := hI.c.1 k hkK
      obtain ⟨kpk, hnk⟩ := hgk.node
      have hisok := hnk.c0
      rw [hgk.isoe] at hisok
      have hko : ((Gt.ps h K).map some)[cix true K.length]? = some (some (Gt.p h k)) := by rw [Gt.ps, List.map_map, List.getElem?_map, hk]; rfl
      have hkl : ((Gt.ps h K).map some).length = K.length := by rw [List.length_map, Gt.ps, List.length_map]
      have hkc := hI.k.c
      rw [hkl] at hkc
      -- region 15 (map.go:774)
      refine Go'.draw (fun _ => True) [(0, 0), (1, 0), (2, 0), (3, 0), (4, 1), (5, 0), (6, 1), (7, 0), (8, 0), (9, 0), (10, 1), (11, 0), (12, 1), (13, 0), (14, 0), (15, 0), (16, 2), (17, 0)] (by kernel_rfl) (by kernel_rfl) (trivial) ?_
      refine O.mv rfl rfl rfl rfl rfl ?_
      refine O.mv rfl rfl rfl rfl rfl ?_
      refine O.nc rfl rfl rfl rfl rfl ?_
      refine O.fa0 (off := 3) rfl rfl rfl rfl ⟨_, _, _, Go.Proofs.Try.underlying205, rfl, rfl, Go.Proofs.Try.sizeOf203⟩ rfl ?_
      refine O.ld rfl rfl rfl (fun w => ⟨Go.Proofs.Try.isAgg203 w, Go.Proofs.Try.sizeOf203 w⟩) rfl (show cl _ g.p 3 = some (.pointer (some ⟨g.cb, 0, none⟩)) from hI.n.c3) ?_
      refine O.nc rfl rfl rfl rfl rfl ?_
      refine O.ld rfl rfl rfl (fun w => ⟨Go.Proofs.Try.isAgg206 w, Go.Proofs.Try.sizeOf206 w⟩) rfl (show cl _ g.cb 0 = some (.slice (some ⟨g.kb, g.ko, none⟩) K.length g.kc) from hkc) ?_
      refine O.mv rfl rfl rfl rfl rfl ?_
      refine O.nc rfl rfl rfl rfl rfl ?_
      refine O.fa0 (off := 3) rfl rfl rfl rfl ⟨_, _, _, Go.Proofs.Try.underlying205, rfl, rfl, Go.Proofs.Try.sizeOf203⟩ rfl ?_
      refine O.ld rfl rfl rfl (fun w => ⟨Go.Proofs.Try.isAgg203 w, Go.Proofs.Try.sizeOf203 w⟩) rfl (show cl _ g.p 3 = some (.pointer (some ⟨g.cb, 0, none⟩)) from hI.n.c3) ?_
      refine O.nc rfl rfl rfl rfl rfl ?_
      refine O.ld rfl rfl rfl (fun w => ⟨Go.Proofs.Try.isAgg206 w, Go.Proofs.Try.sizeOf206 w⟩) rfl (show cl _ g.cb 0 = some (.slice (some ⟨g.kb, g.ko, none⟩) K.length g.kc) from hkc) ?_
      refine O.len rfl rfl rfl rfl Go.Proofs.Try.underlying206 rfl ?_
      refine O.sub (((K.length - 1 : Nat) : Int)) rfl rfl rfl rfl rfl rfl (by omega) (by omega) ?_
      refine O.ix (j := K.length - 1) rfl rfl rfl rfl Go.Proofs.Try.underlying206 Go.Proofs.Try.sizeOf135 rfl rfl (by omega) (by omega) ?_
      refine O.callQ rfl rfl rfl Go.Proofs.Try.call151 rfl (isoLoad_spec true (hI.k.at hko) hisok tc3.iso) trivial ?_
      refine O.asg rfl rfl rfl rfl rfl ?_
      refine Pl.fin [(0, _), (2, _), (3, _), (4, _), (5, _), (6, _), (37, _)] ⟨rfl, rfl, rfl, rfl, rfl, rfl, rfl, trivial⟩ ?_
      refine Go'.inBlock ?_
      refine Go'.keep [(0, _), (2, _), (3, _), (4, _), (5, _), (6, _)] ⟨rfl, rfl, rfl, rfl, rfl, rfl, trivial⟩ ?_
      refine Go'.inLoop ?_
      exact ih ⟨h, k⟩ H3 ⟨⟨_, hs3⟩, w6⟩ (by simp only; omega)
    · -- the leaf
      obtain ⟨⟨np, niso, ncnt, nib, nio, nic, ncb, nkb, nko, nkc⟩, X⟩ := t
      have hn : NodeM EI H2 (⟨np, niso, ncnt, nib, nio, nic, ncb, nkb, nko, nkc⟩ : Ng) X (.pointer none) := hnow.1
      have hiso : niso = P.iso := hnow.2.1
      have hcntX : ncnt = X.length := hnow.2.2.1
      have hxm : X.length ≤ P.mx := hnow.2.2.2
      have hx255 := hP.hx
      have hx1 : 1 ≤ X.length := hs.x1
      have hle2 : X.length ≤ l.length := hle
      have hlf : ((⟨np, niso, ncnt, nib, nio, nic, ncb, nkb, nko, nkc⟩ : Ng), X) = Gt.lf true h0 t0 := hs.lf
      have tn : ∀ b o, (ncl EI (⟨np, niso, ncnt, nib, nio, nic, ncb, nkb, nko, nkc⟩ : Ng)) b o → ¬ (b = tr) := fun b o hb e2 => hnt o (e2 ▸ hs.sub b o hb)
      have hlt : ∀ b o, (ncl EI (⟨np, niso, ncnt, nib, nio, nic, ncb, nkb, nko, nkc⟩ : Ng)) b o → b < H1.size ∧ b ≠ b6 := fun b o hb => ⟨hlt0 b o (hs.sub b o hb), fun e2 => hb6n o (e2 ▸ hs.sub b o hb)⟩
      have hD : ∀ b, (b = tr) → b < H2.size := fun b hb => by subst hb; omega
      have hic := hn.sl.hle
      simp only at hic
      have hF : Fr (fun b o => (ncl EI (⟨np, niso, ncnt, nib, nio, nic, ncb, nkb, nko, nkc⟩ : Ng)) b o ∨ b = b6 ∨ b = tr) H2 H2 := Fr.refl _ _
      have hF2 : Fr (fun b o => (o = 1 ∧ b = np) ∨ b = b6) H2 H2 := Fr.refl _ _
      have sn : Gro H2 (ncl EI (⟨np, niso, ncnt, nib, nio, nic, ncb, nkb, nko, nkc⟩ : Ng)) (ncl EI (⟨np, niso, ncnt, nib, nio, nic, ncb, nkb, nko, nkc⟩ : Ng)) := Gro.refl _ _
      clear tc cnt hc
      obtain ⟨tc, cnt, hc⟩ := And.intro tc2 (And.intro cnt2 hc2)
      clear tc2 cnt2 hc2
      obtain ⟨y, hy⟩ : ∃ y, X[X.length - 1]? = some y := ⟨X[X.length - 1]'(by omega), List.getElem?_eq_getElem (by omega)⟩
      -- region 5 (map.go:760)
      refine Go'.region [(0, 0), (1, 0), (2, 0), (3, 1), (4, 0), (5, 0), (6, 0), (7, 2)] rfl ?_
      refine O.mv rfl rfl rfl rfl rfl ?_
      refine O.nc rfl rfl rfl rfl rfl ?_
      refine O.fa0 (off := 1) rfl rfl rfl rfl ⟨_, _, _, Go.Proofs.Try.underlying205, rfl, rfl, Go.Proofs.Try.sizeOf3⟩ rfl ?_
      refine O.ld rfl rfl rfl (fun w => ⟨Go.Proofs.Try.isAgg3 w, Go.Proofs.Try.sizeOf3 w⟩) rfl (show cl _ np 1 = some (.int .i64 (ncnt : Int)) from hn.c1) ?_
      refine O.sub (((ncnt - 1 : Nat) : Int)) rfl rfl rfl rfl rfl rfl (by omega) (by omega) ?_
      refine O.nc rfl rfl rfl rfl rfl ?_
      refine O.fa0 (off := 1) rfl rfl rfl rfl ⟨_, _, _, Go.Proofs.Try.underlying205, rfl, rfl, Go.Proofs.Try.sizeOf3⟩ rfl ?_
      refine O.st rfl rfl Go.Proofs.Try.sizeOf3 rfl rfl rfl rfl rfl (hn.wr.at0 1 1 (by omega)) ?_
      intro H11 WH11
      have fW : Fr (ncl EI (⟨np, niso, ncnt, nib, nio, nic, ncb, nkb, nko, nkc⟩ : Ng)) H2 H11 := (Wrote.fHdr (E := EI) (g := (⟨np, niso, ncnt, nib, nio, nic, ncb, nkb, nko, nkc⟩ : Ng)) WH11 (by omega))
      replace tc := tc.fr fW (fun o _ _ hz => tn tr o hz rfl)
      replace hF := Fr.tot hF fW sn (fun _ _ h => .inl h)
      replace w6 := Fr.wr fW w6
      replace cnt := Fr.keep fW cnt (fun hz => tn tr _ hz rfl)
      replace hc := Fr.keep fW hc (fun hz => tn tr _ hz rfl)
      obtain ⟨ncnt_11, encnt_11⟩ : ∃ z, z = ncnt - 1 := ⟨_, rfl⟩
      rw [← encnt_11] at WH11
      replace hn : NodeM EI H11 (⟨np, niso, ncnt_11, nib, nio, nic, ncb, nkb, nko, nkc⟩ : Ng) (X) (.pointer none) := hn.count WH11
      clear fW
      replace hF2 := hF2.trans' WH11.fr (fun _ _ _ h => h) (fun b o _ hz => by
        have h1 := hz.1; have h2 := hz.2.1; have h3 := hz.2.2
        simp only [List.length_cons, List.length_nil] at h3
        exact .inl ⟨by omega, h1⟩)
      refine ⟨trivial, ?_⟩
      refine Pl.fin [(0, _), (2, _), (3, _), (4, _), (5, _), (6, _)] ⟨rfl, rfl, rfl, rfl, rfl, rfl, trivial⟩ ?_
      refine Go'.seq ?_
      refine Go'.seq ?_
      -- region 6 (map.go:761)
      refine Go'.region [(0, 0), (1, 2)] rfl ?_
      refine O.mv rfl rfl rfl rfl rfl ?_
      refine O.callQ rfl rfl rfl Go.Proofs.Try.call152 rfl (leaf_spec hn.c3) trivial ?_
      refine Pl.fin [(0, _), (2, _), (3, _), (4, _), (5, _), (6, _), (37, _)] ⟨rfl, rfl, rfl, rfl, rfl, rfl, rfl, trivial⟩ ?_
      refine Go'.condT rfl ?_
      refine Go'.seq ?_
      -- region 7 (map.go:762)
      refine Go'.draw (fun _ => True) [(0, 0), (1, 0), (2, 0), (3, 1), (4, 0), (5, 0), (6, 0), (7, 1), (8, 0), (9, 0), (10, 0), (11, 1), (12, 3)] (by kernel_rfl) (by kernel_rfl) (trivial) ?_
      refine O.mv rfl rfl rfl rfl rfl ?_
      refine O.nc rfl rfl rfl rfl rfl ?_
      refine O.fa0 (off := 2) rfl rfl rfl rfl ⟨_, _, _, Go.Proofs.Try.underlying205, rfl, rfl, Go.Proofs.Try.sizeOf202⟩ rfl ?_
      refine O.ld rfl rfl rfl (fun w => ⟨Go.Proofs.Try.isAgg202 w, Go.Proofs.Try.sizeOf202 w⟩) rfl (show cl _ np 2 = some (.slice (some ⟨nib, nio, none⟩) X.length nic) from hn.c2) ?_
      refine O.mv rfl rfl rfl rfl rfl ?_
      refine O.nc rfl rfl rfl rfl rfl ?_
      refine O.fa0 (off := 2) rfl rfl rfl rfl ⟨_, _, _, Go.Proofs.Try.underlying205, rfl, rfl, Go.Proofs.Try.sizeOf202⟩ rfl ?_
      refine O.ld rfl rfl rfl (fun w => ⟨Go.Proofs.Try.isAgg202 w, Go.Proofs.Try.sizeOf202 w⟩) rfl (show cl _ np 2 = some (.slice (some ⟨nib, nio, none⟩) X.length nic) from hn.c2) ?_
      refine O.len rfl rfl rfl rfl Go.Proofs.Try.underlying202 rfl ?_
      refine O.sub (((X.length - 1 : Nat) : Int)) rfl rfl rfl rfl rfl rfl (by omega) (by omega) ?_
      refine O.ix (j := X.length - 1) rfl rfl rfl rfl Go.Proofs.Try.underlying202 Go.Proofs.Try.sizeOf138 rfl rfl (by omega) (by omega) ?_
      refine O.lds rfl rfl rfl (fun w => ⟨Go.Proofs.Try.isAgg138 w, Go.Proofs.Try.sizeOf138 w⟩) rfl rfl (hn.sl.item hy) ?_
      refine O.st3 rfl rfl Go.Proofs.Try.sizeOf138 rfl rfl rfl rfl rfl w6 ?_
      intro H12 WH12
      have hsH12 := WH12.size
      replace hn := NodeM.fr EI hn WH12.fr (fun b o hb => nr (.inl (by have := (hlt b o hb).2; omega)))
      replace tc := tc.fr WH12.fr (fun o _ _ => nr (.inl (by omega)))
      replace hF := hF.trans' WH12.fr (fun _ _ _ h => h) (fun b o hb h => .inr (.inl h.1))
      replace w6 := Fr.wr WH12.fr w6
      have m6 : Rd H12 b6 0 (EI.enc y) := WH12.all
      replace cnt := Fr.keep WH12.fr cnt (nr (.inl (by omega)))
      replace hc := Fr.keep WH12.fr hc (nr (.inl (by omega)))
      replace hF2 := hF2.trans' WH12.fr (fun _ _ _ h => h) (fun b o _ hz => .inr hz.1)
      refine Pl.fin [(0, _), (2, _), (3, _), (4, _), (5, _), (6, _), (37, _)] ⟨rfl, rfl, rfl, rfl, rfl, rfl, rfl, trivial⟩ ?_
      refine Go'.seq ?_
      refine Go'.seq ?_
      by_cases hmnX : X.length = P.mn
      rotate_left
      · -- out of the leaf
        -- region 8 (map.go:763)
        refine Go'.draw (fun _ => True) [(0, 0), (1, 0), (2, 0), (3, 1), (4, 0), (5, 0), (6, 0), (7, 0), (8, 1), (9, 0)] (by kernel_rfl) (by kernel_rfl) (trivial) ?_
        refine O.mv rfl rfl rfl rfl rfl ?_
        refine O.nc rfl rfl rfl rfl rfl ?_
        refine O.fa0 (off := 2) rfl rfl rfl rfl ⟨_, _, _, Go.Proofs.Try.underlying205, rfl, rfl, Go.Proofs.Try.sizeOf202⟩ rfl ?_
        refine O.ld rfl rfl rfl (fun w => ⟨Go.Proofs.Try.isAgg202 w, Go.Proofs.Try.sizeOf202 w⟩) rfl (show cl _ np 2 = some (.slice (some ⟨nib, nio, none⟩) X.length nic) from hn.c2) ?_
        refine O.len rfl rfl rfl rfl Go.Proofs.Try.underlying202 rfl ?_
        refine O.mv rfl rfl rfl rfl rfl ?_
        refine O.nc rfl rfl rfl rfl rfl ?_
        refine O.fa0 (off := 5) rfl rfl rfl rfl ⟨_, _, _, Go.Proofs.Try.underlying140, rfl, rfl, Go.Proofs.Try.sizeOf3⟩ rfl ?_
        refine O.ld rfl rfl rfl (fun w => ⟨Go.Proofs.Try.isAgg3 w, Go.Proofs.Try.sizeOf3 w⟩) rfl tc.mn' ?_
        refine O.cmp rfl rfl rfl rfl rfl rfl (eqlF (by omega)) ?_
        refine Pl.fin [(0, _), (2, _), (3, _), (4, _), (5, _), (6, _), (37, _), (59, _)] ⟨rfl, rfl, rfl, rfl, rfl, rfl, rfl, rfl, trivial⟩ ?_
        refine Go'.condF rfl ?_
        refine Go'.skip ?_
        refine Go'.seq ?_
        -- region 9 (map.go:766)
        refine Go'.draw (fun _ => True) [(0, 0), (1, 0), (2, 0), (3, 1), (4, 0), (5, 0), (6, 0), (7, 1), (8, 0), (9, 0), (10, 0), (11, 0), (12, 0), (13, 1), (14, 0), (15, 3)] (by kernel_rfl) (by kernel_rfl) (trivial) ?_
        refine O.mv rfl rfl rfl rfl rfl ?_
        refine O.nc rfl rfl rfl rfl rfl ?_
        refine O.fa0 (off := 2) rfl rfl rfl rfl ⟨_, _, _, Go.Proofs.Try.underlying205, rfl, rfl, Go.Proofs.Try.sizeOf202⟩ rfl ?_
        refine O.ld rfl rfl rfl (fun w => ⟨Go.Proofs.Try.isAgg202 w, Go.Proofs.Try.sizeOf202 w⟩) rfl (show cl _ np 2 = some (.slice (some ⟨nib, nio, none⟩) X.length nic) from hn.c2) ?_
        refine O.mv rfl rfl rfl rfl rfl ?_
        refine O.nc rfl rfl rfl rfl rfl ?_
        refine O.fa0 (off := 2) rfl rfl rfl rfl ⟨_, _, _, Go.Proofs.Try.underlying205, rfl, rfl, Go.Proofs.Try.sizeOf202⟩ rfl ?_
        refine O.ld rfl rfl rfl (fun w => ⟨Go.Proofs.Try.isAgg202 w, Go.Proofs.Try.sizeOf202 w⟩) rfl (show cl _ np 2 = some (.slice (some ⟨nib, nio, none⟩) X.length nic) from hn.c2) ?_
        refine O.len rfl rfl rfl rfl Go.Proofs.Try.underlying202 rfl ?_
        refine O.sub (((X.length - 1 : Nat) : Int)) rfl rfl rfl rfl rfl rfl (by omega) (by omega) ?_
        refine O.mv rfl rfl rfl rfl rfl ?_
        refine O.nc rfl rfl rfl rfl rfl ?_
        refine O.fa0 (off := 4) rfl rfl rfl rfl ⟨_, _, _, Go.Proofs.Try.underlying140, rfl, rfl, Go.Proofs.Try.sizeOf138⟩ rfl ?_
        refine O.lds rfl rfl rfl (fun w => ⟨Go.Proofs.Try.isAgg138 w, Go.Proofs.Try.sizeOf138 w⟩) rfl rfl tc.emp ?_
        refine O.ix (j := X.length - 1) rfl rfl rfl rfl Go.Proofs.Try.underlying202 Go.Proofs.Try.sizeOf138 rfl rfl (by omega) (by omega) ?_
        refine O.st3 rfl rfl Go.Proofs.Try.sizeOf138 rfl rfl rfl rfl rfl (hn.sl.wri (i := X.length - 1) (by omega)) ?_
        intro H13 WH13
        have fW : Fr (ncl EI (⟨np, niso, ncnt_11, nib, nio, nic, ncb, nkb, nko, nkc⟩ : Ng)) H12 H13 := (NodeM.fSet hn (i := X.length - 1) (x := (0 : Int)) WH13 (by omega))
        replace tc := tc.fr fW (fun o _ _ hz => tn tr o hz rfl)
        replace hF := Fr.tot hF fW sn (fun _ _ h => .inl h)
        replace w6 := Fr.wr fW w6
        replace m6 := Fr.rd fW m6 (fun _ _ hz => by have := (hlt _ _ hz).2; omega)
        replace cnt := Fr.keep fW cnt (fun hz => tn tr _ hz rfl)
        replace hc := Fr.keep fW hc (fun hz => tn tr _ hz rfl)
        obtain ⟨nX1, enX1, hn⟩ : ∃ X1, X1 = X.take (X.length - 1) ++ (0 : Int) :: X.drop (X.length - 1 + 1) ∧ NodeM EI H13 (⟨np, niso, ncnt_11, nib, nio, nic, ncb, nkb, nko, nkc⟩ : Ng) (X1) (.pointer none) := ⟨_, rfl, hn.set (i := X.length - 1) (x := (0 : Int)) WH13 (by omega)⟩
        have lnX1 : nX1.length = X.length := by rw [enX1]; simp only [List.length_append, List.length_take, List.length_cons, List.length_drop]; omega
        clear fW
        refine Pl.fin [(0, _), (2, _), (3, _), (4, _), (5, _), (6, _), (37, _), (59, _)] ⟨rfl, rfl, rfl, rfl, rfl, rfl, rfl, rfl, trivial⟩ ?_
        refine Go'.seq ?_
        -- region 10 (map.go:767)
        refine Go'.draw (fun _ => True) [(0, 0), (1, 0), (2, 0), (3, 0), (4, 1), (5, 0), (6, 0), (7, 0), (8, 1), (9, 0), (10, 0), (11, 0), (12, 0), (13, 0), (14, 3)] (by kernel_rfl) (by kernel_rfl) (trivial) ?_
        refine O.mv rfl rfl rfl rfl rfl ?_
        refine O.mv rfl rfl rfl rfl rfl ?_
        refine O.nc rfl rfl rfl rfl rfl ?_
        refine O.fa0 (off := 2) rfl rfl rfl rfl ⟨_, _, _, Go.Proofs.Try.underlying205, rfl, rfl, Go.Proofs.Try.sizeOf202⟩ rfl ?_
        refine O.ld rfl rfl rfl (fun w => ⟨Go.Proofs.Try.isAgg202 w, Go.Proofs.Try.sizeOf202 w⟩) rfl (show cl _ np 2 = some (.slice (some ⟨nib, nio, none⟩) nX1.length nic) from hn.c2) ?_
        refine O.mv rfl rfl rfl rfl rfl ?_
        refine O.nc rfl rfl rfl rfl rfl ?_
        refine O.fa0 (off := 2) rfl rfl rfl rfl ⟨_, _, _, Go.Proofs.Try.underlying205, rfl, rfl, Go.Proofs.Try.sizeOf202⟩ rfl ?_
        refine O.ld rfl rfl rfl (fun w => ⟨Go.Proofs.Try.isAgg202 w, Go.Proofs.Try.sizeOf202 w⟩) rfl (show cl _ np 2 = some (.slice (some ⟨nib, nio, none⟩) nX1.length nic) from hn.c2) ?_
        refine O.len rfl rfl rfl rfl Go.Proofs.Try.underlying202 rfl ?_
        refine O.sub (((nX1.length - 1 : Nat) : Int)) rfl rfl rfl rfl rfl rfl (by omega) (by omega) ?_
        refine O.slc (jl := 0) (jh := nX1.length - 1) (jm := nic) rfl rfl rfl rfl Go.Proofs.Try.underlying202 Go.Proofs.Try.sizeOf138 rfl rfl ⟨_, by rfl⟩ rfl (by omega) (by omega) (by simp) (by simp) ?_
        intro oc hoc
        have hoc2 : nio = oc := by rw [hoc (by omega)]; simp
        subst hoc2
        rw [Nat.sub_zero]
        refine O.nc rfl rfl rfl rfl rfl ?_
        refine O.fa0 (off := 2) rfl rfl rfl rfl ⟨_, _, _, Go.Proofs.Try.underlying205, rfl, rfl, Go.Proofs.Try.sizeOf202⟩ rfl ?_
        refine O.st3 rfl rfl Go.Proofs.Try.sizeOf202 rfl rfl rfl rfl rfl (hn.wr.at0 2 1 (by omega)) ?_
        intro H14 WH14
        have fW : Fr (ncl EI (⟨np, niso, ncnt_11, nib, nio, nic, ncb, nkb, nko, nkc⟩ : Ng)) H13 H14 := (Wrote.fHdr (E := EI) (g := (⟨np, niso, ncnt_11, nib, nio, nic, ncb, nkb, nko, nkc⟩ : Ng)) WH14 (by omega))
        replace tc := tc.fr fW (fun o _ _ hz => tn tr o hz rfl)
        replace hF := Fr.tot hF fW sn (fun _ _ h => .inl h)
        replace w6 := Fr.wr fW w6
        replace m6 := Fr.rd fW m6 (fun _ _ hz => by have := (hlt _ _ hz).2; omega)
        replace cnt := Fr.keep fW cnt (fun hz => tn tr _ hz rfl)
        replace hc := Fr.keep fW hc (fun hz => tn tr _ hz rfl)
        obtain ⟨nX2, enX2, hn⟩ : ∃ X1, X1 = nX1.take (nX1.length - 1) ∧ NodeM EI H14 (⟨np, niso, ncnt_11, nib, nio, nic, ncb, nkb, nko, nkc⟩ : Ng) (X1) (.pointer none) := ⟨_, rfl, hn.cut WH14 (by omega)⟩
        have lnX2 : nX2.length = nX1.length - 1 := by rw [enX2]; simp only [List.length_take]; omega
        clear fW
        refine Pl.fin [(0, _), (2, _), (3, _), (4, _), (5, _), (6, _), (37, _), (59, _)] ⟨rfl, rfl, rfl, rfl, rfl, rfl, rfl, rfl, trivial⟩ ?_
        refine Go'.seq ?_
        have hX : nX2 = X.take (X.length - 1) := by
          rw [enX2, lnX1, enX1]
          exact Pl.cutoff_last X _ (by omega)
        have hsp : bif true then X = nX2 ++ [y] else X = y :: nX2 := by rw [hX]; exact Pl.last_split hy
        obtain ⟨gE1, gE2, gE3, ⟨R, gE4, gE5⟩, gE6, gE7⟩ := Gt.Good.edit (d := true) (δ := (fun n => n - 1)) (Z := fun b o => (o = 1 ∧ D b) ∨ ((ncl EI (⟨np, niso, ncnt, nib, nio, nic, ncb, nkb, nko, nkc⟩ : Ng)) b o ∨ b = b6 ∨ b = tr)) (hs.fr.trans' hF (fun _ _ _ h => .inl h) (fun _ _ _ h => .inr h)) hn hiso (show ncnt_11 = nX2.length by omega) (by omega) hg1
          (fun b o hb hz => by
            rcases hz with ⟨ho, hd⟩ | hz | rfl | rfl
            · exact .inl ⟨ho, (hs.all b).2 (.inl hd)⟩
            · exact .inr (by rw [← hlf]; exact hz)
            · exact (hb6n o hb).elim
            · exact (hnt o hb).elim)
          (fun q hq hne2 => by
            rcases (hs.all q).1 hq with hd | hd
            · exact hF.keep (hs.val q hd) (fun hz => by
                rcases hz with hz | rfl | rfl
                · exact hs.off q hd hz
                · exact hb6n 1 (Gt.sp_af hq 1 (by omega))
                · exact hDt q rfl hd)
            · rw [← hlf] at hne2
              exact (hne2 hd).elim)
          (by rw [← hlf]) (fun h9 => by
            have : P.mn ≤ X.length := hs.mn h9
            omega)
          (by rw [← hlf]; exact fun b o hb => .inl hb) (fun n hn9 => by rw [← hlf] at hn9 ⊢; simp only at hn9 ⊢; omega)
        rw [← hlf] at gE4
        have hpk := popk_glue (R := R) hsp
        have ht1 : l = glue true X R := by rw [← e]; exact gE4
        rw [← ht1] at hpk
        have hglen := glue_len true nX2 R
        have hglen2 := congrArg List.length ht1
        rw [glue_len] at hglen2
        have hown1 : ∀ b o, Gt.af h0 (Gt.ed true (fun n => n - 1) (⟨np, niso, ncnt_11, nib, nio, nic, ncb, nkb, nko, nkc⟩ : Ng) nX2 h0 t0) b o → S b ∨ (H.size ≤ b ∧ b < H14.size) := fun b o hb => (gE3 b o hb).imp (hown b o) (fun h9 => ⟨by omega, gE1.lt hb⟩)
        have hnt1 : ∀ o, ¬ Gt.af h0 (Gt.ed true (fun n => n - 1) (⟨np, niso, ncnt_11, nib, nio, nic, ncb, nkb, nko, nkc⟩ : Ng) nX2 h0 t0) tr o := fun o hb => (gE3 _ _ hb).elim (hnt o) (fun h9 => by omega)
        have hFt : Fr (fun b _ => S b) H H14 := hF1.trans' (hs.fr.trans' hF (Z := fun b o => (o = 1 ∧ D b) ∨ ((ncl EI (⟨np, niso, ncnt, nib, nio, nic, ncb, nkb, nko, nkc⟩ : Ng)) b o ∨ b = b6 ∨ b = tr)) (fun _ _ _ h => .inl h) (fun _ _ _ h => .inr h)) (fun _ _ _ h => h.elim) (fun b o hb hz => by
          rcases hz with ⟨ho, hd⟩ | hz | rfl | rfl
          · exact hown b o (ho ▸ Gt.sp_af ((hs.all b).2 (.inl hd)) 1 (by omega))
          · exact hown b o (hs.sub b o hz)
          · omega
          · exact own)
        have hbl6 : ∀ b o, Gt.af h0 (Gt.ed true (fun n => n - 1) (⟨np, niso, ncnt_11, nib, nio, nic, ncb, nkb, nko, nkc⟩ : Ng) nX2 h0 t0) b o → b ≠ tr := fun b o hb e2 => hnt1 o (e2 ▸ hb)
        generalize hT : Gt.ed true (fun n => n - 1) (⟨np, niso, ncnt_11, nib, nio, nic, ncb, nkb, nko, nkc⟩ : Ng) nX2 h0 t0 = T at *
        rw [← gE2] at hc
        have hsrt1 : Pl.Srt OI (glue true nX2 R) := by
          have := Pl.runs_popk_srt OI srt [true]
          have e9 : (Pl.runs Pl.popk l [true]).1 = (Pl.popk l true).1 := rfl
          rw [e9, hpk] at this
          exact this
        -- region 11 (map.go:768)
        refine Go'.region [(0, 0), (1, 0), (2, 0), (3, 1), (4, 0), (5, 0), (6, 0), (7, 2)] rfl ?_
        refine O.mv rfl rfl rfl rfl rfl ?_
        refine O.nc rfl rfl rfl rfl rfl ?_
        refine O.fa0 (off := 3) rfl rfl rfl rfl ⟨_, _, _, Go.Proofs.Try.underlying140, rfl, rfl, Go.Proofs.Try.sizeOf3⟩ rfl ?_
        refine O.ld rfl rfl rfl (fun w => ⟨Go.Proofs.Try.isAgg3 w, Go.Proofs.Try.sizeOf3 w⟩) rfl cnt ?_
        refine O.sub (((l.length - 1 : Nat) : Int)) rfl rfl rfl rfl rfl rfl (by omega) (by omega) ?_
        refine O.nc rfl rfl rfl rfl rfl ?_
        refine O.fa0 (off := 3) rfl rfl rfl rfl ⟨_, _, _, Go.Proofs.Try.underlying140, rfl, rfl, Go.Proofs.Try.sizeOf3⟩ rfl ?_
        refine O.st rfl rfl Go.Proofs.Try.sizeOf3 rfl rfl rfl rfl rfl (tc.wr.at0 3 1 (by omega)) ?_
        intro Ha Wa
        have hsa := Wa.size
        replace tc := tc.fr (Wa.fr' 1 rfl) (fun o _ h2 => nr (by omega))
        replace hc := Wa.keep1 hc (by omega)
        replace hFt := hFt.trans' Wa.fr (fun _ _ _ h => h) (fun b o _ h => by rw [h.1]; exact own)
        replace m6 := Wa.fr.rd m6 (fun _ _ => nr (.inl (by omega)))
        replace w6 := Wa.fr.wr w6
        have cnt5 : cl Ha tr 3 = some (.int .i64 ((l.length - 1 : Nat) : Int)) := Wa.at
        replace gE1 := gE1.fr Wa.fr (fun b o hb => nr (.inl (hbl6 b o hb)))
        refine ⟨trivial, ?_⟩
        refine Pl.fin [(0, _), (2, _), (3, _), (4, _), (5, _), (6, _), (37, _), (59, _)] ⟨rfl, rfl, rfl, rfl, rfl, rfl, rfl, rfl, trivial⟩ ?_
        refine Go'.seq ?_
        refine Go'.seq ?_
        by_cases hl1 : l.length - 1 = 0
        · skip
          -- region 12 (map.go:769)
          refine Go'.region [(0, 0), (1, 0), (2, 0), (3, 1), (4, 0)] rfl ?_
          refine O.mv rfl rfl rfl rfl rfl ?_
          refine O.nc rfl rfl rfl rfl rfl ?_
          refine O.fa0 (off := 3) rfl rfl rfl rfl ⟨_, _, _, Go.Proofs.Try.underlying140, rfl, rfl, Go.Proofs.Try.sizeOf3⟩ rfl ?_
          refine O.ld rfl rfl rfl (fun w => ⟨Go.Proofs.Try.isAgg3 w, Go.Proofs.Try.sizeOf3 w⟩) rfl cnt5 ?_
          refine O.cmp rfl rfl rfl rfl rfl rfl (eqlT (by omega)) ?_
          refine Pl.fin [(0, _), (2, _), (3, _), (4, _), (5, _), (6, _), (37, _), (59, _), (100, _)] ⟨rfl, rfl, rfl, rfl, rfl, rfl, rfl, rfl, rfl, trivial⟩ ?_
          refine Go'.condT rfl ?_
          -- region 13 (map.go:770)
          refine Go'.region [(0, 0), (1, 0), (2, 0), (3, 2)] rfl ?_
          refine O.mv rfl rfl rfl rfl rfl ?_
          refine O.nc rfl rfl rfl rfl rfl ?_
          refine O.fa0 (off := 2) rfl rfl rfl rfl ⟨_, _, _, Go.Proofs.Try.underlying140, rfl, rfl, Go.Proofs.Try.sizeOf135⟩ rfl ?_
          refine O.st rfl rfl Go.Proofs.Try.sizeOf135 rfl rfl rfl rfl rfl (tc.wr.at0 2 1 (by omega)) ?_
          intro Hb Wb
          have hsb := Wb.size
          replace tc := tc.fr (Wb.fr' 1 rfl) (fun o h1 _ => nr (by omega))
          replace cnt5 := Wb.keep1 cnt5 (by omega)
          replace hFt := hFt.trans' Wb.fr (fun _ _ _ h => h) (fun b o _ h => by rw [h.1]; exact own)
          replace m6 := Wb.fr.rd m6 (fun _ _ => nr (.inl (by omega)))
          replace w6 := Wb.fr.wr w6
          have hc6 : cl Hb tr 2 = some (.pointer none) := Wb.at
          refine ⟨trivial, ?_⟩
          refine Pl.fin [(0, _), (2, _), (3, _), (4, _), (5, _), (6, _), (37, _), (59, _), (100, _)] ⟨rfl, rfl, rfl, rfl, rfl, rfl, rfl, rfl, rfl, trivial⟩ ?_
          refine Go'.seq ?_
          -- region 14 (map.go:772)
          refine Go'.draw (fun _ => True) [(0, 0), (1, 1), (2, 1), (3, 1), (4, 0), (5, 2), (6, 0)] (by kernel_rfl) (by kernel_rfl) (trivial) ?_
          refine O.faz rfl rfl rfl rfl ⟨_, _, _, Go.Proofs.Try.underlying138, rfl, rfl, Go.Proofs.Try.sizeOf3⟩ rfl ?_
          refine O.ld rfl rfl rfl (fun w => ⟨Go.Proofs.Try.isAgg3 w, Go.Proofs.Try.sizeOf3 w⟩) rfl (m6 0 _ rfl) ?_
          refine O.fz1 rfl rfl rfl ty ⟨_, _, Go.Proofs.Try.underlying138, rfl, rfl, rfl, Go.Proofs.Try.sizeOf136⟩ rfl (w6) ?_
          refine O.lds rfl rfl rfl (fun w => ⟨Go.Proofs.Try.isAgg136 w, Go.Proofs.Try.sizeOf136 w⟩) rfl rfl (Rd.nil _ _ _) ?_
          refine O.asg rfl rfl rfl rfl rfl ?_
          refine O.st0 rfl rfl Go.Proofs.Try.sizeOf136 rfl rfl rfl trivial ?_
          refine O.asg rfl rfl rfl rfl rfl ?_
          refine Pl.fin [(0, _), (2, _), (3, _), (4, _), (5, _), (6, _), (37, _), (59, _), (100, _)] ⟨rfl, rfl, rfl, rfl, rfl, rfl, rfl, rfl, rfl, trivial⟩ ?_
          refine Go'.ret (vs := [_, _, _]) Go.Proofs.Try.func120 Go.Proofs.Try.results120 ⟨rfl, ⟨_, _, rfl, fun _ _ => run_loadVar_agg (fun w => ⟨Go.Proofs.Try.isAgg136 w, Go.Proofs.Try.sizeOf136 w⟩) rfl (Rd.nil _ _ _)⟩, rfl, trivial⟩ ?_
          unfold PopP
          rw [hpk]
          have e9 : l.length - 1 = (glue true nX2 R).length := by rw [hglen]; omega
          rw [e9] at cnt5
          have hsz9 := hFt.size
          exact ⟨rfl, fun b => S b ∨ (H.size ≤ b ∧ b < Hb.size), ⟨tc, hsrt1, cnt5, .inl own, fun b hb => hb.elim (fun h9 => by have := lt b h9; omega) (fun h9 => h9.2), .inl ⟨List.length_eq_zero_iff.1 (by rw [hglen]; omega), hc6⟩⟩, hFt, fun b hb => hb.imp id (fun h9 => h9.1)⟩
        · skip
          -- region 12 (map.go:769)
          refine Go'.region [(0, 0), (1, 0), (2, 0), (3, 1), (4, 0)] rfl ?_
          refine O.mv rfl rfl rfl rfl rfl ?_
          refine O.nc rfl rfl rfl rfl rfl ?_
          refine O.fa0 (off := 3) rfl rfl rfl rfl ⟨_, _, _, Go.Proofs.Try.underlying140, rfl, rfl, Go.Proofs.Try.sizeOf3⟩ rfl ?_
          refine O.ld rfl rfl rfl (fun w => ⟨Go.Proofs.Try.isAgg3 w, Go.Proofs.Try.sizeOf3 w⟩) rfl cnt5 ?_
          refine O.cmp rfl rfl rfl rfl rfl rfl (eqlF (by omega)) ?_
          refine Pl.fin [(0, _), (2, _), (3, _), (4, _), (5, _), (6, _), (37, _), (59, _), (100, _)] ⟨rfl, rfl, rfl, rfl, rfl, rfl, rfl, rfl, rfl, trivial⟩ ?_
          refine Go'.condF rfl ?_
          refine Go'.skip ?_
          refine Go'.seq ?_
          -- region 14 (map.go:772)
          refine Go'.draw (fun _ => True) [(0, 0), (1, 1), (2, 1), (3, 1), (4, 0), (5, 2), (6, 0)] (by kernel_rfl) (by kernel_rfl) (trivial) ?_
          refine O.faz rfl rfl rfl rfl ⟨_, _, _, Go.Proofs.Try.underlying138, rfl, rfl, Go.Proofs.Try.sizeOf3⟩ rfl ?_
          refine O.ld rfl rfl rfl (fun w => ⟨Go.Proofs.Try.isAgg3 w, Go.Proofs.Try.sizeOf3 w⟩) rfl (m6 0 _ rfl) ?_
          refine O.fz1 rfl rfl rfl ty ⟨_, _, Go.Proofs.Try.underlying138, rfl, rfl, rfl, Go.Proofs.Try.sizeOf136⟩ rfl (w6) ?_
          refine O.lds rfl rfl rfl (fun w => ⟨Go.Proofs.Try.isAgg136 w, Go.Proofs.Try.sizeOf136 w⟩) rfl rfl (Rd.nil _ _ _) ?_
          refine O.asg rfl rfl rfl rfl rfl ?_
          refine O.st0 rfl rfl Go.Proofs.Try.sizeOf136 rfl rfl rfl trivial ?_
          refine O.asg rfl rfl rfl rfl rfl ?_
          refine Pl.fin [(0, _), (2, _), (3, _), (4, _), (5, _), (6, _), (37, _), (59, _), (100, _)] ⟨rfl, rfl, rfl, rfl, rfl, rfl, rfl, rfl, rfl, trivial⟩ ?_
          refine Go'.ret (vs := [_, _, _]) Go.Proofs.Try.func120 Go.Proofs.Try.results120 ⟨rfl, ⟨_, _, rfl, fun _ _ => run_loadVar_agg (fun w => ⟨Go.Proofs.Try.isAgg136 w, Go.Proofs.Try.sizeOf136 w⟩) rfl (Rd.nil _ _ _)⟩, rfl, trivial⟩ ?_
          unfold PopP
          rw [hpk]
          have e9 : l.length - 1 = (glue true nX2 R).length := by rw [hglen]; omega
          rw [e9] at cnt5
          have hsz9 := hFt.size
          exact ⟨rfl, fun b => S b ∨ (H.size ≤ b ∧ b < Ha.size), ⟨tc, hsrt1, cnt5, .inl own, fun b hb => hb.elim (fun h9 => by have := lt b h9; omega) (fun h9 => h9.2), .inr ⟨h0, T, gE1, by
                rcases Nat.eq_zero_or_pos h0 with h9 | h9
                · rw [gE7 h9]
                  have h8 := gE5
                  subst h9
                  have : (Gt.L 0 T).length = (Gt.X 0 T).length := rfl
                  rw [gE7 rfl, gE5, hglen] at this
                  omega
                · rw [gE6 h9]; assumption, gE5, hc, hnt1, fun b o hb => (hown1 b o hb).imp id (fun h9 => ⟨h9.1, by omega⟩)⟩⟩, hFt, fun b hb => hb.imp id (fun h9 => h9.1)⟩
      · -- by Delete
        -- region 8 (map.go:763)
        refine Go'.draw (fun _ => True) [(0, 0), (1, 0), (2, 0), (3, 1), (4, 0), (5, 0), (6, 0), (7, 0), (8, 1), (9, 0)] (by kernel_rfl) (by kernel_rfl) (trivial) ?_
        refine O.mv rfl rfl rfl rfl rfl ?_
        refine O.nc rfl rfl rfl rfl rfl ?_
        refine O.fa0 (off := 2) rfl rfl rfl rfl ⟨_, _, _, Go.Proofs.Try.underlying205, rfl, rfl, Go.Proofs.Try.sizeOf202⟩ rfl ?_
        refine O.ld rfl rfl rfl (fun w => ⟨Go.Proofs.Try.isAgg202 w, Go.Proofs.Try.sizeOf202 w⟩) rfl (show cl _ np 2 = some (.slice (some ⟨nib, nio, none⟩) X.length nic) from hn.c2) ?_
        refine O.len rfl rfl rfl rfl Go.Proofs.Try.underlying202 rfl ?_
        refine O.mv rfl rfl rfl rfl rfl ?_
        refine O.nc rfl rfl rfl rfl rfl ?_
        refine O.fa0 (off := 5) rfl rfl rfl rfl ⟨_, _, _, Go.Proofs.Try.underlying140, rfl, rfl, Go.Proofs.Try.sizeOf3⟩ rfl ?_
        refine O.ld rfl rfl rfl (fun w => ⟨Go.Proofs.Try.isAgg3 w, Go.Proofs.Try.sizeOf3 w⟩) rfl tc.mn' ?_
        refine O.cmp rfl rfl rfl rfl rfl rfl (eqlT (by omega)) ?_
        refine Pl.fin [(0, _), (2, _), (3, _), (4, _), (5, _), (6, _), (37, _), (59, _)] ⟨rfl, rfl, rfl, rfl, rfl, rfl, rfl, rfl, trivial⟩ ?_
        refine Go'.condT rfl ?_
        refine Go'.exit rfl ?_
        refine Go'.seq ?_
        have hFb : Fr (fun b o => (o = 1 ∧ Gt.sp true h0 t0 b) ∨ b = b6) H1 H12 := hs.fr.trans' hF2 (fun b o _ hz => .inl ⟨hz.1, (hs.all b).2 (.inl hz.2)⟩) (fun b o _ hz => by
          rcases hz with hz | hz
          · exact .inl ⟨hz.1, hz.2 ▸ (hs.all np).2 (.inr rfl)⟩
          · exact .inr hz)
        have hvb : ∀ q, Gt.sp true h0 t0 q → cl H12 q 1 = some (.int .i64 ((cnOf H1 q - 1 : Nat) : Int)) := fun q hq => by
          rcases (hs.all q).1 hq with hd | hd
          · exact hF2.keep (hs.val q hd) (fun hz => by
              rcases hz with ⟨_, rfl⟩ | rfl
              · exact hs.off q hd (.inl ⟨rfl, by omega⟩)
              · exact hb6n 1 (Gt.sp_af hq 1 (by omega)))
          · have hd' : q = np := hd
            subst hd'
            have hcn' : cnOf H1 q = ncnt := by rw [hcntX]; exact hcn
            rw [hcn', ← encnt_11]
            exact hn.c1
        have hs2 := Sp2.start (δ := (fun n => n - 1)) hg1 hFb hb6n hvb hx0
        have hszb := hFb.size
        have hxy : (bif true then X = X.take (X.length - 1) ++ [y] else X = y :: X.drop (0 + 1)) := by exact Pl.last_split hy
        clear ih
        -- region 16 (map.go:777)
        refine Go'.region [(0, 0), (1, 0), (2, 0), (3, 1), (4, 0)] rfl ?_
        refine O.mv rfl rfl rfl rfl rfl ?_
        refine O.nc rfl rfl rfl rfl rfl ?_
        refine O.fa0 (off := 2) rfl rfl rfl rfl ⟨_, _, _, Go.Proofs.Try.underlying140, rfl, rfl, Go.Proofs.Try.sizeOf135⟩ rfl ?_
        refine O.ld rfl rfl rfl (fun w => ⟨Go.Proofs.Try.isAgg135 w, Go.Proofs.Try.sizeOf135 w⟩) rfl (show cl _ tr 2 = some (.pointer (some ⟨Gt.p h0 t0, 0, none⟩)) from hc) ?_
        refine O.asg rfl rfl rfl rfl rfl ?_
        refine Pl.fin [(0, _), (2, _), (3, _), (4, _), (5, _), (6, _)] ⟨rfl, rfl, rfl, rfl, rfl, rfl, trivial⟩ ?_
        refine Go'.seq ?_
        refine Go'.block ?_
        refine Go'.loop ?_
        refine Go'.keep [(0, _), (2, _), (3, _), (4, _), (5, _), (6, _)] ⟨rfl, rfl, rfl, rfl, rfl, rfl, trivial⟩ ?_
        refine Go'.ind (σ := (h : Nat) × Gt EI h) (fun s => s.1) (fun s H' => ∃ D, Sp2 H1 H' P true (fun n => n - 1) h0 t0 b6 D s.1 s.2 ∧ Fr (fun b o => o = 1 ∧ Gt.sp true h0 t0 b) H12 H')
          (fun s => [(0, .pointer (some ⟨tr, 0, none⟩)), (2, .int .i64 0), (3, .pointer (some ⟨z0, 0, none⟩)), (4, .bool false), (5, .pointer (some ⟨Gt.p s.1 s.2, 0, none⟩)), (6, .pointer (some ⟨b6, 0, none⟩))]) ⟨h0, t0⟩ ⟨_, hs2, Fr.refl _ _⟩ rfl ?_
        rintro ⟨h, t⟩ H3 ⟨D2, hs3, hf3⟩ ih
        simp only at hs3
        have hcc3 := hs3.val2 _ (Gt.sp_p true)
        have hcn3 := (hs3.g.cnOf).2
        have hle3 := hs3.le
        rw [e] at hle3
        refine Go'.block ?_
        refine Go'.seq ?_
        have hpos : 1 ≤ (Gt.L h t).length := hs3.pos
        rcases h with _ | h
        rotate_left
        · -- further down
          obtain ⟨g, X3, K⟩ := t
          have hKl : K.length = X3.length + 1 := hs3.g.2.2.2.2.2.1
          obtain ⟨k, hk⟩ : ∃ k, K[cix true K.length]? = some k := ⟨K[cix true K.length]'(cix_lt (by omega)), List.getElem?_eq_getElem (cix_lt (by omega))⟩
          replace hcn3 : cnOf H1 g.p = (Gt.L (h + 1) ((g, X3, K) : Gt EI (h + 1))).length := hcn3
          obtain ⟨i1, i2, i3⟩ := hs3.inner (t := (g, X3, K)) hk
          have hwr3 := hs3.fr.wr hs3.g.1.wr
          have hx3 : X3.length ≤ P.mx := hs3.g.2.2.2.2.1
          -- region 17 (map.go:779)
          refine Go'.region [(0, 0), (1, 0), (2, 0), (3, 1), (4, 0), (5, 0), (6, 0), (7, 2)] rfl ?_
          refine O.mv rfl rfl rfl rfl rfl ?_
          refine O.nc rfl rfl rfl rfl rfl ?_
          refine O.fa0 (off := 1) rfl rfl rfl rfl ⟨_, _, _, Go.Proofs.Try.underlying205, rfl, rfl, Go.Proofs.Try.sizeOf3⟩ rfl ?_
          refine O.ld rfl rfl rfl (fun w => ⟨Go.Proofs.Try.isAgg3 w, Go.Proofs.Try.sizeOf3 w⟩) rfl (show cl _ g.p 1 = some (.int .i64 ((cnOf H1 g.p - 1 : Nat) : Int)) from hcc3) ?_
          refine O.add (((((cnOf H1 g.p - 1)) + 1 : Nat) : Int)) rfl rfl rfl rfl rfl rfl (by omega) (by omega) ?_
          refine O.nc rfl rfl rfl rfl rfl ?_
          refine O.fa0 (off := 1) rfl rfl rfl rfl ⟨_, _, _, Go.Proofs.Try.underlying205, rfl, rfl, Go.Proofs.Try.sizeOf3⟩ rfl ?_
          refine O.st rfl rfl Go.Proofs.Try.sizeOf3 rfl rfl rfl rfl rfl (hwr3.at0 1 1 (by omega)) ?_
          intro H4 W4
          have ecn : cnOf H1 g.p - 1 + 1 = cnOf H1 g.p := by omega
          rw [ecn] at W4
          have hs4 := hs3.step (t := (g, X3, K)) hh1 hk W4
          have hf4 : Fr (fun b o => o = 1 ∧ Gt.sp true h0 t0 b) H12 H4 := hf3.trans' W4.fr (fun _ _ _ h => h) (fun b o _ hz => by
            have h1 := hz.1; have h2 := hz.2.1; have h3 := hz.2.2
            simp only [List.length_cons, List.length_nil] at h3
            exact ⟨by omega, h1 ▸ (hs3.all _).2 (.inr (.inl rfl))⟩)
          have hKM := hs3.g.2.1
          replace i1 := W4.keep1 i1 (by simp only; omega)
          replace i2 := W4.fr.keep i2 (nr (.inl (Ne.symm hKM.n2)))
          replace i3 := W4.fr.keep i3 (nr (.inl (Ne.symm hKM.n3)))
          refine ⟨trivial, ?_⟩
          refine Pl.fin [(0, _), (2, _), (3, _), (4, _), (5, _), (6, _)] ⟨rfl, rfl, rfl, rfl, rfl, rfl, trivial⟩ ?_
          refine Go'.seq ?_
          refine Go'.seq ?_
          -- region 18 (map.go:780)
          refine Go'.region [(0, 0), (1, 2)] rfl ?_
          refine O.mv rfl rfl rfl rfl rfl ?_
          refine O.callQ rfl rfl rfl Go.Proofs.Try.call152 rfl (leaf_spec i1) trivial ?_
          refine Pl.fin [(0, _), (2, _), (3, _), (4, _), (5, _), (6, _), (137, _)] ⟨rfl, rfl, rfl, rfl, rfl, rfl, rfl, trivial⟩ ?_
          refine Go'.condF rfl ?_
          refine Go'.skip ?_
          -- region 19 (map.go:783)
          refine Go'.draw (fun _ => True) [(0, 0), (1, 0), (2, 0), (3, 1), (4, 0), (5, 1), (6, 0), (7, 0), (8, 0), (9, 1), (10, 0), (11, 1), (12, 0), (13, 0), (14, 0), (15, 1), (16, 0)] (by kernel_rfl) (by kernel_rfl) (trivial) ?_
          refine O.mv rfl rfl rfl rfl rfl ?_
          refine O.nc rfl rfl rfl rfl rfl ?_
          refine O.fa0 (off := 3) rfl rfl rfl rfl ⟨_, _, _, Go.Proofs.Try.underlying205, rfl, rfl, Go.Proofs.Try.sizeOf203⟩ rfl ?_
          refine O.ld rfl rfl rfl (fun w => ⟨Go.Proofs.Try.isAgg203 w, Go.Proofs.Try.sizeOf203 w⟩) rfl (show cl _ g.p 3 = some (.pointer (some ⟨g.cb, 0, none⟩)) from i1) ?_
          refine O.nc rfl rfl rfl rfl rfl ?_
          refine O.ld rfl rfl rfl (fun w => ⟨Go.Proofs.Try.isAgg206 w, Go.Proofs.Try.sizeOf206 w⟩) rfl (show cl _ g.cb 0 = some (.slice (some ⟨g.kb, g.ko, none⟩) K.length g.kc) from i2) ?_
          refine O.mv rfl rfl rfl rfl rfl ?_
          refine O.nc rfl rfl rfl rfl rfl ?_
          refine O.fa0 (off := 3) rfl rfl rfl rfl ⟨_, _, _, Go.Proofs.Try.underlying205, rfl, rfl, Go.Proofs.Try.sizeOf203⟩ rfl ?_
          refine O.ld rfl rfl rfl (fun w => ⟨Go.Proofs.Try.isAgg203 w, Go.Proofs.Try.sizeOf203 w⟩) rfl (show cl _ g.p 3 = some (.pointer (some ⟨g.cb, 0, none⟩)) from i1) ?_
          refine O.nc rfl rfl rfl rfl rfl ?_
          refine O.ld rfl rfl rfl (fun w => ⟨Go.Proofs.Try.isAgg206 w, Go.Proofs.Try.sizeOf206 w⟩) rfl (show cl _ g.cb 0 = some (.slice (some ⟨g.kb, g.ko, none⟩) K.length g.kc) from i2) ?_
          refine O.len rfl rfl rfl rfl Go.Proofs.Try.underlying206 rfl ?_
          refine O.sub (((K.length - 1 : Nat) : Int)) rfl rfl rfl rfl rfl rfl (by omega) (by omega) ?_
          refine O.ix (j := K.length - 1) rfl rfl rfl rfl Go.Proofs.Try.underlying206 Go.Proofs.Try.sizeOf135 rfl rfl (by omega) (by omega) ?_
          refine O.ld rfl rfl rfl (fun w => ⟨Go.Proofs.Try.isAgg135 w, Go.Proofs.Try.sizeOf135 w⟩) rfl i3 ?_
          refine O.asg rfl rfl rfl rfl rfl ?_
          refine Pl.fin [(0, _), (2, _), (3, _), (4, _), (5, _), (6, _), (137, _)] ⟨rfl, rfl, rfl, rfl, rfl, rfl, rfl, trivial⟩ ?_
          refine Go'.inBlock ?_
          refine Go'.keep [(0, _), (2, _), (3, _), (4, _), (5, _), (6, _)] ⟨rfl, rfl, rfl, rfl, rfl, rfl, trivial⟩ ?_
          refine Go'.inLoop ?_
          exact ih ⟨h, k⟩ H4 ⟨_, hs4, hf4⟩ (by simp only; omega)
        · -- the leaf again
          obtain ⟨g, X3⟩ := t
          replace hcn3 : cnOf H1 g.p = (Gt.L 0 ((g, X3) : Gt EI 0)).length := hcn3
          have hwr3 := hs3.fr.wr hs3.g.1.wr
          have hc3l : cl H3 g.p 3 = some (.pointer none) := hs3.fr.keep hs3.g.1.c3 (fun hz => hz.elim (fun h => by omega) (fun h => hs3.nb 3 (hs3.sub b6 3 (show ncl EI g b6 3 from .inl ⟨h.symm, by omega⟩))))
          -- region 17 (map.go:779)
          refine Go'.region [(0, 0), (1, 0), (2, 0), (3, 1), (4, 0), (5, 0), (6, 0), (7, 2)] rfl ?_
          refine O.mv rfl rfl rfl rfl rfl ?_
          refine O.nc rfl rfl rfl rfl rfl ?_
          refine O.fa0 (off := 1) rfl rfl rfl rfl ⟨_, _, _, Go.Proofs.Try.underlying205, rfl, rfl, Go.Proofs.Try.sizeOf3⟩ rfl ?_
          refine O.ld rfl rfl rfl (fun w => ⟨Go.Proofs.Try.isAgg3 w, Go.Proofs.Try.sizeOf3 w⟩) rfl (show cl _ g.p 1 = some (.int .i64 ((cnOf H1 g.p - 1 : Nat) : Int)) from hcc3) ?_
          refine O.add (((((cnOf H1 g.p - 1)) + 1 : Nat) : Int)) rfl rfl rfl rfl rfl rfl (by omega) (by omega) ?_
          refine O.nc rfl rfl rfl rfl rfl ?_
          refine O.fa0 (off := 1) rfl rfl rfl rfl ⟨_, _, _, Go.Proofs.Try.underlying205, rfl, rfl, Go.Proofs.Try.sizeOf3⟩ rfl ?_
          refine O.st rfl rfl Go.Proofs.Try.sizeOf3 rfl rfl rfl rfl rfl (hwr3.at0 1 1 (by omega)) ?_
          intro H4 W4
          have ecn : cnOf H1 g.p - 1 + 1 = cnOf H1 g.p := by omega
          rw [ecn] at W4
          have hgB := hs3.fin (t := (g, X3)) hg1 W4
          have hf4 : Fr (fun b o => o = 1 ∧ Gt.sp true h0 t0 b) H12 H4 := hf3.trans' W4.fr (fun _ _ _ h => h) (fun b o _ hz => by
            have h1 := hz.1; have h2 := hz.2.1; have h3 := hz.2.2
            simp only [List.length_cons, List.length_nil] at h3
            exact ⟨by omega, h1 ▸ (hs3.all _).2 (.inr rfl)⟩)
          have hst : ∀ o, ¬ (o = 1 ∧ Gt.sp true h0 t0 tr) := fun o hz => hnt 1 (Gt.sp_af hz.2 1 (by omega))
          replace hc3l := W4.keep1 hc3l (by omega)
          replace tc := tc.fr hf4 (fun o _ _ => hst o)
          replace cnt := hf4.keep cnt (hst _)
          replace hc := hf4.keep hc (hst _)
          replace m6 := hf4.rd m6 (fun i _ hz => hb6n 1 (Gt.sp_af hz.2 1 (by omega)))
          replace w6 := hf4.wr w6
          have hFB : Fr (fun b _ => S b) H H4 := hF1.trans' (hFb.trans' hf4 (Z := fun b o => (o = 1 ∧ Gt.sp true h0 t0 b) ∨ b = b6) (fun _ _ _ h => h) (fun _ _ _ h => .inl h)) (fun _ _ _ h => h.elim) (fun b o hb hz => by
            rcases hz with ⟨ho, hz⟩ | hz
            · exact hown b o (ho ▸ Gt.sp_af hz 1 (by omega))
            · omega)
          have hszB := hFB.size
          have hMB : MapM H4 tr P S l := ⟨tc, srt, cnt, own, fun b hb => by have := lt b hb; omega, .inr ⟨h0, t0, hgB, hx0, e, hc, hnt, hown⟩⟩
          refine ⟨trivial, ?_⟩
          refine Pl.fin [(0, _), (2, _), (3, _), (4, _), (5, _), (6, _)] ⟨rfl, rfl, rfl, rfl, rfl, rfl, trivial⟩ ?_
          refine Go'.seq ?_
          refine Go'.seq ?_
          -- region 18 (map.go:780)
          refine Go'.region [(0, 0), (1, 2)] rfl ?_
          refine O.mv rfl rfl rfl rfl rfl ?_
          refine O.callQ rfl rfl rfl Go.Proofs.Try.call152 rfl (leaf_spec hc3l) trivial ?_
          refine Pl.fin [(0, _), (2, _), (3, _), (4, _), (5, _), (6, _), (137, _)] ⟨rfl, rfl, rfl, rfl, rfl, rfl, rfl, trivial⟩ ?_
          refine Go'.condT rfl ?_
          refine Go'.exit rfl ?_
          refine Go'.seq ?_
          have hgl : ∃ R, l = glue true X R := hs.glue hg1 e hlf
          obtain ⟨R, hR⟩ := hgl
          have hpk := popk_glue (d := true) (X := X) (X' := X.take (X.length - 1)) (y := y) (R := R) hxy
          rw [← hR] at hpk
          have hgot : Pl.got OI y l = some y ∧ Pl.fnd OI y l = true ∧ Pl.del OI y l = (Pl.popk l true).1 := by
            rw [hpk]
            have hs9 := srt
            rw [hR] at hs9 ⊢
            have hxy' : X = X.take (X.length - 1) ++ [y] := hxy
            have e9 : glue true X R = (R ++ X.take (X.length - 1)) ++ [y] := by
              show R ++ X = _
              conv => lhs; rw [hxy']
              simp
            rw [e9] at hs9 ⊢
            exact Pl.got_last OI hs9
          have hb6S : ∀ b, S b → b ≠ b6 := fun b hb e2 => by have := lt b hb; omega
          -- region 20 (map.go:785)
          refine Go'.region [(0, 0), (1, 0), (2, 1), (3, 2), (4, 0), (5, 0), (6, 0), (7, 2), (8, 2), (9, 0)] rfl ?_
          refine O.mv rfl rfl rfl rfl rfl ?_
          refine O.faz rfl rfl rfl rfl ⟨_, _, _, Go.Proofs.Try.underlying138, rfl, rfl, Go.Proofs.Try.sizeOf3⟩ rfl ?_
          refine O.ld rfl rfl rfl (fun w => ⟨Go.Proofs.Try.isAgg3 w, Go.Proofs.Try.sizeOf3 w⟩) rfl (m6 0 _ rfl) ?_
          refine O.call rfl rfl rfl Go.Proofs.Try.call142 rfl (mdel_spec hP (x := y) hMB hlen) ?_
          rintro _ H5 ⟨rfl, S', hM5, hF5, hS5⟩
          rw [hgot.1, hgot.2.1]
          rw [hgot.2.2] at hM5
          replace m6 := hF5.rd m6 (fun i _ hz => hb6S _ hz rfl)
          replace w6 := hF5.wr w6
          refine ⟨trivial, ?_⟩
          refine O.mv rfl rfl rfl rfl rfl ?_
          refine O.ext rfl rfl rfl rfl rfl rfl ?_
          refine O.ext rfl rfl rfl rfl rfl rfl ?_
          refine O.alloc rfl rfl rfl Go.Proofs.Try.zeroValue136 ?_
          intro H6 M6
          refine ⟨trivial, ?_⟩
          replace hM5 := hM5.fr (M6.fr nowhere) (fun _ _ _ => nw)
          replace m6 := (M6.fr nowhere).rd m6 (fun _ _ => nw)
          replace w6 := (M6.fr nowhere).wr w6
          replace hF5 := hF5.trans' (M6.fr nowhere) (fun _ _ _ h => h) (fun _ _ _ h => h.elim)
          refine O.st0 rfl rfl Go.Proofs.Try.sizeOf136 rfl rfl rfl trivial ?_
          refine O.asg rfl rfl rfl rfl rfl ?_
          refine Pl.fin [(0, _), (2, _), (3, _), (4, _), (6, _), (7, _), (8, _)] ⟨rfl, rfl, rfl, rfl, rfl, rfl, rfl, trivial⟩ ?_
          refine Go'.seq ?_
          refine Go'.seq ?_
          -- region 21 (map.go:786)
          refine Go'.region [(0, 0)] rfl ?_
          refine O.mv rfl rfl rfl rfl rfl ?_
          refine Pl.fin [(0, _), (2, _), (3, _), (4, _), (6, _), (7, _), (161, _)] ⟨rfl, rfl, rfl, rfl, rfl, rfl, rfl, trivial⟩ ?_
          refine Go'.condT rfl ?_
          refine Go'.seq ?_
          -- region 22 (map.go:787)
          refine Go'.draw (fun _ => True) [(0, 0), (1, 1), (2, 1), (3, 0), (4, 2), (5, 0)] (by kernel_rfl) (by kernel_rfl) (trivial) ?_
          refine O.faz rfl rfl rfl rfl ⟨_, _, _, Go.Proofs.Try.underlying138, rfl, rfl, Go.Proofs.Try.sizeOf3⟩ rfl ?_
          refine O.ld rfl rfl rfl (fun w => ⟨Go.Proofs.Try.isAgg3 w, Go.Proofs.Try.sizeOf3 w⟩) rfl (m6 0 _ rfl) ?_
          refine O.lds rfl rfl rfl (fun w => ⟨Go.Proofs.Try.isAgg136 w, Go.Proofs.Try.sizeOf136 w⟩) rfl rfl (Rd.nil _ _ _) ?_
          refine O.asg rfl rfl rfl rfl rfl ?_
          refine O.st0 rfl rfl Go.Proofs.Try.sizeOf136 rfl rfl rfl trivial ?_
          refine O.asg rfl rfl rfl rfl rfl ?_
          refine Pl.fin [(0, _), (2, _), (3, _), (4, _)] ⟨rfl, rfl, rfl, rfl, trivial⟩ ?_
          refine Go'.ret (vs := [_, _, _]) Go.Proofs.Try.func120 Go.Proofs.Try.results120 ⟨rfl, ⟨_, _, rfl, fun _ _ => run_loadVar_agg (fun w => ⟨Go.Proofs.Try.isAgg136 w, Go.Proofs.Try.sizeOf136 w⟩) rfl (Rd.nil _ _ _)⟩, rfl, trivial⟩ ?_
          unfold PopP
          refine ⟨by rw [hpk]; rfl, S', hM5, hFB.trans' hF5 (fun _ _ _ h => h) (fun _ _ _ h => h), fun b hb => (hS5 b hb).imp id (fun h => by omega)⟩

end Go.Bt.FZ
