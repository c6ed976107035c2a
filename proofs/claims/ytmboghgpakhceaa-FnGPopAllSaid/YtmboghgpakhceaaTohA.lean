/- Contracts of functions of the program, proved by walking through their code. Conditions: those that each theorem names. -/
import Derived.Test.YtmboghgpakhceaaProg
import Derived.Test.YtmboghgpakhceaaToiO
import Derived.Test.YtmboghgpakhceaaTogK
import Derived.Test.YtmboghgpakhceaaToSo
import Derived.Test.YtmboghgpakhceaaToAe
import Derived.Test.YtmboghgpakhceaaToKs
namespace Go.Bt.FG
open Go Go.Proofs
set_option maxRecDepth 20000
set_option maxHeartbeats 4000000
set_option linter.unusedVariables false
set_option linter.unusedSectionVars false

section
variable [Inhabited Cx]


theorem popMax_spec {B : World} {H : Mem} {tr : Nat} {P : Ps} (hP : PsOk P) {S : Nat → Prop} {l : List (Int × Int)} (hM : MapM H tr P S l) (hlen : l.length < 2305843009213693952) :
    Fn Try.prog B 114 [.pointer (some ⟨tr, 0, none⟩)] H (PopP H tr P S l true) := by
  have hSlt := hM.lt
  have hb00 := hM.tc.hb
  have htb := hM.tc.tb
  refine fn_of Try.func114 rfl Try.ntmps114 ?_
  refine (show Go' _ _ _ _ 150 [(0, _)] [.code _] _ from ?_)
  refine Go'.seq ?_
  -- region 0 (btreeg.go:1314)
  refine Go'.region [(0, 2), (1, 0)] rfl ?_
  refine O.alloc rfl rfl rfl Try.zeroValue27 ?_
  intro H0 M0
  refine ⟨trivial, ?_⟩
  have hR0 := M0.fr nowhere
  replace hM := hM.fr hR0 (fun _ _ _ => nw)
  have wz : Wr H0 H.size 0 2 := M0.wr 2 (by decide)
  have hs0 := M0.size
  refine O.asg rfl rfl rfl rfl rfl ?_
  refine Pl.fin [(0, _), (2, _), (3, _)] ⟨rfl, rfl, rfl, trivial⟩ ?_
  refine Go'.seq ?_
  refine Go'.seq ?_
  refine Go'.mono (Q := PopZ H0 tr P S H.size l true) (fun v H' hq => PopZ.out hR0 hSlt hq) ?_
  have hzS : ∀ b, S b → b ≠ H.size := fun b hb e => by have := hSlt b hb; omega
  have hzb : cx.base ≤ H.size := hb00
  have hzl : H.size < H0.size := by omega
  clear hR0 hSlt hb00 hs0 M0
  generalize H.size = zr at *
  clear H
  rename Mem => H
  -- region 1 (btreeg.go:1315)
  refine Go'.region [(0, 0), (1, 2)] rfl ?_
  refine O.mv rfl rfl rfl rfl rfl ?_
  refine O.callQ rfl rfl rfl Try.call128 rfl lock_spec trivial ?_
  refine Pl.fin [(0, _), (2, _), (3, _), (7, _)] ⟨rfl, rfl, rfl, rfl, trivial⟩ ?_
  refine Go'.condF rfl ?_
  refine Go'.skip ?_
  refine Go'.seq ?_
  refine Go'.seq ?_
  have hM0 := hM
  have hh1 := hP.h1
  have hmm := hP.hm
  obtain ⟨tc, srt, cnt, own, lt, bs, hr⟩ := hM
  have htl : cx.base ≤ H.size := tc.hb
  rcases hr with ⟨rfl, hptr⟩ | ⟨h0, t0, hg, hx0, e, hc, hnt, hown⟩
  · -- none at all
    -- region 3 (btreeg.go:1318)
    refine Go'.region [(0, 0), (1, 0), (2, 0), (3, 1), (4, 0)] rfl ?_
    refine O.mv rfl rfl rfl rfl rfl ?_
    refine O.nc rfl rfl rfl rfl rfl ?_
    refine O.fa0 (off := 2) rfl rfl rfl rfl ⟨_, _, _, Try.underlying158, rfl, rfl, Try.sizeOf129⟩ rfl ?_
    refine O.ld rfl rfl rfl (fun w => ⟨Try.isAgg129 w, Try.sizeOf129 w⟩) rfl hptr ?_
    refine O.isNil rfl rfl rfl rfl Try.underlying129 rfl rfl ?_
    refine Pl.fin [(0, _), (2, _), (3, _), (13, _)] ⟨rfl, rfl, rfl, rfl, trivial⟩ ?_
    refine Go'.condT rfl ?_
    refine Go'.seq ?_
    -- region 4 (btreeg.go:1319)
    refine Go'.region [(0, 0), (1, 0), (2, 0), (3, 1), (4, 2), (5, 0)] rfl ?_
    refine O.mv rfl rfl rfl rfl rfl ?_
    refine O.nc rfl rfl rfl rfl rfl ?_
    refine O.fa0 (off := 7) rfl rfl rfl rfl ⟨_, _, _, Try.underlying158, rfl, rfl, Try.sizeOf27⟩ rfl ?_
    refine O.lds rfl rfl rfl (fun w => ⟨Try.isAgg27 w, Try.sizeOf27 w⟩) rfl rfl tc.emp ?_
    refine O.st (vs := (EJ.enc (0, 0))) rfl rfl Try.sizeOf27 rfl rfl rfl rfl rfl wz ?_
    intro Hz Wz
    refine ⟨trivial, ?_⟩
    refine O.asg rfl rfl rfl rfl rfl ?_
    refine Pl.fin [(0, _), (2, _), (3, _)] ⟨rfl, rfl, rfl, trivial⟩ ?_
    refine Go'.ret (vs := [_, _]) Try.func114 Try.results114 ⟨⟨_, _, rfl, fun _ _ => run_loadVar_agg (fun w => ⟨Try.isAgg27 w, Try.sizeOf27 w⟩) rfl Wz.all⟩, rfl, trivial⟩ ?_
    exact ⟨rfl, S, hM0.zr hzb hzS Wz, Wz.fr.mono (fun b o _ h => .inr h.1), fun b hb => .inl hb⟩
  · -- a tree
    -- region 3 (btreeg.go:1318)
    refine Go'.region [(0, 0), (1, 0), (2, 0), (3, 1), (4, 0)] rfl ?_
    refine O.mv rfl rfl rfl rfl rfl ?_
    refine O.nc rfl rfl rfl rfl rfl ?_
    refine O.fa0 (off := 2) rfl rfl rfl rfl ⟨_, _, _, Try.underlying158, rfl, rfl, Try.sizeOf129⟩ rfl ?_
    refine O.ld rfl rfl rfl (fun w => ⟨Try.isAgg129 w, Try.sizeOf129 w⟩) rfl (show cl _ tr 2 = some (.pointer (some ⟨Gt.p h0 t0, 0, none⟩)) from hc) ?_
    refine O.isNil rfl rfl rfl rfl Try.underlying129 rfl rfl ?_
    refine Pl.fin [(0, _), (2, _), (3, _), (13, _)] ⟨rfl, rfl, rfl, rfl, trivial⟩ ?_
    refine Go'.condF rfl ?_
    refine Go'.skip ?_
    refine Go'.seq ?_
    obtain ⟨kp0, hn0⟩ := hg.node
    have hiso0 := hn0.c0
    rw [hg.isoe] at hiso0
    -- region 5 (btreeg.go:1321)
    refine Go'.region [(0, 0), (1, 0), (2, 0), (3, 0), (4, 2), (5, 0)] rfl ?_
    refine O.mv rfl rfl rfl rfl rfl ?_
    refine O.mv rfl rfl rfl rfl rfl ?_
    refine O.nc rfl rfl rfl rfl rfl ?_
    refine O.fa0 (off := 2) rfl rfl rfl rfl ⟨_, _, _, Try.underlying158, rfl, rfl, Try.sizeOf129⟩ rfl ?_
    refine O.callQ rfl rfl rfl Try.call130 rfl (isoLoad_spec true hc hiso0 tc.iso) trivial ?_
    refine O.asg rfl rfl rfl rfl rfl ?_
    refine Pl.fin [(0, _), (2, _), (3, _), (4, _)] ⟨rfl, rfl, rfl, rfl, trivial⟩ ?_
    refine Go'.seq ?_
    -- region 6 (btreeg.go:1322)
    refine Go'.region [(0, 2)] rfl ?_
    refine O.alloc rfl rfl rfl Try.zeroValue27 ?_
    intro H1 M1
    refine ⟨trivial, ?_⟩
    have hs1 := M1.size
    have hg1 := hg.fr (M1.fr nowhere) (fun _ _ _ => nw)
    replace tc := tc.fr (M1.fr nowhere) (fun _ _ _ _ => nw)
    replace cnt := M1.keep cnt
    replace hc := M1.keep hc
    have w6 : Wr H1 H.size 0 2 := M1.wr 2 (by decide)
    have hb6n : ∀ o, ¬ Gt.af h0 t0 H.size o := fun o hb => by have := hg.lt hb; omega
    have hF1 := M1.fr nowhere
    have hb6 : H.size < H1.size := by omega
    generalize hb6e : H.size = b6 at *
    clear M1 hn0 hiso0 hg
    have hlt0 : ∀ b o, Gt.af h0 t0 b o → b < H1.size := fun b o hb => hg1.lt hb
    refine Pl.fin [(0, _), (2, _), (3, _), (4, _), (5, _)] ⟨rfl, rfl, rfl, rfl, rfl, trivial⟩ ?_
    refine Go'.seq ?_
    refine Go'.block ?_
    refine Go'.loop ?_
    refine Go'.keep [(0, _), (2, _), (3, _), (4, _), (5, _)] ⟨rfl, rfl, rfl, rfl, rfl, trivial⟩ ?_
    refine Go'.ind (σ := (h : Nat) × Gt EJ h) (fun s => s.1) (fun s H' => (∃ D, Spn H1 H' P true (fun n => n - 1) h0 t0 D s.1 s.2) ∧ Wr H' b6 0 2)
      (fun s => [(0, .pointer (some ⟨tr, 0, none⟩)), (2, .pointer (some ⟨zr, 0, none⟩)), (3, .bool false), (4, .pointer (some ⟨Gt.p s.1 s.2, 0, none⟩)), (5, .pointer (some ⟨b6, 0, none⟩))]) ⟨h0, t0⟩ ⟨⟨_, Spn.start hg1 hx0⟩, w6⟩ rfl ?_
    clear w6
    rintro ⟨h, t⟩ H2 ⟨⟨D, hs⟩, w6⟩ ih
    simp only at hs
    have hDt : ∀ b, b < cx.base → ¬ D b := fun b e2 hd => by have := hnt b 1 (Gt.sp_af ((hs.all b).2 (.inl hd)) 1 (by omega)); omega
    have tc2 := tc.fr hs.fr (fun b o hb _ hz => hDt b hb.1 hz.2)
    have cnt2 := hs.fr.keep cnt (fun hz => hDt tr htb hz.2)
    have hc2 := hs.fr.keep hc (fun hz => hDt tr htb hz.2)
    have hsz2 := hs.fr.size
    have hnow := hs.now
    have hle := hs.le
    have hcn := (hs.g.cnOf).2
    have hne := hs.g.ne hs.x1
    have hcc := hs.cnt
    rw [e] at hle
    refine Go'.block ?_
    refine Go'.seq ?_
    rcases h with _ | h
    rotate_left
    · -- further down
      obtain ⟨g, X, K⟩ := t
      have hI := hnow.inn
      have hKl : K.length = X.length + 1 := hnow.2.2.2.2.2.1
      obtain ⟨k, hk⟩ : ∃ k, K[cix true K.length]? = some k := ⟨K[cix true K.length]'(cix_lt (by omega)), List.getElem?_eq_getElem (cix_lt (by omega))⟩
      have hkK := List.mem_of_getElem? hk
      have hx255 := hnow.2.2.2.2.1
      have hP255 := hP.hx
      replace hx255 : X.length ≤ P.mx := hx255
      replace hcn : cnOf H1 g.p = (Gt.L (h + 1) ((g, X, K) : Gt EJ (h + 1))).length := hcn
      -- region 7 (btreeg.go:1324)
      refine Go'.region [(0, 0), (1, 0), (2, 0), (3, 1), (4, 0), (5, 0), (6, 0), (7, 2)] rfl ?_
      refine O.mv rfl rfl rfl rfl rfl ?_
      refine O.nc rfl rfl rfl rfl rfl ?_
      refine O.fa0 (off := 1) rfl rfl rfl rfl ⟨_, _, _, Try.underlying168, rfl, rfl, Try.sizeOf3⟩ rfl ?_
      refine O.ld rfl rfl rfl (fun w => ⟨Try.isAgg3 w, Try.sizeOf3 w⟩) rfl (show cl _ g.p 1 = some (.int .i64 (cnOf H1 g.p : Int)) from hcc) ?_
      refine O.sub ((((cnOf H1 g.p) - 1 : Nat) : Int)) rfl rfl rfl rfl rfl rfl (by omega) (by omega) ?_
      refine O.nc rfl rfl rfl rfl rfl ?_
      refine O.fa0 (off := 1) rfl rfl rfl rfl ⟨_, _, _, Try.underlying168, rfl, rfl, Try.sizeOf3⟩ rfl ?_
      refine O.st rfl rfl Try.sizeOf3 rfl rfl rfl rfl rfl (hI.n.wr.at0 1 1 (by omega)) ?_
      intro H3 W3
      have hs3 := hs.step (t := (g, X, K)) hh1 hk W3
      replace hI := hI.count W3
      have tc3 := tc2.fr W3.fr (fun b o hb _ => nr (.inl (fun e2 => by have h7 := hnt g.p 1 (hs.sub _ _ (show Gt.af (h + 1) ((g, X, K) : Gt EJ (h + 1)) g.p 1 from .inl (.inl ⟨rfl, by omega⟩))); have h8 := hb.1; have h9 : b = g.p := e2; omega)))
      replace w6 := W3.fr.wr w6
      refine ⟨trivial, ?_⟩
      refine Pl.fin [(0, _), (2, _), (3, _), (4, _), (5, _)] ⟨rfl, rfl, rfl, rfl, rfl, trivial⟩ ?_
      refine Go'.seq ?_
      refine Go'.seq ?_
      -- region 8 (btreeg.go:1325)
      refine Go'.region [(0, 0), (1, 2)] rfl ?_
      refine O.mv rfl rfl rfl rfl rfl ?_
      refine O.callQ rfl rfl rfl Try.call133 rfl (leaf_spec hI.n.c3) trivial ?_
      refine Pl.fin [(0, _), (2, _), (3, _), (4, _), (5, _), (31, _)] ⟨rfl, rfl, rfl, rfl, rfl, rfl, trivial⟩ ?_
      refine Go'.condF rfl ?_
      refine Go'.skip ?_
      obtain ⟨hgk, _⟩ := hI.c.1 k hkK
      obtain ⟨kpk, hnk⟩ := hgk.node
      have hisok := hnk.c0
      rw [hgk.isoe] at hisok
      have hko : ((Gt.ps h K).map some)[cix true K.length]? = some (some (Gt.p h k)) := by rw [Gt.ps, List.map_map, List.getElem?_map, hk]; rfl
      have hkl : ((Gt.ps h K).map some).length = K.length := by rw [List.length_map, Gt.ps, List.length_map]
      have hkc := hI.k.c
      rw [hkl] at hkc
      -- region 17 (btreeg.go:1338)
      refine Go'.draw (fun _ => True) [(0, 0), (1, 0), (2, 0), (3, 0), (4, 1), (5, 0), (6, 1), (7, 0), (8, 0), (9, 0), (10, 1), (11, 0), (12, 1), (13, 0), (14, 0), (15, 0), (16, 2), (17, 0)] (by kernel_rfl) (by kernel_rfl) (trivial) ?_
      refine O.mv rfl rfl rfl rfl rfl ?_
      refine O.mv rfl rfl rfl rfl rfl ?_
      refine O.nc rfl rfl rfl rfl rfl ?_
      refine O.fa0 (off := 3) rfl rfl rfl rfl ⟨_, _, _, Try.underlying168, rfl, rfl, Try.sizeOf166⟩ rfl ?_
      refine O.ld rfl rfl rfl (fun w => ⟨Try.isAgg166 w, Try.sizeOf166 w⟩) rfl (show cl _ g.p 3 = some (.pointer (some ⟨g.cb, 0, none⟩)) from hI.n.c3) ?_
      refine O.nc rfl rfl rfl rfl rfl ?_
      refine O.ld rfl rfl rfl (fun w => ⟨Try.isAgg170 w, Try.sizeOf170 w⟩) rfl (show cl _ g.cb 0 = some (.slice (some ⟨g.kb, g.ko, none⟩) K.length g.kc) from hkc) ?_
      refine O.mv rfl rfl rfl rfl rfl ?_
      refine O.nc rfl rfl rfl rfl rfl ?_
      refine O.fa0 (off := 3) rfl rfl rfl rfl ⟨_, _, _, Try.underlying168, rfl, rfl, Try.sizeOf166⟩ rfl ?_
      refine O.ld rfl rfl rfl (fun w => ⟨Try.isAgg166 w, Try.sizeOf166 w⟩) rfl (show cl _ g.p 3 = some (.pointer (some ⟨g.cb, 0, none⟩)) from hI.n.c3) ?_
      refine O.nc rfl rfl rfl rfl rfl ?_
      refine O.ld rfl rfl rfl (fun w => ⟨Try.isAgg170 w, Try.sizeOf170 w⟩) rfl (show cl _ g.cb 0 = some (.slice (some ⟨g.kb, g.ko, none⟩) K.length g.kc) from hkc) ?_
      refine O.len rfl rfl rfl rfl Try.underlying170 rfl ?_
      refine O.sub (((K.length - 1 : Nat) : Int)) rfl rfl rfl rfl rfl rfl (by omega) (by omega) ?_
      refine O.ix (j := K.length - 1) rfl rfl rfl rfl Try.underlying170 Try.sizeOf129 rfl rfl (by omega) (by omega) ?_
      refine O.callQ rfl rfl rfl Try.call130 rfl (isoLoad_spec true (hI.k.at hko) hisok tc3.iso) trivial ?_
      refine O.asg rfl rfl rfl rfl rfl ?_
      refine Pl.fin [(0, _), (2, _), (3, _), (4, _), (5, _), (31, _)] ⟨rfl, rfl, rfl, rfl, rfl, rfl, trivial⟩ ?_
      refine Go'.inBlock ?_
      refine Go'.keep [(0, _), (2, _), (3, _), (4, _), (5, _)] ⟨rfl, rfl, rfl, rfl, rfl, trivial⟩ ?_
      refine Go'.inLoop ?_
      exact ih ⟨h, k⟩ H3 ⟨⟨_, hs3⟩, w6⟩ (by simp only; omega)
    · -- the leaf
      obtain ⟨⟨np, niso, ncnt, nib, nio, nic, ncb, nkb, nko, nkc⟩, X⟩ := t
      have hn : NodeM EJ H2 (⟨np, niso, ncnt, nib, nio, nic, ncb, nkb, nko, nkc⟩ : Ng) X (.pointer none) := hnow.1
      have hiso : niso = P.iso := hnow.2.1
      have hcntX : ncnt = X.length := hnow.2.2.1
      have hxm : X.length ≤ P.mx := hnow.2.2.2
      have hx255 := hP.hx
      have hx1 : 1 ≤ X.length := hs.x1
      have hle2 : X.length ≤ l.length := hle
      have hlf : ((⟨np, niso, ncnt, nib, nio, nic, ncb, nkb, nko, nkc⟩ : Ng), X) = Gt.lf true h0 t0 := hs.lf
      have tn : ∀ b o, (ncl EJ (⟨np, niso, ncnt, nib, nio, nic, ncb, nkb, nko, nkc⟩ : Ng)) b o → ¬ (b < cx.base) := fun b o hb => by have := hnt b o (hs.sub b o hb); omega
      have hlt : ∀ b o, (ncl EJ (⟨np, niso, ncnt, nib, nio, nic, ncb, nkb, nko, nkc⟩ : Ng)) b o → b < H1.size ∧ b ≠ b6 := fun b o hb => ⟨hlt0 b o (hs.sub b o hb), fun e2 => hb6n o (e2 ▸ hs.sub b o hb)⟩
      have hD : ∀ b, (b < cx.base) → b < H2.size := fun b hb => by omega
      have hic := hn.sl.hle
      simp only at hic
      have hF : Fr (fun b o => (ncl EJ (⟨np, niso, ncnt, nib, nio, nic, ncb, nkb, nko, nkc⟩ : Ng)) b o ∨ b = b6 ∨ b = tr) H2 H2 := Fr.refl _ _
      have hF2 : Fr (fun b o => (o = 1 ∧ b = np) ∨ b = b6) H2 H2 := Fr.refl _ _
      have sn : Gro H2 (ncl EJ (⟨np, niso, ncnt, nib, nio, nic, ncb, nkb, nko, nkc⟩ : Ng)) (ncl EJ (⟨np, niso, ncnt, nib, nio, nic, ncb, nkb, nko, nkc⟩ : Ng)) := Gro.refl _ _
      clear tc cnt hc
      obtain ⟨tc, cnt, hc⟩ := And.intro tc2 (And.intro cnt2 hc2)
      clear tc2 cnt2 hc2
      obtain ⟨y, hy⟩ : ∃ y, X[X.length - 1]? = some y := ⟨X[X.length - 1]'(by omega), List.getElem?_eq_getElem (by omega)⟩
      -- region 7 (btreeg.go:1324)
      refine Go'.region [(0, 0), (1, 0), (2, 0), (3, 1), (4, 0), (5, 0), (6, 0), (7, 2)] rfl ?_
      refine O.mv rfl rfl rfl rfl rfl ?_
      refine O.nc rfl rfl rfl rfl rfl ?_
      refine O.fa0 (off := 1) rfl rfl rfl rfl ⟨_, _, _, Try.underlying168, rfl, rfl, Try.sizeOf3⟩ rfl ?_
      refine O.ld rfl rfl rfl (fun w => ⟨Try.isAgg3 w, Try.sizeOf3 w⟩) rfl (show cl _ np 1 = some (.int .i64 (ncnt : Int)) from hn.c1) ?_
      refine O.sub (((ncnt - 1 : Nat) : Int)) rfl rfl rfl rfl rfl rfl (by omega) (by omega) ?_
      refine O.nc rfl rfl rfl rfl rfl ?_
      refine O.fa0 (off := 1) rfl rfl rfl rfl ⟨_, _, _, Try.underlying168, rfl, rfl, Try.sizeOf3⟩ rfl ?_
      refine O.st rfl rfl Try.sizeOf3 rfl rfl rfl rfl rfl (hn.wr.at0 1 1 (by omega)) ?_
      intro H11 WH11
      have fW : Fr (ncl EJ (⟨np, niso, ncnt, nib, nio, nic, ncb, nkb, nko, nkc⟩ : Ng)) H2 H11 := (Wrote.fHdr (E := EJ) (g := (⟨np, niso, ncnt, nib, nio, nic, ncb, nkb, nko, nkc⟩ : Ng)) WH11 (by omega))
      replace tc := tc.fr fW (fun b o hb _ hz => tn b o hz hb.1)
      replace hF := Fr.tot hF fW sn (fun _ _ h => .inl h)
      replace w6 := Fr.wr fW w6
      replace cnt := Fr.keep fW cnt (fun hz => tn tr _ hz htb)
      replace hc := Fr.keep fW hc (fun hz => tn tr _ hz htb)
      obtain ⟨ncnt_11, encnt_11⟩ : ∃ z, z = ncnt - 1 := ⟨_, rfl⟩
      rw [← encnt_11] at WH11
      replace hn : NodeM EJ H11 (⟨np, niso, ncnt_11, nib, nio, nic, ncb, nkb, nko, nkc⟩ : Ng) (X) (.pointer none) := hn.count WH11
      clear fW
      replace hF2 := hF2.trans' WH11.fr (fun _ _ _ h => h) (fun b o _ hz => by
        have h1 := hz.1; have h2 := hz.2.1; have h3 := hz.2.2
        simp only [List.length_cons, List.length_nil] at h3
        exact .inl ⟨by omega, h1⟩)
      refine ⟨trivial, ?_⟩
      refine Pl.fin [(0, _), (2, _), (3, _), (4, _), (5, _)] ⟨rfl, rfl, rfl, rfl, rfl, trivial⟩ ?_
      refine Go'.seq ?_
      refine Go'.seq ?_
      -- region 8 (btreeg.go:1325)
      refine Go'.region [(0, 0), (1, 2)] rfl ?_
      refine O.mv rfl rfl rfl rfl rfl ?_
      refine O.callQ rfl rfl rfl Try.call133 rfl (leaf_spec hn.c3) trivial ?_
      refine Pl.fin [(0, _), (2, _), (3, _), (4, _), (5, _), (31, _)] ⟨rfl, rfl, rfl, rfl, rfl, rfl, trivial⟩ ?_
      refine Go'.condT rfl ?_
      refine Go'.seq ?_
      -- region 9 (btreeg.go:1326)
      refine Go'.draw (fun _ => True) [(0, 0), (1, 0), (2, 0), (3, 1), (4, 0), (5, 0), (6, 0), (7, 1), (8, 0), (9, 0), (10, 0), (11, 1), (12, 3)] (by kernel_rfl) (by kernel_rfl) (trivial) ?_
      refine O.mv rfl rfl rfl rfl rfl ?_
      refine O.nc rfl rfl rfl rfl rfl ?_
      refine O.fa0 (off := 2) rfl rfl rfl rfl ⟨_, _, _, Try.underlying168, rfl, rfl, Try.sizeOf25⟩ rfl ?_
      refine O.ld rfl rfl rfl (fun w => ⟨Try.isAgg25 w, Try.sizeOf25 w⟩) rfl (show cl _ np 2 = some (.slice (some ⟨nib, nio, none⟩) X.length nic) from hn.c2) ?_
      refine O.mv rfl rfl rfl rfl rfl ?_
      refine O.nc rfl rfl rfl rfl rfl ?_
      refine O.fa0 (off := 2) rfl rfl rfl rfl ⟨_, _, _, Try.underlying168, rfl, rfl, Try.sizeOf25⟩ rfl ?_
      refine O.ld rfl rfl rfl (fun w => ⟨Try.isAgg25 w, Try.sizeOf25 w⟩) rfl (show cl _ np 2 = some (.slice (some ⟨nib, nio, none⟩) X.length nic) from hn.c2) ?_
      refine O.len rfl rfl rfl rfl Try.underlying25 rfl ?_
      refine O.sub (((X.length - 1 : Nat) : Int)) rfl rfl rfl rfl rfl rfl (by omega) (by omega) ?_
      refine O.ix (j := X.length - 1) rfl rfl rfl rfl Try.underlying25 Try.sizeOf27 rfl rfl (by omega) (by omega) ?_
      refine O.lds rfl rfl rfl (fun w => ⟨Try.isAgg27 w, Try.sizeOf27 w⟩) rfl rfl (hn.sl.item hy) ?_
      refine O.st3 rfl rfl Try.sizeOf27 rfl rfl rfl rfl rfl w6 ?_
      intro H12 WH12
      have hsH12 := WH12.size
      replace hn := NodeM.fr EJ hn WH12.fr (fun b o hb => nr (.inl (by have := (hlt b o hb).2; omega)))
      replace tc := tc.fr WH12.fr (fun b o hb _ => nr (.inl (by omega)))
      replace hF := hF.trans' WH12.fr (fun _ _ _ h => h) (fun b o hb h => .inr (.inl h.1))
      replace w6 := Fr.wr WH12.fr w6
      have m6 : Rd H12 b6 0 (EJ.enc y) := WH12.all
      replace cnt := Fr.keep WH12.fr cnt (nr (.inl (by omega)))
      replace hc := Fr.keep WH12.fr hc (nr (.inl (by omega)))
      replace hF2 := hF2.trans' WH12.fr (fun _ _ _ h => h) (fun b o _ hz => .inr hz.1)
      refine Pl.fin [(0, _), (2, _), (3, _), (4, _), (5, _), (31, _)] ⟨rfl, rfl, rfl, rfl, rfl, rfl, trivial⟩ ?_
      refine Go'.seq ?_
      refine Go'.seq ?_
      by_cases hmnX : X.length = P.mn
      rotate_left
      · -- out of the leaf
        -- region 10 (btreeg.go:1327)
        refine Go'.draw (fun _ => True) [(0, 0), (1, 0), (2, 0), (3, 1), (4, 0), (5, 0), (6, 0), (7, 0), (8, 1), (9, 0)] (by kernel_rfl) (by kernel_rfl) (trivial) ?_
        refine O.mv rfl rfl rfl rfl rfl ?_
        refine O.nc rfl rfl rfl rfl rfl ?_
        refine O.fa0 (off := 2) rfl rfl rfl rfl ⟨_, _, _, Try.underlying168, rfl, rfl, Try.sizeOf25⟩ rfl ?_
        refine O.ld rfl rfl rfl (fun w => ⟨Try.isAgg25 w, Try.sizeOf25 w⟩) rfl (show cl _ np 2 = some (.slice (some ⟨nib, nio, none⟩) X.length nic) from hn.c2) ?_
        refine O.len rfl rfl rfl rfl Try.underlying25 rfl ?_
        refine O.mv rfl rfl rfl rfl rfl ?_
        refine O.nc rfl rfl rfl rfl rfl ?_
        refine O.fa0 (off := 10) rfl rfl rfl rfl ⟨_, _, _, Try.underlying158, rfl, rfl, Try.sizeOf3⟩ rfl ?_
        refine O.ld rfl rfl rfl (fun w => ⟨Try.isAgg3 w, Try.sizeOf3 w⟩) rfl tc.mn' ?_
        refine O.cmp rfl rfl rfl rfl rfl rfl (eqlF (by omega)) ?_
        refine Pl.fin [(0, _), (2, _), (3, _), (4, _), (5, _), (31, _), (53, _)] ⟨rfl, rfl, rfl, rfl, rfl, rfl, rfl, trivial⟩ ?_
        refine Go'.condF rfl ?_
        refine Go'.skip ?_
        refine Go'.seq ?_
        -- region 11 (btreeg.go:1330)
        refine Go'.draw (fun _ => True) [(0, 0), (1, 0), (2, 0), (3, 1), (4, 0), (5, 0), (6, 0), (7, 1), (8, 0), (9, 0), (10, 0), (11, 0), (12, 0), (13, 1), (14, 0), (15, 3)] (by kernel_rfl) (by kernel_rfl) (trivial) ?_
        refine O.mv rfl rfl rfl rfl rfl ?_
        refine O.nc rfl rfl rfl rfl rfl ?_
        refine O.fa0 (off := 2) rfl rfl rfl rfl ⟨_, _, _, Try.underlying168, rfl, rfl, Try.sizeOf25⟩ rfl ?_
        refine O.ld rfl rfl rfl (fun w => ⟨Try.isAgg25 w, Try.sizeOf25 w⟩) rfl (show cl _ np 2 = some (.slice (some ⟨nib, nio, none⟩) X.length nic) from hn.c2) ?_
        refine O.mv rfl rfl rfl rfl rfl ?_
        refine O.nc rfl rfl rfl rfl rfl ?_
        refine O.fa0 (off := 2) rfl rfl rfl rfl ⟨_, _, _, Try.underlying168, rfl, rfl, Try.sizeOf25⟩ rfl ?_
        refine O.ld rfl rfl rfl (fun w => ⟨Try.isAgg25 w, Try.sizeOf25 w⟩) rfl (show cl _ np 2 = some (.slice (some ⟨nib, nio, none⟩) X.length nic) from hn.c2) ?_
        refine O.len rfl rfl rfl rfl Try.underlying25 rfl ?_
        refine O.sub (((X.length - 1 : Nat) : Int)) rfl rfl rfl rfl rfl rfl (by omega) (by omega) ?_
        refine O.mv rfl rfl rfl rfl rfl ?_
        refine O.nc rfl rfl rfl rfl rfl ?_
        refine O.fa0 (off := 7) rfl rfl rfl rfl ⟨_, _, _, Try.underlying158, rfl, rfl, Try.sizeOf27⟩ rfl ?_
        refine O.lds rfl rfl rfl (fun w => ⟨Try.isAgg27 w, Try.sizeOf27 w⟩) rfl rfl tc.emp ?_
        refine O.ix (j := X.length - 1) rfl rfl rfl rfl Try.underlying25 Try.sizeOf27 rfl rfl (by omega) (by omega) ?_
        refine O.st3 rfl rfl Try.sizeOf27 rfl rfl rfl rfl rfl (hn.sl.wri (i := X.length - 1) (by omega)) ?_
        intro H13 WH13
        have fW : Fr (ncl EJ (⟨np, niso, ncnt_11, nib, nio, nic, ncb, nkb, nko, nkc⟩ : Ng)) H12 H13 := (NodeM.fSet hn (i := X.length - 1) (x := ((0 : Int), (0 : Int))) WH13 (by omega))
        replace tc := tc.fr fW (fun b o hb _ hz => tn b o hz hb.1)
        replace hF := Fr.tot hF fW sn (fun _ _ h => .inl h)
        replace w6 := Fr.wr fW w6
        replace m6 := Fr.rd fW m6 (fun _ _ hz => by have := (hlt _ _ hz).2; omega)
        replace cnt := Fr.keep fW cnt (fun hz => tn tr _ hz htb)
        replace hc := Fr.keep fW hc (fun hz => tn tr _ hz htb)
        obtain ⟨nX1, enX1, hn⟩ : ∃ X1, X1 = X.take (X.length - 1) ++ ((0 : Int), (0 : Int)) :: X.drop (X.length - 1 + 1) ∧ NodeM EJ H13 (⟨np, niso, ncnt_11, nib, nio, nic, ncb, nkb, nko, nkc⟩ : Ng) (X1) (.pointer none) := ⟨_, rfl, hn.set (i := X.length - 1) (x := ((0 : Int), (0 : Int))) WH13 (by omega)⟩
        have lnX1 : nX1.length = X.length := by rw [enX1]; simp only [List.length_append, List.length_take, List.length_cons, List.length_drop]; omega
        clear fW
        refine Pl.fin [(0, _), (2, _), (3, _), (4, _), (5, _), (31, _), (53, _)] ⟨rfl, rfl, rfl, rfl, rfl, rfl, rfl, trivial⟩ ?_
        refine Go'.seq ?_
        -- region 12 (btreeg.go:1331)
        refine Go'.draw (fun _ => True) [(0, 0), (1, 0), (2, 0), (3, 0), (4, 1), (5, 0), (6, 0), (7, 0), (8, 1), (9, 0), (10, 0), (11, 0), (12, 0), (13, 0), (14, 3)] (by kernel_rfl) (by kernel_rfl) (trivial) ?_
        refine O.mv rfl rfl rfl rfl rfl ?_
        refine O.mv rfl rfl rfl rfl rfl ?_
        refine O.nc rfl rfl rfl rfl rfl ?_
        refine O.fa0 (off := 2) rfl rfl rfl rfl ⟨_, _, _, Try.underlying168, rfl, rfl, Try.sizeOf25⟩ rfl ?_
        refine O.ld rfl rfl rfl (fun w => ⟨Try.isAgg25 w, Try.sizeOf25 w⟩) rfl (show cl _ np 2 = some (.slice (some ⟨nib, nio, none⟩) nX1.length nic) from hn.c2) ?_
        refine O.mv rfl rfl rfl rfl rfl ?_
        refine O.nc rfl rfl rfl rfl rfl ?_
        refine O.fa0 (off := 2) rfl rfl rfl rfl ⟨_, _, _, Try.underlying168, rfl, rfl, Try.sizeOf25⟩ rfl ?_
        refine O.ld rfl rfl rfl (fun w => ⟨Try.isAgg25 w, Try.sizeOf25 w⟩) rfl (show cl _ np 2 = some (.slice (some ⟨nib, nio, none⟩) nX1.length nic) from hn.c2) ?_
        refine O.len rfl rfl rfl rfl Try.underlying25 rfl ?_
        refine O.sub (((nX1.length - 1 : Nat) : Int)) rfl rfl rfl rfl rfl rfl (by omega) (by omega) ?_
        refine O.slc (jl := 0) (jh := nX1.length - 1) (jm := nic) rfl rfl rfl rfl Try.underlying25 Try.sizeOf27 rfl rfl ⟨_, by rfl⟩ rfl (by omega) (by omega) (by simp) (by simp) ?_
        intro oc hoc
        have hoc2 : nio = oc := by rw [hoc (by omega)]; simp
        subst hoc2
        rw [Nat.sub_zero]
        refine O.nc rfl rfl rfl rfl rfl ?_
        refine O.fa0 (off := 2) rfl rfl rfl rfl ⟨_, _, _, Try.underlying168, rfl, rfl, Try.sizeOf25⟩ rfl ?_
        refine O.st3 rfl rfl Try.sizeOf25 rfl rfl rfl rfl rfl (hn.wr.at0 2 1 (by omega)) ?_
        intro H14 WH14
        have fW : Fr (ncl EJ (⟨np, niso, ncnt_11, nib, nio, nic, ncb, nkb, nko, nkc⟩ : Ng)) H13 H14 := (Wrote.fHdr (E := EJ) (g := (⟨np, niso, ncnt_11, nib, nio, nic, ncb, nkb, nko, nkc⟩ : Ng)) WH14 (by omega))
        replace tc := tc.fr fW (fun b o hb _ hz => tn b o hz hb.1)
        replace hF := Fr.tot hF fW sn (fun _ _ h => .inl h)
        replace w6 := Fr.wr fW w6
        replace m6 := Fr.rd fW m6 (fun _ _ hz => by have := (hlt _ _ hz).2; omega)
        replace cnt := Fr.keep fW cnt (fun hz => tn tr _ hz htb)
        replace hc := Fr.keep fW hc (fun hz => tn tr _ hz htb)
        obtain ⟨nX2, enX2, hn⟩ : ∃ X1, X1 = nX1.take (nX1.length - 1) ∧ NodeM EJ H14 (⟨np, niso, ncnt_11, nib, nio, nic, ncb, nkb, nko, nkc⟩ : Ng) (X1) (.pointer none) := ⟨_, rfl, hn.cut WH14 (by omega)⟩
        have lnX2 : nX2.length = nX1.length - 1 := by rw [enX2]; simp only [List.length_take]; omega
        clear fW
        refine Pl.fin [(0, _), (2, _), (3, _), (4, _), (5, _), (31, _), (53, _)] ⟨rfl, rfl, rfl, rfl, rfl, rfl, rfl, trivial⟩ ?_
        refine Go'.seq ?_
        have hX : nX2 = X.take (X.length - 1) := by
          rw [enX2, lnX1, enX1]
          exact Pl.cutoff_last X _ (by omega)
        have hsp : bif true then X = nX2 ++ [y] else X = y :: nX2 := by rw [hX]; exact Pl.last_split hy
        obtain ⟨gE1, gE2, gE3, ⟨R, gE4, gE5⟩, gE6, gE7⟩ := Gt.Good.edit (d := true) (δ := (fun n => n - 1)) (Z := fun b o => (o = 1 ∧ D b) ∨ ((ncl EJ (⟨np, niso, ncnt, nib, nio, nic, ncb, nkb, nko, nkc⟩ : Ng)) b o ∨ b = b6 ∨ b = tr)) (hs.fr.trans' hF (fun _ _ _ h => .inl h) (fun _ _ _ h => .inr h)) hn hiso (show ncnt_11 = nX2.length by omega) (by omega) hg1
          (fun b o hb hz => by
            rcases hz with ⟨ho, hd⟩ | hz | rfl | rfl
            · exact .inl ⟨ho, (hs.all b).2 (.inl hd)⟩
            · exact .inr (by rw [← hlf]; exact hz)
            · exact (hb6n o hb).elim
            · exact absurd (hnt _ _ hb) (by omega))
          (fun q hq hne2 => by
            rcases (hs.all q).1 hq with hd | hd
            · exact hF.keep (hs.val q hd) (fun hz => by
                rcases hz with hz | rfl | rfl
                · exact hs.off q hd hz
                · exact hb6n 1 (Gt.sp_af hq 1 (by omega))
                · exact hDt _ htb hd)
            · rw [← hlf] at hne2
              exact (hne2 hd).elim)
          (by rw [← hlf]) (fun h9 => by
            have : P.mn ≤ X.length := hs.mn h9
            omega)
          (by rw [← hlf]; exact fun b o hb => .inl hb) (fun n hn9 => by rw [← hlf] at hn9 ⊢; simp only at hn9 ⊢; omega)
        rw [← hlf] at gE4
        have hpk := popk_glue (R := R) hsp
        have ht1 : l = glue true X R := by rw [← e]; exact gE4
        rw [← ht1] at hpk
        have hglen := glue_len true nX2 R
        have hglen2 := congrArg List.length ht1
        rw [glue_len] at hglen2
        have hown1 : ∀ b o, Gt.af h0 (Gt.ed true (fun n => n - 1) (⟨np, niso, ncnt_11, nib, nio, nic, ncb, nkb, nko, nkc⟩ : Ng) nX2 h0 t0) b o → S b ∨ (H.size ≤ b ∧ b < H14.size) := fun b o hb => (gE3 b o hb).imp (hown b o) (fun h9 => ⟨by omega, gE1.lt hb⟩)
        have hnt1 : ∀ b o, Gt.af h0 (Gt.ed true (fun n => n - 1) (⟨np, niso, ncnt_11, nib, nio, nic, ncb, nkb, nko, nkc⟩ : Ng) nX2 h0 t0) b o → cx.base ≤ b := fun b o hb => (gE3 _ _ hb).elim (hnt b o) (fun h9 => by omega)
        have hFt : Fr (fun b _ => S b ∨ b = zr) H H14 := hF1.trans' (hs.fr.trans' hF (Z := fun b o => (o = 1 ∧ D b) ∨ ((ncl EJ (⟨np, niso, ncnt, nib, nio, nic, ncb, nkb, nko, nkc⟩ : Ng)) b o ∨ b = b6 ∨ b = tr)) (fun _ _ _ h => .inl h) (fun _ _ _ h => .inr h)) (fun _ _ _ h => h.elim) (fun b o hb hz => by
          rcases hz with ⟨ho, hd⟩ | hz | rfl | rfl
          · exact .inl (hown b o (ho ▸ Gt.sp_af ((hs.all b).2 (.inl hd)) 1 (by omega)))
          · exact .inl (hown b o (hs.sub b o hz))
          · omega
          · exact .inl own)
        have hbl6 : ∀ b o, Gt.af h0 (Gt.ed true (fun n => n - 1) (⟨np, niso, ncnt_11, nib, nio, nic, ncb, nkb, nko, nkc⟩ : Ng) nX2 h0 t0) b o → b ≠ tr := fun b o hb => by have := hnt1 b o hb; omega
        generalize hT : Gt.ed true (fun n => n - 1) (⟨np, niso, ncnt_11, nib, nio, nic, ncb, nkb, nko, nkc⟩ : Ng) nX2 h0 t0 = T at *
        rw [← gE2] at hc
        have hsrt1 : Pl.Srt OI (glue true nX2 R) := by
          have := Pl.runs_popk_srt OI srt [true]
          have e9 : (Pl.runs Pl.popk l [true]).1 = (Pl.popk l true).1 := rfl
          rw [e9, hpk] at this
          exact this
        -- region 13 (btreeg.go:1332)
        refine Go'.region [(0, 0), (1, 0), (2, 0), (3, 1), (4, 0), (5, 0), (6, 0), (7, 2)] rfl ?_
        refine O.mv rfl rfl rfl rfl rfl ?_
        refine O.nc rfl rfl rfl rfl rfl ?_
        refine O.fa0 (off := 3) rfl rfl rfl rfl ⟨_, _, _, Try.underlying158, rfl, rfl, Try.sizeOf3⟩ rfl ?_
        refine O.ld rfl rfl rfl (fun w => ⟨Try.isAgg3 w, Try.sizeOf3 w⟩) rfl cnt ?_
        refine O.sub (((l.length - 1 : Nat) : Int)) rfl rfl rfl rfl rfl rfl (by omega) (by omega) ?_
        refine O.nc rfl rfl rfl rfl rfl ?_
        refine O.fa0 (off := 3) rfl rfl rfl rfl ⟨_, _, _, Try.underlying158, rfl, rfl, Try.sizeOf3⟩ rfl ?_
        refine O.st rfl rfl Try.sizeOf3 rfl rfl rfl rfl rfl (tc.wr.at0 3 1 (by omega)) ?_
        intro Ha Wa
        have hsa := Wa.size
        replace tc := tc.fr (Wa.fr' 1 rfl) (fun b o hb he hz => by have h1 := he hz.1; have h2 := hz.2.1; have h3 := hz.2.2; omega)
        replace hc := Wa.keep1 hc (by omega)
        replace hFt := hFt.trans' Wa.fr (fun _ _ _ h => h) (fun b o _ h => .inl (by rw [h.1]; exact own))
        replace m6 := Wa.fr.rd m6 (fun _ _ => nr (.inl (by omega)))
        replace w6 := Wa.fr.wr w6
        have cnt5 : cl Ha tr 3 = some (.int .i64 ((l.length - 1 : Nat) : Int)) := Wa.at
        replace gE1 := gE1.fr Wa.fr (fun b o hb => nr (.inl (hbl6 b o hb)))
        refine ⟨trivial, ?_⟩
        refine Pl.fin [(0, _), (2, _), (3, _), (4, _), (5, _), (31, _), (53, _)] ⟨rfl, rfl, rfl, rfl, rfl, rfl, rfl, trivial⟩ ?_
        refine Go'.seq ?_
        refine Go'.seq ?_
        by_cases hl1 : l.length - 1 = 0
        · skip
          -- region 14 (btreeg.go:1333)
          refine Go'.region [(0, 0), (1, 0), (2, 0), (3, 1), (4, 0)] rfl ?_
          refine O.mv rfl rfl rfl rfl rfl ?_
          refine O.nc rfl rfl rfl rfl rfl ?_
          refine O.fa0 (off := 3) rfl rfl rfl rfl ⟨_, _, _, Try.underlying158, rfl, rfl, Try.sizeOf3⟩ rfl ?_
          refine O.ld rfl rfl rfl (fun w => ⟨Try.isAgg3 w, Try.sizeOf3 w⟩) rfl cnt5 ?_
          refine O.cmp rfl rfl rfl rfl rfl rfl (eqlT (by omega)) ?_
          refine Pl.fin [(0, _), (2, _), (3, _), (4, _), (5, _), (31, _), (53, _), (94, _)] ⟨rfl, rfl, rfl, rfl, rfl, rfl, rfl, rfl, trivial⟩ ?_
          refine Go'.condT rfl ?_
          -- region 15 (btreeg.go:1334)
          refine Go'.region [(0, 0), (1, 0), (2, 0), (3, 2)] rfl ?_
          refine O.mv rfl rfl rfl rfl rfl ?_
          refine O.nc rfl rfl rfl rfl rfl ?_
          refine O.fa0 (off := 2) rfl rfl rfl rfl ⟨_, _, _, Try.underlying158, rfl, rfl, Try.sizeOf129⟩ rfl ?_
          refine O.st rfl rfl Try.sizeOf129 rfl rfl rfl rfl rfl (tc.wr.at0 2 1 (by omega)) ?_
          intro Hb Wb
          have hsb := Wb.size
          replace tc := tc.fr (Wb.fr' 1 rfl) (fun b o hb he hz => by have h1 := he hz.1; have h2 := hz.2.1; have h3 := hz.2.2; omega)
          replace cnt5 := Wb.keep1 cnt5 (by omega)
          replace hFt := hFt.trans' Wb.fr (fun _ _ _ h => h) (fun b o _ h => .inl (by rw [h.1]; exact own))
          replace m6 := Wb.fr.rd m6 (fun _ _ => nr (.inl (by omega)))
          replace w6 := Wb.fr.wr w6
          have hc6 : cl Hb tr 2 = some (.pointer none) := Wb.at
          refine ⟨trivial, ?_⟩
          refine Pl.fin [(0, _), (2, _), (3, _), (4, _), (5, _), (31, _), (53, _), (94, _)] ⟨rfl, rfl, rfl, rfl, rfl, rfl, rfl, rfl, trivial⟩ ?_
          refine Go'.seq ?_
          -- region 16 (btreeg.go:1336)
          refine Go'.region [(0, 1), (1, 2), (2, 0)] rfl ?_
          refine O.lds rfl rfl rfl (fun w => ⟨Try.isAgg27 w, Try.sizeOf27 w⟩) rfl rfl m6 ?_
          refine O.st (vs := (EJ.enc y)) rfl rfl Try.sizeOf27 rfl rfl rfl rfl rfl (hFt.wr wz) ?_
          intro Hz Wz
          have hsz8 := Wz.size
          have hne9 : ∀ b o, Gt.af h0 T b o → b ≠ zr := fun b o hb => (hown1 b o hb).elim (hzS b) (fun h => by omega)
          replace tc := tc.fr Wz.fr (fun b o hb _ => nr (.inl (by have := hb.1; omega)))
          replace cnt5 := Wz.fr.keep cnt5 (nr (.inl (by omega)))
          replace hc6 := Wz.fr.keep hc6 (nr (.inl (by omega)))
          replace hFt := hFt.trans' Wz.fr (fun _ _ _ h => h) (fun b o _ h => .inr h.1)
          refine ⟨trivial, ?_⟩
          refine O.asg rfl rfl rfl rfl rfl ?_
          refine Pl.fin [(0, _), (2, _), (3, _), (4, _), (5, _), (31, _), (53, _), (94, _)] ⟨rfl, rfl, rfl, rfl, rfl, rfl, rfl, rfl, trivial⟩ ?_
          refine Go'.ret (vs := [_, _]) Try.func114 Try.results114 ⟨⟨_, _, rfl, fun _ _ => run_loadVar_agg (fun w => ⟨Try.isAgg27 w, Try.sizeOf27 w⟩) rfl Wz.all⟩, rfl, trivial⟩ ?_
          unfold PopZ
          rw [hpk]
          have e9 : l.length - 1 = (glue true nX2 R).length := by rw [hglen]; omega
          rw [e9] at cnt5
          have hsz9 := hFt.size
          exact ⟨rfl, fun b => S b ∨ (H.size ≤ b ∧ b < Hz.size), ⟨tc, hsrt1, cnt5, .inl own, fun b hb => hb.elim (fun h9 => by have := lt b h9; omega) (fun h9 => h9.2), fun b hb => hb.elim (bs b) (fun h9 => .inr (by omega)), .inl ⟨List.length_eq_zero_iff.1 (by rw [hglen]; omega), hc6⟩⟩, hFt, fun b hb => hb.imp id (fun h9 => h9.1)⟩
        · skip
          -- region 14 (btreeg.go:1333)
          refine Go'.region [(0, 0), (1, 0), (2, 0), (3, 1), (4, 0)] rfl ?_
          refine O.mv rfl rfl rfl rfl rfl ?_
          refine O.nc rfl rfl rfl rfl rfl ?_
          refine O.fa0 (off := 3) rfl rfl rfl rfl ⟨_, _, _, Try.underlying158, rfl, rfl, Try.sizeOf3⟩ rfl ?_
          refine O.ld rfl rfl rfl (fun w => ⟨Try.isAgg3 w, Try.sizeOf3 w⟩) rfl cnt5 ?_
          refine O.cmp rfl rfl rfl rfl rfl rfl (eqlF (by omega)) ?_
          refine Pl.fin [(0, _), (2, _), (3, _), (4, _), (5, _), (31, _), (53, _), (94, _)] ⟨rfl, rfl, rfl, rfl, rfl, rfl, rfl, rfl, trivial⟩ ?_
          refine Go'.condF rfl ?_
          refine Go'.skip ?_
          refine Go'.seq ?_
          -- region 16 (btreeg.go:1336)
          refine Go'.region [(0, 1), (1, 2), (2, 0)] rfl ?_
          refine O.lds rfl rfl rfl (fun w => ⟨Try.isAgg27 w, Try.sizeOf27 w⟩) rfl rfl m6 ?_
          refine O.st (vs := (EJ.enc y)) rfl rfl Try.sizeOf27 rfl rfl rfl rfl rfl (hFt.wr wz) ?_
          intro Hz Wz
          have hsz8 := Wz.size
          have hne9 : ∀ b o, Gt.af h0 T b o → b ≠ zr := fun b o hb => (hown1 b o hb).elim (hzS b) (fun h => by omega)
          replace tc := tc.fr Wz.fr (fun b o hb _ => nr (.inl (by have := hb.1; omega)))
          replace cnt5 := Wz.fr.keep cnt5 (nr (.inl (by omega)))
          replace hc := Wz.fr.keep hc (nr (.inl (by omega)))
          replace gE1 := gE1.fr Wz.fr (fun b o hb => nr (.inl (hne9 b o hb)))
          replace hFt := hFt.trans' Wz.fr (fun _ _ _ h => h) (fun b o _ h => .inr h.1)
          refine ⟨trivial, ?_⟩
          refine O.asg rfl rfl rfl rfl rfl ?_
          refine Pl.fin [(0, _), (2, _), (3, _), (4, _), (5, _), (31, _), (53, _), (94, _)] ⟨rfl, rfl, rfl, rfl, rfl, rfl, rfl, rfl, trivial⟩ ?_
          refine Go'.ret (vs := [_, _]) Try.func114 Try.results114 ⟨⟨_, _, rfl, fun _ _ => run_loadVar_agg (fun w => ⟨Try.isAgg27 w, Try.sizeOf27 w⟩) rfl Wz.all⟩, rfl, trivial⟩ ?_
          unfold PopZ
          rw [hpk]
          have e9 : l.length - 1 = (glue true nX2 R).length := by rw [hglen]; omega
          rw [e9] at cnt5
          have hsz9 := hFt.size
          exact ⟨rfl, fun b => S b ∨ (H.size ≤ b ∧ b < Hz.size), ⟨tc, hsrt1, cnt5, .inl own, fun b hb => hb.elim (fun h9 => by have := lt b h9; omega) (fun h9 => h9.2), fun b hb => hb.elim (bs b) (fun h9 => .inr (by omega)), .inr ⟨h0, T, gE1, by
                rcases Nat.eq_zero_or_pos h0 with h9 | h9
                · rw [gE7 h9]
                  have h8 := gE5
                  subst h9
                  have : (Gt.L 0 T).length = (Gt.X 0 T).length := rfl
                  rw [gE7 rfl, gE5, hglen] at this
                  omega
                · rw [gE6 h9]; assumption, gE5, hc, hnt1, fun b o hb => (hown1 b o hb).imp id (fun h9 => ⟨h9.1, by omega⟩)⟩⟩, hFt, fun b hb => hb.imp id (fun h9 => h9.1)⟩
      · -- by Delete
        -- region 10 (btreeg.go:1327)
        refine Go'.draw (fun _ => True) [(0, 0), (1, 0), (2, 0), (3, 1), (4, 0), (5, 0), (6, 0), (7, 0), (8, 1), (9, 0)] (by kernel_rfl) (by kernel_rfl) (trivial) ?_
        refine O.mv rfl rfl rfl rfl rfl ?_
        refine O.nc rfl rfl rfl rfl rfl ?_
        refine O.fa0 (off := 2) rfl rfl rfl rfl ⟨_, _, _, Try.underlying168, rfl, rfl, Try.sizeOf25⟩ rfl ?_
        refine O.ld rfl rfl rfl (fun w => ⟨Try.isAgg25 w, Try.sizeOf25 w⟩) rfl (show cl _ np 2 = some (.slice (some ⟨nib, nio, none⟩) X.length nic) from hn.c2) ?_
        refine O.len rfl rfl rfl rfl Try.underlying25 rfl ?_
        refine O.mv rfl rfl rfl rfl rfl ?_
        refine O.nc rfl rfl rfl rfl rfl ?_
        refine O.fa0 (off := 10) rfl rfl rfl rfl ⟨_, _, _, Try.underlying158, rfl, rfl, Try.sizeOf3⟩ rfl ?_
        refine O.ld rfl rfl rfl (fun w => ⟨Try.isAgg3 w, Try.sizeOf3 w⟩) rfl tc.mn' ?_
        refine O.cmp rfl rfl rfl rfl rfl rfl (eqlT (by omega)) ?_
        refine Pl.fin [(0, _), (2, _), (3, _), (4, _), (5, _), (31, _), (53, _)] ⟨rfl, rfl, rfl, rfl, rfl, rfl, rfl, trivial⟩ ?_
        refine Go'.condT rfl ?_
        refine Go'.exit rfl ?_
        refine Go'.seq ?_
        have hFb : Fr (fun b o => (o = 1 ∧ Gt.sp true h0 t0 b) ∨ b = b6) H1 H12 := hs.fr.trans' hF2 (fun b o _ hz => .inl ⟨hz.1, (hs.all b).2 (.inl hz.2)⟩) (fun b o _ hz => by
          rcases hz with hz | hz
          · exact .inl ⟨hz.1, hz.2 ▸ (hs.all np).2 (.inr rfl)⟩
          · exact .inr hz)
        have hvb : ∀ q, Gt.sp true h0 t0 q → cl H12 q 1 = some (.int .i64 ((cnOf H1 q - 1 : Nat) : Int)) := fun q hq => by
          rcases (hs.all q).1 hq with hd | hd
          · exact hF2.keep (hs.val q hd) (fun hz => by
              rcases hz with ⟨_, rfl⟩ | rfl
              · exact hs.off q hd (.inl ⟨rfl, by omega⟩)
              · exact hb6n 1 (Gt.sp_af hq 1 (by omega)))
          · have hd' : q = np := hd
            subst hd'
            have hcn' : cnOf H1 q = ncnt := by rw [hcntX]; exact hcn
            rw [hcn', ← encnt_11]
            exact hn.c1
        have hs2 := Sp2.start (δ := (fun n => n - 1)) hg1 hFb hb6n hvb hx0
        have hszb := hFb.size
        have hxy : (bif true then X = X.take (X.length - 1) ++ [y] else X = y :: X.drop (0 + 1)) := by exact Pl.last_split hy
        clear ih
        -- region 18 (btreeg.go:1341)
        refine Go'.region [(0, 0), (1, 0), (2, 0), (3, 1), (4, 0)] rfl ?_
        refine O.mv rfl rfl rfl rfl rfl ?_
        refine O.nc rfl rfl rfl rfl rfl ?_
        refine O.fa0 (off := 2) rfl rfl rfl rfl ⟨_, _, _, Try.underlying158, rfl, rfl, Try.sizeOf129⟩ rfl ?_
        refine O.ld rfl rfl rfl (fun w => ⟨Try.isAgg129 w, Try.sizeOf129 w⟩) rfl (show cl _ tr 2 = some (.pointer (some ⟨Gt.p h0 t0, 0, none⟩)) from hc) ?_
        refine O.asg rfl rfl rfl rfl rfl ?_
        refine Pl.fin [(0, _), (2, _), (3, _), (4, _), (5, _)] ⟨rfl, rfl, rfl, rfl, rfl, trivial⟩ ?_
        refine Go'.seq ?_
        refine Go'.block ?_
        refine Go'.loop ?_
        refine Go'.keep [(0, _), (2, _), (3, _), (4, _), (5, _)] ⟨rfl, rfl, rfl, rfl, rfl, trivial⟩ ?_
        refine Go'.ind (σ := (h : Nat) × Gt EJ h) (fun s => s.1) (fun s H' => ∃ D, Sp2 H1 H' P true (fun n => n - 1) h0 t0 b6 D s.1 s.2 ∧ Fr (fun b o => o = 1 ∧ Gt.sp true h0 t0 b) H12 H')
          (fun s => [(0, .pointer (some ⟨tr, 0, none⟩)), (2, .pointer (some ⟨zr, 0, none⟩)), (3, .bool false), (4, .pointer (some ⟨Gt.p s.1 s.2, 0, none⟩)), (5, .pointer (some ⟨b6, 0, none⟩))]) ⟨h0, t0⟩ ⟨_, hs2, Fr.refl _ _⟩ rfl ?_
        rintro ⟨h, t⟩ H3 ⟨D2, hs3, hf3⟩ ih
        simp only at hs3
        have hcc3 := hs3.val2 _ (Gt.sp_p true)
        have hcn3 := (hs3.g.cnOf).2
        have hle3 := hs3.le
        rw [e] at hle3
        refine Go'.block ?_
        refine Go'.seq ?_
        have hpos : 1 ≤ (Gt.L h t).length := hs3.pos
        rcases h with _ | h
        rotate_left
        · -- further down
          obtain ⟨g, X3, K⟩ := t
          have hKl : K.length = X3.length + 1 := hs3.g.2.2.2.2.2.1
          obtain ⟨k, hk⟩ : ∃ k, K[cix true K.length]? = some k := ⟨K[cix true K.length]'(cix_lt (by omega)), List.getElem?_eq_getElem (cix_lt (by omega))⟩
          replace hcn3 : cnOf H1 g.p = (Gt.L (h + 1) ((g, X3, K) : Gt EJ (h + 1))).length := hcn3
          obtain ⟨i1, i2, i3⟩ := hs3.inner (t := (g, X3, K)) hk
          have hwr3 := hs3.fr.wr hs3.g.1.wr
          have hx3 : X3.length ≤ P.mx := hs3.g.2.2.2.2.1
          -- region 19 (btreeg.go:1343)
          refine Go'.region [(0, 0), (1, 0), (2, 0), (3, 1), (4, 0), (5, 0), (6, 0), (7, 2)] rfl ?_
          refine O.mv rfl rfl rfl rfl rfl ?_
          refine O.nc rfl rfl rfl rfl rfl ?_
          refine O.fa0 (off := 1) rfl rfl rfl rfl ⟨_, _, _, Try.underlying168, rfl, rfl, Try.sizeOf3⟩ rfl ?_
          refine O.ld rfl rfl rfl (fun w => ⟨Try.isAgg3 w, Try.sizeOf3 w⟩) rfl (show cl _ g.p 1 = some (.int .i64 ((cnOf H1 g.p - 1 : Nat) : Int)) from hcc3) ?_
          refine O.add (((((cnOf H1 g.p - 1)) + 1 : Nat) : Int)) rfl rfl rfl rfl rfl rfl (by omega) (by omega) ?_
          refine O.nc rfl rfl rfl rfl rfl ?_
          refine O.fa0 (off := 1) rfl rfl rfl rfl ⟨_, _, _, Try.underlying168, rfl, rfl, Try.sizeOf3⟩ rfl ?_
          refine O.st rfl rfl Try.sizeOf3 rfl rfl rfl rfl rfl (hwr3.at0 1 1 (by omega)) ?_
          intro H4 W4
          have ecn : cnOf H1 g.p - 1 + 1 = cnOf H1 g.p := by omega
          rw [ecn] at W4
          have hs4 := hs3.step (t := (g, X3, K)) hh1 hk W4
          have hf4 : Fr (fun b o => o = 1 ∧ Gt.sp true h0 t0 b) H12 H4 := hf3.trans' W4.fr (fun _ _ _ h => h) (fun b o _ hz => by
            have h1 := hz.1; have h2 := hz.2.1; have h3 := hz.2.2
            simp only [List.length_cons, List.length_nil] at h3
            exact ⟨by omega, h1 ▸ (hs3.all _).2 (.inr (.inl rfl))⟩)
          have hKM := hs3.g.2.1
          replace i1 := W4.keep1 i1 (by simp only; omega)
          replace i2 := W4.fr.keep i2 (nr (.inl (Ne.symm hKM.n2)))
          replace i3 := W4.fr.keep i3 (nr (.inl (Ne.symm hKM.n3)))
          refine ⟨trivial, ?_⟩
          refine Pl.fin [(0, _), (2, _), (3, _), (4, _), (5, _)] ⟨rfl, rfl, rfl, rfl, rfl, trivial⟩ ?_
          refine Go'.seq ?_
          refine Go'.seq ?_
          -- region 20 (btreeg.go:1344)
          refine Go'.region [(0, 0), (1, 2)] rfl ?_
          refine O.mv rfl rfl rfl rfl rfl ?_
          refine O.callQ rfl rfl rfl Try.call133 rfl (leaf_spec i1) trivial ?_
          refine Pl.fin [(0, _), (2, _), (3, _), (4, _), (5, _), (128, _)] ⟨rfl, rfl, rfl, rfl, rfl, rfl, trivial⟩ ?_
          refine Go'.condF rfl ?_
          refine Go'.skip ?_
          -- region 21 (btreeg.go:1347)
          refine Go'.draw (fun _ => True) [(0, 0), (1, 0), (2, 0), (3, 1), (4, 0), (5, 1), (6, 0), (7, 0), (8, 0), (9, 1), (10, 0), (11, 1), (12, 0), (13, 0), (14, 0), (15, 1), (16, 0)] (by kernel_rfl) (by kernel_rfl) (trivial) ?_
          refine O.mv rfl rfl rfl rfl rfl ?_
          refine O.nc rfl rfl rfl rfl rfl ?_
          refine O.fa0 (off := 3) rfl rfl rfl rfl ⟨_, _, _, Try.underlying168, rfl, rfl, Try.sizeOf166⟩ rfl ?_
          refine O.ld rfl rfl rfl (fun w => ⟨Try.isAgg166 w, Try.sizeOf166 w⟩) rfl (show cl _ g.p 3 = some (.pointer (some ⟨g.cb, 0, none⟩)) from i1) ?_
          refine O.nc rfl rfl rfl rfl rfl ?_
          refine O.ld rfl rfl rfl (fun w => ⟨Try.isAgg170 w, Try.sizeOf170 w⟩) rfl (show cl _ g.cb 0 = some (.slice (some ⟨g.kb, g.ko, none⟩) K.length g.kc) from i2) ?_
          refine O.mv rfl rfl rfl rfl rfl ?_
          refine O.nc rfl rfl rfl rfl rfl ?_
          refine O.fa0 (off := 3) rfl rfl rfl rfl ⟨_, _, _, Try.underlying168, rfl, rfl, Try.sizeOf166⟩ rfl ?_
          refine O.ld rfl rfl rfl (fun w => ⟨Try.isAgg166 w, Try.sizeOf166 w⟩) rfl (show cl _ g.p 3 = some (.pointer (some ⟨g.cb, 0, none⟩)) from i1) ?_
          refine O.nc rfl rfl rfl rfl rfl ?_
          refine O.ld rfl rfl rfl (fun w => ⟨Try.isAgg170 w, Try.sizeOf170 w⟩) rfl (show cl _ g.cb 0 = some (.slice (some ⟨g.kb, g.ko, none⟩) K.length g.kc) from i2) ?_
          refine O.len rfl rfl rfl rfl Try.underlying170 rfl ?_
          refine O.sub (((K.length - 1 : Nat) : Int)) rfl rfl rfl rfl rfl rfl (by omega) (by omega) ?_
          refine O.ix (j := K.length - 1) rfl rfl rfl rfl Try.underlying170 Try.sizeOf129 rfl rfl (by omega) (by omega) ?_
          refine O.ld rfl rfl rfl (fun w => ⟨Try.isAgg129 w, Try.sizeOf129 w⟩) rfl i3 ?_
          refine O.asg rfl rfl rfl rfl rfl ?_
          refine Pl.fin [(0, _), (2, _), (3, _), (4, _), (5, _), (128, _)] ⟨rfl, rfl, rfl, rfl, rfl, rfl, trivial⟩ ?_
          refine Go'.inBlock ?_
          refine Go'.keep [(0, _), (2, _), (3, _), (4, _), (5, _)] ⟨rfl, rfl, rfl, rfl, rfl, trivial⟩ ?_
          refine Go'.inLoop ?_
          exact ih ⟨h, k⟩ H4 ⟨_, hs4, hf4⟩ (by simp only; omega)
        · -- the leaf again
          obtain ⟨g, X3⟩ := t
          replace hcn3 : cnOf H1 g.p = (Gt.L 0 ((g, X3) : Gt EJ 0)).length := hcn3
          have hwr3 := hs3.fr.wr hs3.g.1.wr
          have hc3l : cl H3 g.p 3 = some (.pointer none) := hs3.fr.keep hs3.g.1.c3 (fun hz => hz.elim (fun h => by omega) (fun h => hs3.nb 3 (hs3.sub b6 3 (show ncl EJ g b6 3 from .inl ⟨h.symm, by omega⟩))))
          -- region 19 (btreeg.go:1343)
          refine Go'.region [(0, 0), (1, 0), (2, 0), (3, 1), (4, 0), (5, 0), (6, 0), (7, 2)] rfl ?_
          refine O.mv rfl rfl rfl rfl rfl ?_
          refine O.nc rfl rfl rfl rfl rfl ?_
          refine O.fa0 (off := 1) rfl rfl rfl rfl ⟨_, _, _, Try.underlying168, rfl, rfl, Try.sizeOf3⟩ rfl ?_
          refine O.ld rfl rfl rfl (fun w => ⟨Try.isAgg3 w, Try.sizeOf3 w⟩) rfl (show cl _ g.p 1 = some (.int .i64 ((cnOf H1 g.p - 1 : Nat) : Int)) from hcc3) ?_
          refine O.add (((((cnOf H1 g.p - 1)) + 1 : Nat) : Int)) rfl rfl rfl rfl rfl rfl (by omega) (by omega) ?_
          refine O.nc rfl rfl rfl rfl rfl ?_
          refine O.fa0 (off := 1) rfl rfl rfl rfl ⟨_, _, _, Try.underlying168, rfl, rfl, Try.sizeOf3⟩ rfl ?_
          refine O.st rfl rfl Try.sizeOf3 rfl rfl rfl rfl rfl (hwr3.at0 1 1 (by omega)) ?_
          intro H4 W4
          have ecn : cnOf H1 g.p - 1 + 1 = cnOf H1 g.p := by omega
          rw [ecn] at W4
          have hgB := hs3.fin (t := (g, X3)) hg1 W4
          have hf4 : Fr (fun b o => o = 1 ∧ Gt.sp true h0 t0 b) H12 H4 := hf3.trans' W4.fr (fun _ _ _ h => h) (fun b o _ hz => by
            have h1 := hz.1; have h2 := hz.2.1; have h3 := hz.2.2
            simp only [List.length_cons, List.length_nil] at h3
            exact ⟨by omega, h1 ▸ (hs3.all _).2 (.inr rfl)⟩)
          have hst : ∀ b o, b < cx.base → ¬ (o = 1 ∧ Gt.sp true h0 t0 b) := fun b o hb hz => by have := hnt b 1 (Gt.sp_af hz.2 1 (by omega)); omega
          replace hc3l := W4.keep1 hc3l (by omega)
          replace tc := tc.fr hf4 (fun b o hb _ => hst b o hb.1)
          replace cnt := hf4.keep cnt (hst _ _ htb)
          replace hc := hf4.keep hc (hst _ _ htb)
          replace m6 := hf4.rd m6 (fun i _ hz => hb6n 1 (Gt.sp_af hz.2 1 (by omega)))
          replace w6 := hf4.wr w6
          have hFB : Fr (fun b _ => S b) H H4 := hF1.trans' (hFb.trans' hf4 (Z := fun b o => (o = 1 ∧ Gt.sp true h0 t0 b) ∨ b = b6) (fun _ _ _ h => h) (fun _ _ _ h => .inl h)) (fun _ _ _ h => h.elim) (fun b o hb hz => by
            rcases hz with ⟨ho, hz⟩ | hz
            · exact hown b o (ho ▸ Gt.sp_af hz 1 (by omega))
            · omega)
          have hszB := hFB.size
          have hMB : MapM H4 tr P S l := ⟨tc, srt, cnt, own, fun b hb => by have := lt b hb; omega, bs, .inr ⟨h0, t0, hgB, hx0, e, hc, hnt, hown⟩⟩
          refine ⟨trivial, ?_⟩
          refine Pl.fin [(0, _), (2, _), (3, _), (4, _), (5, _)] ⟨rfl, rfl, rfl, rfl, rfl, trivial⟩ ?_
          refine Go'.seq ?_
          refine Go'.seq ?_
          -- region 20 (btreeg.go:1344)
          refine Go'.region [(0, 0), (1, 2)] rfl ?_
          refine O.mv rfl rfl rfl rfl rfl ?_
          refine O.callQ rfl rfl rfl Try.call133 rfl (leaf_spec hc3l) trivial ?_
          refine Pl.fin [(0, _), (2, _), (3, _), (4, _), (5, _), (128, _)] ⟨rfl, rfl, rfl, rfl, rfl, rfl, trivial⟩ ?_
          refine Go'.condT rfl ?_
          refine Go'.exit rfl ?_
          refine Go'.seq ?_
          have hgl : ∃ R, l = glue true X R := hs.glue hg1 e hlf
          obtain ⟨R, hR⟩ := hgl
          have hpk := popk_glue (d := true) (X := X) (X' := X.take (X.length - 1)) (y := y) (R := R) hxy
          rw [← hR] at hpk
          have hgot : Pl.got OI y l = some y ∧ Pl.fnd OI y l = true ∧ Pl.del OI y l = (Pl.popk l true).1 := by
            rw [hpk]
            have hs9 := srt
            rw [hR] at hs9 ⊢
            have hxy' : X = X.take (X.length - 1) ++ [y] := hxy
            have e9 : glue true X R = (R ++ X.take (X.length - 1)) ++ [y] := by
              show R ++ X = _
              conv => lhs; rw [hxy']
              simp
            rw [e9] at hs9 ⊢
            exact Pl.got_last OI hs9
          have hb6S : ∀ b, S b → b ≠ b6 := fun b hb e2 => by have := lt b hb; omega
          -- region 22 (btreeg.go:1349)
          refine Go'.region [(0, 0), (1, 1), (2, 2), (3, 0), (4, 0), (5, 2), (6, 0)] rfl ?_
          refine O.mv rfl rfl rfl rfl rfl ?_
          refine O.lds rfl rfl rfl (fun w => ⟨Try.isAgg27 w, Try.sizeOf27 w⟩) rfl rfl m6 ?_
          refine O.call rfl rfl rfl Try.call132 rfl (delh_spec hP (x := y) hMB hlen) ?_
          rintro _ H5 ⟨rfl, S', hM5, hF5, hS5⟩
          rw [hgot.1, hgot.2.1]
          rw [hgot.2.2] at hM5
          have wz5 := hF5.wr (hFB.wr wz)
          have hs5 := hF5.size
          refine ⟨trivial, ?_⟩
          refine O.ext rfl rfl rfl rfl rfl rfl ?_
          refine O.ext rfl rfl rfl rfl rfl rfl ?_
          refine O.st (vs := (EJ.enc y)) rfl rfl Try.sizeOf27 rfl rfl rfl rfl rfl wz5 ?_
          intro H6 W6
          refine ⟨trivial, ?_⟩
          refine O.asg rfl rfl rfl rfl rfl ?_
          refine Pl.fin [(2, _), (3, _)] ⟨rfl, rfl, trivial⟩ ?_
          refine Go'.ret (vs := [_, _]) Try.func114 Try.results114 ⟨⟨_, _, rfl, fun _ _ => run_loadVar_agg (fun w => ⟨Try.isAgg27 w, Try.sizeOf27 w⟩) rfl W6.all⟩, rfl, trivial⟩ ?_
          unfold PopZ
          refine ⟨by rw [hpk]; rfl, S', hM5.zr hzb (fun b hb => (hS5 b hb).elim (hzS b) (fun h => by omega)) W6, (hFB.trans' hF5 (Z := fun b _ => S b ∨ b = zr) (fun _ _ _ h => .inl h) (fun _ _ _ h => .inl h)).trans' W6.fr (fun _ _ _ h => h) (fun b o _ h => .inr h.1), fun b hb => (hS5 b hb).imp id (fun h => by omega)⟩


end
end Go.Bt.FG
namespace Go.Bt.FG
open Go Go.Proofs
set_option maxRecDepth 20000
set_option maxHeartbeats 4000000
set_option linter.unusedVariables false
set_option linter.unusedSectionVars false

/-- A degree's value: 0 stands for the default. -/
def dg (d : Nat) : Nat := if d = 0 then 32 else d
def PD (d : Nat) : Ps := ⟨1, 2 * dg d - 1, dg d - 1⟩
theorem dg_ok {d : Nat} (hd : d = 0 ∨ 2 ≤ d ∧ d ≤ 128) : 2 ≤ dg d ∧ dg d ≤ 128 := by unfold dg; split <;> omega
theorem PD_ok {d : Nat} (hd : d = 0 ∨ 2 ≤ d ∧ d ≤ 128) : PsOk (PD d) := by
  have := dg_ok hd
  exact ⟨by show 2 * dg d - 1 = 2 * (dg d - 1) + 1; omega, by show 1 ≤ dg d - 1; omega, by show 2 * dg d - 1 ≤ 255; omega⟩
/-- A tree header. -/
structure TrN (H : Mem) (tr id mx mn : Nat) (lv : Value) : Prop where
  iso : cl H tr 0 = some (.int .u64 (id : Int))
  rt : cl H tr 2 = some (.pointer none)
  cnt : cl H tr 3 = some (.int .i64 0)
  emp : Rd H tr 7 [.int .i64 0, .int .i64 0]
  mn' : cl H tr 10 = some (.int .i64 (mn : Int))
  mx' : cl H tr 9 = some (.int .i64 (mx : Int))
  cv : cl H tr 4 = some (.bool false)
  icv : cl H tr 5 = some (.bool false)
  le : cl H tr 6 = some lv
  wr : Wr H tr 0 11
theorem TrN.fr {H H' : Mem} {tr id mx mn : Nat} {lv : Value} {Z : Nat → Nat → Prop} (h : TrN H tr id mx mn lv) (hf : Fr Z H H') (hz : ∀ o, ¬ Z tr o) : TrN H' tr id mx mn lv :=
  ⟨hf.keep h.iso (hz _), hf.keep h.rt (hz _), hf.keep h.cnt (hz _), hf.rd h.emp (fun _ _ => hz _), hf.keep h.mn' (hz _), hf.keep h.mx' (hz _), hf.keep h.cv (hz _), hf.keep h.icv (hz _), hf.keep h.le (hz _), hf.wr h.wr⟩
theorem st142 : StT Try.prog 142 [(0, 1), (1, 1)] [.int .i64 0, .bool false] := ⟨⟨_, Try.underlying142, fun w => by simp [Array.mapM_eq_mapM_toList, Try.sizeOf3, Try.sizeOf4]⟩, Try.zeroValue142⟩

theorem degG_spec {B : World} {H : Mem} {d : Nat} (hd : d = 0 ∨ 2 ≤ d ∧ d ≤ 128) :
    Fn Try.prog B 198 [.int .i64 (d : Int)] H (fun v H' => v = .tuple #[.int .i64 ((dg d - 1 : Nat) : Int), .int .i64 ((2 * dg d - 1 : Nat) : Int)] ∧ H' = H) := by
  rcases hd with rfl | hd
  rotate_left
  · rw [show dg d = d by unfold dg; rw [if_neg (by omega)]]; haveI : Inhabited Cx := ⟨⟨[], 0, .bool false, 0, fun _ => False⟩⟩; exact deg_spec hd
  refine fn_of Try.func198 rfl Try.ntmps198 ?_
  refine (show Go' _ _ _ _ 15 [(0, _)] [.code _] _ from ?_)
  refine Go'.seq ?_
  -- region 0 (map.go:20)
  refine Go'.region [(0, 0), (1, 0)] rfl ?_
  refine O.asg rfl rfl rfl rfl rfl ?_
  refine O.asg rfl rfl rfl rfl rfl ?_
  refine Pl.fin [(0, _), (2, _), (3, _)] ⟨rfl, rfl, rfl, trivial⟩ ?_
  refine Go'.seq ?_
  refine Go'.seq ?_
  -- region 1 (map.go:21)
  refine Go'.region [(0, 0), (1, 0)] rfl ?_
  refine O.mv rfl rfl rfl rfl rfl ?_
  refine O.cmp rfl rfl rfl rfl rfl rfl (leqT (by omega)) ?_
  refine Pl.fin [(0, _), (2, _), (3, _), (5, _)] ⟨rfl, rfl, rfl, rfl, trivial⟩ ?_
  refine Go'.condT rfl ?_
  -- region 2 (map.go:22)
  refine Go'.region [(0, 0)] rfl ?_
  refine O.asg rfl rfl rfl rfl rfl ?_
  refine Pl.fin [(0, _), (2, _), (3, _)] ⟨rfl, rfl, rfl, trivial⟩ ?_
  refine Go'.seq ?_
  -- region 5 (map.go:26)
  refine Go'.region [(0, 0), (1, 0), (2, 0), (3, 0)] rfl ?_
  refine O.mv rfl rfl rfl rfl rfl ?_
  refine O.mul (((64 : Nat) : Int)) rfl rfl rfl rfl rfl rfl (by omega) (by omega) ?_
  refine O.sub (((63 : Nat) : Int)) rfl rfl rfl rfl rfl rfl (by omega) (by omega) ?_
  refine O.asg rfl rfl rfl rfl rfl ?_
  refine Pl.fin [(2, _), (3, _)] ⟨rfl, rfl, trivial⟩ ?_
  refine Go'.seq ?_
  -- region 6 (map.go:27)
  refine Go'.region [(0, 0), (1, 0), (2, 0)] rfl ?_
  refine O.mv rfl rfl rfl rfl rfl ?_
  refine O.quo (((31 : Nat) : Int)) rfl rfl rfl rfl rfl rfl (by decide) rfl (by omega) ?_
  refine O.asg rfl rfl rfl rfl rfl ?_
  refine Pl.fin [(2, _), (3, _)] ⟨rfl, rfl, trivial⟩ ?_
  refine Go'.seq ?_
  -- region 7 (map.go:28)
  refine Go'.region [(0, 0), (1, 0), (2, 0), (3, 0)] rfl ?_
  refine O.mv rfl rfl rfl rfl rfl ?_
  refine O.mv rfl rfl rfl rfl rfl ?_
  refine O.asg rfl rfl rfl rfl rfl ?_
  refine O.asg rfl rfl rfl rfl rfl ?_
  refine Pl.fin [(2, _), (3, _)] ⟨rfl, rfl, trivial⟩ ?_
  refine Go'.ret (vs := [_, _]) Try.func198 Try.results198 ⟨rfl, rfl, trivial⟩ ?_
  exact ⟨rfl, rfl⟩

theorem init_new {B : World} {H : Mem} {tr id d : Nat} {lv : Value} (hd : d = 0 ∨ 2 ≤ d ∧ d ≤ 128) (h : TrN H tr id 0 0 lv) :
    Fn Try.prog B 168 [.pointer (some ⟨tr, 0, none⟩), .int .i64 (d : Int)] H (fun v H' => v = resVal [] ∧ H'.size = H.size ∧ Fr (fun b _ => b = tr) H H' ∧ TrN H' tr id (2 * dg d - 1) (dg d - 1) lv) := by
  obtain ⟨h0, h2, h3, he, h6, h7, h8, h9, hle, hw⟩ := h
  have htl : tr < H.size := cl_lt h0
  have hF : Fr (fun b _ => b = tr) H H := Fr.refl _ _
  refine fn_of Try.func168 rfl Try.ntmps168 ?_
  refine (show Go' _ _ _ _ 49 [(0, _), (1, _)] [.code _] _ from ?_)
  refine Go'.seq ?_
  refine Go'.seq ?_
  -- region 0 (btreeg.go:61)
  refine Go'.region [(0, 0), (1, 0), (2, 0), (3, 1), (4, 0)] rfl ?_
  refine O.mv rfl rfl rfl rfl rfl ?_
  refine O.nc rfl rfl rfl rfl rfl ?_
  refine O.fa0 (off := 10) rfl rfl rfl rfl ⟨_, _, _, Try.underlying158, rfl, rfl, Try.sizeOf3⟩ rfl ?_
  refine O.ld rfl rfl rfl (fun w => ⟨Try.isAgg3 w, Try.sizeOf3 w⟩) rfl h6 ?_
  refine O.cmp rfl rfl rfl rfl rfl rfl (neqF (by omega)) ?_
  refine Pl.fin [(0, _), (1, _), (8, _)] ⟨rfl, rfl, rfl, trivial⟩ ?_
  refine Go'.condF rfl ?_
  refine Go'.skip ?_
  refine Go'.seq ?_
  -- region 1 (btreeg.go:64)
  refine Go'.region [(0, 0), (1, 0), (2, 0), (3, 2), (4, 0), (5, 0), (6, 0), (7, 0), (8, 0), (9, 2), (10, 0), (11, 0), (12, 2)] rfl ?_
  refine O.mv rfl rfl rfl rfl rfl ?_
  refine O.mv rfl rfl rfl rfl rfl ?_
  refine O.mv rfl rfl rfl rfl rfl ?_
  refine O.callQ rfl rfl rfl Try.call198 rfl (degG_spec hd) trivial ?_
  refine O.mv rfl rfl rfl rfl rfl ?_
  refine O.ext rfl rfl rfl rfl rfl rfl ?_
  refine O.ext rfl rfl rfl rfl rfl rfl ?_
  refine O.nc rfl rfl rfl rfl rfl ?_
  refine O.fa0 (off := 10) rfl rfl rfl rfl ⟨_, _, _, Try.underlying158, rfl, rfl, Try.sizeOf3⟩ rfl ?_
  refine O.st rfl rfl Try.sizeOf3 rfl rfl rfl rfl rfl (hw.at0 10 1 (by omega)) ?_
  intro H1 W1
  have hsW1 := W1.size
  replace h0 := W1.keep1 h0 (by omega)
  replace h2 := W1.keep1 h2 (by omega)
  replace h3 := W1.keep1 h3 (by omega)
  replace he := W1.fr.rd he (fun i hi => nr (by simp only [List.length_cons, List.length_nil] at hi ⊢; omega))
  replace h6 := W1.at
  replace h7 := W1.keep1 h7 (by omega)
  replace h8 := W1.keep1 h8 (by omega)
  replace h9 := W1.keep1 h9 (by omega)
  replace hle := W1.keep1 hle (by omega)
  replace hw := W1.fr.wr hw
  replace hF := hF.trans' W1.fr (fun _ _ _ h => h) (fun b o _ h => h.1)
  refine ⟨trivial, ?_⟩
  refine O.nc rfl rfl rfl rfl rfl ?_
  refine O.fa0 (off := 9) rfl rfl rfl rfl ⟨_, _, _, Try.underlying158, rfl, rfl, Try.sizeOf3⟩ rfl ?_
  refine O.st rfl rfl Try.sizeOf3 rfl rfl rfl rfl rfl (hw.at0 9 1 (by omega)) ?_
  intro H2 W2
  have hsW2 := W2.size
  replace h0 := W2.keep1 h0 (by omega)
  replace h2 := W2.keep1 h2 (by omega)
  replace h3 := W2.keep1 h3 (by omega)
  replace he := W2.fr.rd he (fun i hi => nr (by simp only [List.length_cons, List.length_nil] at hi ⊢; omega))
  replace h6 := W2.keep1 h6 (by omega)
  replace h7 := W2.at
  replace h8 := W2.keep1 h8 (by omega)
  replace h9 := W2.keep1 h9 (by omega)
  replace hle := W2.keep1 hle (by omega)
  replace hw := W2.fr.wr hw
  replace hF := hF.trans' W2.fr (fun _ _ _ h => h) (fun b o _ h => h.1)
  refine ⟨trivial, ?_⟩
  refine Pl.fin [(0, _)] ⟨rfl, trivial⟩ ?_
  refine Go'.seq ?_
  -- region 2 (btreeg.go:65)
  refine Go'.region [(0, 0), (1, 0), (2, 0), (3, 0), (4, 1), (5, 0), (6, 0), (7, 0), (8, 0), (9, 0), (10, 0), (11, 0), (12, 2)] rfl ?_
  refine O.mv rfl rfl rfl rfl rfl ?_
  refine O.mv rfl rfl rfl rfl rfl ?_
  refine O.nc rfl rfl rfl rfl rfl ?_
  refine O.fa0 (off := 7) rfl rfl rfl rfl ⟨_, _, _, Try.underlying158, rfl, rfl, Try.sizeOf27⟩ rfl ?_
  refine O.lds rfl rfl rfl (fun w => ⟨Try.isAgg27 w, Try.sizeOf27 w⟩) rfl rfl he ?_
  refine O.mki rfl rfl rfl rfl Try.underlying27 rfl rfl ?_
  refine O.tya rfl rfl rfl rfl rfl (run_assert_no' Try.underlying223 Try.typeInfo27 rfl Try.zeroValue223) ?_
  refine O.mv rfl rfl rfl rfl rfl ?_
  refine O.ext rfl rfl rfl rfl rfl rfl ?_
  refine O.ext rfl rfl rfl rfl rfl rfl ?_
  refine O.nc rfl rfl rfl rfl rfl ?_
  refine O.fa0 (off := 4) rfl rfl rfl rfl ⟨_, _, _, Try.underlying158, rfl, rfl, Try.sizeOf4⟩ rfl ?_
  refine O.st rfl rfl Try.sizeOf4 rfl rfl rfl rfl rfl (hw.at0 4 1 (by omega)) ?_
  intro H3 W3
  have hsW3 := W3.size
  replace h0 := W3.keep1 h0 (by omega)
  replace h2 := W3.keep1 h2 (by omega)
  replace h3 := W3.keep1 h3 (by omega)
  replace he := W3.fr.rd he (fun i hi => nr (by simp only [List.length_cons, List.length_nil] at hi ⊢; omega))
  replace h6 := W3.keep1 h6 (by omega)
  replace h7 := W3.keep1 h7 (by omega)
  replace h8 := W3.at
  replace h9 := W3.keep1 h9 (by omega)
  replace hle := W3.keep1 hle (by omega)
  replace hw := W3.fr.wr hw
  replace hF := hF.trans' W3.fr (fun _ _ _ h => h) (fun b o _ h => h.1)
  refine ⟨trivial, ?_⟩
  refine Pl.fin [(0, _)] ⟨rfl, trivial⟩ ?_
  refine Go'.seq ?_
  -- region 3 (btreeg.go:66)
  refine Go'.region [(0, 0), (1, 0), (2, 0), (3, 1), (4, 0)] rfl ?_
  refine O.mv rfl rfl rfl rfl rfl ?_
  refine O.nc rfl rfl rfl rfl rfl ?_
  refine O.fa0 (off := 4) rfl rfl rfl rfl ⟨_, _, _, Try.underlying158, rfl, rfl, Try.sizeOf4⟩ rfl ?_
  refine O.ld rfl rfl rfl (fun w => ⟨Try.isAgg4 w, Try.sizeOf4 w⟩) rfl h8 ?_
  refine O.not rfl rfl rfl rfl rfl ?_
  refine Pl.fin [(0, _), (36, _)] ⟨rfl, rfl, trivial⟩ ?_
  refine Go'.condT rfl ?_
  -- region 4 (btreeg.go:67)
  refine Go'.region [(0, 0), (1, 0), (2, 0), (3, 0), (4, 1), (5, 0), (6, 0), (7, 0), (8, 0), (9, 0), (10, 0), (11, 0), (12, 2)] rfl ?_
  refine O.mv rfl rfl rfl rfl rfl ?_
  refine O.mv rfl rfl rfl rfl rfl ?_
  refine O.nc rfl rfl rfl rfl rfl ?_
  refine O.fa0 (off := 7) rfl rfl rfl rfl ⟨_, _, _, Try.underlying158, rfl, rfl, Try.sizeOf27⟩ rfl ?_
  refine O.lds rfl rfl rfl (fun w => ⟨Try.isAgg27 w, Try.sizeOf27 w⟩) rfl rfl he ?_
  refine O.mki rfl rfl rfl rfl Try.underlying27 rfl rfl ?_
  refine O.tya rfl rfl rfl rfl rfl (run_assert_no' Try.underlying226 Try.typeInfo27 rfl Try.zeroValue226) ?_
  refine O.mv rfl rfl rfl rfl rfl ?_
  refine O.ext rfl rfl rfl rfl rfl rfl ?_
  refine O.ext rfl rfl rfl rfl rfl rfl ?_
  refine O.nc rfl rfl rfl rfl rfl ?_
  refine O.fa0 (off := 5) rfl rfl rfl rfl ⟨_, _, _, Try.underlying158, rfl, rfl, Try.sizeOf4⟩ rfl ?_
  refine O.st rfl rfl Try.sizeOf4 rfl rfl rfl rfl rfl (hw.at0 5 1 (by omega)) ?_
  intro H4 W4
  have hsW4 := W4.size
  replace h0 := W4.keep1 h0 (by omega)
  replace h2 := W4.keep1 h2 (by omega)
  replace h3 := W4.keep1 h3 (by omega)
  replace he := W4.fr.rd he (fun i hi => nr (by simp only [List.length_cons, List.length_nil] at hi ⊢; omega))
  replace h6 := W4.keep1 h6 (by omega)
  replace h7 := W4.keep1 h7 (by omega)
  replace h8 := W4.keep1 h8 (by omega)
  replace h9 := W4.at
  replace hle := W4.keep1 hle (by omega)
  replace hw := W4.fr.wr hw
  replace hF := hF.trans' W4.fr (fun _ _ _ h => h) (fun b o _ h => h.1)
  refine ⟨trivial, ?_⟩
  refine Pl.fin [] trivial ?_
  refine Go'.fall Try.func168 Try.results168 (vs := []) trivial ?_
  exact ⟨rfl, by omega, hF, ⟨h0, h2, h3, he, h6, h7, h8, h9, hle, hw⟩⟩

theorem newIso_spec {B : World} {H : Mem} {c : Nat} (hc : cl H c 0 = some (.int .u64 0)) (hw : Wr H c 0 1) :
    Fn Try.prog B 167 [.pointer (some ⟨c, 0, none⟩)] H (fun v H' => v = .int .u64 ((1 : Nat) : Int) ∧ Fr (fun b _ => b = c) H H') := by
  refine fn_of Try.func167 rfl Try.ntmps167 ?_
  refine (show Go' _ _ _ _ 11 [(0, _)] [.code _] _ from ?_)
  refine Go'.seq ?_
  -- region 0 (map.go:31)
  refine Go'.region [(0, 0)] rfl ?_
  refine O.asg rfl rfl rfl rfl rfl ?_
  refine Pl.fin [(0, _), (2, _)] ⟨rfl, rfl, trivial⟩ ?_
  refine Go'.seq ?_
  -- region 1 (map.go:32)
  refine Go'.region [(0, 0), (1, 0), (2, 1), (3, 0), (4, 0), (5, 2)] rfl ?_
  refine O.mv rfl rfl rfl rfl rfl ?_
  refine O.nc rfl rfl rfl rfl rfl ?_
  refine O.ld rfl rfl rfl (fun w => ⟨Try.isAgg155 w, Try.sizeOf155 w⟩) rfl hc ?_
  refine O.bin rfl rfl rfl rfl rfl rfl (fun w => ⟨run_eqGuard_int _ _ _ _ _ _ _ _ w, rfl⟩) ?_
  refine O.nc rfl rfl rfl rfl rfl ?_
  refine O.st rfl rfl Try.sizeOf155 rfl rfl rfl rfl rfl hw ?_
  intro H1 W1
  refine ⟨trivial, ?_⟩
  refine Pl.fin [(0, _), (2, _)] ⟨rfl, rfl, trivial⟩ ?_
  refine Go'.seq ?_
  -- region 2 (map.go:33)
  refine Go'.region [(0, 0), (1, 0), (2, 1), (3, 0)] rfl ?_
  refine O.mv rfl rfl rfl rfl rfl ?_
  refine O.nc rfl rfl rfl rfl rfl ?_
  refine O.ld rfl rfl rfl (fun w => ⟨Try.isAgg155 w, Try.sizeOf155 w⟩) rfl W1.at ?_
  refine O.asg rfl rfl rfl rfl rfl ?_
  refine Pl.fin [(2, _)] ⟨rfl, trivial⟩ ?_
  refine Go'.ret (vs := [_]) Try.func167 Try.results167 ⟨rfl, trivial⟩ ?_
  exact ⟨rfl, W1.fr.mono fun b o _ h => h.1⟩

theorem newTree_spec {B : World} {H : Mem} {d : Nat} {nl : Bool} {g : FuncId} {ob : Nat} (hd : d = 0 ∨ 2 ≤ d ∧ d ≤ 128) :
    Fn Try.prog B 121 [.func (.func g) #[] #[ptr ob], .agg #[.int .i64 (d : Int), .bool nl]] H (fun r H' => ∃ tr, r = ptr tr ∧ H.size ≤ tr ∧ tr < H'.size ∧ Fr nowhere H H' ∧ TrN H' tr 1 (2 * dg d - 1) (dg d - 1) (.func (.func g) #[] #[ptr ob])) := by
  refine fn_of Try.func121 rfl Try.ntmps121 ?_
  refine (show Go' _ _ _ _ 28 [(0, _), (1, _)] [.code _] _ from ?_)
  refine Go'.seq ?_
  -- region 0 (btreeg.go:51)
  refine Go'.region [(0, 2), (1, 0)] rfl ?_
  refine O.box rfl rfl rfl rfl ?_
  intro H0 M0
  refine ⟨trivial, ?_⟩
  have hs0 := M0.size
  have mo : Rd H0 H.size 0 [.int .i64 (d : Int), .bool nl] := M0.rd _ [] (by simp [Value.cells])
  refine O.asg rfl rfl rfl rfl rfl ?_
  refine Pl.fin [(0, _), (3, _), (4, _)] ⟨rfl, rfl, rfl, trivial⟩ ?_
  refine Go'.seq ?_
  -- region 1 (btreeg.go:52)
  refine Go'.region [(0, 2), (1, 0)] rfl ?_
  refine O.alloc rfl rfl rfl Try.zeroValue158 ?_
  intro H1 M1
  refine ⟨trivial, ?_⟩
  have hs1 := M1.size
  replace mo := (M1.fr nowhere).rd mo (fun _ _ => nw)
  have hT0 : TrN H1 H0.size 0 0 0 _ := ⟨(M1.cl 0).trans rfl, (M1.cl 2).trans rfl, (M1.cl 3).trans rfl, fun i v h => by
      match i, h with
      | 0, h => exact (M1.cl 7).trans h
      | 1, h => exact (M1.cl (7 + 1)).trans h
      | i + 2, h => simp at h, (M1.cl 10).trans rfl, (M1.cl 9).trans rfl, (M1.cl 4).trans rfl, (M1.cl 5).trans rfl, (M1.cl 6).trans rfl, M1.wr 11 (by decide)⟩
  refine O.asg rfl rfl rfl rfl rfl ?_
  refine Pl.fin [(0, _), (3, _), (4, _), (5, _)] ⟨rfl, rfl, rfl, rfl, trivial⟩ ?_
  refine Go'.seq ?_
  -- region 2 (btreeg.go:53)
  refine Go'.region [(0, 0), (1, 2), (2, 0), (3, 0), (4, 2)] rfl ?_
  refine O.mv rfl rfl rfl rfl rfl ?_
  refine O.alloc rfl rfl rfl Try.zeroValue155 ?_
  intro H2 M2
  refine ⟨trivial, ?_⟩
  have hs2 := M2.size
  replace mo := (M2.fr nowhere).rd mo (fun _ _ => nw)
  replace hT0 := hT0.fr (M2.fr nowhere) (fun _ => nw)
  have hc0 : cl H2 H1.size 0 = some (.int .u64 0) := (M2.cl 0).trans rfl
  have hcw : Wr H2 H1.size 0 1 := M2.wr 1 (by decide)
  refine O.nc rfl rfl rfl rfl rfl ?_
  refine O.fa0 (off := 1) rfl rfl rfl rfl ⟨_, _, _, Try.underlying158, rfl, rfl, Try.sizeOf156⟩ rfl ?_
  refine O.st rfl rfl Try.sizeOf156 rfl rfl rfl rfl rfl (hT0.wr.at0 1 1 (by omega)) ?_
  intro H3 W3
  have hs3 := W3.size
  replace mo := W3.fr.rd mo (fun _ _ => nr (.inl (by omega)))
  replace hc0 := W3.keep1 hc0 (by omega)
  replace hcw := W3.fr.wr hcw
  have hct : cl H3 H0.size 1 = some (.pointer (some ⟨H1.size, 0, none⟩)) := W3.at
  have hT0 : TrN H3 H0.size 0 0 0 _ := ⟨(W3.keep1 hT0.iso (by omega)), (W3.keep1 hT0.rt (by omega)), (W3.keep1 hT0.cnt (by omega)), (W3.fr.rd hT0.emp (fun i hi => nr (by simp only [List.length_cons, List.length_nil] at hi ⊢; omega))), (W3.keep1 hT0.mn' (by omega)), (W3.keep1 hT0.mx' (by omega)), (W3.keep1 hT0.cv (by omega)), (W3.keep1 hT0.icv (by omega)), (W3.keep1 hT0.le (by omega)), (W3.fr.wr hT0.wr)⟩
  refine ⟨trivial, ?_⟩
  refine Pl.fin [(0, _), (3, _), (4, _), (5, _)] ⟨rfl, rfl, rfl, rfl, trivial⟩ ?_
  refine Go'.seq ?_
  -- region 3 (btreeg.go:54)
  refine Go'.region [(0, 0), (1, 0), (2, 0), (3, 0), (4, 1), (5, 2), (6, 0), (7, 0), (8, 2)] rfl ?_
  refine O.mv rfl rfl rfl rfl rfl ?_
  refine O.mv rfl rfl rfl rfl rfl ?_
  refine O.nc rfl rfl rfl rfl rfl ?_
  refine O.fa0 (off := 1) rfl rfl rfl rfl ⟨_, _, _, Try.underlying158, rfl, rfl, Try.sizeOf156⟩ rfl ?_
  refine O.ld rfl rfl rfl (fun w => ⟨Try.isAgg156 w, Try.sizeOf156 w⟩) rfl hct ?_
  refine O.call rfl rfl rfl Try.call167 rfl (newIso_spec hc0 hcw) ?_
  rintro _ H4 ⟨rfl, hF4⟩
  have hs4 := hF4.size
  replace mo := hF4.rd mo (fun _ _ e => by have e' : H.size = H1.size := e; omega)
  replace hT0 := hT0.fr hF4 (fun _ e => by have e' : H0.size = H1.size := e; omega)
  refine ⟨trivial, ?_⟩
  refine O.nc rfl rfl rfl rfl rfl ?_
  refine O.faz rfl rfl rfl rfl ⟨_, _, _, Try.underlying158, rfl, rfl, Try.sizeOf155⟩ rfl ?_
  refine O.st rfl rfl Try.sizeOf155 rfl rfl rfl rfl rfl (hT0.wr.at0 0 1 (by omega)) ?_
  intro H5 W5
  have hs5 := W5.size
  replace mo := W5.fr.rd mo (fun _ _ => nr (.inl (by omega)))
  have hT0 : TrN H5 H0.size 1 0 0 _ := ⟨W5.at, (W5.keep1 hT0.rt (by omega)), (W5.keep1 hT0.cnt (by omega)), (W5.fr.rd hT0.emp (fun i hi => nr (by simp only [List.length_cons, List.length_nil] at hi ⊢; omega))), (W5.keep1 hT0.mn' (by omega)), (W5.keep1 hT0.mx' (by omega)), (W5.keep1 hT0.cv (by omega)), (W5.keep1 hT0.icv (by omega)), (W5.keep1 hT0.le (by omega)), (W5.fr.wr hT0.wr)⟩
  refine ⟨trivial, ?_⟩
  refine Pl.fin [(0, _), (3, _), (4, _), (5, _)] ⟨rfl, rfl, rfl, rfl, trivial⟩ ?_
  refine Go'.seq ?_
  -- region 4 (btreeg.go:55)
  refine Go'.region [(0, 0), (1, 0), (2, 0), (3, 0), (4, 2)] rfl ?_
  refine O.mv rfl rfl rfl rfl rfl ?_
  refine O.mv rfl rfl rfl rfl rfl ?_
  refine O.nc rfl rfl rfl rfl rfl ?_
  refine O.fa0 (off := 6) rfl rfl rfl rfl ⟨_, _, _, Try.underlying158, rfl, rfl, Try.sizeOf88⟩ rfl ?_
  refine O.st rfl rfl Try.sizeOf88 rfl rfl rfl rfl rfl (hT0.wr.at0 6 1 (by omega)) ?_
  intro H6 W6
  have hs6 := W6.size
  replace mo := W6.fr.rd mo (fun _ _ => nr (.inl (by omega)))
  have hT0 : TrN H6 H0.size 1 0 0 (.func (.func g) #[] #[ptr ob]) := ⟨(W6.keep1 hT0.iso (by omega)), (W6.keep1 hT0.rt (by omega)), (W6.keep1 hT0.cnt (by omega)), (W6.fr.rd hT0.emp (fun i hi => nr (by simp only [List.length_cons, List.length_nil] at hi ⊢; omega))), (W6.keep1 hT0.mn' (by omega)), (W6.keep1 hT0.mx' (by omega)), (W6.keep1 hT0.cv (by omega)), (W6.keep1 hT0.icv (by omega)), W6.at, (W6.fr.wr hT0.wr)⟩
  refine ⟨trivial, ?_⟩
  refine Pl.fin [(3, _), (4, _), (5, _)] ⟨rfl, rfl, rfl, trivial⟩ ?_
  refine Go'.seq ?_
  -- region 5 (btreeg.go:56)
  refine Go'.region [(0, 0), (1, 0), (2, 1), (3, 2)] rfl ?_
  refine O.mv rfl rfl rfl rfl rfl ?_
  refine O.faz rfl rfl rfl rfl ⟨_, _, _, Try.underlying142, rfl, rfl, Try.sizeOf3⟩ rfl ?_
  refine O.ld rfl rfl rfl (fun w => ⟨Try.isAgg3 w, Try.sizeOf3 w⟩) rfl (mo 0 _ rfl) ?_
  refine O.call rfl rfl rfl Try.call168 rfl (init_new hd hT0) ?_
  rintro _ H7 ⟨rfl, hs7, hF7, hT7⟩
  refine ⟨trivial, ?_⟩
  refine Pl.fin [(4, _), (5, _)] ⟨rfl, rfl, trivial⟩ ?_
  refine Go'.seq ?_
  -- region 6 (btreeg.go:57)
  refine Go'.region [(0, 0), (1, 0)] rfl ?_
  refine O.mv rfl rfl rfl rfl rfl ?_
  refine O.asg rfl rfl rfl rfl rfl ?_
  refine Pl.fin [(4, _)] ⟨rfl, trivial⟩ ?_
  refine Go'.ret (vs := [_]) Try.func121 Try.results121 ⟨rfl, trivial⟩ ?_
  refine ⟨H0.size, rfl, by omega, by omega, ?_, hT7⟩
  have f1 : Fr nowhere H H2 := ((M0.fr nowhere).trans (M1.fr nowhere)).trans (M2.fr nowhere)
  have f3 : Fr nowhere H H3 := f1.trans' W3.fr (fun _ _ _ h => h) (fun b o hb h => by have h' := h.1; omega)
  have f4 : Fr nowhere H H4 := f3.trans' hF4 (fun _ _ _ h => h) (fun b o hb h => by have h' : b = H1.size := h; omega)
  have f5 : Fr nowhere H H5 := f4.trans' W5.fr (fun _ _ _ h => h) (fun b o hb h => by have h' := h.1; omega)
  have f6 : Fr nowhere H H6 := f5.trans' W6.fr (fun _ _ _ h => h) (fun b o hb h => by have h' := h.1; omega)
  exact f6.trans' hF7 (fun _ _ _ h => h) (fun b o hb h => by have h' : b = H0.size := h; omega)

theorem cloneN_spec {B : World} {H : Mem} {v : Value} {l : List Int} (hi : InS EN H v l) (hll : l.length ≤ 4294967296) :
    Fn Try.prog B 169 [v] H (fun r H' => Acc EN (fun b => H.size ≤ b) H' r l ∧ Fr nowhere H H') := by
  obtain ⟨a, c, rfl⟩ := hi.len
  rcases a with _ | a
  · skip
    obtain rfl : l = [] := by
      rcases hi with ⟨b, o, c', e, _⟩ | ⟨e, _⟩
      · cases e
      · exact e
    refine fn_of Try.func169 rfl Try.ntmps169 ?_
    refine (show Go' _ _ _ _ 8 [(0, _)] [.code _] _ from ?_)
    refine Go'.seq ?_
    -- region 0 (slices.go:355)
    refine Go'.region [(0, 0)] rfl ?_
    refine O.asg rfl rfl rfl rfl rfl ?_
    refine Pl.fin [(0, _), (2, _)] ⟨rfl, rfl, trivial⟩ ?_
    refine Go'.seq ?_
    refine Go'.seq ?_
    -- region 1 (slices.go:357)
    refine Go'.region [(0, 0), (1, 0)] rfl ?_
    refine O.mv rfl rfl rfl rfl rfl ?_
    refine O.slNil rfl rfl rfl rfl Try.underlying22 rfl rfl ?_
    refine Pl.fin [(0, _), (2, _), (4, _)] ⟨rfl, rfl, rfl, trivial⟩ ?_
    refine Go'.condT rfl ?_
    refine Go'.seq ?_
    -- region 2 (slices.go:358)
    refine Go'.region [(0, 0)] rfl ?_
    refine O.asg rfl rfl rfl rfl rfl ?_
    refine Pl.fin [(0, _), (2, _)] ⟨rfl, rfl, trivial⟩ ?_
    refine Go'.ret (vs := [_]) Try.func169 Try.results169 ⟨rfl, trivial⟩ ?_
    exact ⟨Acc.nil _ _ _, Fr.refl _ _⟩
  · skip
    refine fn_of Try.func169 rfl Try.ntmps169 ?_
    refine (show Go' _ _ _ _ 8 [(0, _)] [.code _] _ from ?_)
    refine Go'.seq ?_
    -- region 0 (slices.go:355)
    refine Go'.region [(0, 0)] rfl ?_
    refine O.asg rfl rfl rfl rfl rfl ?_
    refine Pl.fin [(0, _), (2, _)] ⟨rfl, rfl, trivial⟩ ?_
    refine Go'.seq ?_
    refine Go'.seq ?_
    -- region 1 (slices.go:357)
    refine Go'.region [(0, 0), (1, 0)] rfl ?_
    refine O.mv rfl rfl rfl rfl rfl ?_
    refine O.slNil rfl rfl rfl rfl Try.underlying22 rfl rfl ?_
    refine Pl.fin [(0, _), (2, _), (4, _)] ⟨rfl, rfl, rfl, trivial⟩ ?_
    refine Go'.condF rfl ?_
    refine Go'.skip ?_
    refine Go'.seq ?_
    -- region 3 (slices.go:362)
    refine Go'.region [(0, 2), (1, 0), (2, 2), (3, 0)] rfl ?_
    refine O.bsl (cs := []) rfl rfl rfl ⟨Try.underlying22, Try.sizeOf3, Try.zeroValue3, ⟨_, Try.typeInfo3, rfl⟩, rfl, by decide, by decide⟩ rfl (by decide) (by kernel_rfl) ?_
    intro H1 M1
    have hs1 := M1.size
    have hA1 := AccN.made (E := EN) M1
    refine ⟨trivial, ?_⟩
    refine O.mv rfl rfl rfl rfl rfl ?_
    refine O.appI (E := EN) rfl rfl rfl ⟨Try.underlying22, Try.sizeOf3, Try.zeroValue3, ⟨_, Try.typeInfo3, rfl⟩, rfl, by decide, by decide⟩ rfl hA1 rfl (hi.fr (M1.fr nowhere)) (Nat.le_trans (Nat.mul_le_mul_left _ (Nat.le_of_ble_eq_true (n := _) (m := 4096) rfl)) (by simp only [List.length_nil]; omega)) (by simp only [List.length_nil]; omega) ?_
    intro v2 H2 hA2 hF2 hs2
    rw [List.nil_append] at hA2
    refine ⟨trivial, ?_⟩
    refine O.asg rfl rfl rfl rfl rfl ?_
    refine Pl.fin [(2, _)] ⟨rfl, trivial⟩ ?_
    refine Go'.ret (vs := [_]) Try.func169 Try.results169 ⟨rfl, trivial⟩ ?_
    exact ⟨.inr (hA2.mono fun b _ hz => hz.elim id (fun h => by omega)), (M1.fr nowhere).trans' hF2 (fun _ _ _ h => h) (fun b o hb hz => by have hz' : H.size ≤ b := hz; omega)⟩

theorem ibefore_spec {B : World} {H : Mem} {v : Value} {ord : List Int} (ho : InS EN H v ord) (hl : ord.length ≤ 4294967296) :
    Fn Try.prog B 122 [v] H (fun r H' => ∃ ob ov, r = .func (.func 170) #[] #[ptr ob] ∧ cl H' ob 0 = some ov ∧ H.size ≤ ob ∧ ob < H'.size ∧ Acc EN (fun b => H.size ≤ b ∧ b ≠ ob) H' ov ord ∧ Fr nowhere H H') := by
  refine fn_of Try.func122 rfl Try.ntmps122 ?_
  refine (show Go' _ _ _ _ 7 [(0, _)] [.code _] _ from ?_)
  refine Go'.seq ?_
  -- region 0 (impl.go:174)
  refine Go'.region [(0, 0)] rfl ?_
  refine O.asg rfl rfl rfl rfl rfl ?_
  refine Pl.fin [(0, _), (2, _)] ⟨rfl, rfl, trivial⟩ ?_
  refine Go'.seq ?_
  -- region 1 (impl.go:175)
  refine Go'.region [(0, 0), (1, 2), (2, 2), (3, 2)] rfl ?_
  refine O.mv rfl rfl rfl rfl rfl ?_
  refine O.call rfl rfl rfl Try.call169 rfl (cloneN_spec ho hl) ?_
  rintro ov H1 ⟨hA, hF1⟩
  obtain ⟨oa, om, oc, rfl⟩ := hA.form
  refine ⟨trivial, ?_⟩
  refine O.alloc rfl rfl rfl Try.zeroValue22 ?_
  intro H2 M2
  refine ⟨trivial, ?_⟩
  have hs2 := M2.size
  have hA2 := (hA.mono (Y := fun b => H.size ≤ b ∧ b ≠ H1.size) (fun b hb hz => ⟨hz, by omega⟩)).fr (M2.fr nowhere) (fun _ _ _ _ => nw)
  have mw : Wr H2 H1.size 0 1 := M2.wr 1 (by decide)
  refine O.st rfl rfl Try.sizeOf22 rfl rfl rfl rfl rfl mw ?_
  intro H3 W3
  have hs3 := W3.size
  have hA3 := hA2.fr W3.fr (fun b o _ hz => nr (.inl hz.2))
  refine ⟨trivial, ?_⟩
  refine Pl.fin [(2, _), (3, _)] ⟨rfl, rfl, trivial⟩ ?_
  refine Go'.seq ?_
  -- region 2 (impl.go:176)
  refine Go'.region [(0, 0), (1, 0)] rfl ?_
  refine O.mkf rfl rfl rfl rfl rfl rfl ?_
  refine O.asg rfl rfl rfl rfl rfl ?_
  refine Pl.fin [(2, _)] ⟨rfl, trivial⟩ ?_
  refine Go'.ret (vs := [_]) Try.func122 Try.results122 ⟨rfl, trivial⟩ ?_
  exact ⟨H1.size, _, rfl, W3.at, hF1.size, by omega, hA3, (hF1.trans (M2.fr nowhere)).trans' W3.fr (fun _ _ _ h => h) (fun b o hb h => by have h' := h.1; have := hF1.size; omega)⟩

theorem options_spec {B : World} {H : Mem} {v : Value} {d : Int} {nl : Bool} (hv : ∃ a m c, v = .slice a m c) :
    Fn Try.prog B 123 [.agg #[v, .int .i64 d, .bool nl]] H (fun r H' => r = .agg #[.int .i64 d, .bool nl] ∧ Fr nowhere H H') := by
  obtain ⟨a, m, c, rfl⟩ := hv
  refine fn_of Try.func123 rfl Try.ntmps123 ?_
  refine (show Go' _ _ _ _ 8 [(0, _)] [.code _] _ from ?_)
  refine Go'.seq ?_
  -- region 0 (impl.go:193)
  refine Go'.region [(0, 2), (1, 2)] rfl ?_
  refine O.box rfl rfl rfl rfl ?_
  intro H1 M1
  refine ⟨trivial, ?_⟩
  have hs1 := M1.size
  have mo : Rd H1 H.size 0 [.slice a m c, .int .i64 d, .bool nl] := M1.rd _ [] (by simp [Value.cells])
  refine O.alloc rfl rfl rfl Try.zeroValue142 ?_
  intro H2 M2
  refine ⟨trivial, ?_⟩
  have hs2 := M2.size
  replace mo := (M2.fr nowhere).rd mo (fun _ _ => nw)
  have mw : Wr H2 H1.size 0 2 := M2.wr 2 (by decide)
  refine Pl.fin [(1, _), (2, _)] ⟨rfl, rfl, trivial⟩ ?_
  refine Go'.seq ?_
  -- region 1 (impl.go:194)
  refine Go'.region [(0, 0), (1, 1), (2, 0), (3, 1), (4, 0), (5, 2)] rfl ?_
  refine O.fa0 (off := 1) rfl rfl rfl rfl ⟨_, _, _, Try.underlying24, rfl, rfl, Try.sizeOf3⟩ rfl ?_
  refine O.ld rfl rfl rfl (fun w => ⟨Try.isAgg3 w, Try.sizeOf3 w⟩) rfl (mo 1 _ rfl) ?_
  refine O.fa0 (off := 2) rfl rfl rfl rfl ⟨_, _, _, Try.underlying24, rfl, rfl, Try.sizeOf4⟩ rfl ?_
  refine O.ld rfl rfl rfl (fun w => ⟨Try.isAgg4 w, Try.sizeOf4 w⟩) rfl (mo 2 _ rfl) ?_
  refine O.bld (cs := [.int .i64 d, .bool nl]) rfl rfl rfl rfl (st142) rfl (by kernel_rfl) ?_
  refine O.st rfl rfl Try.sizeOf142 rfl rfl rfl rfl rfl mw ?_
  intro H3 W3
  refine ⟨trivial, ?_⟩
  refine Pl.fin [(2, _)] ⟨rfl, trivial⟩ ?_
  refine Go'.ret (vs := [_]) Try.func123 Try.results123 ⟨⟨_, _, rfl, fun _ _ => run_loadVar_agg (fun w => ⟨Try.isAgg142 w, Try.sizeOf142 w⟩) rfl W3.all⟩, trivial⟩ ?_
  exact ⟨rfl, ((M1.fr nowhere).trans (M2.fr nowhere)).trans' W3.fr (fun _ _ _ h => h) (fun b o hb h => by have h' := h.1; omega)⟩

/-- A tree header with its order, as the trees know it. -/
theorem TrN.mapM {H : Mem} {H0 tr id mx mn ob : Nat} {ov : Value} {ord : List Int} (h : TrN H tr id mx mn (.func (.func 170) #[] #[ptr ob])) (hob : cl H ob 0 = some ov) (hA : Acc EN (fun b => H0 ≤ b ∧ b ≠ ob ∧ b ≠ tr) H ov ord) (hol : ord.length < 4611686018427387904) (h1 : H0 ≤ tr) (h2 : H0 ≤ ob) (h3 : ob ≠ tr) (htl : tr < H.size) :
    ∃ I : Inhabited Cx, (@cx I).ord = ord ∧ (∀ b, (@cx I).own b ↔ H0 ≤ b) ∧ (@cx I).base = H.size ∧ @MapM I H tr ⟨id, mx, mn⟩ (fun b => b = tr) [] := by
  refine ⟨⟨⟨ord, ob, ov, H.size, fun b => H0 ≤ b⟩⟩, rfl, fun _ => Iff.rfl, rfl, ?_⟩
  letI I : Inhabited Cx := ⟨⟨ord, ob, ov, H.size, fun b => H0 ≤ b⟩⟩
  refine @MapM.mk I _ _ _ _ _ (@TrC.mk I _ _ _ _ _ h.iso h.emp h.mn' h.mx' h.cv h.icv h.le h.wr hob ?_ hol htl (cl_lt hob) h3 (Nat.le_refl _) h1 h2) List.Pairwise.nil h.cnt rfl (fun b hb => by rw [hb]; exact htl) (fun b hb => .inl hb) (.inl ⟨rfl, h.rt⟩)
  rcases hA with ⟨rfl, rfl⟩ | ⟨b, o, c, rfl, hz, hb, hs⟩
  · exact .inr ⟨rfl, none, 0, rfl⟩
  · exact .inl ⟨b, o, c, rfl, hs.hle, hs.rd, hb, hz.1, hz.2.2⟩
/-- A slice header. -/
theorem InS.form {α : Type} {E : Elt α} {H : Mem} {v : Value} {l : List α} (h : InS E H v l) : ∃ a m c, v = .slice a m c := have ⟨a, c, e⟩ := h.len; ⟨a, _, c, e⟩

theorem grow_spec {B : World} {H : Mem} {d : Nat} {nl : Bool} {v u : Value} {ord : List Int} {l : List (Int × Int)} (hd : d = 0 ∨ 2 ≤ d ∧ d ≤ 128) (ho : InS EN H v ord) (hol : ord.length ≤ 4294967296) (hi : InS EJ H u l) (hll : l.length ≤ 4294967296) :
    Fn Try.prog B 68 [.agg #[v, .int .i64 (d : Int), .bool nl], u] H (fun r H' => ∃ I : Inhabited Cx, (@cx I).ord = ord ∧ (∀ b, (@cx I).own b → H.size ≤ b) ∧ H.size ≤ (@cx I).base ∧ ∃ tr S, r = ptr tr ∧ @MapM I H' tr (PD d) S (Pl.puts (@OI I) l) ∧ Fr nowhere H H' ∧ ∀ b, S b → H.size ≤ b) := by
  have hP := PD_ok hd
  obtain ⟨a, c, hu⟩ := hi.len
  subst hu
  obtain ⟨av, mv, cv, hv⟩ := InS.form ho
  subst hv
  refine fn_of Try.func68 rfl Try.ntmps68 ?_
  refine (show Go' _ _ _ _ 25 [(0, _), (1, _)] [.code _] _ from ?_)
  refine Go'.seq ?_
  -- region 0 (treeg.go:12)
  refine Go'.region [(0, 2), (1, 0)] rfl ?_
  refine O.box rfl rfl rfl rfl ?_
  intro H1 M1
  refine ⟨trivial, ?_⟩
  have hs1 := M1.size
  have mo : Rd H1 H.size 0 [.slice av mv cv, .int .i64 (d : Int), .bool nl] := M1.rd _ [] (by simp [Value.cells])
  have ho1 := ho.fr (M1.fr nowhere)
  have mo0 : cl H1 H.size 0 = some (.slice av mv cv) := mo 0 _ rfl
  refine O.asg rfl rfl rfl rfl rfl ?_
  refine Pl.fin [(1, _), (2, _), (4, _)] ⟨rfl, rfl, rfl, trivial⟩ ?_
  refine Go'.seq ?_
  -- region 1 (treeg.go:13)
  refine Go'.draw (fun H' => Rd H' H.size 0 [.slice av mv cv, .int .i64 (d : Int), .bool nl]) [(0, 0), (1, 1), (3, 0), (2, 2), (4, 2), (5, 2), (6, 0)] (by kernel_rfl) (by kernel_rfl) (mo) ?_
  refine O.faz rfl rfl rfl rfl ⟨_, _, _, Try.underlying24, rfl, rfl, Try.sizeOf22⟩ rfl ?_
  refine O.ld rfl rfl rfl (fun w => ⟨Try.isAgg22 w, Try.sizeOf22 w⟩) rfl mo0 ?_
  refine O.ldsC rfl rfl rfl (fun w => ⟨Try.isAgg24 w, Try.sizeOf24 w⟩) rfl rfl (fun _ h => h) ?_
  refine O.call rfl rfl rfl Try.call122 rfl (ibefore_spec ho1 hol) ?_
  rintro _ H2 ⟨ob, ov, rfl, hob, hob1, hob2, hA2, hF2⟩
  have hs2 := hF2.size
  replace mo := hF2.rd mo (fun _ _ => nw)
  replace mo0 := hF2.keep mo0 nw
  refine ⟨mo, ?_⟩
  refine O.call rfl rfl rfl Try.call123 rfl (options_spec ⟨_, _, _, rfl⟩) ?_
  rintro _ H3 ⟨rfl, hF3⟩
  have hs3 := hF3.size
  replace hob := hF3.keep hob nw
  replace hA2 := hA2.fr hF3 (fun _ _ _ _ => nw)
  replace mo := hF3.rd mo (fun _ _ => nw)
  replace mo0 := hF3.keep mo0 nw
  refine ⟨mo, ?_⟩
  refine O.call rfl rfl rfl Try.call121 rfl (newTree_spec hd) ?_
  rintro _ H4 ⟨tr, rfl, htr1, htr2, hF4, hT⟩
  have hs4 := hF4.size
  replace mo := hF4.rd mo (fun _ _ => nw)
  replace mo0 := hF4.keep mo0 nw
  replace hob := hF4.keep hob nw
  replace hA2 := (hA2.mono (Y := fun b => H1.size ≤ b ∧ b ≠ ob ∧ b ≠ tr) (fun b hb hz => ⟨hz.1, hz.2, by omega⟩)).fr hF4 (fun _ _ _ _ => nw)
  have hFa : Fr nowhere H H4 := (((M1.fr nowhere).trans hF2).trans hF3).trans hF4
  obtain ⟨I, hIo, hIw, hIb, hM1⟩ := hT.mapM (H0 := H1.size) hob hA2 (by omega) (by omega) hob1 (by omega) htr2
  unfold ptr
  refine ⟨mo, ?_⟩
  refine O.asg rfl rfl rfl rfl rfl ?_
  refine Pl.fin [(1, _), (4, _), (5, _)] ⟨rfl, rfl, rfl, trivial⟩ ?_
  refine Go'.seq ?_
  refine Go'.seq ?_
  clear hA2 hob hT hF4 hF3 hF2 ho1
  have hOI : OO ord = OI := by rw [← hIo]; rfl
  have hPD : (⟨1, 2 * dg d - 1, dg d - 1⟩ : Ps) = PD d := rfl
  rw [hPD] at hM1
  clear hPD
  -- region 2 (treeg.go:14)
  refine Go'.region [(0, 0), (1, 0), (2, 0)] rfl ?_
  refine O.mv rfl rfl rfl rfl rfl ?_
  refine O.len rfl rfl rfl rfl Try.underlying25 rfl ?_
  refine O.mv rfl rfl rfl rfl rfl ?_
  refine Pl.fin [(4, _), (5, _), (14, _), (15, _), (16, _)] ⟨rfl, rfl, rfl, rfl, rfl, trivial⟩ ?_
  refine Go'.block ?_
  refine Go'.loop ?_
  refine Go'.keep [(4, _), (5, _), (14, _), (15, _), (16, _)] ⟨rfl, rfl, rfl, rfl, rfl, trivial⟩ ?_
  refine Go'.ind (σ := Nat) (fun j => l.length - j) (fun j H' => Fr nowhere H H' ∧ j ≤ l.length ∧ ∃ S, MapM H' tr (PD d) S (Pl.puts OI (l.take j)) ∧ ∀ b, S b → H.size ≤ b)
    (fun j => [(4, .pointer none), (5, .pointer (some ⟨tr, 0, none⟩)), (14, .slice a l.length c), (15, .int .i64 (l.length : Int)), (16, .int .i64 (j : Int))]) 0 ⟨hFa, Nat.zero_le _, _, hM1, fun b hb => by omega⟩ rfl ?_
  clear hM1
  rintro j H2 ⟨hF, hjl, S, hM, hS⟩ ih
  have hi2 := hi.fr hF
  refine Go'.seq ?_
  by_cases hlt : j < l.length
  · skip
    obtain ⟨y, hy⟩ : ∃ y, l[j]? = some y := ⟨l[j], List.getElem?_eq_getElem hlt⟩
    obtain ⟨b, o, c', e, hr⟩ := hi2.at hy
    cases e
    have hpl := Pl.puts_length OI (l.take j)
    rw [List.length_take] at hpl
    have hlt2 := hM.lt
    have hbs := hM.tc.hb
    have hH2 := hF.size
    -- region 3 (treeg.go:14)
    refine Go'.region [(0, 0)] rfl ?_
    refine O.cmp rfl rfl rfl rfl rfl rfl (lssT (by omega)) ?_
    refine Pl.fin [(4, _), (5, _), (14, _), (15, _), (16, _), (17, _)] ⟨rfl, rfl, rfl, rfl, rfl, rfl, trivial⟩ ?_
    refine Go'.seq ?_
    refine Go'.condT rfl ?_
    refine Go'.skip ?_
    refine Go'.seq ?_
    refine Go'.block ?_
    refine Go'.seq ?_
    -- region 4 (treeg.go:14)
    refine Go'.region [(0, 0), (1, 1), (2, 2), (3, 2)] rfl ?_
    refine O.ix (j := j) rfl rfl rfl rfl Try.underlying25 Try.sizeOf27 rfl rfl (by omega) hlt ?_
    refine O.lds rfl rfl rfl (fun w => ⟨Try.isAgg27 w, Try.sizeOf27 w⟩) rfl rfl hr ?_
    refine O.alloc rfl rfl rfl Try.zeroValue27 ?_
    intro H5 M5
    refine ⟨trivial, ?_⟩
    have hs5 := M5.size
    replace hM := hM.fr (M5.fr nowhere) (fun _ _ _ => nw)
    have m7 : Wr H5 H2.size 0 2 := M5.wr 2 (by decide)
    refine O.st rfl rfl Try.sizeOf27 rfl rfl rfl rfl rfl m7 ?_
    intro H6 W6
    have hs6 := W6.size
    replace hM := hM.fr W6.fr (fun b o hb hz => by have h1 := hz.1; exact hb.elim (fun hb => by have h2 := hlt2 b hb; omega) (fun hb => by omega))
    have hf6 : Fr nowhere H H6 := hF.trans' ((M5.fr nowhere).trans' W6.fr (Z := nowhere) (fun _ _ _ h => h) (fun b o hb hz => by have h1 := hz.1; omega)) (fun _ _ _ h => h) (fun _ _ _ h => h)
    have k0 : Rd H6 H2.size 0 (EJ.enc y) := W6.all
    refine ⟨trivial, ?_⟩
    refine Pl.fin [(4, _), (5, _), (7, _), (14, _), (15, _), (16, _), (17, _)] ⟨rfl, rfl, rfl, rfl, rfl, rfl, rfl, trivial⟩ ?_
    -- region 5 (treeg.go:15)
    refine Go'.region [(0, 0), (1, 1), (2, 2)] rfl ?_
    refine O.mv rfl rfl rfl rfl rfl ?_
    refine O.lds rfl rfl rfl (fun w => ⟨Try.isAgg27 w, Try.sizeOf27 w⟩) rfl rfl k0 ?_
    refine O.call rfl rfl rfl Try.call124 rfl (set_spec hP (x := y) hM (by omega)) ?_
    rintro _ H7 ⟨_, rfl, S', hM', hF', hS'⟩
    refine ⟨trivial, ?_⟩
    refine Pl.fin [(4, _), (5, _), (7, _), (14, _), (15, _), (16, _), (17, _)] ⟨rfl, rfl, rfl, rfl, rfl, rfl, rfl, trivial⟩ ?_
    refine Go'.inBlock ?_
    -- region 6 (treeg.go:14)
    refine Go'.region [(0, 0), (1, 0)] rfl ?_
    refine O.add (((j + 1 : Nat) : Int)) rfl rfl rfl rfl rfl rfl (by omega) (by omega) ?_
    refine O.mv rfl rfl rfl rfl rfl ?_
    refine Pl.fin [(4, _), (5, _), (7, _), (14, _), (15, _), (16, _), (17, _)] ⟨rfl, rfl, rfl, rfl, rfl, rfl, rfl, trivial⟩ ?_
    refine Go'.keep [(4, _), (5, _), (14, _), (15, _), (16, _)] ⟨rfl, rfl, rfl, rfl, rfl, trivial⟩ ?_
    refine Go'.inLoop ?_
    exact ih (j + 1) H7 ⟨hf6.trans' hF' (fun _ _ _ h => h) (fun b o hb hz => hz.elim (fun hz => by have h1 := hS b hz; omega) id), hlt, S', by
      rw [List.take_add_one, hy]
      rw [← Pl.puts_snoc] at hM'
      exact hM', fun b hb => (hS' b hb).elim (hS b) (fun h => by have := hf6.size; omega)⟩ (by omega)
  · skip
    obtain rfl : j = l.length := by omega
    -- region 3 (treeg.go:14)
    refine Go'.region [(0, 0)] rfl ?_
    refine O.cmp rfl rfl rfl rfl rfl rfl (lssF (by omega)) ?_
    refine Pl.fin [(4, _), (5, _), (14, _), (15, _), (16, _), (17, _)] ⟨rfl, rfl, rfl, rfl, rfl, rfl, trivial⟩ ?_
    refine Go'.seq ?_
    refine Go'.condF rfl ?_
    refine Go'.exit rfl ?_
    refine Go'.seq ?_
    -- region 7 (treeg.go:17)
    refine Go'.region [(0, 0), (1, 0)] rfl ?_
    refine O.mv rfl rfl rfl rfl rfl ?_
    refine O.asg rfl rfl rfl rfl rfl ?_
    refine Pl.fin [(4, _)] ⟨rfl, trivial⟩ ?_
    refine Go'.ret (vs := [_]) Try.func68 Try.results68 ⟨rfl, trivial⟩ ?_
    rw [List.take_length] at hM
    exact ⟨I, hIo, fun b hb => by have := (hIw b).1 hb; omega, by rw [hIb]; omega, tr, S, rfl, hM, hF, hS⟩

end Go.Bt.FG
namespace Go.Bt
open Go Go.Proofs
set_option maxRecDepth 20000
set_option maxHeartbeats 4000000
set_option linter.unusedVariables false

theorem st27 : StT Try.prog 27 [(0, 1), (1, 1)] [.int .i64 0, .int .i64 0] := ⟨⟨_, Try.underlying27, fun w => by simp [Array.mapM_eq_mapM_toList, Try.sizeOf3]⟩, Try.zeroValue27⟩
theorem st68 : StT Try.prog 68 [(0, 2), (2, 1)] [.int .i64 0, .int .i64 0, .bool false] := ⟨⟨_, Try.underlying68, fun w => by simp [Array.mapM_eq_mapM_toList, Try.sizeOf4, Try.sizeOf27]⟩, Try.zeroValue68⟩

end Go.Bt
