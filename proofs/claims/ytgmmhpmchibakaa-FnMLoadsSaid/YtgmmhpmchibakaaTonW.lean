/- Contracts of functions of the program, proved by walking through their code. Conditions: those that each theorem names. -/
import Derived.Test.YtgmmhpmchibakaaTosB
import Derived.Test.YtgmmhpmchibakaaToZr
import Derived.Test.YtgmmhpmchibakaaToSp
import Derived.Test.YtgmmhpmchibakaaTonU
import Derived.Test.YtgmmhpmchibakaaTonC
namespace Go.Bt
open Go Go.Proofs
set_option maxRecDepth 20000
set_option maxHeartbeats 4000000
set_option linter.unusedVariables false

theorem Pl.put_end {α : Type} (O : Pl.Swo α) {x y : α} {l : List α} (hs : Pl.Srt O (l ++ [y])) (h : O.lt y x = true) : Pl.put O x (l ++ [y]) = l ++ [y] ++ [x] ∧ Pl.got O x (l ++ [y]) = none ∧ Pl.fnd O x (l ++ [y]) = false := by
  have ha : ∀ z ∈ l ++ [y], O.lt z x = true := fun z hz => by
    rcases List.mem_append.1 hz with hz | hz
    · exact O.trans ((List.pairwise_append.1 hs).2.2 z hz y (List.mem_singleton.2 rfl)) h
    · rw [List.mem_singleton.1 hz]; exact h
  have h1 := Pl.put_mid O (m := []) (c := []) ha (fun _ h => absurd h List.not_mem_nil)
  have h2 := Pl.got_mid O (m := []) (c := []) ha (fun _ h => absurd h List.not_mem_nil)
  have h3 := Pl.fnd_mid O (m := []) (c := []) ha (fun _ h => absurd h List.not_mem_nil)
  simp only [List.append_nil] at h1 h2 h3
  exact ⟨h1, h2, h3⟩
theorem MapTo.rebase {H H1 : Mem} {tr : Nat} {P : Ps} {S : Nat → Prop} {l : List (Int × Int)} {H' : Mem} (hf : Fr nowhere H H1) (h : MapTo H1 H' tr P S l) : MapTo H H' tr P S l := by
  obtain ⟨S', hM, hF, hS⟩ := h
  exact ⟨S', hM, hf.trans' hF (fun _ _ _ h => h.elim) (fun _ _ _ h => h), fun b hb => (hS b hb).imp id (fun h => Nat.le_trans hf.size h)⟩

theorem load_spec {B : World} {H : Mem} {tr : Nat} {P : Ps} (hP : PsOk P) {S : Nat → Prop} {l : List (Int × Int)} {x : Int × Int} (hM : MapM H tr P S l) (hlen : l.length < 2305843009213693952) :
    Fn Try.prog B 53 [.pointer (some ⟨tr, 0, none⟩), .int .i64 x.1, .int .i64 x.2] H (SetP H tr P S l x) := by
  refine fn_of Go.Proofs.Try.func53 rfl Go.Proofs.Try.ntmps53 ?_
  refine (show Go' _ _ _ _ 142 [(0, _), (1, _), (2, _)] [.code _] _ from ?_)
  refine Go'.seq ?_
  -- region 0 (map.go:629)
  refine Go'.region [(0, 0), (1, 0)] rfl ?_
  refine O.asg rfl rfl rfl rfl rfl ?_
  refine O.asg rfl rfl rfl rfl rfl ?_
  refine Pl.fin [(0, _), (1, _), (2, _), (6, _), (7, _)] ⟨rfl, rfl, rfl, rfl, rfl, trivial⟩ ?_
  refine Go'.seq ?_
  have hlt9 : ∀ b, S b → b < H.size := hM.lt
  -- region 1 (map.go:630)
  refine Go'.region [(0, 0), (1, 0), (2, 0), (3, 2), (4, 2)] rfl ?_
  refine O.mv rfl rfl rfl rfl rfl ?_
  refine O.mv rfl rfl rfl rfl rfl ?_
  refine O.bld (cs := (EI.enc x)) rfl rfl rfl rfl (st100) rfl (by kernel_rfl) ?_
  refine O.alloc rfl rfl rfl Go.Proofs.Try.zeroValue100 ?_
  intro H1 M1
  refine ⟨trivial, ?_⟩
  have hs1 := M1.size
  replace hM := hM.fr (M1.fr nowhere) (fun _ _ _ => nw)
  have w8 : Wr H1 H.size 0 2 := M1.wr 2 (by decide)
  refine O.st rfl rfl Go.Proofs.Try.sizeOf100 rfl rfl rfl rfl rfl w8 ?_
  intro H2 W2
  have hs2 := W2.size
  replace hM := hM.fr W2.fr (fun b o hb hz => by have h1 := hz.1; have h2 := hlt9 b hb; omega)
  have m8 : Rd H2 H.size 0 (EI.enc x) := W2.all
  have hF1 : Fr nowhere H H2 := (M1.fr nowhere).trans' W2.fr (fun _ _ _ h => h) (fun b o hb hz => by have h1 := hz.1; omega)
  have hb6 : H.size < H2.size := by omega
  have hb6S : ∀ b, S b → b ≠ H.size := fun b hb e2 => by have := hlt9 b hb; omega
  clear M1 W2 w8
  refine ⟨trivial, ?_⟩
  refine Pl.fin [(0, _), (6, _), (7, _), (8, _)] ⟨rfl, rfl, rfl, rfl, trivial⟩ ?_
  refine Go'.seq ?_
  refine Go'.seq ?_
  refine Go'.mono (Q := SetP H2 tr P S l x) (fun v H' hq => ⟨hq.1, MapTo.rebase hF1 hq.2⟩) ?_
  generalize H.size = b6 at *
  clear hF1 hlt9 hs1 hs2
  clear H1
  clear H
  have hM0 := hM
  have hh1 := hP.h1
  have hmm := hP.hm
  obtain ⟨tc, srt, cnt, own, lt, hr⟩ := hM
  have htl : tr < H2.size := cl_lt tc.iso
  rcases hr with ⟨rfl, hptr⟩ | ⟨h0, t0, hg, hx0, e, hc, hnt, hown⟩
  · -- none at all
    -- region 2 (map.go:631)
    refine Go'.region [(0, 0), (1, 0), (2, 0), (3, 1), (4, 0)] rfl ?_
    refine O.mv rfl rfl rfl rfl rfl ?_
    refine O.nc rfl rfl rfl rfl rfl ?_
    refine O.fa0 (off := 2) rfl rfl rfl rfl ⟨_, _, _, Go.Proofs.Try.underlying105, rfl, rfl, Go.Proofs.Try.sizeOf103⟩ rfl ?_
    refine O.ld rfl rfl rfl (fun w => ⟨Go.Proofs.Try.isAgg103 w, Go.Proofs.Try.sizeOf103 w⟩) rfl hptr ?_
    refine O.isNil rfl rfl rfl rfl Go.Proofs.Try.underlying103 rfl rfl ?_
    refine Pl.fin [(0, _), (6, _), (7, _), (8, _), (17, _)] ⟨rfl, rfl, rfl, rfl, rfl, trivial⟩ ?_
    refine Go'.condT rfl ?_
    refine Go'.seq ?_
    -- region 3 (map.go:632)
    refine Go'.region [(0, 0), (1, 0), (2, 1), (3, 0), (4, 1), (5, 2), (6, 0), (7, 0), (8, 0), (9, 0)] rfl ?_
    refine O.mv rfl rfl rfl rfl rfl ?_
    refine O.fa0 (off := 1) rfl rfl rfl rfl ⟨_, _, _, Go.Proofs.Try.underlying100, rfl, rfl, Go.Proofs.Try.sizeOf3⟩ rfl ?_
    refine O.ld rfl rfl rfl (fun w => ⟨Go.Proofs.Try.isAgg3 w, Go.Proofs.Try.sizeOf3 w⟩) rfl (m8 1 _ rfl) ?_
    refine O.faz rfl rfl rfl rfl ⟨_, _, _, Go.Proofs.Try.underlying100, rfl, rfl, Go.Proofs.Try.sizeOf3⟩ rfl ?_
    refine O.ld rfl rfl rfl (fun w => ⟨Go.Proofs.Try.isAgg3 w, Go.Proofs.Try.sizeOf3 w⟩) rfl (m8 0 _ rfl) ?_
    refine O.call rfl rfl rfl Go.Proofs.Try.call56 rfl (mset_spec hP (x := x) hM0 hlen) ?_
    rintro _ H5 ⟨rfl, hM5⟩
    refine ⟨trivial, ?_⟩
    refine O.ext rfl rfl rfl rfl rfl rfl ?_
    refine O.ext rfl rfl rfl rfl rfl rfl ?_
    refine O.asg rfl rfl rfl rfl rfl ?_
    refine O.asg rfl rfl rfl rfl rfl ?_
    refine Pl.fin [(0, _), (6, _), (7, _), (8, _)] ⟨rfl, rfl, rfl, rfl, trivial⟩ ?_
    refine Go'.ret (vs := [_, _]) Go.Proofs.Try.func53 Go.Proofs.Try.results53 ⟨rfl, rfl, trivial⟩ ?_
    exact ⟨rfl, hM5⟩
  · -- a tree
    -- region 2 (map.go:631)
    refine Go'.region [(0, 0), (1, 0), (2, 0), (3, 1), (4, 0)] rfl ?_
    refine O.mv rfl rfl rfl rfl rfl ?_
    refine O.nc rfl rfl rfl rfl rfl ?_
    refine O.fa0 (off := 2) rfl rfl rfl rfl ⟨_, _, _, Go.Proofs.Try.underlying105, rfl, rfl, Go.Proofs.Try.sizeOf103⟩ rfl ?_
    refine O.ld rfl rfl rfl (fun w => ⟨Go.Proofs.Try.isAgg103 w, Go.Proofs.Try.sizeOf103 w⟩) rfl (show cl _ tr 2 = some (.pointer (some ⟨Gt.p h0 t0, 0, none⟩)) from hc) ?_
    refine O.isNil rfl rfl rfl rfl Go.Proofs.Try.underlying103 rfl rfl ?_
    refine Pl.fin [(0, _), (6, _), (7, _), (8, _), (17, _)] ⟨rfl, rfl, rfl, rfl, rfl, trivial⟩ ?_
    refine Go'.condF rfl ?_
    refine Go'.skip ?_
    refine Go'.seq ?_
    obtain ⟨kp0, hn0⟩ := hg.node
    have hiso0 := hn0.c0
    rw [hg.isoe] at hiso0
    -- region 4 (map.go:634)
    refine Go'.region [(0, 0), (1, 0), (2, 0), (3, 0), (4, 2), (5, 0)] rfl ?_
    refine O.mv rfl rfl rfl rfl rfl ?_
    refine O.mv rfl rfl rfl rfl rfl ?_
    refine O.nc rfl rfl rfl rfl rfl ?_
    refine O.fa0 (off := 2) rfl rfl rfl rfl ⟨_, _, _, Go.Proofs.Try.underlying105, rfl, rfl, Go.Proofs.Try.sizeOf103⟩ rfl ?_
    refine O.callQ rfl rfl rfl Go.Proofs.Try.call85 rfl (isoLoad_spec true hc hiso0 tc.iso) trivial ?_
    refine O.asg rfl rfl rfl rfl rfl ?_
    refine Pl.fin [(0, _), (6, _), (7, _), (8, _), (9, _)] ⟨rfl, rfl, rfl, rfl, rfl, trivial⟩ ?_
    refine Go'.seq ?_
    refine Go'.block ?_
    have hb6n : ∀ o, ¬ Gt.af h0 t0 b6 o := fun o hb => hb6S _ (hown _ _ hb) rfl
    have hlt0 : ∀ b o, Gt.af h0 t0 b o → b < H2.size := fun b o hb => hg.lt hb
    have hg1 := hg
    clear hn0 hiso0 hg
    refine Go'.loop ?_
    refine Go'.keep [(0, _), (6, _), (7, _), (8, _), (9, _)] ⟨rfl, rfl, rfl, rfl, rfl, trivial⟩ ?_
    refine Go'.ind (σ := (h : Nat) × Gt EI h) (fun s => s.1) (fun s H' => ∃ D, Spn H2 H' P true (fun n => n + 1) h0 t0 D s.1 s.2)
      (fun s => [(0, .pointer (some ⟨tr, 0, none⟩)), (6, .int .i64 0), (7, .bool false), (8, .pointer (some ⟨b6, 0, none⟩)), (9, .pointer (some ⟨Gt.p s.1 s.2, 0, none⟩))]) ⟨h0, t0⟩ ⟨_, Spn.start hg1 hx0⟩ rfl ?_
    rintro ⟨h, t⟩ H3 ⟨D, hs⟩ ih
    simp only at hs
    have hDt : ∀ b, b = tr → ¬ D b := fun b e2 hd => hnt 1 (e2 ▸ Gt.sp_af ((hs.all b).2 (.inl hd)) 1 (by omega))
    have hDb : ¬ D b6 := fun hd => hb6n 1 (Gt.sp_af ((hs.all b6).2 (.inl hd)) 1 (by omega))
    have tc2 := tc.fr hs.fr (fun o _ _ hz => hDt tr rfl hz.2)
    have cnt2 := hs.fr.keep cnt (fun hz => hDt tr rfl hz.2)
    have hc2 := hs.fr.keep hc (fun hz => hDt tr rfl hz.2)
    replace m8 := hs.fr.rd m8 (fun _ _ hz => hDb hz.2)
    have hsz2 := hs.fr.size
    have hnow := hs.now
    have hle := hs.le
    have hcn := (hs.g.cnOf).2
    have hne := hs.g.ne hs.x1
    have hcc := hs.cnt
    rw [e] at hle
    refine Go'.block ?_
    refine Go'.seq ?_
    rcases h with _ | h
    rotate_left
    · -- further down
      obtain ⟨g, X, K⟩ := t
      have hI := hnow.inn
      have hKl : K.length = X.length + 1 := hnow.2.2.2.2.2.1
      obtain ⟨k, hk⟩ : ∃ k, K[cix true K.length]? = some k := ⟨K[cix true K.length]'(cix_lt (by omega)), List.getElem?_eq_getElem (cix_lt (by omega))⟩
      have hkK := List.mem_of_getElem? hk
      have hx255 := hnow.2.2.2.2.1
      have hP255 := hP.hx
      replace hx255 : X.length ≤ P.mx := hx255
      replace hcn : cnOf H2 g.p = (Gt.L (h + 1) ((g, X, K) : Gt EI (h + 1))).length := hcn
      -- region 5 (map.go:636)
      refine Go'.region [(0, 0), (1, 0), (2, 0), (3, 1), (4, 0), (5, 0), (6, 0), (7, 2)] rfl ?_
      refine O.mv rfl rfl rfl rfl rfl ?_
      refine O.nc rfl rfl rfl rfl rfl ?_
      refine O.fa0 (off := 1) rfl rfl rfl rfl ⟨_, _, _, Go.Proofs.Try.underlying111, rfl, rfl, Go.Proofs.Try.sizeOf3⟩ rfl ?_
      refine O.ld rfl rfl rfl (fun w => ⟨Go.Proofs.Try.isAgg3 w, Go.Proofs.Try.sizeOf3 w⟩) rfl (show cl _ g.p 1 = some (.int .i64 (cnOf H2 g.p : Int)) from hcc) ?_
      refine O.add ((((cnOf H2 g.p) + 1 : Nat) : Int)) rfl rfl rfl rfl rfl rfl (by omega) (by omega) ?_
      refine O.nc rfl rfl rfl rfl rfl ?_
      refine O.fa0 (off := 1) rfl rfl rfl rfl ⟨_, _, _, Go.Proofs.Try.underlying111, rfl, rfl, Go.Proofs.Try.sizeOf3⟩ rfl ?_
      refine O.st rfl rfl Go.Proofs.Try.sizeOf3 rfl rfl rfl rfl rfl (hI.n.wr.at0 1 1 (by omega)) ?_
      intro H4 W3
      have hs3 := hs.step (t := (g, X, K)) hh1 hk W3
      replace hI := hI.count W3
      have tc3 := tc2.fr W3.fr (fun o _ _ => nr (.inl (fun e2 => hnt 1 (hs.sub _ _ (show Gt.af (h + 1) ((g, X, K) : Gt EI (h + 1)) tr 1 from .inl (.inl ⟨e2, by omega⟩))))))
      refine ⟨trivial, ?_⟩
      refine Pl.fin [(0, _), (6, _), (7, _), (8, _), (9, _)] ⟨rfl, rfl, rfl, rfl, rfl, trivial⟩ ?_
      refine Go'.seq ?_
      refine Go'.seq ?_
      -- region 6 (map.go:637)
      refine Go'.region [(0, 0), (1, 2)] rfl ?_
      refine O.mv rfl rfl rfl rfl rfl ?_
      refine O.callQ rfl rfl rfl Go.Proofs.Try.call86 rfl (leaf_spec hI.n.c3) trivial ?_
      refine Pl.fin [(0, _), (6, _), (7, _), (8, _), (9, _), (39, _)] ⟨rfl, rfl, rfl, rfl, rfl, rfl, trivial⟩ ?_
      refine Go'.condF rfl ?_
      refine Go'.skip ?_
      obtain ⟨hgk, _⟩ := hI.c.1 k hkK
      obtain ⟨kpk, hnk⟩ := hgk.node
      have hisok := hnk.c0
      rw [hgk.isoe] at hisok
      have hko : ((Gt.ps h K).map some)[cix true K.length]? = some (some (Gt.p h k)) := by rw [Gt.ps, List.map_map, List.getElem?_map, hk]; rfl
      have hkl : ((Gt.ps h K).map some).length = K.length := by rw [List.length_map, Gt.ps, List.length_map]
      have hkc := hI.k.c
      rw [hkl] at hkc
      -- region 12 (map.go:647)
      refine Go'.draw (fun _ => True) [(0, 0), (1, 0), (2, 0), (3, 0), (4, 1), (5, 0), (6, 1), (7, 0), (8, 0), (9, 0), (10, 1), (11, 0), (12, 1), (13, 0), (14, 0), (15, 0), (16, 2), (17, 0)] (by kernel_rfl) (by kernel_rfl) (trivial) ?_
      refine O.mv rfl rfl rfl rfl rfl ?_
      refine O.mv rfl rfl rfl rfl rfl ?_
      refine O.nc rfl rfl rfl rfl rfl ?_
      refine O.fa0 (off := 3) rfl rfl rfl rfl ⟨_, _, _, Go.Proofs.Try.underlying111, rfl, rfl, Go.Proofs.Try.sizeOf109⟩ rfl ?_
      refine O.ld rfl rfl rfl (fun w => ⟨Go.Proofs.Try.isAgg109 w, Go.Proofs.Try.sizeOf109 w⟩) rfl (show cl _ g.p 3 = some (.pointer (some ⟨g.cb, 0, none⟩)) from hI.n.c3) ?_
      refine O.nc rfl rfl rfl rfl rfl ?_
      refine O.ld rfl rfl rfl (fun w => ⟨Go.Proofs.Try.isAgg112 w, Go.Proofs.Try.sizeOf112 w⟩) rfl (show cl _ g.cb 0 = some (.slice (some ⟨g.kb, g.ko, none⟩) K.length g.kc) from hkc) ?_
      refine O.mv rfl rfl rfl rfl rfl ?_
      refine O.nc rfl rfl rfl rfl rfl ?_
      refine O.fa0 (off := 3) rfl rfl rfl rfl ⟨_, _, _, Go.Proofs.Try.underlying111, rfl, rfl, Go.Proofs.Try.sizeOf109⟩ rfl ?_
      refine O.ld rfl rfl rfl (fun w => ⟨Go.Proofs.Try.isAgg109 w, Go.Proofs.Try.sizeOf109 w⟩) rfl (show cl _ g.p 3 = some (.pointer (some ⟨g.cb, 0, none⟩)) from hI.n.c3) ?_
      refine O.nc rfl rfl rfl rfl rfl ?_
      refine O.ld rfl rfl rfl (fun w => ⟨Go.Proofs.Try.isAgg112 w, Go.Proofs.Try.sizeOf112 w⟩) rfl (show cl _ g.cb 0 = some (.slice (some ⟨g.kb, g.ko, none⟩) K.length g.kc) from hkc) ?_
      refine O.len rfl rfl rfl rfl Go.Proofs.Try.underlying112 rfl ?_
      refine O.sub (((K.length - 1 : Nat) : Int)) rfl rfl rfl rfl rfl rfl (by omega) (by omega) ?_
      refine O.ix (j := K.length - 1) rfl rfl rfl rfl Go.Proofs.Try.underlying112 Go.Proofs.Try.sizeOf103 rfl rfl (by omega) (by omega) ?_
      refine O.callQ rfl rfl rfl Go.Proofs.Try.call85 rfl (isoLoad_spec true (hI.k.at hko) hisok tc3.iso) trivial ?_
      refine O.asg rfl rfl rfl rfl rfl ?_
      refine Pl.fin [(0, _), (6, _), (7, _), (8, _), (9, _), (39, _)] ⟨rfl, rfl, rfl, rfl, rfl, rfl, trivial⟩ ?_
      refine Go'.inBlock ?_
      refine Go'.keep [(0, _), (6, _), (7, _), (8, _), (9, _)] ⟨rfl, rfl, rfl, rfl, rfl, trivial⟩ ?_
      refine Go'.inLoop ?_
      exact ih ⟨h, k⟩ H4 ⟨_, hs3⟩ (by simp only; omega)
    · -- the leaf
      obtain ⟨⟨np, niso, ncnt, nib, nio, nic, ncb, nkb, nko, nkc⟩, X⟩ := t
      have hn : NodeM EI H3 (⟨np, niso, ncnt, nib, nio, nic, ncb, nkb, nko, nkc⟩ : Ng) X (.pointer none) := hnow.1
      have hiso : niso = P.iso := hnow.2.1
      have hcntX : ncnt = X.length := hnow.2.2.1
      have hxm : X.length ≤ P.mx := hnow.2.2.2
      have hx255 := hP.hx
      have hx1 : 1 ≤ X.length := hs.x1
      have hle2 : X.length ≤ l.length := hle
      have hlf : ((⟨np, niso, ncnt, nib, nio, nic, ncb, nkb, nko, nkc⟩ : Ng), X) = Gt.lf true h0 t0 := hs.lf
      have tn : ∀ b o, (ncl EI (⟨np, niso, ncnt, nib, nio, nic, ncb, nkb, nko, nkc⟩ : Ng)) b o → ¬ (b = tr) := fun b o hb e2 => hnt o (e2 ▸ hs.sub b o hb)
      have hlt : ∀ b o, (ncl EI (⟨np, niso, ncnt, nib, nio, nic, ncb, nkb, nko, nkc⟩ : Ng)) b o → b < H2.size ∧ b ≠ b6 := fun b o hb => ⟨hlt0 b o (hs.sub b o hb), fun e2 => hb6n o (e2 ▸ hs.sub b o hb)⟩
      have hD : ∀ b, (b = tr) → b < H3.size := fun b hb => by subst hb; omega
      have hic := hn.sl.hle
      simp only at hic
      have hF : Fr (fun b o => (ncl EI (⟨np, niso, ncnt, nib, nio, nic, ncb, nkb, nko, nkc⟩ : Ng)) b o ∨ b = tr) H3 H3 := Fr.refl _ _
      have hF2 : Fr (fun b o => o = 1 ∧ b = np) H3 H3 := Fr.refl _ _
      have sn : Gro H3 (ncl EI (⟨np, niso, ncnt, nib, nio, nic, ncb, nkb, nko, nkc⟩ : Ng)) (ncl EI (⟨np, niso, ncnt, nib, nio, nic, ncb, nkb, nko, nkc⟩ : Ng)) := Gro.refl _ _
      clear tc cnt hc
      obtain ⟨tc, cnt, hc⟩ := And.intro tc2 (And.intro cnt2 hc2)
      clear tc2 cnt2 hc2
      obtain ⟨y, hy⟩ : ∃ y, X[X.length - 1]? = some y := ⟨X[X.length - 1]'(by omega), List.getElem?_eq_getElem (by omega)⟩
      -- region 5 (map.go:636)
      refine Go'.region [(0, 0), (1, 0), (2, 0), (3, 1), (4, 0), (5, 0), (6, 0), (7, 2)] rfl ?_
      refine O.mv rfl rfl rfl rfl rfl ?_
      refine O.nc rfl rfl rfl rfl rfl ?_
      refine O.fa0 (off := 1) rfl rfl rfl rfl ⟨_, _, _, Go.Proofs.Try.underlying111, rfl, rfl, Go.Proofs.Try.sizeOf3⟩ rfl ?_
      refine O.ld rfl rfl rfl (fun w => ⟨Go.Proofs.Try.isAgg3 w, Go.Proofs.Try.sizeOf3 w⟩) rfl (show cl _ np 1 = some (.int .i64 (ncnt : Int)) from hn.c1) ?_
      refine O.add (((ncnt + 1 : Nat) : Int)) rfl rfl rfl rfl rfl rfl (by omega) (by omega) ?_
      refine O.nc rfl rfl rfl rfl rfl ?_
      refine O.fa0 (off := 1) rfl rfl rfl rfl ⟨_, _, _, Go.Proofs.Try.underlying111, rfl, rfl, Go.Proofs.Try.sizeOf3⟩ rfl ?_
      refine O.st rfl rfl Go.Proofs.Try.sizeOf3 rfl rfl rfl rfl rfl (hn.wr.at0 1 1 (by omega)) ?_
      intro H11 WH11
      have fW : Fr (ncl EI (⟨np, niso, ncnt, nib, nio, nic, ncb, nkb, nko, nkc⟩ : Ng)) H3 H11 := (Wrote.fHdr (E := EI) (g := (⟨np, niso, ncnt, nib, nio, nic, ncb, nkb, nko, nkc⟩ : Ng)) WH11 (by omega))
      replace tc := tc.fr fW (fun o _ _ hz => tn tr o hz rfl)
      replace hF := Fr.tot hF fW sn (fun _ _ h => .inl h)
      replace m8 := Fr.rd fW m8 (fun _ _ hz => by have := (hlt _ _ hz).2; omega)
      replace cnt := Fr.keep fW cnt (fun hz => tn tr _ hz rfl)
      replace hc := Fr.keep fW hc (fun hz => tn tr _ hz rfl)
      obtain ⟨ncnt_11, encnt_11⟩ : ∃ z, z = ncnt + 1 := ⟨_, rfl⟩
      rw [← encnt_11] at WH11
      replace hn : NodeM EI H11 (⟨np, niso, ncnt_11, nib, nio, nic, ncb, nkb, nko, nkc⟩ : Ng) (X) (.pointer none) := hn.count WH11
      clear fW
      replace hF2 := hF2.trans' WH11.fr (fun _ _ _ h => h) (fun b o _ hz => by
        have h1 := hz.1; have h2 := hz.2.1; have h3 := hz.2.2
        simp only [List.length_cons, List.length_nil] at h3
        exact ⟨by omega, h1⟩)
      refine ⟨trivial, ?_⟩
      refine Pl.fin [(0, _), (6, _), (7, _), (8, _), (9, _)] ⟨rfl, rfl, rfl, rfl, rfl, trivial⟩ ?_
      refine Go'.seq ?_
      refine Go'.seq ?_
      -- region 6 (map.go:637)
      refine Go'.region [(0, 0), (1, 2)] rfl ?_
      refine O.mv rfl rfl rfl rfl rfl ?_
      refine O.callQ rfl rfl rfl Go.Proofs.Try.call86 rfl (leaf_spec hn.c3) trivial ?_
      refine Pl.fin [(0, _), (6, _), (7, _), (8, _), (9, _), (39, _)] ⟨rfl, rfl, rfl, rfl, rfl, rfl, trivial⟩ ?_
      refine Go'.condT rfl ?_
      refine Go'.seq ?_
      refine Go'.seq ?_
      by_cases hmxX : X.length < P.mx
      rotate_left
      · -- full
        -- region 7 (map.go:638)
        refine Go'.draw (fun _ => True) [(0, 0), (1, 0), (2, 0), (3, 1), (4, 0), (5, 0), (6, 0), (7, 0), (8, 1), (9, 0)] (by kernel_rfl) (by kernel_rfl) (trivial) ?_
        refine O.mv rfl rfl rfl rfl rfl ?_
        refine O.nc rfl rfl rfl rfl rfl ?_
        refine O.fa0 (off := 2) rfl rfl rfl rfl ⟨_, _, _, Go.Proofs.Try.underlying111, rfl, rfl, Go.Proofs.Try.sizeOf108⟩ rfl ?_
        refine O.ld rfl rfl rfl (fun w => ⟨Go.Proofs.Try.isAgg108 w, Go.Proofs.Try.sizeOf108 w⟩) rfl (show cl _ np 2 = some (.slice (some ⟨nib, nio, none⟩) X.length nic) from hn.c2) ?_
        refine O.len rfl rfl rfl rfl Go.Proofs.Try.underlying108 rfl ?_
        refine O.mv rfl rfl rfl rfl rfl ?_
        refine O.nc rfl rfl rfl rfl rfl ?_
        refine O.fa0 (off := 7) rfl rfl rfl rfl ⟨_, _, _, Go.Proofs.Try.underlying105, rfl, rfl, Go.Proofs.Try.sizeOf3⟩ rfl ?_
        refine O.ld rfl rfl rfl (fun w => ⟨Go.Proofs.Try.isAgg3 w, Go.Proofs.Try.sizeOf3 w⟩) rfl tc.mx' ?_
        refine O.cmp rfl rfl rfl rfl rfl rfl (lssF (by omega)) ?_
        refine Pl.fin [(0, _), (6, _), (7, _), (8, _), (9, _), (39, _), (49, _)] ⟨rfl, rfl, rfl, rfl, rfl, rfl, rfl, trivial⟩ ?_
        refine Go'.condF rfl ?_
        refine Go'.skip ?_
        refine Go'.exit rfl ?_
        refine Go'.seq ?_
        have hFb : Fr (fun b o => (o = 1 ∧ Gt.sp true h0 t0 b) ∨ b = H2.size) H2 H11 := hs.fr.trans' hF2 (fun b o _ hz => .inl ⟨hz.1, (hs.all b).2 (.inl hz.2)⟩) (fun b o _ hz => .inl ⟨hz.1, hz.2 ▸ (hs.all np).2 (.inr rfl)⟩)
        have hvb : ∀ q, Gt.sp true h0 t0 q → cl H11 q 1 = some (.int .i64 ((cnOf H2 q + 1 : Nat) : Int)) := fun q hq => by
          rcases (hs.all q).1 hq with hd | hd
          · exact hF2.keep (hs.val q hd) (fun hz => by
              rcases hz with ⟨_, rfl⟩
              exact hs.off q hd (.inl ⟨rfl, by omega⟩))
          · have hd' : q = np := hd
            subst hd'
            have hcn' : cnOf H2 q = ncnt := by rw [hcntX]; exact hcn
            rw [hcn', ← encnt_11]
            exact hn.c1
        have hs2 := Sp2.start (δ := (fun n => n + 1)) hg1 hFb (fun o hb => by have := hlt0 _ _ hb; omega) hvb hx0
        have hszb := hFb.size
        clear ih
        -- region 13 (map.go:650)
        refine Go'.region [(0, 0), (1, 0), (2, 0), (3, 1), (4, 0)] rfl ?_
        refine O.mv rfl rfl rfl rfl rfl ?_
        refine O.nc rfl rfl rfl rfl rfl ?_
        refine O.fa0 (off := 2) rfl rfl rfl rfl ⟨_, _, _, Go.Proofs.Try.underlying105, rfl, rfl, Go.Proofs.Try.sizeOf103⟩ rfl ?_
        refine O.ld rfl rfl rfl (fun w => ⟨Go.Proofs.Try.isAgg103 w, Go.Proofs.Try.sizeOf103 w⟩) rfl (show cl _ tr 2 = some (.pointer (some ⟨Gt.p h0 t0, 0, none⟩)) from hc) ?_
        refine O.asg rfl rfl rfl rfl rfl ?_
        refine Pl.fin [(0, _), (6, _), (7, _), (8, _), (9, _)] ⟨rfl, rfl, rfl, rfl, rfl, trivial⟩ ?_
        refine Go'.seq ?_
        refine Go'.block ?_
        refine Go'.loop ?_
        refine Go'.keep [(0, _), (6, _), (7, _), (8, _), (9, _)] ⟨rfl, rfl, rfl, rfl, rfl, trivial⟩ ?_
        refine Go'.ind (σ := (h : Nat) × Gt EI h) (fun s => s.1) (fun s H' => ∃ D, Sp2 H2 H' P true (fun n => n + 1) h0 t0 H2.size D s.1 s.2 ∧ Fr (fun b o => o = 1 ∧ Gt.sp true h0 t0 b) H11 H')
          (fun s => [(0, .pointer (some ⟨tr, 0, none⟩)), (6, .int .i64 0), (7, .bool false), (8, .pointer (some ⟨b6, 0, none⟩)), (9, .pointer (some ⟨Gt.p s.1 s.2, 0, none⟩))]) ⟨h0, t0⟩ ⟨_, hs2, Fr.refl _ _⟩ rfl ?_
        rintro ⟨h, t⟩ H5 ⟨D2, hs3, hf3⟩ ih
        simp only at hs3
        have hcc3 := hs3.val2 _ (Gt.sp_p true)
        have hcn3 := (hs3.g.cnOf).2
        have hle3 := hs3.le
        rw [e] at hle3
        refine Go'.block ?_
        refine Go'.seq ?_
        have hpos : 1 ≤ (Gt.L h t).length := hs3.pos
        rcases h with _ | h
        rotate_left
        · -- further down
          obtain ⟨g, X3, K⟩ := t
          have hKl : K.length = X3.length + 1 := hs3.g.2.2.2.2.2.1
          obtain ⟨k, hk⟩ : ∃ k, K[cix true K.length]? = some k := ⟨K[cix true K.length]'(cix_lt (by omega)), List.getElem?_eq_getElem (cix_lt (by omega))⟩
          replace hcn3 : cnOf H2 g.p = (Gt.L (h + 1) ((g, X3, K) : Gt EI (h + 1))).length := hcn3
          obtain ⟨i1, i2, i3⟩ := hs3.inner (t := (g, X3, K)) hk
          have hwr3 := hs3.fr.wr hs3.g.1.wr
          have hx3 : X3.length ≤ P.mx := hs3.g.2.2.2.2.1
          -- region 14 (map.go:652)
          refine Go'.region [(0, 0), (1, 0), (2, 0), (3, 1), (4, 0), (5, 0), (6, 0), (7, 2)] rfl ?_
          refine O.mv rfl rfl rfl rfl rfl ?_
          refine O.nc rfl rfl rfl rfl rfl ?_
          refine O.fa0 (off := 1) rfl rfl rfl rfl ⟨_, _, _, Go.Proofs.Try.underlying111, rfl, rfl, Go.Proofs.Try.sizeOf3⟩ rfl ?_
          refine O.ld rfl rfl rfl (fun w => ⟨Go.Proofs.Try.isAgg3 w, Go.Proofs.Try.sizeOf3 w⟩) rfl (show cl _ g.p 1 = some (.int .i64 ((cnOf H2 g.p + 1 : Nat) : Int)) from hcc3) ?_
          refine O.sub (((((cnOf H2 g.p + 1)) - 1 : Nat) : Int)) rfl rfl rfl rfl rfl rfl (by omega) (by omega) ?_
          refine O.nc rfl rfl rfl rfl rfl ?_
          refine O.fa0 (off := 1) rfl rfl rfl rfl ⟨_, _, _, Go.Proofs.Try.underlying111, rfl, rfl, Go.Proofs.Try.sizeOf3⟩ rfl ?_
          refine O.st rfl rfl Go.Proofs.Try.sizeOf3 rfl rfl rfl rfl rfl (hwr3.at0 1 1 (by omega)) ?_
          intro H6 W4
          have ecn : cnOf H2 g.p + 1 - 1 = cnOf H2 g.p := by omega
          rw [ecn] at W4
          have hs4 := hs3.step (t := (g, X3, K)) hh1 hk W4
          have hf4 : Fr (fun b o => o = 1 ∧ Gt.sp true h0 t0 b) H11 H6 := hf3.trans' W4.fr (fun _ _ _ h => h) (fun b o _ hz => by
            have h1 := hz.1; have h2 := hz.2.1; have h3 := hz.2.2
            simp only [List.length_cons, List.length_nil] at h3
            exact ⟨by omega, h1 ▸ (hs3.all _).2 (.inr (.inl rfl))⟩)
          have hKM := hs3.g.2.1
          replace i1 := W4.keep1 i1 (by simp only; omega)
          replace i2 := W4.fr.keep i2 (nr (.inl (Ne.symm hKM.n2)))
          replace i3 := W4.fr.keep i3 (nr (.inl (Ne.symm hKM.n3)))
          refine ⟨trivial, ?_⟩
          refine Pl.fin [(0, _), (6, _), (7, _), (8, _), (9, _)] ⟨rfl, rfl, rfl, rfl, rfl, trivial⟩ ?_
          refine Go'.seq ?_
          refine Go'.seq ?_
          -- region 15 (map.go:653)
          refine Go'.region [(0, 0), (1, 2)] rfl ?_
          refine O.mv rfl rfl rfl rfl rfl ?_
          refine O.callQ rfl rfl rfl Go.Proofs.Try.call86 rfl (leaf_spec i1) trivial ?_
          refine Pl.fin [(0, _), (6, _), (7, _), (8, _), (9, _), (117, _)] ⟨rfl, rfl, rfl, rfl, rfl, rfl, trivial⟩ ?_
          refine Go'.condF rfl ?_
          refine Go'.skip ?_
          -- region 16 (map.go:656)
          refine Go'.draw (fun _ => True) [(0, 0), (1, 0), (2, 0), (3, 1), (4, 0), (5, 1), (6, 0), (7, 0), (8, 0), (9, 1), (10, 0), (11, 1), (12, 0), (13, 0), (14, 0), (15, 1), (16, 0)] (by kernel_rfl) (by kernel_rfl) (trivial) ?_
          refine O.mv rfl rfl rfl rfl rfl ?_
          refine O.nc rfl rfl rfl rfl rfl ?_
          refine O.fa0 (off := 3) rfl rfl rfl rfl ⟨_, _, _, Go.Proofs.Try.underlying111, rfl, rfl, Go.Proofs.Try.sizeOf109⟩ rfl ?_
          refine O.ld rfl rfl rfl (fun w => ⟨Go.Proofs.Try.isAgg109 w, Go.Proofs.Try.sizeOf109 w⟩) rfl (show cl _ g.p 3 = some (.pointer (some ⟨g.cb, 0, none⟩)) from i1) ?_
          refine O.nc rfl rfl rfl rfl rfl ?_
          refine O.ld rfl rfl rfl (fun w => ⟨Go.Proofs.Try.isAgg112 w, Go.Proofs.Try.sizeOf112 w⟩) rfl (show cl _ g.cb 0 = some (.slice (some ⟨g.kb, g.ko, none⟩) K.length g.kc) from i2) ?_
          refine O.mv rfl rfl rfl rfl rfl ?_
          refine O.nc rfl rfl rfl rfl rfl ?_
          refine O.fa0 (off := 3) rfl rfl rfl rfl ⟨_, _, _, Go.Proofs.Try.underlying111, rfl, rfl, Go.Proofs.Try.sizeOf109⟩ rfl ?_
          refine O.ld rfl rfl rfl (fun w => ⟨Go.Proofs.Try.isAgg109 w, Go.Proofs.Try.sizeOf109 w⟩) rfl (show cl _ g.p 3 = some (.pointer (some ⟨g.cb, 0, none⟩)) from i1) ?_
          refine O.nc rfl rfl rfl rfl rfl ?_
          refine O.ld rfl rfl rfl (fun w => ⟨Go.Proofs.Try.isAgg112 w, Go.Proofs.Try.sizeOf112 w⟩) rfl (show cl _ g.cb 0 = some (.slice (some ⟨g.kb, g.ko, none⟩) K.length g.kc) from i2) ?_
          refine O.len rfl rfl rfl rfl Go.Proofs.Try.underlying112 rfl ?_
          refine O.sub (((K.length - 1 : Nat) : Int)) rfl rfl rfl rfl rfl rfl (by omega) (by omega) ?_
          refine O.ix (j := K.length - 1) rfl rfl rfl rfl Go.Proofs.Try.underlying112 Go.Proofs.Try.sizeOf103 rfl rfl (by omega) (by omega) ?_
          refine O.ld rfl rfl rfl (fun w => ⟨Go.Proofs.Try.isAgg103 w, Go.Proofs.Try.sizeOf103 w⟩) rfl i3 ?_
          refine O.asg rfl rfl rfl rfl rfl ?_
          refine Pl.fin [(0, _), (6, _), (7, _), (8, _), (9, _), (117, _)] ⟨rfl, rfl, rfl, rfl, rfl, rfl, trivial⟩ ?_
          refine Go'.inBlock ?_
          refine Go'.keep [(0, _), (6, _), (7, _), (8, _), (9, _)] ⟨rfl, rfl, rfl, rfl, rfl, trivial⟩ ?_
          refine Go'.inLoop ?_
          exact ih ⟨h, k⟩ H6 ⟨_, hs4, hf4⟩ (by simp only; omega)
        · -- the leaf again
          obtain ⟨g, X3⟩ := t
          replace hcn3 : cnOf H2 g.p = (Gt.L 0 ((g, X3) : Gt EI 0)).length := hcn3
          have hwr3 := hs3.fr.wr hs3.g.1.wr
          have hc3l : cl H5 g.p 3 = some (.pointer none) := hs3.fr.keep hs3.g.1.c3 (fun hz => hz.elim (fun h => by omega) (fun h => hs3.nb 3 (hs3.sub H2.size 3 (show ncl EI g H2.size 3 from .inl ⟨h.symm, by omega⟩))))
          -- region 14 (map.go:652)
          refine Go'.region [(0, 0), (1, 0), (2, 0), (3, 1), (4, 0), (5, 0), (6, 0), (7, 2)] rfl ?_
          refine O.mv rfl rfl rfl rfl rfl ?_
          refine O.nc rfl rfl rfl rfl rfl ?_
          refine O.fa0 (off := 1) rfl rfl rfl rfl ⟨_, _, _, Go.Proofs.Try.underlying111, rfl, rfl, Go.Proofs.Try.sizeOf3⟩ rfl ?_
          refine O.ld rfl rfl rfl (fun w => ⟨Go.Proofs.Try.isAgg3 w, Go.Proofs.Try.sizeOf3 w⟩) rfl (show cl _ g.p 1 = some (.int .i64 ((cnOf H2 g.p + 1 : Nat) : Int)) from hcc3) ?_
          refine O.sub (((((cnOf H2 g.p + 1)) - 1 : Nat) : Int)) rfl rfl rfl rfl rfl rfl (by omega) (by omega) ?_
          refine O.nc rfl rfl rfl rfl rfl ?_
          refine O.fa0 (off := 1) rfl rfl rfl rfl ⟨_, _, _, Go.Proofs.Try.underlying111, rfl, rfl, Go.Proofs.Try.sizeOf3⟩ rfl ?_
          refine O.st rfl rfl Go.Proofs.Try.sizeOf3 rfl rfl rfl rfl rfl (hwr3.at0 1 1 (by omega)) ?_
          intro H6 W4
          have ecn : cnOf H2 g.p + 1 - 1 = cnOf H2 g.p := by omega
          rw [ecn] at W4
          have hgB := hs3.fin (t := (g, X3)) hg1 W4
          have hf4 : Fr (fun b o => o = 1 ∧ Gt.sp true h0 t0 b) H11 H6 := hf3.trans' W4.fr (fun _ _ _ h => h) (fun b o _ hz => by
            have h1 := hz.1; have h2 := hz.2.1; have h3 := hz.2.2
            simp only [List.length_cons, List.length_nil] at h3
            exact ⟨by omega, h1 ▸ (hs3.all _).2 (.inr rfl)⟩)
          have hst : ∀ o, ¬ (o = 1 ∧ Gt.sp true h0 t0 tr) := fun o hz => hnt 1 (Gt.sp_af hz.2 1 (by omega))
          replace hc3l := W4.keep1 hc3l (by omega)
          replace tc := tc.fr hf4 (fun o _ _ => hst o)
          replace cnt := hf4.keep cnt (hst _)
          replace hc := hf4.keep hc (hst _)
          replace m8 := hf4.rd m8 (fun i _ hz => hb6n 1 (Gt.sp_af hz.2 1 (by omega)))
          have hFB : Fr (fun b _ => S b) H2 H6 := hFb.trans' hf4 (fun b o hb hz => by
            rcases hz with ⟨ho, hz⟩ | hz
            · exact hown b o (ho ▸ Gt.sp_af hz 1 (by omega))
            · omega) (fun b o _ hz => hown b o (hz.1 ▸ Gt.sp_af hz.2 1 (by omega)))
          have hszB := hFB.size
          have hMB : MapM H6 tr P S l := ⟨tc, srt, cnt, own, fun b hb => by have := lt b hb; omega, .inr ⟨h0, t0, hgB, hx0, e, hc, hnt, hown⟩⟩
          refine ⟨trivial, ?_⟩
          refine Pl.fin [(0, _), (6, _), (7, _), (8, _), (9, _)] ⟨rfl, rfl, rfl, rfl, rfl, trivial⟩ ?_
          refine Go'.seq ?_
          refine Go'.seq ?_
          -- region 15 (map.go:653)
          refine Go'.region [(0, 0), (1, 2)] rfl ?_
          refine O.mv rfl rfl rfl rfl rfl ?_
          refine O.callQ rfl rfl rfl Go.Proofs.Try.call86 rfl (leaf_spec hc3l) trivial ?_
          refine Pl.fin [(0, _), (6, _), (7, _), (8, _), (9, _), (117, _)] ⟨rfl, rfl, rfl, rfl, rfl, rfl, trivial⟩ ?_
          refine Go'.condT rfl ?_
          refine Go'.exit rfl ?_
          refine Go'.seq ?_
          -- region 17 (map.go:658)
          refine Go'.region [(0, 0), (1, 0), (2, 1), (3, 0), (4, 1), (5, 2), (6, 0), (7, 0), (8, 0), (9, 0)] rfl ?_
          refine O.mv rfl rfl rfl rfl rfl ?_
          refine O.fa0 (off := 1) rfl rfl rfl rfl ⟨_, _, _, Go.Proofs.Try.underlying100, rfl, rfl, Go.Proofs.Try.sizeOf3⟩ rfl ?_
          refine O.ld rfl rfl rfl (fun w => ⟨Go.Proofs.Try.isAgg3 w, Go.Proofs.Try.sizeOf3 w⟩) rfl (m8 1 _ rfl) ?_
          refine O.faz rfl rfl rfl rfl ⟨_, _, _, Go.Proofs.Try.underlying100, rfl, rfl, Go.Proofs.Try.sizeOf3⟩ rfl ?_
          refine O.ld rfl rfl rfl (fun w => ⟨Go.Proofs.Try.isAgg3 w, Go.Proofs.Try.sizeOf3 w⟩) rfl (m8 0 _ rfl) ?_
          refine O.call rfl rfl rfl Go.Proofs.Try.call56 rfl (mset_spec hP (x := x) hMB hlen) ?_
          rintro _ H7 ⟨rfl, S', hM5, hF5, hS5⟩
          refine ⟨trivial, ?_⟩
          refine O.ext rfl rfl rfl rfl rfl rfl ?_
          refine O.ext rfl rfl rfl rfl rfl rfl ?_
          refine O.asg rfl rfl rfl rfl rfl ?_
          refine O.asg rfl rfl rfl rfl rfl ?_
          refine Pl.fin [(6, _), (7, _)] ⟨rfl, rfl, trivial⟩ ?_
          refine Go'.ret (vs := [_, _]) Go.Proofs.Try.func53 Go.Proofs.Try.results53 ⟨rfl, rfl, trivial⟩ ?_
          refine ⟨rfl, S', hM5, ?_, fun b hb => (hS5 b hb).imp id (fun h => by omega)⟩
          exact hFB.trans' hF5 (fun _ _ _ h => h) (fun _ _ _ h => h)
      by_cases hyx : y.1 < x.1
      rotate_left
      · -- not behind the last one
        -- region 7 (map.go:638)
        refine Go'.draw (fun _ => True) [(0, 0), (1, 0), (2, 0), (3, 1), (4, 0), (5, 0), (6, 0), (7, 0), (8, 1), (9, 0)] (by kernel_rfl) (by kernel_rfl) (trivial) ?_
        refine O.mv rfl rfl rfl rfl rfl ?_
        refine O.nc rfl rfl rfl rfl rfl ?_
        refine O.fa0 (off := 2) rfl rfl rfl rfl ⟨_, _, _, Go.Proofs.Try.underlying111, rfl, rfl, Go.Proofs.Try.sizeOf108⟩ rfl ?_
        refine O.ld rfl rfl rfl (fun w => ⟨Go.Proofs.Try.isAgg108 w, Go.Proofs.Try.sizeOf108 w⟩) rfl (show cl _ np 2 = some (.slice (some ⟨nib, nio, none⟩) X.length nic) from hn.c2) ?_
        refine O.len rfl rfl rfl rfl Go.Proofs.Try.underlying108 rfl ?_
        refine O.mv rfl rfl rfl rfl rfl ?_
        refine O.nc rfl rfl rfl rfl rfl ?_
        refine O.fa0 (off := 7) rfl rfl rfl rfl ⟨_, _, _, Go.Proofs.Try.underlying105, rfl, rfl, Go.Proofs.Try.sizeOf3⟩ rfl ?_
        refine O.ld rfl rfl rfl (fun w => ⟨Go.Proofs.Try.isAgg3 w, Go.Proofs.Try.sizeOf3 w⟩) rfl tc.mx' ?_
        refine O.cmp rfl rfl rfl rfl rfl rfl (lssT (by omega)) ?_
        refine Pl.fin [(0, _), (6, _), (7, _), (8, _), (9, _), (39, _), (49, _)] ⟨rfl, rfl, rfl, rfl, rfl, rfl, rfl, trivial⟩ ?_
        refine Go'.condT rfl ?_
        refine Go'.seq ?_
        -- region 8 (map.go:639)
        refine Go'.draw (fun _ => True) [(0, 0), (1, 0), (2, 0), (3, 1), (4, 0), (5, 0), (6, 0), (7, 1), (8, 0), (9, 0), (10, 0), (11, 0), (12, 1), (13, 0), (14, 1), (15, 0)] (by kernel_rfl) (by kernel_rfl) (trivial) ?_
        refine O.mv rfl rfl rfl rfl rfl ?_
        refine O.nc rfl rfl rfl rfl rfl ?_
        refine O.fa0 (off := 2) rfl rfl rfl rfl ⟨_, _, _, Go.Proofs.Try.underlying111, rfl, rfl, Go.Proofs.Try.sizeOf108⟩ rfl ?_
        refine O.ld rfl rfl rfl (fun w => ⟨Go.Proofs.Try.isAgg108 w, Go.Proofs.Try.sizeOf108 w⟩) rfl (show cl _ np 2 = some (.slice (some ⟨nib, nio, none⟩) X.length nic) from hn.c2) ?_
        refine O.mv rfl rfl rfl rfl rfl ?_
        refine O.nc rfl rfl rfl rfl rfl ?_
        refine O.fa0 (off := 2) rfl rfl rfl rfl ⟨_, _, _, Go.Proofs.Try.underlying111, rfl, rfl, Go.Proofs.Try.sizeOf108⟩ rfl ?_
        refine O.ld rfl rfl rfl (fun w => ⟨Go.Proofs.Try.isAgg108 w, Go.Proofs.Try.sizeOf108 w⟩) rfl (show cl _ np 2 = some (.slice (some ⟨nib, nio, none⟩) X.length nic) from hn.c2) ?_
        refine O.len rfl rfl rfl rfl Go.Proofs.Try.underlying108 rfl ?_
        refine O.sub (((X.length - 1 : Nat) : Int)) rfl rfl rfl rfl rfl rfl (by omega) (by omega) ?_
        refine O.ix (j := X.length - 1) rfl rfl rfl rfl Go.Proofs.Try.underlying108 Go.Proofs.Try.sizeOf100 rfl rfl (by omega) (by omega) ?_
        refine O.fa (off := 1) rfl rfl rfl rfl ⟨_, _, _, Go.Proofs.Try.underlying100, rfl, rfl, Go.Proofs.Try.sizeOf3⟩ rfl ?_
        refine O.ld rfl rfl rfl (fun w => ⟨Go.Proofs.Try.isAgg3 w, Go.Proofs.Try.sizeOf3 w⟩) rfl (hn.sl.item hy 1 _ rfl) ?_
        refine O.fa0 (off := 1) rfl rfl rfl rfl ⟨_, _, _, Go.Proofs.Try.underlying100, rfl, rfl, Go.Proofs.Try.sizeOf3⟩ rfl ?_
        refine O.ld rfl rfl rfl (fun w => ⟨Go.Proofs.Try.isAgg3 w, Go.Proofs.Try.sizeOf3 w⟩) rfl (m8 1 _ rfl) ?_
        refine O.cmp rfl rfl rfl rfl rfl rfl (lssF (by omega)) ?_
        refine Pl.fin [(0, _), (6, _), (7, _), (8, _), (9, _), (39, _), (49, _), (65, _)] ⟨rfl, rfl, rfl, rfl, rfl, rfl, rfl, rfl, trivial⟩ ?_
        refine Go'.condF rfl ?_
        refine Go'.skip ?_
        refine Go'.exit rfl ?_
        refine Go'.seq ?_
        have hFb : Fr (fun b o => (o = 1 ∧ Gt.sp true h0 t0 b) ∨ b = H2.size) H2 H11 := hs.fr.trans' hF2 (fun b o _ hz => .inl ⟨hz.1, (hs.all b).2 (.inl hz.2)⟩) (fun b o _ hz => .inl ⟨hz.1, hz.2 ▸ (hs.all np).2 (.inr rfl)⟩)
        have hvb : ∀ q, Gt.sp true h0 t0 q → cl H11 q 1 = some (.int .i64 ((cnOf H2 q + 1 : Nat) : Int)) := fun q hq => by
          rcases (hs.all q).1 hq with hd | hd
          · exact hF2.keep (hs.val q hd) (fun hz => by
              rcases hz with ⟨_, rfl⟩
              exact hs.off q hd (.inl ⟨rfl, by omega⟩))
          · have hd' : q = np := hd
            subst hd'
            have hcn' : cnOf H2 q = ncnt := by rw [hcntX]; exact hcn
            rw [hcn', ← encnt_11]
            exact hn.c1
        have hs2 := Sp2.start (δ := (fun n => n + 1)) hg1 hFb (fun o hb => by have := hlt0 _ _ hb; omega) hvb hx0
        have hszb := hFb.size
        clear ih
        -- region 13 (map.go:650)
        refine Go'.region [(0, 0), (1, 0), (2, 0), (3, 1), (4, 0)] rfl ?_
        refine O.mv rfl rfl rfl rfl rfl ?_
        refine O.nc rfl rfl rfl rfl rfl ?_
        refine O.fa0 (off := 2) rfl rfl rfl rfl ⟨_, _, _, Go.Proofs.Try.underlying105, rfl, rfl, Go.Proofs.Try.sizeOf103⟩ rfl ?_
        refine O.ld rfl rfl rfl (fun w => ⟨Go.Proofs.Try.isAgg103 w, Go.Proofs.Try.sizeOf103 w⟩) rfl (show cl _ tr 2 = some (.pointer (some ⟨Gt.p h0 t0, 0, none⟩)) from hc) ?_
        refine O.asg rfl rfl rfl rfl rfl ?_
        refine Pl.fin [(0, _), (6, _), (7, _), (8, _), (9, _)] ⟨rfl, rfl, rfl, rfl, rfl, trivial⟩ ?_
        refine Go'.seq ?_
        refine Go'.block ?_
        refine Go'.loop ?_
        refine Go'.keep [(0, _), (6, _), (7, _), (8, _), (9, _)] ⟨rfl, rfl, rfl, rfl, rfl, trivial⟩ ?_
        refine Go'.ind (σ := (h : Nat) × Gt EI h) (fun s => s.1) (fun s H' => ∃ D, Sp2 H2 H' P true (fun n => n + 1) h0 t0 H2.size D s.1 s.2 ∧ Fr (fun b o => o = 1 ∧ Gt.sp true h0 t0 b) H11 H')
          (fun s => [(0, .pointer (some ⟨tr, 0, none⟩)), (6, .int .i64 0), (7, .bool false), (8, .pointer (some ⟨b6, 0, none⟩)), (9, .pointer (some ⟨Gt.p s.1 s.2, 0, none⟩))]) ⟨h0, t0⟩ ⟨_, hs2, Fr.refl _ _⟩ rfl ?_
        rintro ⟨h, t⟩ H5 ⟨D2, hs3, hf3⟩ ih
        simp only at hs3
        have hcc3 := hs3.val2 _ (Gt.sp_p true)
        have hcn3 := (hs3.g.cnOf).2
        have hle3 := hs3.le
        rw [e] at hle3
        refine Go'.block ?_
        refine Go'.seq ?_
        have hpos : 1 ≤ (Gt.L h t).length := hs3.pos
        rcases h with _ | h
        rotate_left
        · -- further down
          obtain ⟨g, X3, K⟩ := t
          have hKl : K.length = X3.length + 1 := hs3.g.2.2.2.2.2.1
          obtain ⟨k, hk⟩ : ∃ k, K[cix true K.length]? = some k := ⟨K[cix true K.length]'(cix_lt (by omega)), List.getElem?_eq_getElem (cix_lt (by omega))⟩
          replace hcn3 : cnOf H2 g.p = (Gt.L (h + 1) ((g, X3, K) : Gt EI (h + 1))).length := hcn3
          obtain ⟨i1, i2, i3⟩ := hs3.inner (t := (g, X3, K)) hk
          have hwr3 := hs3.fr.wr hs3.g.1.wr
          have hx3 : X3.length ≤ P.mx := hs3.g.2.2.2.2.1
          -- region 14 (map.go:652)
          refine Go'.region [(0, 0), (1, 0), (2, 0), (3, 1), (4, 0), (5, 0), (6, 0), (7, 2)] rfl ?_
          refine O.mv rfl rfl rfl rfl rfl ?_
          refine O.nc rfl rfl rfl rfl rfl ?_
          refine O.fa0 (off := 1) rfl rfl rfl rfl ⟨_, _, _, Go.Proofs.Try.underlying111, rfl, rfl, Go.Proofs.Try.sizeOf3⟩ rfl ?_
          refine O.ld rfl rfl rfl (fun w => ⟨Go.Proofs.Try.isAgg3 w, Go.Proofs.Try.sizeOf3 w⟩) rfl (show cl _ g.p 1 = some (.int .i64 ((cnOf H2 g.p + 1 : Nat) : Int)) from hcc3) ?_
          refine O.sub (((((cnOf H2 g.p + 1)) - 1 : Nat) : Int)) rfl rfl rfl rfl rfl rfl (by omega) (by omega) ?_
          refine O.nc rfl rfl rfl rfl rfl ?_
          refine O.fa0 (off := 1) rfl rfl rfl rfl ⟨_, _, _, Go.Proofs.Try.underlying111, rfl, rfl, Go.Proofs.Try.sizeOf3⟩ rfl ?_
          refine O.st rfl rfl Go.Proofs.Try.sizeOf3 rfl rfl rfl rfl rfl (hwr3.at0 1 1 (by omega)) ?_
          intro H6 W4
          have ecn : cnOf H2 g.p + 1 - 1 = cnOf H2 g.p := by omega
          rw [ecn] at W4
          have hs4 := hs3.step (t := (g, X3, K)) hh1 hk W4
          have hf4 : Fr (fun b o => o = 1 ∧ Gt.sp true h0 t0 b) H11 H6 := hf3.trans' W4.fr (fun _ _ _ h => h) (fun b o _ hz => by
            have h1 := hz.1; have h2 := hz.2.1; have h3 := hz.2.2
            simp only [List.length_cons, List.length_nil] at h3
            exact ⟨by omega, h1 ▸ (hs3.all _).2 (.inr (.inl rfl))⟩)
          have hKM := hs3.g.2.1
          replace i1 := W4.keep1 i1 (by simp only; omega)
          replace i2 := W4.fr.keep i2 (nr (.inl (Ne.symm hKM.n2)))
          replace i3 := W4.fr.keep i3 (nr (.inl (Ne.symm hKM.n3)))
          refine ⟨trivial, ?_⟩
          refine Pl.fin [(0, _), (6, _), (7, _), (8, _), (9, _)] ⟨rfl, rfl, rfl, rfl, rfl, trivial⟩ ?_
          refine Go'.seq ?_
          refine Go'.seq ?_
          -- region 15 (map.go:653)
          refine Go'.region [(0, 0), (1, 2)] rfl ?_
          refine O.mv rfl rfl rfl rfl rfl ?_
          refine O.callQ rfl rfl rfl Go.Proofs.Try.call86 rfl (leaf_spec i1) trivial ?_
          refine Pl.fin [(0, _), (6, _), (7, _), (8, _), (9, _), (117, _)] ⟨rfl, rfl, rfl, rfl, rfl, rfl, trivial⟩ ?_
          refine Go'.condF rfl ?_
          refine Go'.skip ?_
          -- region 16 (map.go:656)
          refine Go'.draw (fun _ => True) [(0, 0), (1, 0), (2, 0), (3, 1), (4, 0), (5, 1), (6, 0), (7, 0), (8, 0), (9, 1), (10, 0), (11, 1), (12, 0), (13, 0), (14, 0), (15, 1), (16, 0)] (by kernel_rfl) (by kernel_rfl) (trivial) ?_
          refine O.mv rfl rfl rfl rfl rfl ?_
          refine O.nc rfl rfl rfl rfl rfl ?_
          refine O.fa0 (off := 3) rfl rfl rfl rfl ⟨_, _, _, Go.Proofs.Try.underlying111, rfl, rfl, Go.Proofs.Try.sizeOf109⟩ rfl ?_
          refine O.ld rfl rfl rfl (fun w => ⟨Go.Proofs.Try.isAgg109 w, Go.Proofs.Try.sizeOf109 w⟩) rfl (show cl _ g.p 3 = some (.pointer (some ⟨g.cb, 0, none⟩)) from i1) ?_
          refine O.nc rfl rfl rfl rfl rfl ?_
          refine O.ld rfl rfl rfl (fun w => ⟨Go.Proofs.Try.isAgg112 w, Go.Proofs.Try.sizeOf112 w⟩) rfl (show cl _ g.cb 0 = some (.slice (some ⟨g.kb, g.ko, none⟩) K.length g.kc) from i2) ?_
          refine O.mv rfl rfl rfl rfl rfl ?_
          refine O.nc rfl rfl rfl rfl rfl ?_
          refine O.fa0 (off := 3) rfl rfl rfl rfl ⟨_, _, _, Go.Proofs.Try.underlying111, rfl, rfl, Go.Proofs.Try.sizeOf109⟩ rfl ?_
          refine O.ld rfl rfl rfl (fun w => ⟨Go.Proofs.Try.isAgg109 w, Go.Proofs.Try.sizeOf109 w⟩) rfl (show cl _ g.p 3 = some (.pointer (some ⟨g.cb, 0, none⟩)) from i1) ?_
          refine O.nc rfl rfl rfl rfl rfl ?_
          refine O.ld rfl rfl rfl (fun w => ⟨Go.Proofs.Try.isAgg112 w, Go.Proofs.Try.sizeOf112 w⟩) rfl (show cl _ g.cb 0 = some (.slice (some ⟨g.kb, g.ko, none⟩) K.length g.kc) from i2) ?_
          refine O.len rfl rfl rfl rfl Go.Proofs.Try.underlying112 rfl ?_
          refine O.sub (((K.length - 1 : Nat) : Int)) rfl rfl rfl rfl rfl rfl (by omega) (by omega) ?_
          refine O.ix (j := K.length - 1) rfl rfl rfl rfl Go.Proofs.Try.underlying112 Go.Proofs.Try.sizeOf103 rfl rfl (by omega) (by omega) ?_
          refine O.ld rfl rfl rfl (fun w => ⟨Go.Proofs.Try.isAgg103 w, Go.Proofs.Try.sizeOf103 w⟩) rfl i3 ?_
          refine O.asg rfl rfl rfl rfl rfl ?_
          refine Pl.fin [(0, _), (6, _), (7, _), (8, _), (9, _), (117, _)] ⟨rfl, rfl, rfl, rfl, rfl, rfl, trivial⟩ ?_
          refine Go'.inBlock ?_
          refine Go'.keep [(0, _), (6, _), (7, _), (8, _), (9, _)] ⟨rfl, rfl, rfl, rfl, rfl, trivial⟩ ?_
          refine Go'.inLoop ?_
          exact ih ⟨h, k⟩ H6 ⟨_, hs4, hf4⟩ (by simp only; omega)
        · -- the leaf again
          obtain ⟨g, X3⟩ := t
          replace hcn3 : cnOf H2 g.p = (Gt.L 0 ((g, X3) : Gt EI 0)).length := hcn3
          have hwr3 := hs3.fr.wr hs3.g.1.wr
          have hc3l : cl H5 g.p 3 = some (.pointer none) := hs3.fr.keep hs3.g.1.c3 (fun hz => hz.elim (fun h => by omega) (fun h => hs3.nb 3 (hs3.sub H2.size 3 (show ncl EI g H2.size 3 from .inl ⟨h.symm, by omega⟩))))
          -- region 14 (map.go:652)
          refine Go'.region [(0, 0), (1, 0), (2, 0), (3, 1), (4, 0), (5, 0), (6, 0), (7, 2)] rfl ?_
          refine O.mv rfl rfl rfl rfl rfl ?_
          refine O.nc rfl rfl rfl rfl rfl ?_
          refine O.fa0 (off := 1) rfl rfl rfl rfl ⟨_, _, _, Go.Proofs.Try.underlying111, rfl, rfl, Go.Proofs.Try.sizeOf3⟩ rfl ?_
          refine O.ld rfl rfl rfl (fun w => ⟨Go.Proofs.Try.isAgg3 w, Go.Proofs.Try.sizeOf3 w⟩) rfl (show cl _ g.p 1 = some (.int .i64 ((cnOf H2 g.p + 1 : Nat) : Int)) from hcc3) ?_
          refine O.sub (((((cnOf H2 g.p + 1)) - 1 : Nat) : Int)) rfl rfl rfl rfl rfl rfl (by omega) (by omega) ?_
          refine O.nc rfl rfl rfl rfl rfl ?_
          refine O.fa0 (off := 1) rfl rfl rfl rfl ⟨_, _, _, Go.Proofs.Try.underlying111, rfl, rfl, Go.Proofs.Try.sizeOf3⟩ rfl ?_
          refine O.st rfl rfl Go.Proofs.Try.sizeOf3 rfl rfl rfl rfl rfl (hwr3.at0 1 1 (by omega)) ?_
          intro H6 W4
          have ecn : cnOf H2 g.p + 1 - 1 = cnOf H2 g.p := by omega
          rw [ecn] at W4
          have hgB := hs3.fin (t := (g, X3)) hg1 W4
          have hf4 : Fr (fun b o => o = 1 ∧ Gt.sp true h0 t0 b) H11 H6 := hf3.trans' W4.fr (fun _ _ _ h => h) (fun b o _ hz => by
            have h1 := hz.1; have h2 := hz.2.1; have h3 := hz.2.2
            simp only [List.length_cons, List.length_nil] at h3
            exact ⟨by omega, h1 ▸ (hs3.all _).2 (.inr rfl)⟩)
          have hst : ∀ o, ¬ (o = 1 ∧ Gt.sp true h0 t0 tr) := fun o hz => hnt 1 (Gt.sp_af hz.2 1 (by omega))
          replace hc3l := W4.keep1 hc3l (by omega)
          replace tc := tc.fr hf4 (fun o _ _ => hst o)
          replace cnt := hf4.keep cnt (hst _)
          replace hc := hf4.keep hc (hst _)
          replace m8 := hf4.rd m8 (fun i _ hz => hb6n 1 (Gt.sp_af hz.2 1 (by omega)))
          have hFB : Fr (fun b _ => S b) H2 H6 := hFb.trans' hf4 (fun b o hb hz => by
            rcases hz with ⟨ho, hz⟩ | hz
            · exact hown b o (ho ▸ Gt.sp_af hz 1 (by omega))
            · omega) (fun b o _ hz => hown b o (hz.1 ▸ Gt.sp_af hz.2 1 (by omega)))
          have hszB := hFB.size
          have hMB : MapM H6 tr P S l := ⟨tc, srt, cnt, own, fun b hb => by have := lt b hb; omega, .inr ⟨h0, t0, hgB, hx0, e, hc, hnt, hown⟩⟩
          refine ⟨trivial, ?_⟩
          refine Pl.fin [(0, _), (6, _), (7, _), (8, _), (9, _)] ⟨rfl, rfl, rfl, rfl, rfl, trivial⟩ ?_
          refine Go'.seq ?_
          refine Go'.seq ?_
          -- region 15 (map.go:653)
          refine Go'.region [(0, 0), (1, 2)] rfl ?_
          refine O.mv rfl rfl rfl rfl rfl ?_
          refine O.callQ rfl rfl rfl Go.Proofs.Try.call86 rfl (leaf_spec hc3l) trivial ?_
          refine Pl.fin [(0, _), (6, _), (7, _), (8, _), (9, _), (117, _)] ⟨rfl, rfl, rfl, rfl, rfl, rfl, trivial⟩ ?_
          refine Go'.condT rfl ?_
          refine Go'.exit rfl ?_
          refine Go'.seq ?_
          -- region 17 (map.go:658)
          refine Go'.region [(0, 0), (1, 0), (2, 1), (3, 0), (4, 1), (5, 2), (6, 0), (7, 0), (8, 0), (9, 0)] rfl ?_
          refine O.mv rfl rfl rfl rfl rfl ?_
          refine O.fa0 (off := 1) rfl rfl rfl rfl ⟨_, _, _, Go.Proofs.Try.underlying100, rfl, rfl, Go.Proofs.Try.sizeOf3⟩ rfl ?_
          refine O.ld rfl rfl rfl (fun w => ⟨Go.Proofs.Try.isAgg3 w, Go.Proofs.Try.sizeOf3 w⟩) rfl (m8 1 _ rfl) ?_
          refine O.faz rfl rfl rfl rfl ⟨_, _, _, Go.Proofs.Try.underlying100, rfl, rfl, Go.Proofs.Try.sizeOf3⟩ rfl ?_
          refine O.ld rfl rfl rfl (fun w => ⟨Go.Proofs.Try.isAgg3 w, Go.Proofs.Try.sizeOf3 w⟩) rfl (m8 0 _ rfl) ?_
          refine O.call rfl rfl rfl Go.Proofs.Try.call56 rfl (mset_spec hP (x := x) hMB hlen) ?_
          rintro _ H7 ⟨rfl, S', hM5, hF5, hS5⟩
          refine ⟨trivial, ?_⟩
          refine O.ext rfl rfl rfl rfl rfl rfl ?_
          refine O.ext rfl rfl rfl rfl rfl rfl ?_
          refine O.asg rfl rfl rfl rfl rfl ?_
          refine O.asg rfl rfl rfl rfl rfl ?_
          refine Pl.fin [(6, _), (7, _)] ⟨rfl, rfl, trivial⟩ ?_
          refine Go'.ret (vs := [_, _]) Go.Proofs.Try.func53 Go.Proofs.Try.results53 ⟨rfl, rfl, trivial⟩ ?_
          refine ⟨rfl, S', hM5, ?_, fun b hb => (hS5 b hb).imp id (fun h => by omega)⟩
          exact hFB.trans' hF5 (fun _ _ _ h => h) (fun _ _ _ h => h)
      · -- behind the last one
        -- region 7 (map.go:638)
        refine Go'.draw (fun _ => True) [(0, 0), (1, 0), (2, 0), (3, 1), (4, 0), (5, 0), (6, 0), (7, 0), (8, 1), (9, 0)] (by kernel_rfl) (by kernel_rfl) (trivial) ?_
        refine O.mv rfl rfl rfl rfl rfl ?_
        refine O.nc rfl rfl rfl rfl rfl ?_
        refine O.fa0 (off := 2) rfl rfl rfl rfl ⟨_, _, _, Go.Proofs.Try.underlying111, rfl, rfl, Go.Proofs.Try.sizeOf108⟩ rfl ?_
        refine O.ld rfl rfl rfl (fun w => ⟨Go.Proofs.Try.isAgg108 w, Go.Proofs.Try.sizeOf108 w⟩) rfl (show cl _ np 2 = some (.slice (some ⟨nib, nio, none⟩) X.length nic) from hn.c2) ?_
        refine O.len rfl rfl rfl rfl Go.Proofs.Try.underlying108 rfl ?_
        refine O.mv rfl rfl rfl rfl rfl ?_
        refine O.nc rfl rfl rfl rfl rfl ?_
        refine O.fa0 (off := 7) rfl rfl rfl rfl ⟨_, _, _, Go.Proofs.Try.underlying105, rfl, rfl, Go.Proofs.Try.sizeOf3⟩ rfl ?_
        refine O.ld rfl rfl rfl (fun w => ⟨Go.Proofs.Try.isAgg3 w, Go.Proofs.Try.sizeOf3 w⟩) rfl tc.mx' ?_
        refine O.cmp rfl rfl rfl rfl rfl rfl (lssT (by omega)) ?_
        refine Pl.fin [(0, _), (6, _), (7, _), (8, _), (9, _), (39, _), (49, _)] ⟨rfl, rfl, rfl, rfl, rfl, rfl, rfl, trivial⟩ ?_
        refine Go'.condT rfl ?_
        refine Go'.seq ?_
        -- region 8 (map.go:639)
        refine Go'.draw (fun _ => True) [(0, 0), (1, 0), (2, 0), (3, 1), (4, 0), (5, 0), (6, 0), (7, 1), (8, 0), (9, 0), (10, 0), (11, 0), (12, 1), (13, 0), (14, 1), (15, 0)] (by kernel_rfl) (by kernel_rfl) (trivial) ?_
        refine O.mv rfl rfl rfl rfl rfl ?_
        refine O.nc rfl rfl rfl rfl rfl ?_
        refine O.fa0 (off := 2) rfl rfl rfl rfl ⟨_, _, _, Go.Proofs.Try.underlying111, rfl, rfl, Go.Proofs.Try.sizeOf108⟩ rfl ?_
        refine O.ld rfl rfl rfl (fun w => ⟨Go.Proofs.Try.isAgg108 w, Go.Proofs.Try.sizeOf108 w⟩) rfl (show cl _ np 2 = some (.slice (some ⟨nib, nio, none⟩) X.length nic) from hn.c2) ?_
        refine O.mv rfl rfl rfl rfl rfl ?_
        refine O.nc rfl rfl rfl rfl rfl ?_
        refine O.fa0 (off := 2) rfl rfl rfl rfl ⟨_, _, _, Go.Proofs.Try.underlying111, rfl, rfl, Go.Proofs.Try.sizeOf108⟩ rfl ?_
        refine O.ld rfl rfl rfl (fun w => ⟨Go.Proofs.Try.isAgg108 w, Go.Proofs.Try.sizeOf108 w⟩) rfl (show cl _ np 2 = some (.slice (some ⟨nib, nio, none⟩) X.length nic) from hn.c2) ?_
        refine O.len rfl rfl rfl rfl Go.Proofs.Try.underlying108 rfl ?_
        refine O.sub (((X.length - 1 : Nat) : Int)) rfl rfl rfl rfl rfl rfl (by omega) (by omega) ?_
        refine O.ix (j := X.length - 1) rfl rfl rfl rfl Go.Proofs.Try.underlying108 Go.Proofs.Try.sizeOf100 rfl rfl (by omega) (by omega) ?_
        refine O.fa (off := 1) rfl rfl rfl rfl ⟨_, _, _, Go.Proofs.Try.underlying100, rfl, rfl, Go.Proofs.Try.sizeOf3⟩ rfl ?_
        refine O.ld rfl rfl rfl (fun w => ⟨Go.Proofs.Try.isAgg3 w, Go.Proofs.Try.sizeOf3 w⟩) rfl (hn.sl.item hy 1 _ rfl) ?_
        refine O.fa0 (off := 1) rfl rfl rfl rfl ⟨_, _, _, Go.Proofs.Try.underlying100, rfl, rfl, Go.Proofs.Try.sizeOf3⟩ rfl ?_
        refine O.ld rfl rfl rfl (fun w => ⟨Go.Proofs.Try.isAgg3 w, Go.Proofs.Try.sizeOf3 w⟩) rfl (m8 1 _ rfl) ?_
        refine O.cmp rfl rfl rfl rfl rfl rfl (lssT (by omega)) ?_
        refine Pl.fin [(0, _), (6, _), (7, _), (8, _), (9, _), (39, _), (49, _), (65, _)] ⟨rfl, rfl, rfl, rfl, rfl, rfl, rfl, rfl, trivial⟩ ?_
        refine Go'.condT rfl ?_
        refine Go'.seq ?_
        -- region 9 (map.go:640)
        refine Go'.draw (fun H' => cl H' np 2 = some (.slice (some ⟨nib, nio, none⟩) X.length nic)) [(0, 0), (1, 0), (2, 0), (3, 0), (4, 0), (5, 1), (6, 2), (7, 2), (8, 0), (9, 0), (10, 3)] (by kernel_rfl) (by kernel_rfl) ((show cl _ np 2 = some (.slice (some ⟨nib, nio, none⟩) X.length nic) from hn.c2)) ?_
        refine O.mv rfl rfl rfl rfl rfl ?_
        refine O.mv rfl rfl rfl rfl rfl ?_
        refine O.nc rfl rfl rfl rfl rfl ?_
        refine O.fa0 (off := 2) rfl rfl rfl rfl ⟨_, _, _, Go.Proofs.Try.underlying111, rfl, rfl, Go.Proofs.Try.sizeOf108⟩ rfl ?_
        refine O.ldC rfl rfl rfl (fun w => ⟨Go.Proofs.Try.isAgg108 w, Go.Proofs.Try.sizeOf108 w⟩) rfl (fun _ h => h) ?_
        refine O.lds rfl rfl rfl (fun w => ⟨Go.Proofs.Try.isAgg100 w, Go.Proofs.Try.sizeOf100 w⟩) rfl rfl m8 ?_
        refine O.bsl (cs := (EI.enc x)) rfl rfl rfl ⟨Go.Proofs.Try.underlying108, Go.Proofs.Try.sizeOf100, Go.Proofs.Try.zeroValue100, ⟨_, Go.Proofs.Try.typeInfo100, rfl⟩, rfl, by decide, by decide⟩ rfl (by decide) (by kernel_rfl) ?_
        intro H12 MH12
        have fM := MH12.fr nowhere
        replace hn := NodeM.fr EI hn fM (fun _ _ _ => nw)
        replace tc := tc.fr fM (fun _ _ _ => nw)
        replace hF := hF.trans' fM (fun _ _ _ h => h) (fun _ _ _ h => h.elim)
        replace cnt := Fr.keep fM cnt nw
        replace hc := Fr.keep fM hc nw
        have mH12 : Rd H12 H11.size 0 (EI.enc x) := MH12.rd _ [] (by simp)
        refine ⟨(show cl _ np 2 = some (.slice (some ⟨nib, nio, none⟩) X.length nic) from hn.c2), ?_⟩
        refine O.app (m := 1) (news := (EI.enc x)) rfl rfl rfl ⟨Go.Proofs.Try.underlying108, Go.Proofs.Try.sizeOf100, Go.Proofs.Try.zeroValue100, ⟨_, Go.Proofs.Try.typeInfo100, rfl⟩, rfl, by decide, by decide⟩ rfl hn.sl rfl (.inl ⟨_, _, _, rfl, mH12⟩) rfl rfl (Nat.le_trans (Nat.mul_le_mul_left _ (Nat.le_of_ble_eq_true (n := _) (m := 4096) rfl)) (by omega)) (by omega) ?_
        intro nib_14 nio_14 nic_14 H13 haH13
        have fA : Fr (ncl EI (⟨np, niso, ncnt_11, nib, nio, nic, ncb, nkb, nko, nkc⟩ : Ng)) H12 H13 := (haH13.in_node hn)
        have gg : Gro H12 (ncl EI (⟨np, niso, ncnt_11, nib, nio, nic, ncb, nkb, nko, nkc⟩ : Ng)) (ncl EI (⟨np, niso, ncnt_11, nib_14, nio_14, nic_14, ncb, nkb, nko, nkc⟩ : Ng)) := haH13.gro
        have hF0 := hF
        have h0 := hn
        replace hn := hn.appd haH13
        replace tc := tc.fr fA (fun o _ _ hz => tn tr o hz rfl)
        replace hF := Fr.tot hF fA sn (fun _ _ h => .inl h)
        replace cnt := Fr.keep fA cnt (fun hz => tn tr _ hz rfl)
        replace hc := Fr.keep fA hc (fun hz => tn tr _ hz rfl)
        refine ⟨(show cl _ np 2 = some (.slice (some ⟨nib, nio, none⟩) X.length nic) from hn.c2), ?_⟩
        refine O.nc rfl rfl rfl rfl rfl ?_
        refine O.fa0 (off := 2) rfl rfl rfl rfl ⟨_, _, _, Go.Proofs.Try.underlying111, rfl, rfl, Go.Proofs.Try.sizeOf108⟩ rfl ?_
        refine O.st3 rfl rfl Go.Proofs.Try.sizeOf108 rfl rfl rfl rfl rfl (hn.wr.at0 2 1 (by omega)) ?_
        intro H14 WH14
        have hf3 : NodeM EI H14 (⟨np, niso, ncnt_11, nib_14, nio_14, nic_14, ncb, nkb, nko, nkc⟩ : Ng) (X ++ [x]) (.pointer none) := h0.push haH13 WH14
        have fH : Fr (ncl EI (⟨np, niso, ncnt_11, nib_14, nio_14, nic_14, ncb, nkb, nko, nkc⟩ : Ng)) H13 H14 := (Wrote.fHdr (E := EI) (g := (⟨np, niso, ncnt_11, nib_14, nio_14, nic_14, ncb, nkb, nko, nkc⟩ : Ng)) WH14 (by omega))
        replace tn := Gro.offD gg tn (fun b h => Nat.lt_of_lt_of_le (hD b h) hF0.size)
        replace sn := Gro.tr sn hF0.size gg
        replace tc := tc.fr fH (fun o _ _ hz => tn tr o hz rfl)
        replace hF := Fr.tot hF fH sn (fun _ _ h => .inl h)
        replace cnt := Fr.keep fH cnt (fun hz => tn tr _ hz rfl)
        replace hc := Fr.keep fH hc (fun hz => tn tr _ hz rfl)
        clear h0 hn
        obtain ⟨nX1, enX1, hn⟩ : ∃ X1, X1 = X ++ [x] ∧ NodeM EI H14 (⟨np, niso, ncnt_11, nib_14, nio_14, nic_14, ncb, nkb, nko, nkc⟩ : Ng) (X1) (.pointer none) := ⟨_, rfl, hf3⟩
        have lnX1 : nX1.length = X.length + 1 := by rw [enX1, List.length_append]; rfl
        have cnX1 : nX1.length ≤ nic_14 := hn.sl.hle
        clear hf3 fA fH gg hF0 haH13 WH14 fM MH12 mH12
        refine Pl.fin [(0, _), (6, _), (7, _), (8, _), (9, _), (39, _), (49, _), (65, _)] ⟨rfl, rfl, rfl, rfl, rfl, rfl, rfl, rfl, trivial⟩ ?_
        refine Go'.seq ?_
        have eX : X = X.take (X.length - 1) ++ [y] := Pl.last_split hy
        obtain ⟨gE1, gE2, gE3, ⟨R, gE4, gE5⟩, gE6, gE7⟩ := Gt.Good.edit (d := true) (δ := (fun n => n + 1)) (Z := fun b o => (o = 1 ∧ D b) ∨ ((ncl EI (⟨np, niso, ncnt, nib, nio, nic, ncb, nkb, nko, nkc⟩ : Ng)) b o ∨ b = tr)) (hs.fr.trans' hF (fun _ _ _ h => .inl h) (fun _ _ _ h => .inr h)) hn hiso (show ncnt_11 = nX1.length by omega) (by omega) hg1
          (fun b o hb hz => by
            rcases hz with ⟨ho, hd⟩ | hz | rfl
            · exact .inl ⟨ho, (hs.all b).2 (.inl hd)⟩
            · exact .inr (by rw [← hlf]; exact hz)
            · exact (hnt o hb).elim)
          (fun q hq hne2 => by
            rcases (hs.all q).1 hq with hd | hd
            · exact hF.keep (hs.val q hd) (fun hz => by
                rcases hz with hz | rfl
                · exact hs.off q hd hz
                · exact hDt q rfl hd)
            · rw [← hlf] at hne2
              exact (hne2 hd).elim)
          (by rw [← hlf]) (fun h9 => by
            have : P.mn ≤ X.length := hs.mn h9
            omega)
          (by rw [← hlf]; exact fun b o hb => (sn b o hb).imp id (fun h9 => by omega)) (fun n hn9 => by rw [← hlf] at hn9 ⊢; simp only at hn9 ⊢; omega)
        rw [← hlf] at gE4
        have ht1 : l = R ++ X := by rw [← e]; exact gE4
        have hglen := glue_len true nX1 R
        have hglen2 := congrArg List.length ht1
        rw [List.length_append] at hglen2
        have ht2 : l = (R ++ X.take (X.length - 1)) ++ [y] := by
          rw [ht1]
          conv => lhs; rw [eX]
          simp
        have hpe := Pl.put_end OI (x := x) (y := y) (l := R ++ X.take (X.length - 1)) (by rw [← ht2]; exact srt) (decide_eq_true hyx)
        rw [← ht2] at hpe
        have hput : Pl.put OI x l = glue true nX1 R := by
          rw [hpe.1, ht1, enX1]
          show _ = R ++ (X ++ [x])
          simp
        have hown1 : ∀ b o, Gt.af h0 (Gt.ed true (fun n => n + 1) (⟨np, niso, ncnt_11, nib_14, nio_14, nic_14, ncb, nkb, nko, nkc⟩ : Ng) nX1 h0 t0) b o → S b ∨ (H2.size ≤ b ∧ b < H14.size) := fun b o hb => (gE3 b o hb).imp (hown b o) (fun h9 => ⟨by omega, gE1.lt hb⟩)
        have hnt1 : ∀ o, ¬ Gt.af h0 (Gt.ed true (fun n => n + 1) (⟨np, niso, ncnt_11, nib_14, nio_14, nic_14, ncb, nkb, nko, nkc⟩ : Ng) nX1 h0 t0) tr o := fun o hb => (gE3 _ _ hb).elim (hnt o) (fun h9 => by omega)
        have hFt : Fr (fun b _ => S b) H2 H14 := hs.fr.trans' hF (Z := fun b _ => S b) (fun b o _ hd => hown b o (hd.1 ▸ Gt.sp_af ((hs.all b).2 (.inl hd.2)) 1 (by omega))) (fun b o hb hz => by
          rcases hz with hz | rfl
          · exact hown b o (hs.sub b o hz)
          · exact own)
        have hbl6 : ∀ b o, Gt.af h0 (Gt.ed true (fun n => n + 1) (⟨np, niso, ncnt_11, nib_14, nio_14, nic_14, ncb, nkb, nko, nkc⟩ : Ng) nX1 h0 t0) b o → b ≠ tr := fun b o hb e2 => hnt1 o (e2 ▸ hb)
        generalize hT : Gt.ed true (fun n => n + 1) (⟨np, niso, ncnt_11, nib_14, nio_14, nic_14, ncb, nkb, nko, nkc⟩ : Ng) nX1 h0 t0 = T at *
        rw [← gE2] at hc
        have hsrt1 : Pl.Srt OI (glue true nX1 R) := by rw [← hput]; exact Pl.Srt.put OI srt
        -- region 10 (map.go:641)
        refine Go'.region [(0, 0), (1, 0), (2, 0), (3, 1), (4, 0), (5, 0), (6, 0), (7, 2)] rfl ?_
        refine O.mv rfl rfl rfl rfl rfl ?_
        refine O.nc rfl rfl rfl rfl rfl ?_
        refine O.fa0 (off := 3) rfl rfl rfl rfl ⟨_, _, _, Go.Proofs.Try.underlying105, rfl, rfl, Go.Proofs.Try.sizeOf3⟩ rfl ?_
        refine O.ld rfl rfl rfl (fun w => ⟨Go.Proofs.Try.isAgg3 w, Go.Proofs.Try.sizeOf3 w⟩) rfl cnt ?_
        refine O.add (((l.length + 1 : Nat) : Int)) rfl rfl rfl rfl rfl rfl (by omega) (by omega) ?_
        refine O.nc rfl rfl rfl rfl rfl ?_
        refine O.fa0 (off := 3) rfl rfl rfl rfl ⟨_, _, _, Go.Proofs.Try.underlying105, rfl, rfl, Go.Proofs.Try.sizeOf3⟩ rfl ?_
        refine O.st rfl rfl Go.Proofs.Try.sizeOf3 rfl rfl rfl rfl rfl (tc.wr.at0 3 1 (by omega)) ?_
        intro Ha Wa
        have hsa := Wa.size
        replace tc := tc.fr (Wa.fr' 1 rfl) (fun o _ h2 => nr (by omega))
        replace hc := Wa.keep1 hc (by omega)
        replace hFt := hFt.trans' Wa.fr (fun _ _ _ h => h) (fun b o _ h => by rw [h.1]; exact own)
        have cnt5 : cl Ha tr 3 = some (.int .i64 ((l.length + 1 : Nat) : Int)) := Wa.at
        replace gE1 := gE1.fr Wa.fr (fun b o hb => nr (.inl (hbl6 b o hb)))
        refine ⟨trivial, ?_⟩
        refine Pl.fin [(0, _), (6, _), (7, _), (8, _), (9, _), (39, _), (49, _), (65, _)] ⟨rfl, rfl, rfl, rfl, rfl, rfl, rfl, rfl, trivial⟩ ?_
        refine Go'.seq ?_
        -- region 11 (map.go:642)
        refine Go'.region [(0, 0), (1, 0), (2, 0), (3, 0), (4, 1), (5, 0), (6, 0)] rfl ?_
        refine O.mv rfl rfl rfl rfl rfl ?_
        refine O.nc rfl rfl rfl rfl rfl ?_
        refine O.fa0 (off := 4) rfl rfl rfl rfl ⟨_, _, _, Go.Proofs.Try.underlying105, rfl, rfl, Go.Proofs.Try.sizeOf100⟩ rfl ?_
        refine O.faz rfl rfl rfl rfl ⟨_, _, _, Go.Proofs.Try.underlying100, rfl, rfl, Go.Proofs.Try.sizeOf3⟩ rfl ?_
        refine O.ld rfl rfl rfl (fun w => ⟨Go.Proofs.Try.isAgg3 w, Go.Proofs.Try.sizeOf3 w⟩) rfl (tc.emp 0 _ rfl) ?_
        refine O.asg rfl rfl rfl rfl rfl ?_
        refine O.asg rfl rfl rfl rfl rfl ?_
        refine Pl.fin [(0, _), (6, _), (7, _), (8, _), (9, _), (39, _), (49, _), (65, _)] ⟨rfl, rfl, rfl, rfl, rfl, rfl, rfl, rfl, trivial⟩ ?_
        refine Go'.ret (vs := [_, _]) Go.Proofs.Try.func53 Go.Proofs.Try.results53 ⟨rfl, rfl, trivial⟩ ?_
        refine ⟨by rw [hpe.2.1, hpe.2.2]; rfl, ?_⟩
        rw [hput]
        have e9 : l.length + 1 = (glue true nX1 R).length := by rw [hglen]; omega
        rw [e9] at cnt5
        have hsz9 := hFt.size
        exact ⟨fun b => S b ∨ (H2.size ≤ b ∧ b < Ha.size), ⟨tc, hsrt1, cnt5, .inl own, fun b hb => hb.elim (fun h9 => by have := lt b h9; omega) (fun h9 => h9.2), .inr ⟨h0, T, gE1, by
              rcases Nat.eq_zero_or_pos h0 with h9 | h9
              · rw [gE7 h9]; omega
              · rw [gE6 h9]; assumption, gE5, hc, hnt1, fun b o hb => (hown1 b o hb).imp id (fun h9 => ⟨h9.1, by omega⟩)⟩⟩, hFt, fun b hb => hb.imp id (fun h9 => h9.1)⟩

end Go.Bt
namespace Go.Bt
open Go Go.Proofs
set_option maxRecDepth 20000
set_option maxHeartbeats 4000000
set_option linter.unusedVariables false

theorem mloads_spec {B : World} {H : Mem} {d : Nat} {u : Value} {l : List (Int × Int)} (hd : 2 ≤ d ∧ d ≤ 128) (hi : InS EJ H u l) (hll : l.length ≤ 4294967296) :
    Fn Try.prog B 24 [.int .i64 (d : Int), u] H (fun r H' => ∃ v1 v2, r = .tuple #[v1, v2] ∧ OutS EF H' v1 (Pl.gots OI l) ∧ OutS EJ H' v2 (Pl.puts OI l) ∧ Fr nowhere H H') := by
  have hP : PsOk ⟨0, 2 * d - 1, d - 1⟩ := ⟨by show 2 * d - 1 = 2 * (d - 1) + 1; omega, by show 1 ≤ d - 1; omega, by show 2 * d - 1 ≤ 255; omega⟩
  have hpl0 := Pl.puts_length OI l
  obtain ⟨a, c, hu⟩ := hi.len
  subst hu
  refine fn_of Go.Proofs.Try.func24 rfl Go.Proofs.Try.ntmps24 ?_
  refine (show Go' _ _ _ _ 41 [(0, _), (1, _)] [.code _] _ from ?_)
  refine Go'.seq ?_
  -- region 0 (map.go:45)
  refine Go'.region [(0, 0), (1, 0)] rfl ?_
  refine O.asg rfl rfl rfl rfl rfl ?_
  refine O.asg rfl rfl rfl rfl rfl ?_
  refine Pl.fin [(0, _), (1, _), (4, _), (5, _)] ⟨rfl, rfl, rfl, rfl, trivial⟩ ?_
  refine Go'.seq ?_
  -- region 1 (map.go:46)
  refine Go'.region [(0, 0), (1, 2), (2, 0)] rfl ?_
  refine O.mv rfl rfl rfl rfl rfl ?_
  refine O.call rfl rfl rfl Go.Proofs.Try.call52 rfl (growMap_spec (l := []) hd (InS.nil EJ H) (by decide)) ?_
  rintro _ H1 ⟨tr, S0, rfl, hM1, hF1, hS0⟩
  unfold ptr
  refine ⟨trivial, ?_⟩
  refine O.asg rfl rfl rfl rfl rfl ?_
  refine Pl.fin [(1, _), (4, _), (5, _), (6, _)] ⟨rfl, rfl, rfl, rfl, trivial⟩ ?_
  refine Go'.seq ?_
  -- region 2 (map.go:47)
  refine Go'.region [(0, 0)] rfl ?_
  refine O.asg rfl rfl rfl rfl rfl ?_
  refine Pl.fin [(1, _), (4, _), (5, _), (6, _), (7, _)] ⟨rfl, rfl, rfl, rfl, rfl, trivial⟩ ?_
  refine Go'.seq ?_
  refine Go'.seq ?_
  -- region 3 (map.go:48)
  refine Go'.region [(0, 0), (1, 0), (2, 0)] rfl ?_
  refine O.mv rfl rfl rfl rfl rfl ?_
  refine O.len rfl rfl rfl rfl Go.Proofs.Try.underlying22 rfl ?_
  refine O.mv rfl rfl rfl rfl rfl ?_
  refine Pl.fin [(4, _), (5, _), (6, _), (7, _), (14, _), (15, _), (16, _)] ⟨rfl, rfl, rfl, rfl, rfl, rfl, rfl, trivial⟩ ?_
  refine Go'.block ?_
  refine Go'.loop ?_
  refine Go'.keep [(6, _), (7, _), (14, _), (15, _), (16, _)] ⟨rfl, rfl, rfl, rfl, rfl, trivial⟩ ?_
  refine Go'.ind (σ := Nat × Value) (fun s => l.length - s.1) (fun s H' => Fr nowhere H H' ∧ s.1 ≤ l.length ∧ ∃ S Zo, MapM H' tr ⟨0, 2 * d - 1, d - 1⟩ S (Pl.puts OI (l.take s.1)) ∧ (∀ b, S b → H.size ≤ b) ∧ Acc EF Zo H' s.2 (Pl.gots OI (l.take s.1)) ∧ ∀ b, Zo b → H.size ≤ b ∧ b < H'.size ∧ ¬ S b)
    (fun s => [(6, .pointer (some ⟨tr, 0, none⟩)), (7, s.2), (14, .slice a l.length c), (15, .int .i64 (l.length : Int)), (16, .int .i64 (s.1 : Int))]) (0, .slice none 0 0) ⟨hF1, Nat.zero_le _, S0, fun _ => False, hM1, hS0, Acc.nil _ _ _, fun _ h => h.elim⟩ rfl ?_
  rintro ⟨j, sv⟩ H2 ⟨hF, hjl, S, Zo, hM, hS, hA, hZ⟩ ih
  simp only at hjl hM hA
  have hi2 := hi.fr hF
  refine Go'.seq ?_
  by_cases hlt : j < l.length
  · skip
    obtain ⟨y, hy⟩ : ∃ y, l[j]? = some y := ⟨l[j], List.getElem?_eq_getElem hlt⟩
    obtain ⟨b, o, c', e, hr⟩ := hi2.at hy
    cases e
    have hpl := Pl.puts_length OI (l.take j)
    have hlout := Pl.gots_length OI (l.take j)
    have hsrt := Pl.puts_srt OI (l.take j)
    have hSn : ∀ b, H2.size ≤ b → ¬ S b := fun b hb hs => by have := hM.lt b hs; omega
    have hsz := hF.size
    have eput : Pl.puts OI (l.take (j + 1)) = Pl.put OI y (Pl.puts OI (l.take j)) := by rw [List.take_add_one, hy]; exact Pl.puts_snoc _ _ _
    have egot : Pl.gots OI (l.take (j + 1)) = Pl.gots OI (l.take j) ++ [Pl.got OI y (Pl.puts OI (l.take j))] := by rw [List.take_add_one, hy]; exact Pl.gots_snoc _ _ _
    rw [List.length_take] at hpl hlout
    -- region 4 (map.go:48)
    refine Go'.region [(0, 0)] rfl ?_
    refine O.cmp rfl rfl rfl rfl rfl rfl (lssT (by omega)) ?_
    refine Pl.fin [(6, _), (7, _), (14, _), (15, _), (16, _), (17, _)] ⟨rfl, rfl, rfl, rfl, rfl, rfl, trivial⟩ ?_
    refine Go'.seq ?_
    refine Go'.condT rfl ?_
    refine Go'.skip ?_
    refine Go'.seq ?_
    refine Go'.block ?_
    refine Go'.seq ?_
    -- region 5 (map.go:48)
    refine Go'.region [(0, 0), (1, 1), (2, 2), (3, 2)] rfl ?_
    refine O.ix (j := j) rfl rfl rfl rfl Go.Proofs.Try.underlying22 Go.Proofs.Try.sizeOf35 rfl rfl (by omega) hlt ?_
    refine O.lds rfl rfl rfl (fun w => ⟨Go.Proofs.Try.isAgg35 w, Go.Proofs.Try.sizeOf35 w⟩) rfl rfl hr ?_
    refine O.alloc rfl rfl rfl Go.Proofs.Try.zeroValue35 ?_
    intro H3 M3
    refine ⟨trivial, ?_⟩
    have hs3 := M3.size
    replace hM := hM.fr (M3.fr nowhere) (fun _ _ _ => nw)
    replace hA := hA.fr (M3.fr nowhere) (fun _ _ _ _ => nw)
    have m7 : Wr H3 H2.size 0 2 := M3.wr 2 (by decide)
    have hlt2 : ∀ b, S b → b < H2.size := fun b hb => by
      rcases Nat.lt_or_ge b H2.size with h | h
      · exact h
      · exact absurd hb (hSn b h)
    refine O.st rfl rfl Go.Proofs.Try.sizeOf35 rfl rfl rfl rfl rfl m7 ?_
    intro H4 W4
    have hs4 := W4.size
    replace hM := hM.fr W4.fr (fun b o hb hz => by have h1 := hz.1; have h2 := hlt2 b hb; omega)
    replace hA := hA.fr W4.fr (fun b o hb hb2 hz => by have h1 := hz.1; have h2 := hZ b hb2; omega)
    have hf4 : Fr nowhere H H4 := hF.trans' ((M3.fr nowhere).trans' W4.fr (Z := nowhere) (fun _ _ _ h => h) (fun b o hb hz => by have h1 := hz.1; omega)) (fun _ _ _ h => h) (fun _ _ _ h => h)
    have k0 : cl H4 H2.size 0 = some (.int .i64 y.1) := W4.all 0 _ rfl
    have k1 : cl H4 H2.size 1 = some (.int .i64 y.2) := W4.all 1 _ rfl
    refine ⟨trivial, ?_⟩
    refine Pl.fin [(6, _), (7, _), (9, _), (14, _), (15, _), (16, _), (17, _)] ⟨rfl, rfl, rfl, rfl, rfl, rfl, rfl, trivial⟩ ?_
    refine Go'.seq ?_
    rcases hgo : Pl.got OI y (Pl.puts OI (l.take j)) with _ | z
    · skip
      have hfd : Pl.fnd OI y (Pl.puts OI (l.take j)) = false := by rw [← Pl.got_isSome, hgo]; rfl
      -- region 6 (map.go:49)
      refine Go'.region [(0, 0), (1, 0), (2, 1), (3, 0), (4, 1), (5, 2), (6, 0), (7, 0), (8, 0), (9, 0), (10, 0)] rfl ?_
      refine O.mv rfl rfl rfl rfl rfl ?_
      refine O.faz rfl rfl rfl rfl ⟨_, _, _, Go.Proofs.Try.underlying35, rfl, rfl, Go.Proofs.Try.sizeOf3⟩ rfl ?_
      refine O.ld rfl rfl rfl (fun w => ⟨Go.Proofs.Try.isAgg3 w, Go.Proofs.Try.sizeOf3 w⟩) rfl k0 ?_
      refine O.fa0 (off := 1) rfl rfl rfl rfl ⟨_, _, _, Go.Proofs.Try.underlying35, rfl, rfl, Go.Proofs.Try.sizeOf3⟩ rfl ?_
      refine O.ld rfl rfl rfl (fun w => ⟨Go.Proofs.Try.isAgg3 w, Go.Proofs.Try.sizeOf3 w⟩) rfl k1 ?_
      refine O.call rfl rfl rfl Go.Proofs.Try.call53 rfl (load_spec hP (x := y) hM (by omega)) ?_
      rintro _ H5 ⟨rfl, S', hM', hF', hS'⟩
      rw [hgo, hfd]
      unfold PV
      have hs5 := hF'.size
      replace hA := hA.fr hF' (fun b o hb hb2 hz => (hZ b hb2).2.2 hz)
      replace k0 := hF'.keep k0 (hSn _ (Nat.le_refl _))
      refine ⟨trivial, ?_⟩
      refine O.mv rfl rfl rfl rfl rfl ?_
      refine O.ext rfl rfl rfl rfl rfl rfl ?_
      refine O.ext rfl rfl rfl rfl rfl rfl ?_
      refine O.asg rfl rfl rfl rfl rfl ?_
      refine O.asg rfl rfl rfl rfl rfl ?_
      refine Pl.fin [(6, _), (7, _), (9, _), (10, _), (11, _), (14, _), (15, _), (16, _), (17, _)] ⟨rfl, rfl, rfl, rfl, rfl, rfl, rfl, rfl, rfl, trivial⟩ ?_
      -- region 7 (map.go:50)
      refine Go'.region [(0, 0), (1, 0), (2, 1), (3, 0), (4, 0), (5, 2), (6, 2), (7, 2), (8, 0)] rfl ?_
      refine O.mv rfl rfl rfl rfl rfl ?_
      refine O.faz rfl rfl rfl rfl ⟨_, _, _, Go.Proofs.Try.underlying35, rfl, rfl, Go.Proofs.Try.sizeOf3⟩ rfl ?_
      refine O.ld rfl rfl rfl (fun w => ⟨Go.Proofs.Try.isAgg3 w, Go.Proofs.Try.sizeOf3 w⟩) rfl k0 ?_
      refine O.mv rfl rfl rfl rfl rfl ?_
      refine O.mv rfl rfl rfl rfl rfl ?_
      refine O.call rfl rfl rfl Go.Proofs.Try.call54 rfl (pair_spec (x := (y.1, (0 : Int))) (ok := false)) ?_
      rintro _ H6 ⟨rfl, hF6⟩
      have hs6 := hF6.size
      replace hM' := hM'.fr hF6 (fun _ _ _ => nw)
      replace hA := hA.fr hF6 (fun _ _ _ _ => nw)
      refine ⟨trivial, ?_⟩
      refine O.bsl (cs := (fvs none)) rfl rfl rfl ⟨Go.Proofs.Try.underlying30, Go.Proofs.Try.sizeOf37, Go.Proofs.Try.zeroValue37, ⟨_, Go.Proofs.Try.typeInfo37, rfl⟩, rfl, by decide, by decide⟩ rfl (by decide) (by kernel_rfl) ?_
      intro H7 M7
      have hs7 := M7.size
      replace hM' := hM'.fr (M7.fr nowhere) (fun _ _ _ => nw)
      replace hA := hA.fr (M7.fr nowhere) (fun _ _ _ _ => nw)
      have m5 : Rd H7 H6.size 0 (row EF [none]) := M7.rd _ [] (by simp [row, EF, fvs])
      refine ⟨trivial, ?_⟩
      refine O.appA (E := EF) (Y := [none]) rfl rfl rfl ⟨Go.Proofs.Try.underlying30, Go.Proofs.Try.sizeOf37, Go.Proofs.Try.zeroValue37, ⟨_, Go.Proofs.Try.typeInfo37, rfl⟩, rfl, by decide, by decide⟩ rfl hA rfl ⟨_, _, _, rfl, m5⟩ (Nat.succ_pos _) (by rw [hlout]; exact Nat.le_trans (Nat.mul_le_mul_left _ (Nat.le_of_ble_eq_true (n := _) (m := 4096) rfl)) (by simp only [List.length_cons, List.length_nil]; omega)) (by rw [hlout]; simp only [List.length_cons, List.length_nil]; omega) ?_
      intro v8 H8 hA8 hF8 hs8
      have hS2 : ∀ b, S' b → ¬ Zo b := fun b hb hz => (hS' b hb).elim (hZ b hz).2.2 (fun h => by have := (hZ b hz).2.1; omega)
      have hlt5 : ∀ b, S' b → b < H7.size := hM'.lt
      have hM8 := hM'.fr hF8 (fun b _ hb => hS2 b hb)
      have hg8 := hF8.size
      rw [hgo] at egot
      refine ⟨trivial, ?_⟩
      refine O.asg rfl rfl rfl rfl rfl ?_
      refine Pl.fin [(6, _), (7, _), (9, _), (10, _), (11, _), (14, _), (15, _), (16, _), (17, _)] ⟨rfl, rfl, rfl, rfl, rfl, rfl, rfl, rfl, rfl, trivial⟩ ?_
      refine Go'.inBlock ?_
      -- region 8 (map.go:48)
      refine Go'.region [(0, 0), (1, 0)] rfl ?_
      refine O.add (((j + 1 : Nat) : Int)) rfl rfl rfl rfl rfl rfl (by omega) (by omega) ?_
      refine O.mv rfl rfl rfl rfl rfl ?_
      refine Pl.fin [(6, _), (7, _), (9, _), (10, _), (11, _), (14, _), (15, _), (16, _), (17, _)] ⟨rfl, rfl, rfl, rfl, rfl, rfl, rfl, rfl, rfl, trivial⟩ ?_
      refine Go'.keep [(6, _), (7, _), (14, _), (15, _), (16, _)] ⟨rfl, rfl, rfl, rfl, rfl, trivial⟩ ?_
      refine Go'.inLoop ?_
      exact ih (j + 1, v8) H8 ⟨(((hf4.trans' hF' (fun _ _ _ h => h) (fun b o hb hz => by have h1 := hS b hz; omega)).trans hF6).trans (M7.fr nowhere)).trans' hF8 (fun _ _ _ h => h) (fun b o hb hz => by have h1 := (hZ b hz).1; omega), hlt, S', (fun b => Zo b ∨ (b = H7.size ∧ b < H8.size)), by
        simp only
        rw [eput]
        exact hM8, fun b hb => (hS' b hb).elim (hS b) (fun h => by have := hf4.size; omega), by
        simp only
        rw [egot]
        exact hA8, fun b hb => hb.elim (fun h => ⟨(hZ b h).1, by have := (hZ b h).2.1; omega, fun hs => hS2 b hs h⟩) (fun h => ⟨by omega, h.2, fun hs => by have := hlt5 b hs; omega⟩)⟩ (by simp only; omega)
    · skip
      have hfd : Pl.fnd OI y (Pl.puts OI (l.take j)) = true := by rw [← Pl.got_isSome, hgo]; rfl
      have hky := got_key hsrt hgo
      -- region 6 (map.go:49)
      refine Go'.region [(0, 0), (1, 0), (2, 1), (3, 0), (4, 1), (5, 2), (6, 0), (7, 0), (8, 0), (9, 0), (10, 0)] rfl ?_
      refine O.mv rfl rfl rfl rfl rfl ?_
      refine O.faz rfl rfl rfl rfl ⟨_, _, _, Go.Proofs.Try.underlying35, rfl, rfl, Go.Proofs.Try.sizeOf3⟩ rfl ?_
      refine O.ld rfl rfl rfl (fun w => ⟨Go.Proofs.Try.isAgg3 w, Go.Proofs.Try.sizeOf3 w⟩) rfl k0 ?_
      refine O.fa0 (off := 1) rfl rfl rfl rfl ⟨_, _, _, Go.Proofs.Try.underlying35, rfl, rfl, Go.Proofs.Try.sizeOf3⟩ rfl ?_
      refine O.ld rfl rfl rfl (fun w => ⟨Go.Proofs.Try.isAgg3 w, Go.Proofs.Try.sizeOf3 w⟩) rfl k1 ?_
      refine O.call rfl rfl rfl Go.Proofs.Try.call53 rfl (load_spec hP (x := y) hM (by omega)) ?_
      rintro _ H5 ⟨rfl, S', hM', hF', hS'⟩
      rw [hgo, hfd]
      unfold PV
      have hs5 := hF'.size
      replace hA := hA.fr hF' (fun b o hb hb2 hz => (hZ b hb2).2.2 hz)
      replace k0 := hF'.keep k0 (hSn _ (Nat.le_refl _))
      refine ⟨trivial, ?_⟩
      refine O.mv rfl rfl rfl rfl rfl ?_
      refine O.ext rfl rfl rfl rfl rfl rfl ?_
      refine O.ext rfl rfl rfl rfl rfl rfl ?_
      refine O.asg rfl rfl rfl rfl rfl ?_
      refine O.asg rfl rfl rfl rfl rfl ?_
      refine Pl.fin [(6, _), (7, _), (9, _), (10, _), (11, _), (14, _), (15, _), (16, _), (17, _)] ⟨rfl, rfl, rfl, rfl, rfl, rfl, rfl, rfl, rfl, trivial⟩ ?_
      -- region 7 (map.go:50)
      refine Go'.region [(0, 0), (1, 0), (2, 1), (3, 0), (4, 0), (5, 2), (6, 2), (7, 2), (8, 0)] rfl ?_
      refine O.mv rfl rfl rfl rfl rfl ?_
      refine O.faz rfl rfl rfl rfl ⟨_, _, _, Go.Proofs.Try.underlying35, rfl, rfl, Go.Proofs.Try.sizeOf3⟩ rfl ?_
      refine O.ld rfl rfl rfl (fun w => ⟨Go.Proofs.Try.isAgg3 w, Go.Proofs.Try.sizeOf3 w⟩) rfl k0 ?_
      refine O.mv rfl rfl rfl rfl rfl ?_
      refine O.mv rfl rfl rfl rfl rfl ?_
      refine O.call rfl rfl rfl Go.Proofs.Try.call54 rfl (pair_spec (x := (y.1, z.2)) (ok := true)) ?_
      rintro _ H6 ⟨rfl, hF6⟩
      have hs6 := hF6.size
      replace hM' := hM'.fr hF6 (fun _ _ _ => nw)
      replace hA := hA.fr hF6 (fun _ _ _ _ => nw)
      have ez : (y.1, z.2) = z := by rw [hky]
      simp only [ok?, ez]
      refine ⟨trivial, ?_⟩
      refine O.bsl (cs := (fvs (some z))) rfl rfl rfl ⟨Go.Proofs.Try.underlying30, Go.Proofs.Try.sizeOf37, Go.Proofs.Try.zeroValue37, ⟨_, Go.Proofs.Try.typeInfo37, rfl⟩, rfl, by decide, by decide⟩ rfl (by decide) (by kernel_rfl) ?_
      intro H7 M7
      have hs7 := M7.size
      replace hM' := hM'.fr (M7.fr nowhere) (fun _ _ _ => nw)
      replace hA := hA.fr (M7.fr nowhere) (fun _ _ _ _ => nw)
      have m5 : Rd H7 H6.size 0 (row EF [some z]) := M7.rd _ [] (by simp [row, EF, fvs])
      refine ⟨trivial, ?_⟩
      refine O.appA (E := EF) (Y := [some z]) rfl rfl rfl ⟨Go.Proofs.Try.underlying30, Go.Proofs.Try.sizeOf37, Go.Proofs.Try.zeroValue37, ⟨_, Go.Proofs.Try.typeInfo37, rfl⟩, rfl, by decide, by decide⟩ rfl hA rfl ⟨_, _, _, rfl, m5⟩ (Nat.succ_pos _) (by rw [hlout]; exact Nat.le_trans (Nat.mul_le_mul_left _ (Nat.le_of_ble_eq_true (n := _) (m := 4096) rfl)) (by simp only [List.length_cons, List.length_nil]; omega)) (by rw [hlout]; simp only [List.length_cons, List.length_nil]; omega) ?_
      intro v8 H8 hA8 hF8 hs8
      have hS2 : ∀ b, S' b → ¬ Zo b := fun b hb hz => (hS' b hb).elim (hZ b hz).2.2 (fun h => by have := (hZ b hz).2.1; omega)
      have hlt5 : ∀ b, S' b → b < H7.size := hM'.lt
      have hM8 := hM'.fr hF8 (fun b _ hb => hS2 b hb)
      have hg8 := hF8.size
      rw [hgo] at egot
      refine ⟨trivial, ?_⟩
      refine O.asg rfl rfl rfl rfl rfl ?_
      refine Pl.fin [(6, _), (7, _), (9, _), (10, _), (11, _), (14, _), (15, _), (16, _), (17, _)] ⟨rfl, rfl, rfl, rfl, rfl, rfl, rfl, rfl, rfl, trivial⟩ ?_
      refine Go'.inBlock ?_
      -- region 8 (map.go:48)
      refine Go'.region [(0, 0), (1, 0)] rfl ?_
      refine O.add (((j + 1 : Nat) : Int)) rfl rfl rfl rfl rfl rfl (by omega) (by omega) ?_
      refine O.mv rfl rfl rfl rfl rfl ?_
      refine Pl.fin [(6, _), (7, _), (9, _), (10, _), (11, _), (14, _), (15, _), (16, _), (17, _)] ⟨rfl, rfl, rfl, rfl, rfl, rfl, rfl, rfl, rfl, trivial⟩ ?_
      refine Go'.keep [(6, _), (7, _), (14, _), (15, _), (16, _)] ⟨rfl, rfl, rfl, rfl, rfl, trivial⟩ ?_
      refine Go'.inLoop ?_
      exact ih (j + 1, v8) H8 ⟨(((hf4.trans' hF' (fun _ _ _ h => h) (fun b o hb hz => by have h1 := hS b hz; omega)).trans hF6).trans (M7.fr nowhere)).trans' hF8 (fun _ _ _ h => h) (fun b o hb hz => by have h1 := (hZ b hz).1; omega), hlt, S', (fun b => Zo b ∨ (b = H7.size ∧ b < H8.size)), by
        simp only
        rw [eput]
        exact hM8, fun b hb => (hS' b hb).elim (hS b) (fun h => by have := hf4.size; omega), by
        simp only
        rw [egot]
        exact hA8, fun b hb => hb.elim (fun h => ⟨(hZ b h).1, by have := (hZ b h).2.1; omega, fun hs => hS2 b hs h⟩) (fun h => ⟨by omega, h.2, fun hs => by have := hlt5 b hs; omega⟩)⟩ (by simp only; omega)
  · skip
    obtain rfl : j = l.length := by omega
    rw [List.take_length] at hM hA
    -- region 4 (map.go:48)
    refine Go'.region [(0, 0)] rfl ?_
    refine O.cmp rfl rfl rfl rfl rfl rfl (lssF (by omega)) ?_
    refine Pl.fin [(6, _), (7, _), (14, _), (15, _), (16, _), (17, _)] ⟨rfl, rfl, rfl, rfl, rfl, rfl, trivial⟩ ?_
    refine Go'.seq ?_
    refine Go'.condF rfl ?_
    refine Go'.exit rfl ?_
    refine Go'.seq ?_
    -- region 9 (map.go:52)
    refine Go'.region [(0, 0), (1, 0), (2, 2), (3, 0), (4, 0)] rfl ?_
    refine O.mv rfl rfl rfl rfl rfl ?_
    refine O.mv rfl rfl rfl rfl rfl ?_
    refine O.call rfl rfl rfl Go.Proofs.Try.call55 rfl (entries_spec hP hM (by omega)) ?_
    rintro v9 H9 ⟨hv9, hF9⟩
    refine ⟨trivial, ?_⟩
    refine O.asg rfl rfl rfl rfl rfl ?_
    refine O.asg rfl rfl rfl rfl rfl ?_
    refine Pl.fin [(4, _), (5, _)] ⟨rfl, rfl, trivial⟩ ?_
    refine Go'.ret (vs := [_, _]) Go.Proofs.Try.func24 Go.Proofs.Try.results24 ⟨rfl, rfl, trivial⟩ ?_
    exact ⟨_, _, rfl, (hA.fr hF9 (fun _ _ _ _ => nw)).out, hv9, hF.trans hF9⟩


def fitb (z : Int) : Bool := decide (2 ≤ z) && decide (z ≤ 128)
theorem fit_spec {B : World} {H : Mem} {z : Int} : Fn Try.prog B 21 [.int .i64 z] H (fun r H' => r = .bool (fitb z) ∧ H' = H) := by
  refine fn_of Go.Proofs.Try.func21 rfl Go.Proofs.Try.ntmps21 ?_
  refine (show Go' _ _ _ _ 9 [(0, _)] [.code _] _ from ?_)
  refine Go'.seq ?_
  -- region 0 (others.go:116)
  refine Go'.region [(0, 0)] rfl ?_
  refine O.asg rfl rfl rfl rfl rfl ?_
  refine Pl.fin [(0, _), (2, _)] ⟨rfl, rfl, trivial⟩ ?_
  refine Go'.seq ?_
  by_cases hp : 0 < z
  · skip
    have hf : fitsb z = fitb z := by
      unfold fitsb fitb
      have : decide (z = 0) = false := by simp; omega
      rw [this, Bool.false_or]
    -- region 1 (others.go:117)
    refine Go'.region [(0, 0), (1, 0), (2, 0), (3, 0), (4, 2), (5, 0), (6, 0)] rfl ?_
    refine O.mv rfl rfl rfl rfl rfl ?_
    refine O.cmp rfl rfl rfl rfl rfl rfl (gtrT (by omega)) ?_
    refine O.mv rfl rfl rfl rfl rfl ?_
    refine O.mv rfl rfl rfl rfl rfl ?_
    refine O.callQ rfl rfl rfl Go.Proofs.Try.call16 rfl (fits_spec' hf) trivial ?_
    refine O.pick rfl rfl rfl rfl rfl rfl ?_
    refine O.asg rfl rfl rfl rfl rfl ?_
    refine Pl.fin [(2, _)] ⟨rfl, trivial⟩ ?_
    refine Go'.ret (vs := [_]) Go.Proofs.Try.func21 Go.Proofs.Try.results21 ⟨rfl, trivial⟩ ?_
    exact ⟨rfl, rfl⟩
  · skip
    have hf : fitb z = false := by
      unfold fitb
      have : decide (2 ≤ z) = false := by simp; omega
      rw [this, Bool.false_and]
    -- region 1 (others.go:117)
    refine Go'.region [(0, 0), (1, 0), (2, 0), (3, 0), (4, 2), (5, 0), (6, 0)] rfl ?_
    refine O.mv rfl rfl rfl rfl rfl ?_
    refine O.cmp rfl rfl rfl rfl rfl rfl (gtrF (by omega)) ?_
    refine O.mv rfl rfl rfl rfl rfl ?_
    refine Pl.pass rfl rfl rfl rfl ?_
    refine Pl.pass2 rfl rfl rfl rfl trivial ?_
    refine O.pick rfl rfl rfl rfl rfl rfl ?_
    refine O.asg rfl rfl rfl rfl rfl ?_
    refine Pl.fin [(2, _)] ⟨rfl, trivial⟩ ?_
    refine Go'.ret (vs := [_]) Go.Proofs.Try.func21 Go.Proofs.Try.results21 ⟨rfl, trivial⟩ ?_
    exact ⟨by rw [hf]; rfl, rfl⟩

theorem fitb_nat {z : Int} (h : fitb z = true) : ∃ d : Nat, z = (d : Int) ∧ 2 ≤ d ∧ d ≤ 128 := by
  unfold fitb at h
  rw [Bool.and_eq_true, decide_eq_true_eq, decide_eq_true_eq] at h
  exact ⟨z.toNat, by omega, by omega, by omega⟩
theorem fit_spec' {B : World} {H : Mem} {z : Int} {b : Bool} (h : fitb z = b) : Fn Try.prog B 21 [.int .i64 z] H (fun r H' => r = .bool b ∧ H' = H) := h ▸ fit_spec
theorem ascends_spec {B : World} {H : Mem} {v u : Value} {ord : List Int} {l : List (Int × Int)} (ho : InS EN H v ord) (hl : ord.length < 4611686018427387904) (hi : InS EJ H u l) (hll : l.length < 4611686018427387904) :
    Fn Try.prog B 22 [v, u] H (fun r H' => ∃ b, r = .bool b ∧ Fr nowhere H H') := by
  obtain ⟨a, c, hu⟩ := hi.len
  subst hu
  have hlv := ho.len
  refine fn_of Go.Proofs.Try.func22 rfl Go.Proofs.Try.ntmps22 ?_
  refine (show Go' _ _ _ _ 23 [(0, _), (1, _)] [.code _] _ from ?_)
  refine Go'.seq ?_
  -- region 0 (list.go:19)
  refine Go'.region [(0, 0)] rfl ?_
  refine O.asg rfl rfl rfl rfl rfl ?_
  refine Pl.fin [(0, _), (1, _), (4, _)] ⟨rfl, rfl, rfl, trivial⟩ ?_
  refine Go'.seq ?_
  refine Go'.seq ?_
  -- region 1 (list.go:20)
  refine Go'.region [(0, 0)] rfl ?_
  refine O.asg rfl rfl rfl rfl rfl ?_
  refine Pl.fin [(0, _), (1, _), (4, _), (5, _)] ⟨rfl, rfl, rfl, rfl, trivial⟩ ?_
  refine Go'.block ?_
  refine Go'.loop ?_
  refine Go'.keep [(0, _), (1, _), (5, _)] ⟨rfl, rfl, rfl, trivial⟩ ?_
  refine Go'.ind (σ := Nat) (fun j => l.length + 1 - j) (fun j H' => Fr nowhere H H' ∧ 1 ≤ j ∧ j ≤ l.length + 1)
    (fun j => [(0, v), (1, .slice a l.length c), (5, .int .i64 (j : Int))]) 1 ⟨Fr.refl _ _, Nat.le_refl _, by omega⟩ rfl ?_
  rintro j H2 ⟨hF, hj1, hjl⟩ ih
  have ho2 := ho.fr hF
  have hi2 := hi.fr hF
  refine Go'.seq ?_
  refine Go'.seq ?_
  by_cases hlt : j < l.length
  · skip
    obtain ⟨y, hy⟩ : ∃ y, l[j]? = some y := ⟨l[j], List.getElem?_eq_getElem hlt⟩
    obtain ⟨x, hx⟩ : ∃ x, l[j - 1]? = some x := ⟨l[j - 1]'(by omega), List.getElem?_eq_getElem (by omega)⟩
    obtain ⟨b, o, c', e, hr⟩ := hi2.at hy
    cases e
    obtain ⟨b', o', c', e, hr'⟩ := hi2.at hx
    cases e
    -- region 2 (list.go:20)
    refine Go'.region [(0, 0), (1, 0), (2, 0), (3, 0)] rfl ?_
    refine O.mv rfl rfl rfl rfl rfl ?_
    refine O.mv rfl rfl rfl rfl rfl ?_
    refine O.len rfl rfl rfl rfl Go.Proofs.Try.underlying22 rfl ?_
    refine O.cmp rfl rfl rfl rfl rfl rfl (lssT (by omega)) ?_
    refine Pl.fin [(0, _), (1, _), (5, _), (9, _)] ⟨rfl, rfl, rfl, rfl, trivial⟩ ?_
    refine Go'.condT rfl ?_
    refine Go'.skip ?_
    refine Go'.seq ?_
    refine Go'.block ?_
    refine Go'.seq ?_
    -- region 4 (list.go:21)
    refine Go'.draw (fun _ => True) [(0, 0), (1, 0), (2, 0), (3, 0), (4, 1), (5, 0), (6, 0), (7, 0), (8, 0), (9, 1), (10, 2)] (by kernel_rfl) (by kernel_rfl) (trivial) ?_
    refine O.mv rfl rfl rfl rfl rfl ?_
    refine O.mv rfl rfl rfl rfl rfl ?_
    refine O.mv rfl rfl rfl rfl rfl ?_
    refine O.ix (j := j) rfl rfl rfl rfl Go.Proofs.Try.underlying22 Go.Proofs.Try.sizeOf35 rfl rfl (by omega) (by omega) ?_
    refine O.lds rfl rfl rfl (fun w => ⟨Go.Proofs.Try.isAgg35 w, Go.Proofs.Try.sizeOf35 w⟩) rfl rfl hr ?_
    refine O.mv rfl rfl rfl rfl rfl ?_
    refine O.mv rfl rfl rfl rfl rfl ?_
    refine O.sub (((j - 1 : Nat) : Int)) rfl rfl rfl rfl rfl rfl (by omega) (by omega) ?_
    refine O.ix (j := j - 1) rfl rfl rfl rfl Go.Proofs.Try.underlying22 Go.Proofs.Try.sizeOf35 rfl rfl (by omega) (by omega) ?_
    refine O.lds rfl rfl rfl (fun w => ⟨Go.Proofs.Try.isAgg35 w, Go.Proofs.Try.sizeOf35 w⟩) rfl rfl hr' ?_
    refine O.call rfl rfl rfl Go.Proofs.Try.call51 rfl (before_spec (x := y) (y := x) ho2 hl) ?_
    rintro _ H3 ⟨rfl, hF3⟩
    
    refine ⟨trivial, ?_⟩
    refine Pl.fin [(0, _), (1, _), (5, _), (9, _), (22, _)] ⟨rfl, rfl, rfl, rfl, rfl, trivial⟩ ?_
    cases hb : (OO ord).lt y x
    · skip
      refine Go'.condF rfl ?_
      refine Go'.skip ?_
      refine Go'.inBlock ?_
      -- region 3 (list.go:20)
      refine Go'.region [(0, 0), (1, 0), (2, 0)] rfl ?_
      refine O.mv rfl rfl rfl rfl rfl ?_
      refine O.add (((j + 1 : Nat) : Int)) rfl rfl rfl rfl rfl rfl (by omega) (by omega) ?_
      refine O.asg rfl rfl rfl rfl rfl ?_
      refine Pl.fin [(0, _), (1, _), (5, _), (9, _), (22, _)] ⟨rfl, rfl, rfl, rfl, rfl, trivial⟩ ?_
      refine Go'.keep [(0, _), (1, _), (5, _)] ⟨rfl, rfl, rfl, trivial⟩ ?_
      refine Go'.inLoop ?_
      exact ih (j + 1) _ ⟨hF.trans hF3, by omega, by omega⟩ (by omega)
    · skip
      refine Go'.condT rfl ?_
      refine Go'.seq ?_
      -- region 5 (list.go:22)
      refine Go'.region [(0, 0)] rfl ?_
      refine O.asg rfl rfl rfl rfl rfl ?_
      refine Pl.fin [(0, _), (1, _), (4, _), (5, _), (9, _), (22, _)] ⟨rfl, rfl, rfl, rfl, rfl, rfl, trivial⟩ ?_
      refine Go'.ret (vs := [_]) Go.Proofs.Try.func22 Go.Proofs.Try.results22 ⟨rfl, trivial⟩ ?_
      exact ⟨_, rfl, hF.trans hF3⟩
  · skip
    -- region 2 (list.go:20)
    refine Go'.region [(0, 0), (1, 0), (2, 0), (3, 0)] rfl ?_
    refine O.mv rfl rfl rfl rfl rfl ?_
    refine O.mv rfl rfl rfl rfl rfl ?_
    refine O.len rfl rfl rfl rfl Go.Proofs.Try.underlying22 rfl ?_
    refine O.cmp rfl rfl rfl rfl rfl rfl (lssF (by omega)) ?_
    refine Pl.fin [(0, _), (1, _), (5, _), (9, _)] ⟨rfl, rfl, rfl, rfl, trivial⟩ ?_
    refine Go'.condF rfl ?_
    refine Go'.exit rfl ?_
    refine Go'.seq ?_
    -- region 6 (list.go:25)
    refine Go'.region [(0, 0)] rfl ?_
    refine O.asg rfl rfl rfl rfl rfl ?_
    refine Pl.fin [(4, _)] ⟨rfl, trivial⟩ ?_
    refine Go'.ret (vs := [_]) Go.Proofs.Try.func22 Go.Proofs.Try.results22 ⟨rfl, trivial⟩ ?_
    exact ⟨_, rfl, hF⟩

end Go.Bt
namespace Go.Bt
open Go Go.Proofs
set_option maxRecDepth 20000
set_option maxHeartbeats 4000000
set_option linter.unusedVariables false

theorem fnMLoads {B : World} {H : Mem} {z : Int} {u : Value} {l : List (Int × Int)} (hi : InS EJ H u l) :
    Fn Try.prog B 8 [.int .i64 z, u] H (fun r H' => r = .bool true ∧ Fr nowhere H H') := by
  obtain ⟨a, c, hu⟩ := hi.len
  subst hu
  have hi0 := hi
  refine fn_of Go.Proofs.Try.func8 rfl Go.Proofs.Try.ntmps8 ?_
  refine (show Go' _ _ _ _ 44 [(0, _), (1, _)] [.code _] _ from ?_)
  refine Go'.seq ?_
  -- region 0 (others.go:321)
  refine Go'.region [(0, 0)] rfl ?_
  refine O.asg rfl rfl rfl rfl rfl ?_
  refine Pl.fin [(0, _), (1, _), (4, _)] ⟨rfl, rfl, rfl, trivial⟩ ?_
  refine Go'.seq ?_
  refine Go'.seq ?_
  by_cases hbig : (2147483647 : Int) < (l.length : Int)
  · skip
    -- region 1 (others.go:322)
    refine Go'.region [(0, 0), (1, 0), (2, 0)] rfl ?_
    refine O.mv rfl rfl rfl rfl rfl ?_
    refine O.len rfl rfl rfl rfl Go.Proofs.Try.underlying22 rfl ?_
    refine O.cmp rfl rfl rfl rfl rfl rfl (gtrT (by omega)) ?_
    refine Pl.fin [(0, _), (1, _), (4, _), (11, _)] ⟨rfl, rfl, rfl, rfl, trivial⟩ ?_
    refine Go'.condT rfl ?_
    refine Go'.seq ?_
    -- region 2 (others.go:323)
    refine Go'.region [(0, 0)] rfl ?_
    refine O.asg rfl rfl rfl rfl rfl ?_
    refine Pl.fin [(0, _), (1, _), (4, _)] ⟨rfl, rfl, rfl, trivial⟩ ?_
    refine Go'.ret (vs := [_]) Go.Proofs.Try.func8 Go.Proofs.Try.results8 ⟨rfl, trivial⟩ ?_
    exact ⟨rfl, Fr.refl _ _⟩
  · skip
    -- region 1 (others.go:322)
    refine Go'.region [(0, 0), (1, 0), (2, 0)] rfl ?_
    refine O.mv rfl rfl rfl rfl rfl ?_
    refine O.len rfl rfl rfl rfl Go.Proofs.Try.underlying22 rfl ?_
    refine O.cmp rfl rfl rfl rfl rfl rfl (gtrF (by omega)) ?_
    refine Pl.fin [(0, _), (1, _), (4, _), (11, _)] ⟨rfl, rfl, rfl, rfl, trivial⟩ ?_
    refine Go'.condF rfl ?_
    refine Go'.skip ?_
    refine Go'.seq ?_
    refine Go'.seq ?_
    cases hfz : fitb z
    · skip
      -- region 3 (others.go:325)
      refine Go'.region [(0, 0), (1, 2), (2, 0), (3, 0), (4, 0), (5, 2), (6, 0), (7, 0)] rfl ?_
      refine O.mv rfl rfl rfl rfl rfl ?_
      refine O.callQ rfl rfl rfl Go.Proofs.Try.call21 rfl (fit_spec' hfz) trivial ?_
      refine O.not rfl rfl rfl rfl rfl ?_
      refine O.mv rfl rfl rfl rfl rfl ?_
      refine Pl.pass rfl rfl rfl rfl ?_
      refine Pl.pass2 rfl rfl rfl rfl trivial ?_
      refine Pl.pass rfl rfl rfl rfl ?_
      refine O.pick rfl rfl rfl rfl rfl rfl ?_
      refine Pl.fin [(0, _), (1, _), (4, _), (19, _)] ⟨rfl, rfl, rfl, rfl, trivial⟩ ?_
      refine Go'.condT rfl ?_
      refine Go'.seq ?_
      -- region 4 (others.go:326)
      refine Go'.region [(0, 2), (1, 0)] rfl ?_
      refine O.call rfl rfl rfl Go.Proofs.Try.call23 rfl aliveM_spec ?_
      rintro _ H1 ⟨rfl, hF1⟩
      refine ⟨trivial, ?_⟩
      refine O.asg rfl rfl rfl rfl rfl ?_
      refine Pl.fin [(0, _), (1, _), (4, _)] ⟨rfl, rfl, rfl, trivial⟩ ?_
      refine Go'.ret (vs := [_]) Go.Proofs.Try.func8 Go.Proofs.Try.results8 ⟨rfl, trivial⟩ ?_
      exact ⟨rfl, hF1⟩
    · skip
      obtain ⟨d, rfl, hd⟩ := fitb_nat hfz
      -- region 3 (others.go:325)
      refine Go'.region [(0, 0), (1, 2), (2, 0), (3, 0), (4, 0), (5, 2), (6, 0), (7, 0)] rfl ?_
      refine O.mv rfl rfl rfl rfl rfl ?_
      refine O.callQ rfl rfl rfl Go.Proofs.Try.call21 rfl (fit_spec' hfz) trivial ?_
      refine O.not rfl rfl rfl rfl rfl ?_
      refine O.mv rfl rfl rfl rfl rfl ?_
      refine O.mv rfl rfl rfl rfl rfl ?_
      refine O.call rfl rfl rfl Go.Proofs.Try.call22 rfl (ascends_spec (ord := []) (InS.nil EN H) (by simp) hi (by omega)) ?_
      rintro _ H1 ⟨bb, rfl, hF1⟩
      replace hi := hi.fr hF1
      refine ⟨trivial, ?_⟩
      refine O.not rfl rfl rfl rfl rfl ?_
      refine O.pick rfl rfl rfl rfl rfl rfl ?_
      refine Pl.fin [(0, _), (1, _), (4, _), (19, _)] ⟨rfl, rfl, rfl, rfl, trivial⟩ ?_
      cases bb
      · skip
        refine Go'.condT rfl ?_
        refine Go'.seq ?_
        -- region 4 (others.go:326)
        refine Go'.region [(0, 2), (1, 0)] rfl ?_
        refine O.call rfl rfl rfl Go.Proofs.Try.call23 rfl aliveM_spec ?_
        rintro _ H2 ⟨rfl, hF2⟩
        refine ⟨trivial, ?_⟩
        refine O.asg rfl rfl rfl rfl rfl ?_
        refine Pl.fin [(0, _), (1, _), (4, _)] ⟨rfl, rfl, rfl, trivial⟩ ?_
        refine Go'.ret (vs := [_]) Go.Proofs.Try.func8 Go.Proofs.Try.results8 ⟨rfl, trivial⟩ ?_
        exact ⟨rfl, hF1.trans hF2⟩
      · skip
        refine Go'.condF rfl ?_
        refine Go'.skip ?_
        refine Go'.seq ?_
        have hpl := Pl.puts_length OI l
        have hgl := Pl.gots_length OI l
        -- region 5 (others.go:328)
        refine Go'.region [(0, 0), (1, 0), (2, 2), (3, 0), (4, 0), (5, 0), (6, 0), (7, 0)] rfl ?_
        refine O.mv rfl rfl rfl rfl rfl ?_
        refine O.mv rfl rfl rfl rfl rfl ?_
        refine O.call rfl rfl rfl Go.Proofs.Try.call24 rfl (mloads_spec hd hi (by omega)) ?_
        rintro _ H2 ⟨v1, v2, rfl, h1, h2, hF2⟩
        replace hi := hi.fr hF2
        refine ⟨trivial, ?_⟩
        refine O.mv rfl rfl rfl rfl rfl ?_
        refine O.ext rfl rfl rfl rfl rfl rfl ?_
        refine O.ext rfl rfl rfl rfl rfl rfl ?_
        refine O.asg rfl rfl rfl rfl rfl ?_
        refine O.asg rfl rfl rfl rfl rfl ?_
        refine Pl.fin [(0, _), (1, _), (4, _), (5, _), (6, _)] ⟨rfl, rfl, rfl, rfl, rfl, trivial⟩ ?_
        refine Go'.seq ?_
        -- region 6 (others.go:329)
        refine Go'.region [(0, 0), (1, 0), (2, 2), (3, 0), (4, 0), (5, 0), (6, 0), (7, 0)] rfl ?_
        refine O.mv rfl rfl rfl rfl rfl ?_
        refine O.mv rfl rfl rfl rfl rfl ?_
        refine O.call rfl rfl rfl Go.Proofs.Try.call25 rfl (msets_spec hd hi (by omega)) ?_
        rintro _ H3 ⟨v3, v4, rfl, h3, h4, hF3⟩
        refine ⟨trivial, ?_⟩
        refine O.mv rfl rfl rfl rfl rfl ?_
        refine O.ext rfl rfl rfl rfl rfl rfl ?_
        refine O.ext rfl rfl rfl rfl rfl rfl ?_
        refine O.asg rfl rfl rfl rfl rfl ?_
        refine O.asg rfl rfl rfl rfl rfl ?_
        refine Pl.fin [(4, _), (5, _), (6, _), (7, _), (8, _)] ⟨rfl, rfl, rfl, rfl, rfl, trivial⟩ ?_
        refine Go'.seq ?_
        -- region 7 (others.go:330)
        refine Go'.region [(0, 0), (1, 0), (2, 2), (3, 0), (4, 0), (5, 0), (6, 2), (7, 0), (8, 0), (9, 2), (10, 0), (11, 0)] rfl ?_
        refine O.mv rfl rfl rfl rfl rfl ?_
        refine O.mv rfl rfl rfl rfl rfl ?_
        refine O.callQ rfl rfl rfl Go.Proofs.Try.call26 rfl (eqFounds_spec (h1.inS.fr hF3) h3.inS (by omega)) trivial ?_
        refine O.mv rfl rfl rfl rfl rfl ?_
        refine O.mv rfl rfl rfl rfl rfl ?_
        refine O.mv rfl rfl rfl rfl rfl ?_
        refine O.callQ rfl rfl rfl Go.Proofs.Try.call27 rfl (eqItems_spec (h2.inS.fr hF3) h4.inS (by omega)) trivial ?_
        refine O.pick rfl rfl rfl rfl rfl rfl ?_
        refine O.mv rfl rfl rfl rfl rfl ?_
        refine O.call rfl rfl rfl Go.Proofs.Try.call23 rfl aliveM_spec ?_
        rintro _ H4 ⟨rfl, hF4⟩
        refine ⟨trivial, ?_⟩
        refine O.pick rfl rfl rfl rfl rfl rfl ?_
        refine O.asg rfl rfl rfl rfl rfl ?_
        refine Pl.fin [(4, _)] ⟨rfl, trivial⟩ ?_
        refine Go'.ret (vs := [_]) Go.Proofs.Try.func8 Go.Proofs.Try.results8 ⟨rfl, trivial⟩ ?_
        exact ⟨rfl, ((hF1.trans hF2).trans hF3).trans hF4⟩

end Go.Bt
