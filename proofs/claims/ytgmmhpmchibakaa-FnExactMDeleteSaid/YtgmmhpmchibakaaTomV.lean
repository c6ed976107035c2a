/- Contracts of functions of the program, proved by walking through their code. Conditions: those that each theorem names. -/
import Derived.Test.YtgmmhpmchibakaaTomR
import Derived.Test.YtgmmhpmchibakaaTonR
import Derived.Test.YtgmmhpmchibakaaToRn
import Derived.Test.YtgmmhpmchibakaaTonO
namespace Go.Bt
open Go Go.Proofs
set_option maxRecDepth 20000
set_option maxHeartbeats 4000000
set_option linter.unusedVariables false

theorem del {B : World} {tr : Nat} {P : Ps} (hP : PsOk P) : ∀ (h : Nat) {H : Mem} {bp op : Nat} {mx : Bool} {x : Int × Int} {t : Gt EI h}, DPre H tr P h t bp op → Fn Try.prog B 128 [.pointer (some ⟨tr, 0, none⟩), .pointer (some ⟨bp, op, none⟩), .bool mx, .int .i64 x.1] H (DelQ H P h t mx x)
  | 0, _, _, _, _, _, _, hp => del0 hP hp
  | h + 1, _, _, _, _, _, _, hp => del_step hP (fun hp => del hP h hp) hp

def DelP (H : Mem) (tr : Nat) (P : Ps) (S : Nat → Prop) (l : List (Int × Int)) (x : Int × Int) (r : Value) (H' : Mem) : Prop :=
  r = .tuple #[PV (Pl.got OI x l), .bool (Pl.fnd OI x l)] ∧ MapTo H H' tr P S (Pl.del OI x l)
theorem DelP.rebase {H H1 : Mem} {tr : Nat} {P : Ps} {S : Nat → Prop} {l : List (Int × Int)} {x : Int × Int} {v : Value} {H' : Mem} (hf : Fr nowhere H H1) (h : DelP H1 tr P S l x v H') : DelP H tr P S l x v H' := by
  obtain ⟨e, S', hM, hF, hS⟩ := h
  exact ⟨e, S', hM, hf.trans' hF (fun _ _ _ h => h.elim) (fun _ _ _ h => h), fun b hb => (hS b hb).imp id (fun h => Nat.le_trans hf.size h)⟩
theorem mdel_spec {B : World} {H : Mem} {tr : Nat} {P : Ps} (hP : PsOk P) {S : Nat → Prop} {l : List (Int × Int)} {x : Int × Int} (hM : MapM H tr P S l) (hlen : l.length < 2305843009213693952) :
    Fn Try.prog B 104 [.pointer (some ⟨tr, 0, none⟩), .int .i64 x.1] H (DelP H tr P S l x) := by
  refine fn_of Go.Proofs.Try.func104 rfl Go.Proofs.Try.ntmps104 ?_
  refine (show Go' _ _ _ _ 82 [(0, _), (1, _)] [.code _] _ from ?_)
  refine Go'.seq ?_
  -- region 0 (map.go:341)
  refine Go'.region [(0, 0), (1, 0)] rfl ?_
  refine O.asg rfl rfl rfl rfl rfl ?_
  refine O.asg rfl rfl rfl rfl rfl ?_
  refine Pl.fin [(0, _), (1, _), (4, _), (5, _)] ⟨rfl, rfl, rfl, rfl, trivial⟩ ?_
  refine Go'.seq ?_
  refine Go'.seq ?_
  have hh1 := hP.h1
  have hmm := hP.hm
  obtain ⟨tc, srt, cnt, own, lt, hr⟩ := hM
  have htl : tr < H.size := cl_lt tc.iso
  rcases hr with ⟨rfl, hptr⟩ | ⟨h, t, hg, hx1, e, hc, hnt, hown⟩
  · -- none at all
    -- region 1 (map.go:342)
    refine Go'.region [(0, 0), (1, 0), (2, 0), (3, 1), (4, 0)] rfl ?_
    refine O.mv rfl rfl rfl rfl rfl ?_
    refine O.nc rfl rfl rfl rfl rfl ?_
    refine O.fa0 (off := 2) rfl rfl rfl rfl ⟨_, _, _, Go.Proofs.Try.underlying105, rfl, rfl, Go.Proofs.Try.sizeOf103⟩ rfl ?_
    refine O.ld rfl rfl rfl (fun w => ⟨Go.Proofs.Try.isAgg103 w, Go.Proofs.Try.sizeOf103 w⟩) rfl hptr ?_
    refine O.isNil rfl rfl rfl rfl Go.Proofs.Try.underlying103 rfl rfl ?_
    refine Pl.fin [(0, _), (1, _), (4, _), (5, _), (12, _)] ⟨rfl, rfl, rfl, rfl, rfl, trivial⟩ ?_
    refine Go'.condT rfl ?_
    refine Go'.seq ?_
    -- region 2 (map.go:343)
    refine Go'.region [(0, 0), (1, 0), (2, 0), (3, 0), (4, 1), (5, 0), (6, 0)] rfl ?_
    refine O.mv rfl rfl rfl rfl rfl ?_
    refine O.nc rfl rfl rfl rfl rfl ?_
    refine O.fa0 (off := 4) rfl rfl rfl rfl ⟨_, _, _, Go.Proofs.Try.underlying105, rfl, rfl, Go.Proofs.Try.sizeOf100⟩ rfl ?_
    refine O.faz rfl rfl rfl rfl ⟨_, _, _, Go.Proofs.Try.underlying100, rfl, rfl, Go.Proofs.Try.sizeOf3⟩ rfl ?_
    refine O.ld rfl rfl rfl (fun w => ⟨Go.Proofs.Try.isAgg3 w, Go.Proofs.Try.sizeOf3 w⟩) rfl (tc.emp 0 _ rfl) ?_
    refine O.asg rfl rfl rfl rfl rfl ?_
    refine O.asg rfl rfl rfl rfl rfl ?_
    refine Pl.fin [(0, _), (1, _), (4, _), (5, _)] ⟨rfl, rfl, rfl, rfl, trivial⟩ ?_
    refine Go'.ret (vs := [_, _]) Go.Proofs.Try.func104 Go.Proofs.Try.results104 ⟨rfl, rfl, trivial⟩ ?_
    exact ⟨rfl, S, ⟨tc, srt, cnt, own, lt, .inl ⟨rfl, hptr⟩⟩, Fr.refl _ _, fun b hb => .inl hb⟩
  · -- a tree
    -- region 1 (map.go:342)
    refine Go'.region [(0, 0), (1, 0), (2, 0), (3, 1), (4, 0)] rfl ?_
    refine O.mv rfl rfl rfl rfl rfl ?_
    refine O.nc rfl rfl rfl rfl rfl ?_
    refine O.fa0 (off := 2) rfl rfl rfl rfl ⟨_, _, _, Go.Proofs.Try.underlying105, rfl, rfl, Go.Proofs.Try.sizeOf103⟩ rfl ?_
    refine O.ld rfl rfl rfl (fun w => ⟨Go.Proofs.Try.isAgg103 w, Go.Proofs.Try.sizeOf103 w⟩) rfl (show cl _ tr 2 = some (.pointer (some ⟨Gt.p h t, 0, none⟩)) from hc) ?_
    refine O.isNil rfl rfl rfl rfl Go.Proofs.Try.underlying103 rfl rfl ?_
    refine Pl.fin [(0, _), (1, _), (4, _), (5, _), (12, _)] ⟨rfl, rfl, rfl, rfl, rfl, trivial⟩ ?_
    refine Go'.condF rfl ?_
    refine Go'.skip ?_
    refine Go'.seq ?_
    -- region 3 (map.go:345)
    refine Go'.region [(0, 0), (1, 0), (2, 0), (3, 0), (4, 0), (5, 2), (6, 0), (7, 0), (8, 0), (9, 2), (10, 2), (11, 0)] rfl ?_
    refine O.mv rfl rfl rfl rfl rfl ?_
    refine O.mv rfl rfl rfl rfl rfl ?_
    refine O.nc rfl rfl rfl rfl rfl ?_
    refine O.fa0 (off := 2) rfl rfl rfl rfl ⟨_, _, _, Go.Proofs.Try.underlying105, rfl, rfl, Go.Proofs.Try.sizeOf103⟩ rfl ?_
    refine O.mv rfl rfl rfl rfl rfl ?_
    refine O.call rfl rfl rfl Go.Proofs.Try.call128 rfl ((del hP h (mx := false) (x := x) (t := t) ⟨tc, hg, hc, fun b o hb e9 => hnt o (e9 ▸ hb), by rw [e]; exact srt, by rw [e]; omega, hx1⟩).mono fun _ _ => DelQ.uni) ?_
    rintro _ H1 ⟨y, bb, rfl, hfr, hq⟩
    have hs1 := hfr.size
    replace tc := tc.fr hfr (fun o _ _ hz => hnt o hz)
    replace cnt := hfr.keep cnt (hnt _)
    replace hc := hfr.keep hc (hnt _)
    have hF : Fr (fun b _ => S b) H H1 := hfr.mono fun b o _ hz => hown b o hz
    refine ⟨trivial, ?_⟩
    refine O.mv rfl rfl rfl rfl rfl ?_
    refine O.ext rfl rfl rfl rfl rfl rfl ?_
    refine O.ext rfl rfl rfl rfl rfl rfl ?_
    refine O.alloc rfl rfl rfl Go.Proofs.Try.zeroValue100 ?_
    intro H2 M2
    refine ⟨trivial, ?_⟩
    have hs2 := M2.size
    replace tc := tc.fr (M2.fr nowhere) (fun _ _ _ => nw)
    replace cnt := M2.keep cnt
    replace hc := M2.keep hc
    have w6 : Wr H2 H1.size 0 2 := M2.wr 2 (by decide)
    replace hF := hF.trans' (M2.fr nowhere) (fun _ _ _ h => h) (fun _ _ _ h => h.elim)
    refine O.st rfl rfl Go.Proofs.Try.sizeOf100 rfl rfl rfl rfl rfl w6 ?_
    intro H3 W3
    have hs3 := W3.size
    replace tc := tc.fr W3.fr (fun o _ _ => nr (.inl (by omega)))
    replace cnt := W3.fr.keep cnt (nr (.inl (by omega)))
    replace hc := W3.fr.keep hc (nr (.inl (by omega)))
    have m6 : Rd H3 H1.size 0 (EI.enc y) := W3.all
    replace w6 := W3.fr.wr w6
    replace hF := hF.trans' W3.fr (fun _ _ _ h => h) (fun b o hb h => by simp only [rng] at h; omega)
    refine ⟨trivial, ?_⟩
    refine O.asg rfl rfl rfl rfl rfl ?_
    refine Pl.fin [(0, _), (4, _), (5, _), (6, _), (7, _)] ⟨rfl, rfl, rfl, rfl, rfl, trivial⟩ ?_
    refine Go'.seq ?_
    refine Go'.seq ?_
    rw [e] at hq
    rcases hq with ⟨rfl, hd, hfn⟩ | ⟨rfl, L1, t1, hd, hT⟩
    · -- not there
      -- region 4 (map.go:346)
      refine Go'.region [(0, 0), (1, 0)] rfl ?_
      refine O.mv rfl rfl rfl rfl rfl ?_
      refine O.not rfl rfl rfl rfl rfl ?_
      refine Pl.fin [(0, _), (4, _), (5, _), (6, _), (28, _)] ⟨rfl, rfl, rfl, rfl, rfl, trivial⟩ ?_
      refine Go'.condT rfl ?_
      refine Go'.seq ?_
      -- region 5 (map.go:347)
      refine Go'.region [(0, 0), (1, 0), (2, 0), (3, 0), (4, 1), (5, 0), (6, 0)] rfl ?_
      refine O.mv rfl rfl rfl rfl rfl ?_
      refine O.nc rfl rfl rfl rfl rfl ?_
      refine O.fa0 (off := 4) rfl rfl rfl rfl ⟨_, _, _, Go.Proofs.Try.underlying105, rfl, rfl, Go.Proofs.Try.sizeOf100⟩ rfl ?_
      refine O.faz rfl rfl rfl rfl ⟨_, _, _, Go.Proofs.Try.underlying100, rfl, rfl, Go.Proofs.Try.sizeOf3⟩ rfl ?_
      refine O.ld rfl rfl rfl (fun w => ⟨Go.Proofs.Try.isAgg3 w, Go.Proofs.Try.sizeOf3 w⟩) rfl (tc.emp 0 _ rfl) ?_
      refine O.asg rfl rfl rfl rfl rfl ?_
      refine O.asg rfl rfl rfl rfl rfl ?_
      refine Pl.fin [(0, _), (4, _), (5, _), (6, _)] ⟨rfl, rfl, rfl, rfl, trivial⟩ ?_
      refine Go'.ret (vs := [_, _]) Go.Proofs.Try.func104 Go.Proofs.Try.results104 ⟨rfl, rfl, trivial⟩ ?_
      have hgn : Pl.got OI x l = none := by
        simpa [Pl.dlr] using hd
      have hfd : Pl.fnd OI x l = false := by rw [← Pl.got_isSome, hgn]; rfl
      have hg3 := (hg.fr hfn (fun _ _ _ => nw)).fr (M2.fr nowhere) (fun _ _ _ => nw)
      replace hg3 := hg3.fr W3.fr (fun b o hb => nr (.inl (by have := hg.lt hb; omega)))
      refine ⟨by rw [hgn, hfd]; rfl, S, ⟨tc, by rw [Pl.del_none OI hfd]; exact srt, by rw [Pl.del_none OI hfd]; exact cnt, own, fun b hb => Nat.lt_of_lt_of_le (lt b hb) hF.size, .inr ⟨h, t, hg3, hx1, by rw [Pl.del_none OI hfd]; exact e, hc, hnt, hown⟩⟩, hF, fun b hb => .inl hb⟩
    · -- there
      have hgy : Pl.got OI x l = some y ∧ Pl.del OI x l = L1 := by
        simp only [Pl.dlr, Option.map_eq_some_iff, Prod.mk.injEq] at hd
        obtain ⟨z, hz, rfl, rfl⟩ := hd
        exact ⟨hz, rfl⟩
      have hfd : Pl.fnd OI x l = true := by rw [← Pl.got_isSome, hgy.1]; rfl
      have hln := Pl.dlr_len OI hd
      have hg1 := hT.g.fr (M2.fr nowhere) (fun _ _ _ => nw)
      replace hg1 := hg1.fr W3.fr (fun b o hb => nr (.inl (by have := hT.g.lt hb; omega)))
      have hown1 : ∀ b o, Gt.af h t1 b o → S b ∨ (H.size ≤ b ∧ b < H3.size) := fun b o hb => (hT.a b o hb).imp (hown b o) (fun h9 => ⟨h9, by have := hT.g.lt hb; omega⟩)
      have hnt1 : ∀ o, ¬ Gt.af h t1 tr o := fun o hb => (hT.a _ _ hb).elim (hnt o) (fun h9 => by omega)
      have hsrt1 : Pl.Srt OI L1 := by rw [← hgy.2]; exact srt.del OI
      rw [← hT.p] at hc
      have hl1 := hT.l
      obtain ⟨kp, hn1⟩ := hg1.node
      have hxm1 := hg1.xmx
      have hx255 := hP.hx
      clear hd hT hg hfr hx1
      -- region 4 (map.go:346)
      refine Go'.region [(0, 0), (1, 0)] rfl ?_
      refine O.mv rfl rfl rfl rfl rfl ?_
      refine O.not rfl rfl rfl rfl rfl ?_
      refine Pl.fin [(0, _), (4, _), (5, _), (6, _), (28, _)] ⟨rfl, rfl, rfl, rfl, rfl, trivial⟩ ?_
      refine Go'.condF rfl ?_
      refine Go'.skip ?_
      refine Go'.seq ?_
      refine Go'.seq ?_
      by_cases h0 : (Gt.X h t1).length = 0
      · -- none left in the root
        match h, t1, hg1, hc, hown1, hnt1, hl1, hn1, h0, hxm1 with
        | 0, t1, hg1, hc, hown1, hnt1, hl1, hn1, h0, hxm1 =>
          -- region 6 (map.go:349)
          refine Go'.region [(0, 0), (1, 0), (2, 0), (3, 1), (4, 0), (5, 0), (6, 1), (7, 0), (8, 0), (9, 0), (10, 0), (11, 0), (12, 0), (13, 1), (14, 2), (15, 0), (16, 0)] rfl ?_
          refine O.mv rfl rfl rfl rfl rfl ?_
          refine O.nc rfl rfl rfl rfl rfl ?_
          refine O.fa0 (off := 2) rfl rfl rfl rfl ⟨_, _, _, Go.Proofs.Try.underlying105, rfl, rfl, Go.Proofs.Try.sizeOf103⟩ rfl ?_
          refine O.ld rfl rfl rfl (fun w => ⟨Go.Proofs.Try.isAgg103 w, Go.Proofs.Try.sizeOf103 w⟩) rfl (show cl _ tr 2 = some (.pointer (some ⟨Gt.p 0 t1, 0, none⟩)) from hc) ?_
          refine O.nc rfl rfl rfl rfl rfl ?_
          refine O.fa0 (off := 2) rfl rfl rfl rfl ⟨_, _, _, Go.Proofs.Try.underlying111, rfl, rfl, Go.Proofs.Try.sizeOf108⟩ rfl ?_
          refine O.ld rfl rfl rfl (fun w => ⟨Go.Proofs.Try.isAgg108 w, Go.Proofs.Try.sizeOf108 w⟩) rfl (show cl _ (Gt.p 0 t1) 2 = some (.slice (some ⟨(Gt.g 0 t1).ib, (Gt.g 0 t1).io, none⟩) (Gt.X 0 t1).length (Gt.g 0 t1).ic) from hn1.c2) ?_
          refine O.len rfl rfl rfl rfl Go.Proofs.Try.underlying108 rfl ?_
          refine O.cmp rfl rfl rfl rfl rfl rfl (eqlT (by omega)) ?_
          refine O.mv rfl rfl rfl rfl rfl ?_
          refine O.mv rfl rfl rfl rfl rfl ?_
          refine O.nc rfl rfl rfl rfl rfl ?_
          refine O.fa0 (off := 2) rfl rfl rfl rfl ⟨_, _, _, Go.Proofs.Try.underlying105, rfl, rfl, Go.Proofs.Try.sizeOf103⟩ rfl ?_
          refine O.ld rfl rfl rfl (fun w => ⟨Go.Proofs.Try.isAgg103 w, Go.Proofs.Try.sizeOf103 w⟩) rfl (show cl _ tr 2 = some (.pointer (some ⟨Gt.p 0 t1, 0, none⟩)) from hc) ?_
          refine O.callQ rfl rfl rfl Go.Proofs.Try.call86 rfl (leaf_spec (show cl _ (Gt.p 0 t1) 3 = some (.pointer none) from hg1.1.c3)) trivial ?_
          refine O.not rfl rfl rfl rfl rfl ?_
          refine O.pick rfl rfl rfl rfl rfl rfl ?_
          refine Pl.fin [(0, _), (4, _), (5, _), (6, _), (50, _)] ⟨rfl, rfl, rfl, rfl, rfl, trivial⟩ ?_
          refine Go'.condF rfl ?_
          refine Go'.skip ?_
          refine Go'.seq ?_
          have hL0 : L1.length = 0 := by rw [← hl1]; exact h0
          -- region 8 (map.go:352)
          refine Go'.region [(0, 0), (1, 0), (2, 0), (3, 1), (4, 0), (5, 0), (6, 0), (7, 2)] rfl ?_
          refine O.mv rfl rfl rfl rfl rfl ?_
          refine O.nc rfl rfl rfl rfl rfl ?_
          refine O.fa0 (off := 3) rfl rfl rfl rfl ⟨_, _, _, Go.Proofs.Try.underlying105, rfl, rfl, Go.Proofs.Try.sizeOf3⟩ rfl ?_
          refine O.ld rfl rfl rfl (fun w => ⟨Go.Proofs.Try.isAgg3 w, Go.Proofs.Try.sizeOf3 w⟩) rfl cnt ?_
          refine O.sub (((l.length - 1 : Nat) : Int)) rfl rfl rfl rfl rfl rfl (by omega) (by omega) ?_
          refine O.nc rfl rfl rfl rfl rfl ?_
          refine O.fa0 (off := 3) rfl rfl rfl rfl ⟨_, _, _, Go.Proofs.Try.underlying105, rfl, rfl, Go.Proofs.Try.sizeOf3⟩ rfl ?_
          refine O.st rfl rfl Go.Proofs.Try.sizeOf3 rfl rfl rfl rfl rfl (tc.wr.at0 3 1 (by omega)) ?_
          intro H5 W5
          have hs5 := W5.size
          replace tc := tc.fr (W5.fr' 1 rfl) (fun o _ h2 => nr (by omega))
          replace hc := W5.keep1 hc (by omega)
          replace hF := hF.trans' W5.fr (fun _ _ _ h => h) (fun b o _ h => by rw [h.1]; exact own)
          replace m6 := W5.fr.rd m6 (fun _ _ => nr (.inl (by omega)))
          replace w6 := W5.fr.wr w6
          have cnt5 : cl H5 tr 3 = some (.int .i64 ((l.length - 1 : Nat) : Int)) := W5.at
          refine ⟨trivial, ?_⟩
          refine Pl.fin [(0, _), (4, _), (5, _), (6, _)] ⟨rfl, rfl, rfl, rfl, trivial⟩ ?_
          refine Go'.seq ?_
          refine Go'.seq ?_
          -- region 9 (map.go:353)
          refine Go'.region [(0, 0), (1, 0), (2, 0), (3, 1), (4, 0)] rfl ?_
          refine O.mv rfl rfl rfl rfl rfl ?_
          refine O.nc rfl rfl rfl rfl rfl ?_
          refine O.fa0 (off := 3) rfl rfl rfl rfl ⟨_, _, _, Go.Proofs.Try.underlying105, rfl, rfl, Go.Proofs.Try.sizeOf3⟩ rfl ?_
          refine O.ld rfl rfl rfl (fun w => ⟨Go.Proofs.Try.isAgg3 w, Go.Proofs.Try.sizeOf3 w⟩) rfl cnt5 ?_
          refine O.cmp rfl rfl rfl rfl rfl rfl (eqlT (by omega)) ?_
          refine Pl.fin [(0, _), (4, _), (5, _), (6, _), (76, _)] ⟨rfl, rfl, rfl, rfl, rfl, trivial⟩ ?_
          refine Go'.condT rfl ?_
          -- region 10 (map.go:354)
          refine Go'.region [(0, 0), (1, 0), (2, 0), (3, 2)] rfl ?_
          refine O.mv rfl rfl rfl rfl rfl ?_
          refine O.nc rfl rfl rfl rfl rfl ?_
          refine O.fa0 (off := 2) rfl rfl rfl rfl ⟨_, _, _, Go.Proofs.Try.underlying105, rfl, rfl, Go.Proofs.Try.sizeOf103⟩ rfl ?_
          refine O.st rfl rfl Go.Proofs.Try.sizeOf103 rfl rfl rfl rfl rfl (tc.wr.at0 2 1 (by omega)) ?_
          intro H6 W6
          have hs6 := W6.size
          replace tc := tc.fr (W6.fr' 1 rfl) (fun o h1 _ => nr (by omega))
          replace cnt5 := W6.keep1 cnt5 (by omega)
          replace hF := hF.trans' W6.fr (fun _ _ _ h => h) (fun b o _ h => by rw [h.1]; exact own)
          replace m6 := W6.fr.rd m6 (fun _ _ => nr (.inl (by omega)))
          replace w6 := W6.fr.wr w6
          have hc6 : cl H6 tr 2 = some (.pointer none) := W6.at
          refine ⟨trivial, ?_⟩
          refine Pl.fin [(4, _), (5, _), (6, _)] ⟨rfl, rfl, rfl, trivial⟩ ?_
          refine Go'.seq ?_
          -- region 11 (map.go:356)
          refine Go'.region [(0, 0), (1, 1), (2, 0), (3, 0)] rfl ?_
          refine O.faz rfl rfl rfl rfl ⟨_, _, _, Go.Proofs.Try.underlying100, rfl, rfl, Go.Proofs.Try.sizeOf3⟩ rfl ?_
          refine O.ld rfl rfl rfl (fun w => ⟨Go.Proofs.Try.isAgg3 w, Go.Proofs.Try.sizeOf3 w⟩) rfl (m6 0 _ rfl) ?_
          refine O.asg rfl rfl rfl rfl rfl ?_
          refine O.asg rfl rfl rfl rfl rfl ?_
          refine Pl.fin [(4, _), (5, _)] ⟨rfl, rfl, trivial⟩ ?_
          
          refine Go'.ret (vs := [_, _]) Go.Proofs.Try.func104 Go.Proofs.Try.results104 ⟨rfl, rfl, trivial⟩ ?_
          have hl5 : L1 = [] := List.length_eq_zero_iff.1 (by omega)
          unfold DelP
          rw [hgy.1, hfd, hgy.2]
          have hsz9 : H.size ≤ H6.size := by omega
          have e9 : l.length - 1 = L1.length := by omega
          rw [e9] at cnt5
          exact ⟨rfl, fun b => S b ∨ (H.size ≤ b ∧ b < H6.size), ⟨tc, hsrt1, cnt5, .inl own, fun b hb => hb.elim (fun h9 => by have := lt b h9; omega) (fun h9 => h9.2), .inl ⟨hl5, hc6⟩⟩, hF, fun b hb => hb.imp id (fun h9 => h9.1)⟩
        | h + 1, t1, hg1, hc, hown1, hnt1, hl1, hn1, h0, hxm1 =>
          -- region 6 (map.go:349)
          refine Go'.region [(0, 0), (1, 0), (2, 0), (3, 1), (4, 0), (5, 0), (6, 1), (7, 0), (8, 0), (9, 0), (10, 0), (11, 0), (12, 0), (13, 1), (14, 2), (15, 0), (16, 0)] rfl ?_
          refine O.mv rfl rfl rfl rfl rfl ?_
          refine O.nc rfl rfl rfl rfl rfl ?_
          refine O.fa0 (off := 2) rfl rfl rfl rfl ⟨_, _, _, Go.Proofs.Try.underlying105, rfl, rfl, Go.Proofs.Try.sizeOf103⟩ rfl ?_
          refine O.ld rfl rfl rfl (fun w => ⟨Go.Proofs.Try.isAgg103 w, Go.Proofs.Try.sizeOf103 w⟩) rfl (show cl _ tr 2 = some (.pointer (some ⟨Gt.p (h + 1) t1, 0, none⟩)) from hc) ?_
          refine O.nc rfl rfl rfl rfl rfl ?_
          refine O.fa0 (off := 2) rfl rfl rfl rfl ⟨_, _, _, Go.Proofs.Try.underlying111, rfl, rfl, Go.Proofs.Try.sizeOf108⟩ rfl ?_
          refine O.ld rfl rfl rfl (fun w => ⟨Go.Proofs.Try.isAgg108 w, Go.Proofs.Try.sizeOf108 w⟩) rfl (show cl _ (Gt.p (h + 1) t1) 2 = some (.slice (some ⟨(Gt.g (h + 1) t1).ib, (Gt.g (h + 1) t1).io, none⟩) (Gt.X (h + 1) t1).length (Gt.g (h + 1) t1).ic) from hn1.c2) ?_
          refine O.len rfl rfl rfl rfl Go.Proofs.Try.underlying108 rfl ?_
          refine O.cmp rfl rfl rfl rfl rfl rfl (eqlT (by omega)) ?_
          refine O.mv rfl rfl rfl rfl rfl ?_
          refine O.mv rfl rfl rfl rfl rfl ?_
          refine O.nc rfl rfl rfl rfl rfl ?_
          refine O.fa0 (off := 2) rfl rfl rfl rfl ⟨_, _, _, Go.Proofs.Try.underlying105, rfl, rfl, Go.Proofs.Try.sizeOf103⟩ rfl ?_
          refine O.ld rfl rfl rfl (fun w => ⟨Go.Proofs.Try.isAgg103 w, Go.Proofs.Try.sizeOf103 w⟩) rfl (show cl _ tr 2 = some (.pointer (some ⟨Gt.p (h + 1) t1, 0, none⟩)) from hc) ?_
          refine O.callQ rfl rfl rfl Go.Proofs.Try.call86 rfl (leaf_spec (show cl _ (Gt.p (h + 1) t1) 3 = some (.pointer (some ⟨t1.1.cb, 0, none⟩)) from hg1.1.c3)) trivial ?_
          refine O.not rfl rfl rfl rfl rfl ?_
          refine O.pick rfl rfl rfl rfl rfl rfl ?_
          refine Pl.fin [(0, _), (4, _), (5, _), (6, _), (50, _)] ⟨rfl, rfl, rfl, rfl, rfl, trivial⟩ ?_
          refine Go'.condT rfl ?_
          obtain ⟨g, X, K⟩ := t1
          have hX0 : X = [] := List.length_eq_zero_iff.1 h0
          subst hX0
          have hK1 : K.length = 1 := hg1.2.2.2.2.2.1
          obtain ⟨k, rfl⟩ : ∃ k, K = [k] := by
            match K, hK1 with
            | [k], _ => exact ⟨k, rfl⟩
          obtain ⟨hgz, hkm, hkd⟩ := hg1.2.2.2.2.2.2.1 k (List.mem_singleton.2 rfl)
          have hI := Gt.Good.inn hg1
          have hk0 : ((Gt.ps h [k]).map some)[0]? = some (some (Gt.p h k)) := rfl
          have hlz : Gt.L h k = L1 := by rw [← hl1]; rfl
          have hafk : ∀ b o, Gt.af h k b o → Gt.af (h + 1) ((g, [], [k]) : Gt EI (h + 1)) b o := fun b o hb => .inr (.inr ⟨k, List.mem_singleton.2 rfl, hb⟩)
          have hownz : ∀ b o, Gt.af h k b o → S b ∨ (H.size ≤ b ∧ b < H3.size) := fun b o hb => hown1 b o (hafk b o hb)
          have hntz : ∀ o, ¬ Gt.af h k tr o := fun o hb => hnt1 o (hafk _ _ hb)
          have hxz : 1 ≤ (Gt.X h k).length := by omega
          have hne := hgz.ne hxz
          have hL0 : L1.length ≠ 0 := by rw [← hlz]; omega
          -- region 7 (map.go:350)
          refine Go'.region [(0, 0), (1, 0), (2, 0), (3, 0), (4, 1), (5, 0), (6, 0), (7, 1), (8, 0), (9, 1), (10, 0), (11, 1), (12, 0), (13, 0), (14, 2)] rfl ?_
          refine O.mv rfl rfl rfl rfl rfl ?_
          refine O.mv rfl rfl rfl rfl rfl ?_
          refine O.nc rfl rfl rfl rfl rfl ?_
          refine O.fa0 (off := 2) rfl rfl rfl rfl ⟨_, _, _, Go.Proofs.Try.underlying105, rfl, rfl, Go.Proofs.Try.sizeOf103⟩ rfl ?_
          refine O.ld rfl rfl rfl (fun w => ⟨Go.Proofs.Try.isAgg103 w, Go.Proofs.Try.sizeOf103 w⟩) rfl (show cl _ tr 2 = some (.pointer (some ⟨g.p, 0, none⟩)) from hc) ?_
          refine O.nc rfl rfl rfl rfl rfl ?_
          refine O.fa0 (off := 3) rfl rfl rfl rfl ⟨_, _, _, Go.Proofs.Try.underlying111, rfl, rfl, Go.Proofs.Try.sizeOf109⟩ rfl ?_
          refine O.ld rfl rfl rfl (fun w => ⟨Go.Proofs.Try.isAgg109 w, Go.Proofs.Try.sizeOf109 w⟩) rfl (show cl _ g.p 3 = some (.pointer (some ⟨g.cb, 0, none⟩)) from hI.n.c3) ?_
          refine O.nc rfl rfl rfl rfl rfl ?_
          refine O.ld rfl rfl rfl (fun w => ⟨Go.Proofs.Try.isAgg112 w, Go.Proofs.Try.sizeOf112 w⟩) rfl hI.k.c ?_
          refine O.ix (j := 0) rfl rfl rfl rfl Go.Proofs.Try.underlying112 Go.Proofs.Try.sizeOf103 rfl rfl rfl (by simp [Gt.ps]) ?_
          refine O.ld rfl rfl rfl (fun w => ⟨Go.Proofs.Try.isAgg103 w, Go.Proofs.Try.sizeOf103 w⟩) rfl (hI.k.at hk0) ?_
          refine O.nc rfl rfl rfl rfl rfl ?_
          refine O.fa0 (off := 2) rfl rfl rfl rfl ⟨_, _, _, Go.Proofs.Try.underlying105, rfl, rfl, Go.Proofs.Try.sizeOf103⟩ rfl ?_
          refine O.st rfl rfl Go.Proofs.Try.sizeOf103 rfl rfl rfl rfl rfl (tc.wr.at0 2 1 (by omega)) ?_
          intro H4 W4
          have hs4 := W4.size
          replace tc := tc.fr (W4.fr' 1 rfl) (fun o h1 _ => nr (by omega))
          replace cnt := W4.keep1 cnt (by omega)
          replace hF := hF.trans' W4.fr (fun _ _ _ h => h) (fun b o _ h => by rw [h.1]; exact own)
          replace m6 := W4.fr.rd m6 (fun _ _ => nr (.inl (by omega)))
          replace w6 := W4.fr.wr w6
          replace hgz := hgz.fr W4.fr (fun b o hb => nr (.inl (fun e9 => hntz o (e9 ▸ hb))))
          clear hc
          have hc : cl H4 tr 2 = some (ptr (Gt.p h k)) := W4.at
          replace hownz : ∀ b o, Gt.af h k b o → S b ∨ (H.size ≤ b ∧ b < H4.size) := fun b o hb => (hownz b o hb).imp id (fun h => ⟨h.1, by omega⟩)
          refine ⟨trivial, ?_⟩
          refine Pl.fin [(0, _), (4, _), (5, _), (6, _)] ⟨rfl, rfl, rfl, rfl, trivial⟩ ?_
          refine Go'.seq ?_
          -- region 8 (map.go:352)
          refine Go'.region [(0, 0), (1, 0), (2, 0), (3, 1), (4, 0), (5, 0), (6, 0), (7, 2)] rfl ?_
          refine O.mv rfl rfl rfl rfl rfl ?_
          refine O.nc rfl rfl rfl rfl rfl ?_
          refine O.fa0 (off := 3) rfl rfl rfl rfl ⟨_, _, _, Go.Proofs.Try.underlying105, rfl, rfl, Go.Proofs.Try.sizeOf3⟩ rfl ?_
          refine O.ld rfl rfl rfl (fun w => ⟨Go.Proofs.Try.isAgg3 w, Go.Proofs.Try.sizeOf3 w⟩) rfl cnt ?_
          refine O.sub (((l.length - 1 : Nat) : Int)) rfl rfl rfl rfl rfl rfl (by omega) (by omega) ?_
          refine O.nc rfl rfl rfl rfl rfl ?_
          refine O.fa0 (off := 3) rfl rfl rfl rfl ⟨_, _, _, Go.Proofs.Try.underlying105, rfl, rfl, Go.Proofs.Try.sizeOf3⟩ rfl ?_
          refine O.st rfl rfl Go.Proofs.Try.sizeOf3 rfl rfl rfl rfl rfl (tc.wr.at0 3 1 (by omega)) ?_
          intro H5 W5
          have hs5 := W5.size
          replace tc := tc.fr (W5.fr' 1 rfl) (fun o _ h2 => nr (by omega))
          replace hc := W5.keep1 hc (by omega)
          replace hF := hF.trans' W5.fr (fun _ _ _ h => h) (fun b o _ h => by rw [h.1]; exact own)
          replace m6 := W5.fr.rd m6 (fun _ _ => nr (.inl (by omega)))
          replace w6 := W5.fr.wr w6
          have cnt5 : cl H5 tr 3 = some (.int .i64 ((l.length - 1 : Nat) : Int)) := W5.at
          refine ⟨trivial, ?_⟩
          refine Pl.fin [(0, _), (4, _), (5, _), (6, _)] ⟨rfl, rfl, rfl, rfl, trivial⟩ ?_
          refine Go'.seq ?_
          refine Go'.seq ?_
          -- region 9 (map.go:353)
          refine Go'.region [(0, 0), (1, 0), (2, 0), (3, 1), (4, 0)] rfl ?_
          refine O.mv rfl rfl rfl rfl rfl ?_
          refine O.nc rfl rfl rfl rfl rfl ?_
          refine O.fa0 (off := 3) rfl rfl rfl rfl ⟨_, _, _, Go.Proofs.Try.underlying105, rfl, rfl, Go.Proofs.Try.sizeOf3⟩ rfl ?_
          refine O.ld rfl rfl rfl (fun w => ⟨Go.Proofs.Try.isAgg3 w, Go.Proofs.Try.sizeOf3 w⟩) rfl cnt5 ?_
          refine O.cmp rfl rfl rfl rfl rfl rfl (eqlF (by omega)) ?_
          refine Pl.fin [(0, _), (4, _), (5, _), (6, _), (76, _)] ⟨rfl, rfl, rfl, rfl, rfl, trivial⟩ ?_
          refine Go'.condF rfl ?_
          refine Go'.skip ?_
          refine Go'.seq ?_
          -- region 11 (map.go:356)
          refine Go'.region [(0, 0), (1, 1), (2, 0), (3, 0)] rfl ?_
          refine O.faz rfl rfl rfl rfl ⟨_, _, _, Go.Proofs.Try.underlying100, rfl, rfl, Go.Proofs.Try.sizeOf3⟩ rfl ?_
          refine O.ld rfl rfl rfl (fun w => ⟨Go.Proofs.Try.isAgg3 w, Go.Proofs.Try.sizeOf3 w⟩) rfl (m6 0 _ rfl) ?_
          refine O.asg rfl rfl rfl rfl rfl ?_
          refine O.asg rfl rfl rfl rfl rfl ?_
          refine Pl.fin [(4, _), (5, _)] ⟨rfl, rfl, trivial⟩ ?_
          
          refine Go'.ret (vs := [_, _]) Go.Proofs.Try.func104 Go.Proofs.Try.results104 ⟨rfl, rfl, trivial⟩ ?_
          have hg5 := hgz.fr W5.fr (fun b o hb => nr (.inl (fun e9 => hntz o (e9 ▸ hb))))
          have hown5 : ∀ b o, Gt.af h k b o → S b ∨ (H.size ≤ b ∧ b < H5.size) := fun b o hb => (hownz b o hb).imp id (fun h => ⟨h.1, by omega⟩)
          have hnt5 := hntz
          have hx5 := hxz
          have hl5 := hlz
          unfold DelP
          rw [hgy.1, hfd, hgy.2]
          have hsz9 : H.size ≤ H5.size := by omega
          have e9 : l.length - 1 = L1.length := by omega
          rw [e9] at cnt5
          exact ⟨rfl, fun b => S b ∨ (H.size ≤ b ∧ b < H5.size), ⟨tc, hsrt1, cnt5, .inl own, fun b hb => hb.elim (fun h9 => by have := lt b h9; omega) (fun h9 => h9.2), .inr ⟨h, k, hg5, hx5, hl5, hc, hnt5, hown5⟩⟩, hF, fun b hb => hb.imp id (fun h9 => h9.1)⟩
      · -- some left in the root
        -- region 6 (map.go:349)
        refine Go'.region [(0, 0), (1, 0), (2, 0), (3, 1), (4, 0), (5, 0), (6, 1), (7, 0), (8, 0), (9, 0), (10, 0), (11, 0), (12, 0), (13, 1), (14, 2), (15, 0), (16, 0)] rfl ?_
        refine O.mv rfl rfl rfl rfl rfl ?_
        refine O.nc rfl rfl rfl rfl rfl ?_
        refine O.fa0 (off := 2) rfl rfl rfl rfl ⟨_, _, _, Go.Proofs.Try.underlying105, rfl, rfl, Go.Proofs.Try.sizeOf103⟩ rfl ?_
        refine O.ld rfl rfl rfl (fun w => ⟨Go.Proofs.Try.isAgg103 w, Go.Proofs.Try.sizeOf103 w⟩) rfl (show cl _ tr 2 = some (.pointer (some ⟨Gt.p h t1, 0, none⟩)) from hc) ?_
        refine O.nc rfl rfl rfl rfl rfl ?_
        refine O.fa0 (off := 2) rfl rfl rfl rfl ⟨_, _, _, Go.Proofs.Try.underlying111, rfl, rfl, Go.Proofs.Try.sizeOf108⟩ rfl ?_
        refine O.ld rfl rfl rfl (fun w => ⟨Go.Proofs.Try.isAgg108 w, Go.Proofs.Try.sizeOf108 w⟩) rfl (show cl _ (Gt.p h t1) 2 = some (.slice (some ⟨(Gt.g h t1).ib, (Gt.g h t1).io, none⟩) (Gt.X h t1).length (Gt.g h t1).ic) from hn1.c2) ?_
        refine O.len rfl rfl rfl rfl Go.Proofs.Try.underlying108 rfl ?_
        refine O.cmp rfl rfl rfl rfl rfl rfl (eqlF (by omega)) ?_
        refine O.mv rfl rfl rfl rfl rfl ?_
        refine Pl.pass rfl rfl rfl rfl ?_
        refine Pl.pass rfl rfl rfl rfl ?_
        refine Pl.pass rfl rfl rfl rfl ?_
        refine Pl.pass rfl rfl rfl rfl ?_
        refine Pl.pass2 rfl rfl rfl rfl trivial ?_
        refine Pl.pass rfl rfl rfl rfl ?_
        refine O.pick rfl rfl rfl rfl rfl rfl ?_
        refine Pl.fin [(0, _), (4, _), (5, _), (6, _), (50, _)] ⟨rfl, rfl, rfl, rfl, rfl, trivial⟩ ?_
        refine Go'.condF rfl ?_
        refine Go'.skip ?_
        refine Go'.seq ?_
        have hgz := hg1
        have hlz := hl1
        have hownz := hown1
        have hntz := hnt1
        have hxz : 1 ≤ (Gt.X h t1).length := by omega
        have hne := hgz.ne hxz
        have hL0 : L1.length ≠ 0 := by rw [← hlz]; omega
        -- region 8 (map.go:352)
        refine Go'.region [(0, 0), (1, 0), (2, 0), (3, 1), (4, 0), (5, 0), (6, 0), (7, 2)] rfl ?_
        refine O.mv rfl rfl rfl rfl rfl ?_
        refine O.nc rfl rfl rfl rfl rfl ?_
        refine O.fa0 (off := 3) rfl rfl rfl rfl ⟨_, _, _, Go.Proofs.Try.underlying105, rfl, rfl, Go.Proofs.Try.sizeOf3⟩ rfl ?_
        refine O.ld rfl rfl rfl (fun w => ⟨Go.Proofs.Try.isAgg3 w, Go.Proofs.Try.sizeOf3 w⟩) rfl cnt ?_
        refine O.sub (((l.length - 1 : Nat) : Int)) rfl rfl rfl rfl rfl rfl (by omega) (by omega) ?_
        refine O.nc rfl rfl rfl rfl rfl ?_
        refine O.fa0 (off := 3) rfl rfl rfl rfl ⟨_, _, _, Go.Proofs.Try.underlying105, rfl, rfl, Go.Proofs.Try.sizeOf3⟩ rfl ?_
        refine O.st rfl rfl Go.Proofs.Try.sizeOf3 rfl rfl rfl rfl rfl (tc.wr.at0 3 1 (by omega)) ?_
        intro H5 W5
        have hs5 := W5.size
        replace tc := tc.fr (W5.fr' 1 rfl) (fun o _ h2 => nr (by omega))
        replace hc := W5.keep1 hc (by omega)
        replace hF := hF.trans' W5.fr (fun _ _ _ h => h) (fun b o _ h => by rw [h.1]; exact own)
        replace m6 := W5.fr.rd m6 (fun _ _ => nr (.inl (by omega)))
        replace w6 := W5.fr.wr w6
        have cnt5 : cl H5 tr 3 = some (.int .i64 ((l.length - 1 : Nat) : Int)) := W5.at
        refine ⟨trivial, ?_⟩
        refine Pl.fin [(0, _), (4, _), (5, _), (6, _)] ⟨rfl, rfl, rfl, rfl, trivial⟩ ?_
        refine Go'.seq ?_
        refine Go'.seq ?_
        -- region 9 (map.go:353)
        refine Go'.region [(0, 0), (1, 0), (2, 0), (3, 1), (4, 0)] rfl ?_
        refine O.mv rfl rfl rfl rfl rfl ?_
        refine O.nc rfl rfl rfl rfl rfl ?_
        refine O.fa0 (off := 3) rfl rfl rfl rfl ⟨_, _, _, Go.Proofs.Try.underlying105, rfl, rfl, Go.Proofs.Try.sizeOf3⟩ rfl ?_
        refine O.ld rfl rfl rfl (fun w => ⟨Go.Proofs.Try.isAgg3 w, Go.Proofs.Try.sizeOf3 w⟩) rfl cnt5 ?_
        refine O.cmp rfl rfl rfl rfl rfl rfl (eqlF (by omega)) ?_
        refine Pl.fin [(0, _), (4, _), (5, _), (6, _), (76, _)] ⟨rfl, rfl, rfl, rfl, rfl, trivial⟩ ?_
        refine Go'.condF rfl ?_
        refine Go'.skip ?_
        refine Go'.seq ?_
        -- region 11 (map.go:356)
        refine Go'.region [(0, 0), (1, 1), (2, 0), (3, 0)] rfl ?_
        refine O.faz rfl rfl rfl rfl ⟨_, _, _, Go.Proofs.Try.underlying100, rfl, rfl, Go.Proofs.Try.sizeOf3⟩ rfl ?_
        refine O.ld rfl rfl rfl (fun w => ⟨Go.Proofs.Try.isAgg3 w, Go.Proofs.Try.sizeOf3 w⟩) rfl (m6 0 _ rfl) ?_
        refine O.asg rfl rfl rfl rfl rfl ?_
        refine O.asg rfl rfl rfl rfl rfl ?_
        refine Pl.fin [(4, _), (5, _)] ⟨rfl, rfl, trivial⟩ ?_
        
        refine Go'.ret (vs := [_, _]) Go.Proofs.Try.func104 Go.Proofs.Try.results104 ⟨rfl, rfl, trivial⟩ ?_
        have hg5 := hgz.fr W5.fr (fun b o hb => nr (.inl (fun e9 => hntz o (e9 ▸ hb))))
        have hown5 : ∀ b o, Gt.af h t1 b o → S b ∨ (H.size ≤ b ∧ b < H5.size) := fun b o hb => (hownz b o hb).imp id (fun h => ⟨h.1, by omega⟩)
        have hnt5 := hntz
        have hx5 := hxz
        have hl5 := hlz
        unfold DelP
        rw [hgy.1, hfd, hgy.2]
        have hsz9 : H.size ≤ H5.size := by omega
        have e9 : l.length - 1 = L1.length := by omega
        rw [e9] at cnt5
        exact ⟨rfl, fun b => S b ∨ (H.size ≤ b ∧ b < H5.size), ⟨tc, hsrt1, cnt5, .inl own, fun b hb => hb.elim (fun h9 => by have := lt b h9; omega) (fun h9 => h9.2), .inr ⟨h, t1, hg5, hx5, hl5, hc, hnt5, hown5⟩⟩, hF, fun b hb => hb.imp id (fun h9 => h9.1)⟩

end Go.Bt
namespace Go.Bt
open Go Go.Proofs
set_option maxRecDepth 20000
set_option maxHeartbeats 4000000
set_option linter.unusedVariables false

theorem mdel_spec' {B : World} {H : Mem} {tr : Nat} {P : Ps} (hP : PsOk P) {S : Nat → Prop} {l : List (Int × Int)} {k : Int} (hM : MapM H tr P S l) (hlen : l.length < 2305843009213693952) :
    Fn Try.prog B 104 [.pointer (some ⟨tr, 0, none⟩), .int .i64 k] H (fun r H' => ∃ vv bb, r = .tuple #[.int .i64 vv, .bool bb] ∧ ok? (k, vv) bb = Pl.got OI (k, 0) l ∧ MapTo H H' tr P S (Pl.del OI (k, 0) l)) := by
  refine (mdel_spec hP (x := (k, 0)) hM hlen).mono ?_
  rintro r H' ⟨rfl, hm⟩
  have hs := hM.srt
  refine ⟨_, _, rfl, ?_, hm⟩
  rw [← Pl.got_isSome]
  cases h : Pl.got OI (k, 0) l with
  | none => rfl
  | some y =>
    have := got_key hs h
    simp only [Option.isSome, ok?]
    rw [show k = y.1 from this]

theorem mdeletes_spec {B : World} {H : Mem} {d : Nat} {u v : Value} {l : List (Int × Int)} {ks : List Int} (hd : 2 ≤ d ∧ d ≤ 128) (hi : InS EJ H u l) (hll : l.length ≤ 4294967296) (hk : InS EN H v ks) (hkl : ks.length ≤ 4294967296) :
    Fn Try.prog B 68 [.int .i64 (d : Int), u, v] H (fun r H' => ∃ v1 v2, r = .tuple #[v1, v2] ∧ OutS EF H' v1 (Pl.runs (fun m k => Pl.delk OI m (k, 0)) (Pl.puts OI l) ks).2 ∧ OutS EJ H' v2 (Pl.runs (fun m k => Pl.delk OI m (k, 0)) (Pl.puts OI l) ks).1 ∧ Fr nowhere H H') := by
  have hP : PsOk ⟨0, 2 * d - 1, d - 1⟩ := ⟨by show 2 * d - 1 = 2 * (d - 1) + 1; omega, by show 1 ≤ d - 1; omega, by show 2 * d - 1 ≤ 255; omega⟩
  have hpl0 := Pl.puts_length OI l
  obtain ⟨a, c, hu⟩ := hk.len
  subst hu
  refine fn_of Go.Proofs.Try.func68 rfl Go.Proofs.Try.ntmps68 ?_
  refine (show Go' _ _ _ _ 40 [(0, _), (1, _), (2, _)] [.code _] _ from ?_)
  refine Go'.seq ?_
  -- region 0 (map.go:78)
  refine Go'.region [(0, 0), (1, 0)] rfl ?_
  refine O.asg rfl rfl rfl rfl rfl ?_
  refine O.asg rfl rfl rfl rfl rfl ?_
  refine Pl.fin [(0, _), (1, _), (2, _), (6, _), (7, _)] ⟨rfl, rfl, rfl, rfl, rfl, trivial⟩ ?_
  refine Go'.seq ?_
  -- region 1 (map.go:79)
  refine Go'.region [(0, 0), (1, 0), (2, 2), (3, 0)] rfl ?_
  refine O.mv rfl rfl rfl rfl rfl ?_
  refine O.mv rfl rfl rfl rfl rfl ?_
  refine O.call rfl rfl rfl Go.Proofs.Try.call52 rfl (growMap_spec hd hi hll) ?_
  rintro _ H1 ⟨tr, S0, rfl, hM1, hF1, hS0⟩
  unfold ptr
  refine ⟨trivial, ?_⟩
  refine O.asg rfl rfl rfl rfl rfl ?_
  refine Pl.fin [(2, _), (6, _), (7, _), (8, _)] ⟨rfl, rfl, rfl, rfl, trivial⟩ ?_
  refine Go'.seq ?_
  -- region 2 (map.go:80)
  refine Go'.region [(0, 0)] rfl ?_
  refine O.asg rfl rfl rfl rfl rfl ?_
  refine Pl.fin [(2, _), (6, _), (7, _), (8, _), (9, _)] ⟨rfl, rfl, rfl, rfl, rfl, trivial⟩ ?_
  refine Go'.seq ?_
  refine Go'.seq ?_
  -- region 3 (map.go:81)
  refine Go'.region [(0, 0), (1, 0), (2, 0)] rfl ?_
  refine O.mv rfl rfl rfl rfl rfl ?_
  refine O.len rfl rfl rfl rfl Go.Proofs.Try.underlying39 rfl ?_
  refine O.mv rfl rfl rfl rfl rfl ?_
  refine Pl.fin [(6, _), (7, _), (8, _), (9, _), (17, _), (18, _), (19, _)] ⟨rfl, rfl, rfl, rfl, rfl, rfl, rfl, trivial⟩ ?_
  refine Go'.block ?_
  refine Go'.loop ?_
  refine Go'.keep [(8, _), (9, _), (17, _), (18, _), (19, _)] ⟨rfl, rfl, rfl, rfl, rfl, trivial⟩ ?_
  refine Go'.ind (σ := Nat × Value) (fun s => ks.length - s.1) (fun s H' => Fr nowhere H H' ∧ s.1 ≤ ks.length ∧ ∃ S Zo, MapM H' tr ⟨0, 2 * d - 1, d - 1⟩ S (Pl.runs (fun m k => Pl.delk OI m (k, 0)) (Pl.puts OI l) (ks.take s.1)).1 ∧ (∀ b, S b → H.size ≤ b) ∧ Acc EF Zo H' s.2 (Pl.runs (fun m k => Pl.delk OI m (k, 0)) (Pl.puts OI l) (ks.take s.1)).2 ∧ ∀ b, Zo b → H.size ≤ b ∧ b < H'.size ∧ ¬ S b)
    (fun s => [(8, .pointer (some ⟨tr, 0, none⟩)), (9, s.2), (17, .slice a ks.length c), (18, .int .i64 (ks.length : Int)), (19, .int .i64 (s.1 : Int))]) (0, .slice none 0 0) ⟨hF1, Nat.zero_le _, S0, fun _ => False, hM1, hS0, Acc.nil _ _ _, fun _ h => h.elim⟩ rfl ?_
  rintro ⟨j, sv⟩ H2 ⟨hF, hjl, S, Zo, hM, hS, hA, hZ⟩ ih
  simp only at hjl hM hA
  have hi2 := hk.fr hF
  have hsz := hF.size
  have hpl := Pl.runs_le (fun m k => Pl.delk_le OI m ((k : Int), (0 : Int))) (Pl.puts OI l) (ks.take j)
  have hlout := Pl.runs_len (fun m k => Pl.delk OI m ((k : Int), (0 : Int))) (Pl.puts OI l) (ks.take j)
  rw [List.length_take] at hlout
  have hsrt := hM.srt
  refine Go'.seq ?_
  by_cases hlt : j < ks.length
  · skip
    obtain ⟨y, hy⟩ : ∃ y, ks[j]? = some y := ⟨ks[j], List.getElem?_eq_getElem hlt⟩
    obtain ⟨b, o, c', e, hr⟩ := hi2.at hy
    cases e
    have erun := Pl.runs_take (fun m k => Pl.delk OI m ((k : Int), (0 : Int))) (Pl.puts OI l) hy
    -- region 4 (map.go:81)
    refine Go'.region [(0, 0)] rfl ?_
    refine O.cmp rfl rfl rfl rfl rfl rfl (lssT (by omega)) ?_
    refine Pl.fin [(8, _), (9, _), (17, _), (18, _), (19, _), (20, _)] ⟨rfl, rfl, rfl, rfl, rfl, rfl, trivial⟩ ?_
    refine Go'.seq ?_
    refine Go'.condT rfl ?_
    refine Go'.skip ?_
    refine Go'.seq ?_
    refine Go'.block ?_
    refine Go'.seq ?_
    -- region 5 (map.go:81)
    refine Go'.region [(0, 0), (1, 1), (2, 0)] rfl ?_
    refine O.ix (j := j) rfl rfl rfl rfl Go.Proofs.Try.underlying39 Go.Proofs.Try.sizeOf3 rfl rfl (by omega) hlt ?_
    refine O.ld rfl rfl rfl (fun w => ⟨Go.Proofs.Try.isAgg3 w, Go.Proofs.Try.sizeOf3 w⟩) rfl (hr 0 _ rfl) ?_
    refine O.asg rfl rfl rfl rfl rfl ?_
    refine Pl.fin [(8, _), (9, _), (11, _), (17, _), (18, _), (19, _), (20, _)] ⟨rfl, rfl, rfl, rfl, rfl, rfl, rfl, trivial⟩ ?_
    refine Go'.seq ?_
    -- region 6 (map.go:82)
    refine Go'.region [(0, 0), (1, 0), (2, 2), (3, 0), (4, 0), (5, 0), (6, 0), (7, 0)] rfl ?_
    refine O.mv rfl rfl rfl rfl rfl ?_
    refine O.mv rfl rfl rfl rfl rfl ?_
    refine O.call rfl rfl rfl Go.Proofs.Try.call104 rfl (mdel_spec' hP (k := y) hM (by omega)) ?_
    rintro _ H5 ⟨vv, bb, rfl, hgo, S', hM', hF', hS'⟩
    have hs5 := hF'.size
    replace hA := hA.fr hF' (fun b o hb hb2 hz => (hZ b hb2).2.2 hz)
    refine ⟨trivial, ?_⟩
    refine O.mv rfl rfl rfl rfl rfl ?_
    refine O.ext rfl rfl rfl rfl rfl rfl ?_
    refine O.ext rfl rfl rfl rfl rfl rfl ?_
    refine O.asg rfl rfl rfl rfl rfl ?_
    refine O.asg rfl rfl rfl rfl rfl ?_
    refine Pl.fin [(8, _), (9, _), (11, _), (12, _), (13, _), (17, _), (18, _), (19, _), (20, _)] ⟨rfl, rfl, rfl, rfl, rfl, rfl, rfl, rfl, rfl, trivial⟩ ?_
    -- region 7 (map.go:83)
    refine Go'.region [(0, 0), (1, 0), (2, 0), (3, 0), (4, 2), (5, 2), (6, 2), (7, 0)] rfl ?_
    refine O.mv rfl rfl rfl rfl rfl ?_
    refine O.mv rfl rfl rfl rfl rfl ?_
    refine O.mv rfl rfl rfl rfl rfl ?_
    refine O.mv rfl rfl rfl rfl rfl ?_
    refine O.call rfl rfl rfl Go.Proofs.Try.call54 rfl (pair_spec (x := (y, vv)) (ok := bb)) ?_
    rintro _ H6 ⟨rfl, hF6⟩
    rw [hgo]
    have hs6 := hF6.size
    replace hM' := hM'.fr hF6 (fun _ _ _ => nw)
    replace hA := hA.fr hF6 (fun _ _ _ _ => nw)
    rw [FV_eq]
    refine ⟨trivial, ?_⟩
    refine O.bsl (cs := (fvs (Pl.got OI (y, 0) (Pl.runs (fun m k => Pl.delk OI m (k, 0)) (Pl.puts OI l) (ks.take j)).1))) rfl rfl rfl ⟨Go.Proofs.Try.underlying30, Go.Proofs.Try.sizeOf37, Go.Proofs.Try.zeroValue37, ⟨_, Go.Proofs.Try.typeInfo37, rfl⟩, rfl, by decide, by decide⟩ rfl (by decide) (by generalize (Pl.got OI (y, 0) (Pl.runs (fun m k => Pl.delk OI m (k, 0)) (Pl.puts OI l) (ks.take j)).1) = fo; cases fo <;> kernel_rfl) ?_
    intro H7 M7
    have hs7 := M7.size
    replace hM' := hM'.fr (M7.fr nowhere) (fun _ _ _ => nw)
    replace hA := hA.fr (M7.fr nowhere) (fun _ _ _ _ => nw)
    have m5 : Rd H7 H6.size 0 (row EF [(Pl.got OI (y, 0) (Pl.runs (fun m k => Pl.delk OI m (k, 0)) (Pl.puts OI l) (ks.take j)).1)]) := M7.rd _ [] (by simp [row, EF])
    refine ⟨trivial, ?_⟩
    refine O.appA (E := EF) (Y := [(Pl.got OI (y, 0) (Pl.runs (fun m k => Pl.delk OI m (k, 0)) (Pl.puts OI l) (ks.take j)).1)]) rfl rfl rfl ⟨Go.Proofs.Try.underlying30, Go.Proofs.Try.sizeOf37, Go.Proofs.Try.zeroValue37, ⟨_, Go.Proofs.Try.typeInfo37, rfl⟩, rfl, by decide, by decide⟩ rfl hA rfl ⟨_, _, _, rfl, m5⟩ (Nat.succ_pos _) (by rw [hlout]; exact Nat.le_trans (Nat.mul_le_mul_left _ (Nat.le_of_ble_eq_true (n := _) (m := 4096) rfl)) (by simp only [List.length_cons, List.length_nil]; omega)) (by rw [hlout]; simp only [List.length_cons, List.length_nil]; omega) ?_
    intro v8 H8 hA8 hF8 hs8
    have hS2 : ∀ b, S' b → ¬ Zo b := fun b hb hz => (hS' b hb).elim (hZ b hz).2.2 (fun h => by have := (hZ b hz).2.1; omega)
    have hlt5 : ∀ b, S' b → b < H7.size := hM'.lt
    have hM8 := hM'.fr hF8 (fun b _ hb => hS2 b hb)
    have hg8 := hF8.size
    refine ⟨trivial, ?_⟩
    refine O.asg rfl rfl rfl rfl rfl ?_
    refine Pl.fin [(8, _), (9, _), (11, _), (12, _), (13, _), (17, _), (18, _), (19, _), (20, _)] ⟨rfl, rfl, rfl, rfl, rfl, rfl, rfl, rfl, rfl, trivial⟩ ?_
    refine Go'.inBlock ?_
    -- region 8 (map.go:81)
    refine Go'.region [(0, 0), (1, 0)] rfl ?_
    refine O.add (((j + 1 : Nat) : Int)) rfl rfl rfl rfl rfl rfl (by omega) (by omega) ?_
    refine O.mv rfl rfl rfl rfl rfl ?_
    refine Pl.fin [(8, _), (9, _), (11, _), (12, _), (13, _), (17, _), (18, _), (19, _), (20, _)] ⟨rfl, rfl, rfl, rfl, rfl, rfl, rfl, rfl, rfl, trivial⟩ ?_
    refine Go'.keep [(8, _), (9, _), (17, _), (18, _), (19, _)] ⟨rfl, rfl, rfl, rfl, rfl, trivial⟩ ?_
    refine Go'.inLoop ?_
    exact ih (j + 1, v8) H8 ⟨(((hF.trans' hF' (fun _ _ _ h => h) (fun b o hb hz => by have h1 := hS b hz; omega)).trans hF6).trans (M7.fr nowhere)).trans' hF8 (fun _ _ _ h => h) (fun b o hb hz => by have h1 := (hZ b hz).1; omega), hlt, S', (fun b => Zo b ∨ (b = H7.size ∧ b < H8.size)), by
      simp only
      rw [erun]
      exact hM8, fun b hb => (hS' b hb).elim (hS b) (fun h => by omega), by
      simp only
      rw [erun]
      exact hA8, fun b hb => hb.elim (fun h => ⟨(hZ b h).1, by have := (hZ b h).2.1; omega, fun hs => hS2 b hs h⟩) (fun h => ⟨by omega, h.2, fun hs => by have := hlt5 b hs; omega⟩)⟩ (by simp only; omega)
  · skip
    obtain rfl : j = ks.length := by omega
    rw [List.take_length] at hM hA hpl
    -- region 4 (map.go:81)
    refine Go'.region [(0, 0)] rfl ?_
    refine O.cmp rfl rfl rfl rfl rfl rfl (lssF (by omega)) ?_
    refine Pl.fin [(8, _), (9, _), (17, _), (18, _), (19, _), (20, _)] ⟨rfl, rfl, rfl, rfl, rfl, rfl, trivial⟩ ?_
    refine Go'.seq ?_
    refine Go'.condF rfl ?_
    refine Go'.exit rfl ?_
    refine Go'.seq ?_
    -- region 9 (map.go:85)
    refine Go'.region [(0, 0), (1, 0), (2, 2), (3, 0), (4, 0)] rfl ?_
    refine O.mv rfl rfl rfl rfl rfl ?_
    refine O.mv rfl rfl rfl rfl rfl ?_
    refine O.call rfl rfl rfl Go.Proofs.Try.call55 rfl (entries_spec hP hM (by omega)) ?_
    rintro v9 H9 ⟨hv9, hF9⟩
    refine ⟨trivial, ?_⟩
    refine O.asg rfl rfl rfl rfl rfl ?_
    refine O.asg rfl rfl rfl rfl rfl ?_
    refine Pl.fin [(6, _), (7, _)] ⟨rfl, rfl, trivial⟩ ?_
    refine Go'.ret (vs := [_, _]) Go.Proofs.Try.func68 Go.Proofs.Try.results68 ⟨rfl, rfl, trivial⟩ ?_
    exact ⟨_, _, rfl, (hA.fr hF9 (fun _ _ _ _ => nw)).out, hv9, hF.trans hF9⟩

end Go.Bt
namespace Go.Bt
open Go Go.Proofs
set_option maxRecDepth 20000
set_option maxHeartbeats 4000000
set_option linter.unusedVariables false

theorem cut_specA {B : World} {H : Mem} {u : Value} {l : List (Int × Int)} (z : Int) (hi : InS EJ H u l) (hll : l.length ≤ 4294967296) :
    Fn Try.prog B 110 [u, .int .i64 z] H (fun r H' => ∃ sv, r = .tuple #[sv, FV (ath l z)] ∧ ((ath l z = none ∧ sv = u) ∨ Acc EJ (fun b => H.size ≤ b) H' sv (cutl l z)) ∧ Fr nowhere H H') := by
  have hF : Fr nowhere H H := Fr.refl _ _
  obtain ⟨a, c, hu⟩ := hi.len
  subst hu
  have hi0 := hi
  refine fn_of Go.Proofs.Try.func110 rfl Go.Proofs.Try.ntmps110 ?_
  refine (show Go' _ _ _ _ 31 [(0, _), (1, _)] [.code _] _ from ?_)
  refine Go'.seq ?_
  -- region 0 (list.go:59)
  refine Go'.region [(0, 0), (1, 2)] rfl ?_
  refine O.asg rfl rfl rfl rfl rfl ?_
  refine O.alloc rfl rfl rfl Go.Proofs.Try.zeroValue37 ?_
  intro H1 M1
  refine ⟨trivial, ?_⟩
  have hs1 := M1.size
  replace hi := hi.fr (M1.fr nowhere)
  replace hF := hF.trans' (M1.fr nowhere) (fun _ _ _ h => h) (fun _ _ _ h => h.elim)
  have m5 : Wr H1 H.size 0 3 := M1.wr 3 (by decide)
  refine Pl.fin [(0, _), (1, _), (4, _), (5, _)] ⟨rfl, rfl, rfl, rfl, trivial⟩ ?_
  refine Go'.seq ?_
  refine Go'.seq ?_
  by_cases hz : z < 0
  · -- below
    have ha0 : ath l z = none := by unfold ath; rw [if_pos hz]
    -- region 1 (list.go:60)
    refine Go'.region [(0, 0), (1, 0), (2, 0), (3, 0), (4, 0), (5, 0), (6, 0), (7, 0)] rfl ?_
    refine O.mv rfl rfl rfl rfl rfl ?_
    refine O.cmp rfl rfl rfl rfl rfl rfl (lssT (by omega)) ?_
    refine O.mv rfl rfl rfl rfl rfl ?_
    refine Pl.pass rfl rfl rfl rfl ?_
    refine Pl.pass rfl rfl rfl rfl ?_
    refine Pl.pass rfl rfl rfl rfl ?_
    refine Pl.pass rfl rfl rfl rfl ?_
    refine O.pick rfl rfl rfl rfl rfl rfl ?_
    refine Pl.fin [(0, _), (1, _), (4, _), (5, _), (13, _)] ⟨rfl, rfl, rfl, rfl, rfl, trivial⟩ ?_
    refine Go'.condT rfl ?_
    refine Go'.seq ?_
    -- region 2 (list.go:61)
    refine Go'.region [(0, 0), (1, 0), (2, 0), (3, 2)] rfl ?_
    refine O.mv rfl rfl rfl rfl rfl ?_
    refine O.bld (cs := (fvs none)) rfl rfl rfl rfl (st37) rfl (by kernel_rfl) ?_
    refine O.asg rfl rfl rfl rfl rfl ?_
    refine O.st rfl rfl Go.Proofs.Try.sizeOf37 rfl rfl rfl rfl rfl m5 ?_
    intro H2 W2
    replace hF := hF.trans' W2.fr (fun _ _ _ h => h) (fun b o hb hz => by have h1 := hz.1; omega)
    refine ⟨trivial, ?_⟩
    refine Pl.fin [(0, _), (1, _), (4, _), (5, _)] ⟨rfl, rfl, rfl, rfl, trivial⟩ ?_
    refine Go'.ret (vs := [_, _]) Go.Proofs.Try.func110 Go.Proofs.Try.results110 ⟨rfl, ⟨_, _, rfl, fun _ _ => run_loadVar_agg (fun w => ⟨Go.Proofs.Try.isAgg37 w, Go.Proofs.Try.sizeOf37 w⟩) rfl W2.all⟩, trivial⟩ ?_
    exact ⟨_, by rw [ha0]; rfl, .inl ⟨ha0, rfl⟩, hF⟩
  obtain ⟨i, rfl⟩ := Int.eq_ofNat_of_zero_le (by omega : 0 ≤ z)
  by_cases hil : l.length ≤ i
  · -- above
    have ha0 : ath l (i : Int) = none := by rw [ath_nat, List.getElem?_eq_none hil]
    -- region 1 (list.go:60)
    refine Go'.region [(0, 0), (1, 0), (2, 0), (3, 0), (4, 0), (5, 0), (6, 0), (7, 0)] rfl ?_
    refine O.mv rfl rfl rfl rfl rfl ?_
    refine O.cmp rfl rfl rfl rfl rfl rfl (lssF (by omega)) ?_
    refine O.mv rfl rfl rfl rfl rfl ?_
    refine O.mv rfl rfl rfl rfl rfl ?_
    refine O.mv rfl rfl rfl rfl rfl ?_
    refine O.len rfl rfl rfl rfl Go.Proofs.Try.underlying22 rfl ?_
    refine O.cmp rfl rfl rfl rfl rfl rfl (geqT (by omega)) ?_
    refine O.pick rfl rfl rfl rfl rfl rfl ?_
    refine Pl.fin [(0, _), (1, _), (4, _), (5, _), (13, _)] ⟨rfl, rfl, rfl, rfl, rfl, trivial⟩ ?_
    refine Go'.condT rfl ?_
    refine Go'.seq ?_
    -- region 2 (list.go:61)
    refine Go'.region [(0, 0), (1, 0), (2, 0), (3, 2)] rfl ?_
    refine O.mv rfl rfl rfl rfl rfl ?_
    refine O.bld (cs := (fvs none)) rfl rfl rfl rfl (st37) rfl (by kernel_rfl) ?_
    refine O.asg rfl rfl rfl rfl rfl ?_
    refine O.st rfl rfl Go.Proofs.Try.sizeOf37 rfl rfl rfl rfl rfl m5 ?_
    intro H2 W2
    replace hF := hF.trans' W2.fr (fun _ _ _ h => h) (fun b o hb hz => by have h1 := hz.1; omega)
    refine ⟨trivial, ?_⟩
    refine Pl.fin [(0, _), (1, _), (4, _), (5, _)] ⟨rfl, rfl, rfl, rfl, trivial⟩ ?_
    refine Go'.ret (vs := [_, _]) Go.Proofs.Try.func110 Go.Proofs.Try.results110 ⟨rfl, ⟨_, _, rfl, fun _ _ => run_loadVar_agg (fun w => ⟨Go.Proofs.Try.isAgg37 w, Go.Proofs.Try.sizeOf37 w⟩) rfl W2.all⟩, trivial⟩ ?_
    exact ⟨_, by rw [ha0]; rfl, .inl ⟨ha0, rfl⟩, hF⟩
  replace hil : i < l.length := by omega
  obtain ⟨y, hy⟩ : ∃ y, l[i]? = some y := ⟨l[i], List.getElem?_eq_getElem hil⟩
  obtain ⟨bl, ol, cc, hue, hir⟩ := hi.at hy
  have hbl : bl < H.size := by
    obtain ⟨b0, o0, c0, hue0, hir0⟩ := hi0.at hy
    rw [hue] at hue0
    cases hue0
    exact cl_lt (hir0 0 _ rfl)
  cases hue
  have hl1 : (l.take i).length = i := by rw [List.length_take]; omega
  -- region 1 (list.go:60)
  refine Go'.region [(0, 0), (1, 0), (2, 0), (3, 0), (4, 0), (5, 0), (6, 0), (7, 0)] rfl ?_
  refine O.mv rfl rfl rfl rfl rfl ?_
  refine O.cmp rfl rfl rfl rfl rfl rfl (lssF (by omega)) ?_
  refine O.mv rfl rfl rfl rfl rfl ?_
  refine O.mv rfl rfl rfl rfl rfl ?_
  refine O.mv rfl rfl rfl rfl rfl ?_
  refine O.len rfl rfl rfl rfl Go.Proofs.Try.underlying22 rfl ?_
  refine O.cmp rfl rfl rfl rfl rfl rfl (geqF (by omega)) ?_
  refine O.pick rfl rfl rfl rfl rfl rfl ?_
  refine Pl.fin [(0, _), (1, _), (4, _), (5, _), (13, _)] ⟨rfl, rfl, rfl, rfl, rfl, trivial⟩ ?_
  refine Go'.condF rfl ?_
  refine Go'.skip ?_
  refine Go'.seq ?_
  -- region 3 (list.go:63)
  refine Go'.draw (fun H' => Rd H' bl (ol + i * 2) (EJ.enc y)) [(1, 0), (2, 0), (3, 0), (5, 0), (6, 0), (7, 0), (8, 0), (10, 0), (11, 0), (12, 0), (13, 0), (14, 0), (0, 2), (4, 2), (9, 2), (15, 0), (16, 3)] (by kernel_rfl) (by kernel_rfl) (hir) ?_
  refine O.mv rfl rfl rfl rfl rfl ?_
  refine O.mv rfl rfl rfl rfl rfl ?_
  refine O.slcIn (E := EJ) (jl := 0) (jh := i) rfl rfl rfl rfl Go.Proofs.Try.underlying22 Go.Proofs.Try.sizeOf35 rfl hi ⟨_, by rfl⟩ rfl (by omega) (by omega) ?_
  intro v1 hv1
  rw [List.drop_zero, Nat.sub_zero] at hv1
  refine O.mv rfl rfl rfl rfl rfl ?_
  refine O.mv rfl rfl rfl rfl rfl ?_
  refine O.add (((i + 1 : Nat) : Int)) rfl rfl rfl rfl rfl rfl (by omega) (by omega) ?_
  refine O.slcIn (E := EJ) (jl := i + 1) (jh := l.length) rfl rfl rfl rfl Go.Proofs.Try.underlying22 Go.Proofs.Try.sizeOf35 rfl hi rfl ⟨_, by rfl⟩ (by omega) (by omega) ?_
  intro v2 hv2
  rw [List.take_of_length_le (by rw [List.length_drop]; omega)] at hv2
  refine O.mv rfl rfl rfl rfl rfl ?_
  refine O.mv rfl rfl rfl rfl rfl ?_
  refine O.ix (j := i) rfl rfl rfl rfl Go.Proofs.Try.underlying22 Go.Proofs.Try.sizeOf35 rfl rfl (by omega) hil ?_
  refine O.ldsC rfl rfl rfl (fun w => ⟨Go.Proofs.Try.isAgg35 w, Go.Proofs.Try.sizeOf35 w⟩) rfl rfl (fun _ h => h) ?_
  refine O.bld (cs := (fvs (some y))) rfl rfl rfl rfl (st37) rfl (by kernel_rfl) ?_
  refine O.bsl (cs := []) rfl rfl rfl ⟨Go.Proofs.Try.underlying22, Go.Proofs.Try.sizeOf35, Go.Proofs.Try.zeroValue35, ⟨_, Go.Proofs.Try.typeInfo35, rfl⟩, rfl, by decide, by decide⟩ rfl (by decide) (by kernel_rfl) ?_
  intro H4 M4
  have hs4 := M4.size
  replace hi := hi.fr (M4.fr nowhere)
  replace m5 := (M4.fr nowhere).wr m5
  replace hir := (M4.fr nowhere).rd hir (fun _ _ => nw)
  replace hv1 := hv1.fr (M4.fr nowhere)
  replace hv2 := hv2.fr (M4.fr nowhere)
  replace hF := hF.trans' (M4.fr nowhere) (fun _ _ _ h => h) (fun _ _ _ h => h.elim)
  refine ⟨hir, ?_⟩
  refine O.app (m := (l.take i).length) (news := (row EJ (l.take i))) rfl rfl rfl ⟨Go.Proofs.Try.underlying22, Go.Proofs.Try.sizeOf35, Go.Proofs.Try.zeroValue35, ⟨_, Go.Proofs.Try.typeInfo35, rfl⟩, rfl, by decide, by decide⟩ rfl (Sl.none _ _ _ _) rfl hv1.src (row_len EJ _) (row_ones EJ _) (Nat.le_trans (Nat.mul_le_mul_left _ (Nat.le_of_ble_eq_true (n := _) (m := 4096) rfl)) (by omega)) (by omega) ?_
  intro b1 o1 c1 H5 ha
  have hsz5 := ha.fr.size
  have hsl1 : Sl H5 b1 o1 (0 + (l.take i).length) c1 2 (row EJ (l.take i)) := ha.sl
  have hb1 : H.size + 1 ≤ b1 := by rcases ha.place with ⟨r, _⟩ | ⟨r, _⟩ <;> omega
  have hb1x : b1 < H5.size := by rcases ha.place with ⟨r, _⟩ | ⟨r, _, r3⟩ <;> omega
  replace hi := hi.fr ha.quiet
  replace m5 := ha.quiet.wr m5
  replace hir := ha.quiet.rd hir (fun _ _ => nw)
  replace hv2 := hv2.fr ha.quiet
  replace hF := hF.trans' ha.quiet (fun _ _ _ h => h) (fun _ _ _ h => h.elim)
  refine ⟨hir, ?_⟩
  refine O.app (m := (l.drop (i + 1)).length) (news := (row EJ (l.drop (i + 1)))) rfl rfl rfl ⟨Go.Proofs.Try.underlying22, Go.Proofs.Try.sizeOf35, Go.Proofs.Try.zeroValue35, ⟨_, Go.Proofs.Try.typeInfo35, rfl⟩, rfl, by decide, by decide⟩ rfl hsl1 rfl hv2.src (row_len EJ _) (row_ones EJ _) (Nat.le_trans (Nat.mul_le_mul_left _ (Nat.le_of_ble_eq_true (n := _) (m := 4096) rfl)) (by rw [List.length_drop]; omega)) (by rw [List.length_drop]; omega) ?_
  intro b3 o3 c3 H8 ha3
  have hsz8 := ha3.fr.size
  have hsl3 : SlE EJ H8 b3 o3 c3 (l.take i ++ l.drop (i + 1)) := SlE.of ha3.sl (by rw [← row_append]) (by rw [List.length_append, Nat.zero_add])
  have hb3 : H.size + 1 ≤ b3 := by rcases ha3.place with ⟨r, _⟩ | ⟨r, _⟩ <;> omega
  have hb3x : b3 < H8.size := by rcases ha3.place with ⟨r, _⟩ | ⟨r, _, r3⟩ <;> omega
  replace m5 := ha3.fr.wr m5
  replace hir := ha3.fr.rd hir (fun _ _ => nr (.inl (by omega)))
  replace hF := hF.trans' ha3.fr (fun _ _ _ h => h) (fun b o hb hz => by have h1 := hz.1; omega)
  refine ⟨hir, ?_⟩
  refine O.asg rfl rfl rfl rfl rfl ?_
  refine O.st3 rfl rfl Go.Proofs.Try.sizeOf37 rfl rfl rfl rfl rfl m5 ?_
  intro H9 W9
  replace hsl3 := hsl3.fr W9.fr (fun _ _ _ => nr (.inl (by omega)))
  replace hF := hF.trans' W9.fr (fun _ _ _ h => h) (fun b o hb hz => by have h1 := hz.1; omega)
  refine Pl.fin [(4, _), (5, _)] ⟨rfl, rfl, trivial⟩ ?_
  refine Go'.ret (vs := [_, _]) Go.Proofs.Try.func110 Go.Proofs.Try.results110 ⟨rfl, ⟨_, _, rfl, fun _ _ => run_loadVar_agg (fun w => ⟨Go.Proofs.Try.isAgg37 w, Go.Proofs.Try.sizeOf37 w⟩) rfl W9.all⟩, trivial⟩ ?_
  have hc : cutl l (i : Int) = l.take i ++ l.drop (i + 1) := by unfold cutl; rw [if_neg (by omega)]; rfl
  refine ⟨_, by rw [ath_nat, hy]; rfl, .inr ?_, hF⟩
  rw [hc]
  exact .inr ⟨b3, o3, c3, by rw [List.length_append, Nat.zero_add], by omega, by have := W9.size; omega, hsl3⟩


theorem drop_spec {B : World} {H : Mem} {v u : Value} {ord : List Int} {l : List (Int × Int)} {x : Int × Int} (ho : InS EN H v ord) (hl : ord.length < 4611686018427387904) (hi : InS EJ H u l) (hs : Pl.Srt (OO ord) l) (hll : l.length ≤ 4294967296) :
    Fn Try.prog B 105 [v, u, .agg (EJ.enc x).toArray] H (fun r H' => ∃ sv, r = .tuple #[sv, FV (Pl.got (OO ord) x l)] ∧ ((Pl.fnd (OO ord) x l = false ∧ sv = u) ∨ Acc EJ (fun b => H.size + 1 ≤ b) H' sv (Pl.del (OO ord) x l)) ∧ Fr nowhere H H') := by
  refine fn_of Go.Proofs.Try.func105 rfl Go.Proofs.Try.ntmps105 ?_
  refine (show Go' _ _ _ _ 26 [(0, _), (1, _), (2, _)] [.code _] _ from ?_)
  refine Go'.seq ?_
  -- region 0 (list.go:67)
  refine Go'.region [(0, 2), (1, 0), (2, 2)] rfl ?_
  refine O.box rfl rfl rfl rfl ?_
  intro H1 M1
  refine ⟨trivial, ?_⟩
  have hs1 := M1.size
  have mx : Rd H1 H.size 0 (EJ.enc x) := M1.rd _ [] (by simp [Value.cells])
  refine O.asg rfl rfl rfl rfl rfl ?_
  refine O.alloc rfl rfl rfl Go.Proofs.Try.zeroValue37 ?_
  intro H2 M2
  refine ⟨trivial, ?_⟩
  have hs2 := M2.size
  have w7 : Wr H2 H1.size 0 3 := M2.wr 3 (by decide)
  have hF2 : Fr nowhere H H2 := (M1.fr nowhere).trans (M2.fr nowhere)
  replace mx := (M2.fr nowhere).rd mx (fun _ _ => nw)
  replace ho := ho.fr hF2
  replace hi := hi.fr hF2
  refine Pl.fin [(0, _), (1, _), (5, _), (6, _), (7, _)] ⟨rfl, rfl, rfl, rfl, rfl, trivial⟩ ?_
  refine Go'.seq ?_
  -- region 1 (list.go:68)
  refine Go'.region [(0, 0), (1, 0), (2, 1), (3, 2), (4, 0), (5, 0), (6, 0), (7, 0), (8, 0)] rfl ?_
  refine O.mv rfl rfl rfl rfl rfl ?_
  refine O.mv rfl rfl rfl rfl rfl ?_
  refine O.lds rfl rfl rfl (fun w => ⟨Go.Proofs.Try.isAgg35 w, Go.Proofs.Try.sizeOf35 w⟩) rfl rfl mx ?_
  refine O.call rfl rfl rfl Go.Proofs.Try.call103 rfl (place_spec ho hl hi hs (by omega)) ?_
  rintro _ H3 ⟨rfl, hF3⟩
  have hs3 := hF3.size
  replace hi := hi.fr hF3
  replace w7 := hF3.wr w7
  replace hF2 := hF2.trans hF3
  refine ⟨trivial, ?_⟩
  refine O.mv rfl rfl rfl rfl rfl ?_
  refine O.ext rfl rfl rfl rfl rfl rfl ?_
  refine O.ext rfl rfl rfl rfl rfl rfl ?_
  refine O.asg rfl rfl rfl rfl rfl ?_
  refine O.asg rfl rfl rfl rfl rfl ?_
  refine Pl.fin [(1, _), (6, _), (7, _), (8, _), (9, _)] ⟨rfl, rfl, rfl, rfl, rfl, trivial⟩ ?_
  refine Go'.seq ?_
  refine Go'.seq ?_
  cases hf : Pl.fnd (OO ord) x l
  · skip
    -- region 2 (list.go:69)
    refine Go'.region [(0, 0), (1, 0)] rfl ?_
    refine O.mv rfl rfl rfl rfl rfl ?_
    refine O.not rfl rfl rfl rfl rfl ?_
    refine Pl.fin [(1, _), (6, _), (7, _), (8, _), (18, _)] ⟨rfl, rfl, rfl, rfl, rfl, trivial⟩ ?_
    refine Go'.condT rfl ?_
    refine Go'.seq ?_
    -- region 3 (list.go:70)
    refine Go'.region [(0, 0), (1, 0), (2, 0), (3, 2)] rfl ?_
    refine O.mv rfl rfl rfl rfl rfl ?_
    refine O.bld (cs := (fvs none)) rfl rfl rfl rfl (st37) rfl (by kernel_rfl) ?_
    refine O.asg rfl rfl rfl rfl rfl ?_
    refine O.st rfl rfl Go.Proofs.Try.sizeOf37 rfl rfl rfl rfl rfl w7 ?_
    intro H4 W4
    have hs4 := W4.size
    have hF4 := hF2.trans' W4.fr (Z := nowhere) (fun _ _ _ h => h) (fun b o hb h => by simp only [rng] at h; omega)
    have m7 : Rd H4 H1.size 0 (fvs none) := W4.all
    refine ⟨trivial, ?_⟩
    refine Pl.fin [(1, _), (6, _), (7, _), (8, _)] ⟨rfl, rfl, rfl, rfl, trivial⟩ ?_
    refine Go'.ret (vs := [_, _]) Go.Proofs.Try.func105 Go.Proofs.Try.results105 ⟨rfl, ⟨_, _, rfl, fun _ _ => run_loadVar_agg (fun w => ⟨Go.Proofs.Try.isAgg37 w, Go.Proofs.Try.sizeOf37 w⟩) rfl m7⟩, trivial⟩ ?_
    exact ⟨u, by rw [Pl.got_none (OO ord) hf]; rfl, .inl ⟨rfl, rfl⟩, hF4⟩
  · skip
    -- region 2 (list.go:69)
    refine Go'.region [(0, 0), (1, 0)] rfl ?_
    refine O.mv rfl rfl rfl rfl rfl ?_
    refine O.not rfl rfl rfl rfl rfl ?_
    refine Pl.fin [(1, _), (6, _), (7, _), (8, _), (18, _)] ⟨rfl, rfl, rfl, rfl, rfl, trivial⟩ ?_
    refine Go'.condF rfl ?_
    refine Go'.skip ?_
    refine Go'.seq ?_
    -- region 4 (list.go:72)
    refine Go'.region [(0, 0), (1, 0), (2, 2), (3, 0), (4, 0), (5, 0), (6, 2)] rfl ?_
    refine O.mv rfl rfl rfl rfl rfl ?_
    refine O.mv rfl rfl rfl rfl rfl ?_
    refine O.call rfl rfl rfl Go.Proofs.Try.call110 rfl (cut_specA ((Pl.pos (OO ord) x l : Nat) : Int) hi hll) ?_
    rintro _ H4 ⟨sv, rfl, hsv, hF4⟩
    have hs4 := hF4.size
    replace w7 := hF4.wr w7
    replace hF2 := hF2.trans hF4
    obtain ⟨y, hy, _, _⟩ := Pl.fnd_at (OO ord) hs hf
    have hath : ath l ((Pl.pos (OO ord) x l : Nat) : Int) = some y := by rw [ath_nat, hy]
    rw [hath] at hsv ⊢
    replace hsv := hsv.elim (fun h => by cases h.1) id
    unfold FV
    refine ⟨trivial, ?_⟩
    refine O.ext rfl rfl rfl rfl rfl rfl ?_
    refine O.ext rfl rfl rfl rfl rfl rfl ?_
    refine O.asg rfl rfl rfl rfl rfl ?_
    refine O.st (vs := (fvs (some y))) rfl rfl Go.Proofs.Try.sizeOf37 rfl rfl rfl rfl rfl w7 ?_
    intro H5 W5
    have hs5 := W5.size
    have hF5 := hF2.trans' W5.fr (Z := nowhere) (fun _ _ _ h => h) (fun b o hb h => by simp only [rng] at h; omega)
    have m7 : Rd H5 H1.size 0 (fvs (some y)) := W5.all
    refine ⟨trivial, ?_⟩
    refine Pl.fin [(6, _), (7, _)] ⟨rfl, rfl, trivial⟩ ?_
    refine Go'.ret (vs := [_, _]) Go.Proofs.Try.func105 Go.Proofs.Try.results105 ⟨rfl, ⟨_, _, rfl, fun _ _ => run_loadVar_agg (fun w => ⟨Go.Proofs.Try.isAgg37 w, Go.Proofs.Try.sizeOf37 w⟩) rfl m7⟩, trivial⟩ ?_
    have hdel : cutl l ((Pl.pos (OO ord) x l : Nat) : Int) = Pl.del (OO ord) x l := by
      unfold cutl Pl.del
      rw [if_neg (by omega), hf]
      simp
    rw [hdel] at hsv
    exact ⟨sv, by rw [Pl.got_some (OO ord) hf, hy]; rfl, .inr ((hsv.fr W5.fr (fun b o hb hz => nr (.inl (by omega)))).mono fun b _ hz => by omega), hF5⟩

theorem specItems_spec {B : World} {H : Mem} {v : Value} {ks : List Int} (hk : InS EN H v ks) (hkl : ks.length ≤ 4294967296) :
    Fn Try.prog B 70 [v] H (fun r H' => OutS EJ H' r (ks.map fun k => (k, (0 : Int))) ∧ Fr nowhere H H') := by
  obtain ⟨a, c, hu⟩ := hk.len
  subst hu
  refine fn_of Go.Proofs.Try.func70 rfl Go.Proofs.Try.ntmps70 ?_
  refine (show Go' _ _ _ _ 19 [(0, _)] [.code _] _ from ?_)
  refine Go'.seq ?_
  -- region 0 (list.go:192)
  refine Go'.region [(0, 0)] rfl ?_
  refine O.asg rfl rfl rfl rfl rfl ?_
  refine Pl.fin [(0, _), (2, _)] ⟨rfl, rfl, trivial⟩ ?_
  refine Go'.seq ?_
  -- region 1 (list.go:193)
  refine Go'.region [(0, 0)] rfl ?_
  refine O.asg rfl rfl rfl rfl rfl ?_
  refine Pl.fin [(0, _), (2, _), (3, _)] ⟨rfl, rfl, rfl, trivial⟩ ?_
  refine Go'.seq ?_
  refine Go'.seq ?_
  -- region 2 (list.go:194)
  refine Go'.region [(0, 0), (1, 0), (2, 0)] rfl ?_
  refine O.mv rfl rfl rfl rfl rfl ?_
  refine O.len rfl rfl rfl rfl Go.Proofs.Try.underlying39 rfl ?_
  refine O.mv rfl rfl rfl rfl rfl ?_
  refine Pl.fin [(2, _), (3, _), (6, _), (7, _), (8, _)] ⟨rfl, rfl, rfl, rfl, rfl, trivial⟩ ?_
  refine Go'.block ?_
  refine Go'.loop ?_
  refine Go'.keep [(3, _), (6, _), (7, _), (8, _)] ⟨rfl, rfl, rfl, rfl, trivial⟩ ?_
  refine Go'.ind (σ := Nat × Value) (fun s => ks.length - s.1) (fun s H' => Fr nowhere H H' ∧ s.1 ≤ ks.length ∧ Acc EJ (fun b => H.size ≤ b) H' s.2 ((ks.take s.1).map fun k => (k, (0 : Int))))
    (fun s => [(3, s.2), (6, .slice a ks.length c), (7, .int .i64 (ks.length : Int)), (8, .int .i64 (s.1 : Int))]) (0, .slice none 0 0) ⟨Fr.refl _ _, Nat.zero_le _, Acc.nil _ _ _⟩ rfl ?_
  rintro ⟨j, sv⟩ H2 ⟨hF, hjl, hA⟩ ih
  simp only at hjl hA
  have hi2 := hk.fr hF
  have hsz := hF.size
  refine Go'.seq ?_
  by_cases hlt : j < ks.length
  · skip
    obtain ⟨y, hy⟩ : ∃ y, ks[j]? = some y := ⟨ks[j], List.getElem?_eq_getElem hlt⟩
    obtain ⟨b, o, c', e, hr⟩ := hi2.at hy
    cases e
    have etk : (ks.take (j + 1)).map (fun k => (k, (0 : Int))) = (ks.take j).map (fun k => (k, (0 : Int))) ++ [(y, 0)] := by rw [List.take_add_one, hy]; simp
    -- region 3 (list.go:194)
    refine Go'.region [(0, 0)] rfl ?_
    refine O.cmp rfl rfl rfl rfl rfl rfl (lssT (by omega)) ?_
    refine Pl.fin [(3, _), (6, _), (7, _), (8, _), (9, _)] ⟨rfl, rfl, rfl, rfl, rfl, trivial⟩ ?_
    refine Go'.seq ?_
    refine Go'.condT rfl ?_
    refine Go'.skip ?_
    refine Go'.seq ?_
    refine Go'.block ?_
    refine Go'.seq ?_
    -- region 4 (list.go:194)
    refine Go'.region [(0, 0), (1, 1), (2, 0)] rfl ?_
    refine O.ix (j := j) rfl rfl rfl rfl Go.Proofs.Try.underlying39 Go.Proofs.Try.sizeOf3 rfl rfl (by omega) hlt ?_
    refine O.ld rfl rfl rfl (fun w => ⟨Go.Proofs.Try.isAgg3 w, Go.Proofs.Try.sizeOf3 w⟩) rfl (hr 0 _ rfl) ?_
    refine O.asg rfl rfl rfl rfl rfl ?_
    refine Pl.fin [(3, _), (5, _), (6, _), (7, _), (8, _), (9, _)] ⟨rfl, rfl, rfl, rfl, rfl, rfl, trivial⟩ ?_
    -- region 5 (list.go:195)
    refine Go'.region [(0, 0), (1, 0), (2, 0), (3, 2), (4, 2), (5, 0)] rfl ?_
    refine O.mv rfl rfl rfl rfl rfl ?_
    refine O.mv rfl rfl rfl rfl rfl ?_
    refine O.bld (cs := (EJ.enc (y, 0))) rfl rfl rfl rfl (st35) rfl (by kernel_rfl) ?_
    refine O.bsl (cs := (EJ.enc (y, 0))) rfl rfl rfl ⟨Go.Proofs.Try.underlying22, Go.Proofs.Try.sizeOf35, Go.Proofs.Try.zeroValue35, ⟨_, Go.Proofs.Try.typeInfo35, rfl⟩, rfl, by decide, by decide⟩ rfl (by decide) (by kernel_rfl) ?_
    intro H3 M3
    have hs3 := M3.size
    replace hA := hA.fr (M3.fr nowhere) (fun _ _ _ _ => nw)
    have m5 : Rd H3 H2.size 0 (row EJ [(y, (0 : Int))]) := M3.rd _ [] (by simp [row, EJ])
    refine ⟨trivial, ?_⟩
    refine O.appA (E := EJ) (Y := [(y, (0 : Int))]) rfl rfl rfl ⟨Go.Proofs.Try.underlying22, Go.Proofs.Try.sizeOf35, Go.Proofs.Try.zeroValue35, ⟨_, Go.Proofs.Try.typeInfo35, rfl⟩, rfl, by decide, by decide⟩ rfl hA rfl ⟨_, _, _, rfl, m5⟩ (Nat.succ_pos _) (by rw [List.length_map, List.length_take]; exact Nat.le_trans (Nat.mul_le_mul_left _ (Nat.le_of_ble_eq_true (n := _) (m := 4096) rfl)) (by simp only [List.length_cons, List.length_nil]; omega)) (by rw [List.length_map, List.length_take]; simp only [List.length_cons, List.length_nil]; omega) ?_
    intro v8 H8 hA8 hF8 hs8
    have hg8 := hF8.size
    refine ⟨trivial, ?_⟩
    refine O.asg rfl rfl rfl rfl rfl ?_
    refine Pl.fin [(3, _), (5, _), (6, _), (7, _), (8, _), (9, _)] ⟨rfl, rfl, rfl, rfl, rfl, rfl, trivial⟩ ?_
    refine Go'.inBlock ?_
    -- region 6 (list.go:194)
    refine Go'.region [(0, 0), (1, 0)] rfl ?_
    refine O.add (((j + 1 : Nat) : Int)) rfl rfl rfl rfl rfl rfl (by omega) (by omega) ?_
    refine O.mv rfl rfl rfl rfl rfl ?_
    refine Pl.fin [(3, _), (5, _), (6, _), (7, _), (8, _), (9, _)] ⟨rfl, rfl, rfl, rfl, rfl, rfl, trivial⟩ ?_
    refine Go'.keep [(3, _), (6, _), (7, _), (8, _)] ⟨rfl, rfl, rfl, rfl, trivial⟩ ?_
    refine Go'.inLoop ?_
    refine ih (j + 1, v8) H8 ⟨(hF.trans (M3.fr nowhere)).trans' hF8 (fun _ _ _ h => h) (fun b o hb hz => by have h1 : H.size ≤ b := hz; omega), hlt, ?_⟩ (by simp only; omega)
    simp only
    rw [etk]
    exact hA8.mono (fun b _ hz => hz.elim id (fun h => by omega))
  · skip
    obtain rfl : j = ks.length := by omega
    rw [List.take_length] at hA
    -- region 3 (list.go:194)
    refine Go'.region [(0, 0)] rfl ?_
    refine O.cmp rfl rfl rfl rfl rfl rfl (lssF (by omega)) ?_
    refine Pl.fin [(3, _), (6, _), (7, _), (8, _), (9, _)] ⟨rfl, rfl, rfl, rfl, rfl, trivial⟩ ?_
    refine Go'.seq ?_
    refine Go'.condF rfl ?_
    refine Go'.exit rfl ?_
    refine Go'.seq ?_
    -- region 7 (list.go:197)
    refine Go'.region [(0, 0), (1, 0)] rfl ?_
    refine O.mv rfl rfl rfl rfl rfl ?_
    refine O.asg rfl rfl rfl rfl rfl ?_
    refine Pl.fin [(2, _)] ⟨rfl, trivial⟩ ?_
    refine Go'.ret (vs := [_]) Go.Proofs.Try.func70 Go.Proofs.Try.results70 ⟨rfl, trivial⟩ ?_
    exact ⟨hA.out, hF⟩

end Go.Bt
namespace Go.Bt
open Go Go.Proofs
set_option maxRecDepth 20000
set_option maxHeartbeats 4000000
set_option linter.unusedVariables false

theorem gdelete_spec {B : World} {H : Mem} {v u z dg nl : Value} {ord : List Int} {l ks : List (Int × Int)} (ho : InS EN H v ord) (hl : ord.length < 4611686018427387904) (hi : InS EJ H u l) (hll : l.length ≤ 4294967296) (hk : InS EJ H z ks) (hkl : ks.length ≤ 4294967296) :
    Fn Try.prog B 69 [.agg #[v, dg, nl], u, z] H (fun r H' => ∃ v1 v2, r = .tuple #[v1, v2] ∧ OutS EF H' v1 (Pl.runs (Pl.delk (OO ord)) (Pl.puts (OO ord) l) ks).2 ∧ InS EJ H' v2 (Pl.runs (Pl.delk (OO ord)) (Pl.puts (OO ord) l) ks).1 ∧ Fr nowhere H H') := by
  obtain ⟨a, c, hu⟩ := hk.len
  subst hu
  have hpl0 := Pl.puts_length (OO ord) l
  refine fn_of Go.Proofs.Try.func69 rfl Go.Proofs.Try.ntmps69 ?_
  refine (show Go' _ _ _ _ 38 [(0, _), (1, _), (2, _)] [.code _] _ from ?_)
  refine Go'.seq ?_
  -- region 0 (tree.go:32)
  refine Go'.region [(0, 2), (1, 0), (2, 0)] rfl ?_
  refine O.box rfl rfl rfl rfl ?_
  intro H1 M1
  refine ⟨trivial, ?_⟩
  have hs1 := M1.size
  have hF1 := M1.fr nowhere
  replace ho := ho.fr hF1
  replace hi := hi.fr hF1
  replace hk := hk.fr hF1
  have mi : cl H1 H.size 0 = some v := (M1.cl 0).trans rfl
  refine O.asg rfl rfl rfl rfl rfl ?_
  refine O.asg rfl rfl rfl rfl rfl ?_
  refine Pl.fin [(1, _), (2, _), (3, _), (6, _), (7, _)] ⟨rfl, rfl, rfl, rfl, rfl, trivial⟩ ?_
  refine Go'.seq ?_
  -- region 1 (tree.go:33)
  refine Go'.region [(0, 0), (1, 1), (2, 0), (3, 2), (4, 0)] rfl ?_
  refine O.faz rfl rfl rfl rfl ⟨_, _, _, Go.Proofs.Try.underlying58, rfl, rfl, Go.Proofs.Try.sizeOf39⟩ rfl ?_
  refine O.ld rfl rfl rfl (fun w => ⟨Go.Proofs.Try.isAgg39 w, Go.Proofs.Try.sizeOf39 w⟩) rfl mi ?_
  refine O.mv rfl rfl rfl rfl rfl ?_
  refine O.call rfl rfl rfl Go.Proofs.Try.call47 rfl (tree_spec ho hl hi hll) ?_
  rintro iv0 H2 ⟨hv0, hF2⟩
  have hs2 := hF2.size
  replace ho := ho.fr hF2
  replace hk := hk.fr hF2
  replace mi := hF2.keep mi nw
  have hF12 := hF1.trans hF2
  clear hi
  refine ⟨trivial, ?_⟩
  refine O.asg rfl rfl rfl rfl rfl ?_
  refine Pl.fin [(2, _), (3, _), (6, _), (7, _), (8, _)] ⟨rfl, rfl, rfl, rfl, rfl, trivial⟩ ?_
  refine Go'.seq ?_
  -- region 2 (tree.go:34)
  refine Go'.region [(0, 0)] rfl ?_
  refine O.asg rfl rfl rfl rfl rfl ?_
  refine Pl.fin [(2, _), (3, _), (6, _), (7, _), (8, _), (9, _)] ⟨rfl, rfl, rfl, rfl, rfl, rfl, trivial⟩ ?_
  refine Go'.seq ?_
  refine Go'.seq ?_
  -- region 3 (tree.go:35)
  refine Go'.region [(0, 0), (1, 0), (2, 0)] rfl ?_
  refine O.mv rfl rfl rfl rfl rfl ?_
  refine O.len rfl rfl rfl rfl Go.Proofs.Try.underlying22 rfl ?_
  refine O.mv rfl rfl rfl rfl rfl ?_
  refine Pl.fin [(3, _), (6, _), (7, _), (8, _), (9, _), (17, _), (18, _), (19, _)] ⟨rfl, rfl, rfl, rfl, rfl, rfl, rfl, rfl, trivial⟩ ?_
  refine Go'.block ?_
  refine Go'.loop ?_
  refine Go'.keep [(3, _), (8, _), (9, _), (17, _), (18, _), (19, _)] ⟨rfl, rfl, rfl, rfl, rfl, rfl, trivial⟩ ?_
  refine Go'.ind (σ := Nat × Value × Value × (Nat → Prop)) (fun s => ks.length - s.1) (fun s H' => Fr nowhere H2 H' ∧ s.1 ≤ ks.length ∧ Acc EF s.2.2.2 H' s.2.1 (Pl.runs (Pl.delk (OO ord)) (Pl.puts (OO ord) l) (ks.take s.1)).2 ∧ ((s.2.2.1 = iv0 ∧ (Pl.runs (Pl.delk (OO ord)) (Pl.puts (OO ord) l) (ks.take s.1)).1 = Pl.puts (OO ord) l) ∨ Acc EJ (fun b => ¬ s.2.2.2 b) H' s.2.2.1 (Pl.runs (Pl.delk (OO ord)) (Pl.puts (OO ord) l) (ks.take s.1)).1) ∧ ∀ b, s.2.2.2 b → H2.size ≤ b ∧ b < H'.size)
    (fun s => [(3, .pointer (some ⟨H.size, 0, none⟩)), (8, s.2.2.1), (9, s.2.1), (17, .slice a ks.length c), (18, .int .i64 (ks.length : Int)), (19, .int .i64 (s.1 : Int))]) (0, .slice none 0 0, iv0, fun _ => False) ⟨Fr.refl _ _, Nat.zero_le _, Acc.nil _ _ _, .inl ⟨rfl, rfl⟩, fun _ h => h.elim⟩ rfl ?_
  rintro ⟨j, sv, iv, Zo⟩ H3 ⟨hF, hjl, hA, hB, hZ⟩ ih
  simp only at hjl hA hB hZ
  have ho2 := ho.fr hF
  have hi2 := hk.fr hF
  have mi2 := hF.keep mi nw
  have hsz := hF.size
  have hpl := Pl.runs_le (Pl.delk_le (OO ord)) (Pl.puts (OO ord) l) (ks.take j)
  have hlout := Pl.runs_len (Pl.delk (OO ord)) (Pl.puts (OO ord) l) (ks.take j)
  have hsrt := Pl.runs_delk_srt (OO ord) (Pl.puts_srt (OO ord) l) (ks.take j)
  rw [List.length_take] at hlout
  have hin : InS EJ H3 iv (Pl.runs (Pl.delk (OO ord)) (Pl.puts (OO ord) l) (ks.take j)).1 := by
    rcases hB with ⟨e1, e2⟩ | hB
    · rw [e1, e2]; exact hv0.inS.fr hF
    · exact hB.inS
  refine Go'.seq ?_
  by_cases hlt : j < ks.length
  · skip
    obtain ⟨y, hy⟩ : ∃ y, ks[j]? = some y := ⟨ks[j], List.getElem?_eq_getElem hlt⟩
    obtain ⟨b, o, c', e, hr⟩ := hi2.at hy
    cases e
    have erun := Pl.runs_take (Pl.delk (OO ord)) (Pl.puts (OO ord) l) hy
    generalize hL : (Pl.runs (Pl.delk (OO ord)) (Pl.puts (OO ord) l) (ks.take j)).1 = L at *
    generalize hG : (Pl.runs (Pl.delk (OO ord)) (Pl.puts (OO ord) l) (ks.take j)).2 = G at *
    -- region 4 (tree.go:35)
    refine Go'.region [(0, 0)] rfl ?_
    refine O.cmp rfl rfl rfl rfl rfl rfl (lssT (by omega)) ?_
    refine Pl.fin [(3, _), (8, _), (9, _), (17, _), (18, _), (19, _), (20, _)] ⟨rfl, rfl, rfl, rfl, rfl, rfl, rfl, trivial⟩ ?_
    refine Go'.seq ?_
    refine Go'.condT rfl ?_
    refine Go'.skip ?_
    refine Go'.seq ?_
    refine Go'.block ?_
    refine Go'.seq ?_
    -- region 5 (tree.go:35)
    refine Go'.region [(0, 0), (1, 1), (2, 2), (3, 2)] rfl ?_
    refine O.ix (j := j) rfl rfl rfl rfl Go.Proofs.Try.underlying22 Go.Proofs.Try.sizeOf35 rfl rfl (by omega) hlt ?_
    refine O.lds rfl rfl rfl (fun w => ⟨Go.Proofs.Try.isAgg35 w, Go.Proofs.Try.sizeOf35 w⟩) rfl rfl hr ?_
    refine O.alloc rfl rfl rfl Go.Proofs.Try.zeroValue35 ?_
    intro H4 M4
    refine ⟨trivial, ?_⟩
    have hs4 := M4.size
    have m11 : Wr H4 H3.size 0 2 := M4.wr 2 (by decide)
    refine O.st rfl rfl Go.Proofs.Try.sizeOf35 rfl rfl rfl rfl rfl m11 ?_
    intro H5 W5
    have hs5 := W5.size
    have hf5 : Fr nowhere H3 H5 := (M4.fr nowhere).trans' W5.fr (fun _ _ _ h => h) (fun b o hb hz => by have h1 := hz.1; omega)
    have hx5 : Rd H5 H3.size 0 (EJ.enc y) := W5.all
    refine ⟨trivial, ?_⟩
    refine Pl.fin [(3, _), (8, _), (9, _), (11, _), (17, _), (18, _), (19, _), (20, _)] ⟨rfl, rfl, rfl, rfl, rfl, rfl, rfl, rfl, trivial⟩ ?_
    refine Go'.seq ?_
    -- region 6 (tree.go:36)
    refine Go'.region [(0, 2)] rfl ?_
    refine O.alloc rfl rfl rfl Go.Proofs.Try.zeroValue37 ?_
    intro H6 M6
    refine ⟨trivial, ?_⟩
    have hs6 := M6.size
    have m12 : Wr H6 H5.size 0 3 := M6.wr 3 (by decide)
    have hf6 : Fr nowhere H3 H6 := hf5.trans (M6.fr nowhere)
    have hx6 : Rd H6 H3.size 0 (EJ.enc y) := (M6.fr nowhere).rd hx5 (fun _ _ => nw)
    have ho6 := ho2.fr hf6
    have mi6 := hf6.keep mi2 nw
    have hin6 := hin.fr hf6
    have hA6 := hA.fr hf6 (fun _ _ _ _ => nw)
    have hB6 := hB.imp id (fun h => (h.mono (Y := fun b => ¬ Zo b ∧ b < H3.size) (fun b hb hz => ⟨hz, hb⟩)).fr hf6 (fun _ _ _ _ => nw))
    refine Pl.fin [(3, _), (8, _), (9, _), (11, _), (12, _), (17, _), (18, _), (19, _), (20, _)] ⟨rfl, rfl, rfl, rfl, rfl, rfl, rfl, rfl, rfl, trivial⟩ ?_
    refine Go'.seq ?_
    -- region 7 (tree.go:37)
    refine Go'.region [(0, 0), (1, 1), (2, 0), (3, 1), (4, 2), (5, 0), (6, 0), (7, 0), (8, 0), (9, 2)] rfl ?_
    refine O.faz rfl rfl rfl rfl ⟨_, _, _, Go.Proofs.Try.underlying58, rfl, rfl, Go.Proofs.Try.sizeOf39⟩ rfl ?_
    refine O.ld rfl rfl rfl (fun w => ⟨Go.Proofs.Try.isAgg39 w, Go.Proofs.Try.sizeOf39 w⟩) rfl mi6 ?_
    refine O.mv rfl rfl rfl rfl rfl ?_
    refine O.lds rfl rfl rfl (fun w => ⟨Go.Proofs.Try.isAgg35 w, Go.Proofs.Try.sizeOf35 w⟩) rfl rfl hx6 ?_
    refine O.call rfl rfl rfl Go.Proofs.Try.call105 rfl (drop_spec ho6 hl hin6 hsrt (by omega)) ?_
    rintro _ H7 ⟨iv2, rfl, hB7, hF7⟩
    have hs7 := hF7.size
    replace m12 := hF7.wr m12
    have hA7 := hA6.fr hF7 (fun _ _ _ _ => nw)
    have hB7 : (iv2 = iv0 ∧ Pl.del (OO ord) y L = Pl.puts (OO ord) l) ∨ Acc EJ (fun b => ¬ Zo b ∧ b ≠ H5.size) H7 iv2 (Pl.del (OO ord) y L) := by
      rcases hB7 with ⟨hfd, rfl⟩ | hB7
      · rw [Pl.del_none (OO ord) hfd]
        rcases hB6 with h | h
        · exact .inl h
        · exact .inr ((h.fr hF7 (fun _ _ _ _ => nw)).mono (fun b hb hz => ⟨hz.1, by have := hz.2; omega⟩))
      · exact .inr (hB7.mono fun b _ hz => ⟨fun h => by have := (hZ b h).2; omega, by omega⟩)
    generalize hgo : Pl.got (OO ord) y L = fo
    rw [FV_eq]
    refine ⟨trivial, ?_⟩
    refine O.mv rfl rfl rfl rfl rfl ?_
    refine O.ext rfl rfl rfl rfl rfl rfl ?_
    refine O.ext rfl rfl rfl rfl rfl rfl ?_
    refine O.asg rfl rfl rfl rfl rfl ?_
    refine O.st (vs := (fvs fo)) rfl rfl Go.Proofs.Try.sizeOf37 rfl rfl rfl (by cases fo <;> rfl) (by cases fo <;> rfl) m12 ?_
    intro H8 W8
    have hs8 := W8.size
    have hA8 := hA7.fr W8.fr (fun b o hb hz hr => by have h1 := hr.1; have h2 := hZ b hz; omega)
    have hB8 := hB7.imp id (fun h => h.fr W8.fr (fun b o hb hz hr => hz.2 hr.1))
    have hx8 : Rd H8 H5.size 0 (fvs fo) := W8.all
    have hf8 : Fr nowhere H3 H8 := (hf6.trans hF7).trans' W8.fr (fun _ _ _ h => h) (fun b o hb hz => by have h1 := hz.1; omega)
    refine ⟨trivial, ?_⟩
    refine Pl.fin [(3, _), (8, _), (9, _), (11, _), (12, _), (17, _), (18, _), (19, _), (20, _)] ⟨rfl, rfl, rfl, rfl, rfl, rfl, rfl, rfl, rfl, trivial⟩ ?_
    -- region 8 (tree.go:38)
    refine Go'.region [(0, 0), (1, 1), (2, 2), (3, 2), (4, 0)] rfl ?_
    refine O.mv rfl rfl rfl rfl rfl ?_
    refine O.lds rfl rfl rfl (fun w => ⟨Go.Proofs.Try.isAgg37 w, Go.Proofs.Try.sizeOf37 w⟩) rfl (by cases fo <;> rfl) hx8 ?_
    refine O.bsl (cs := (fvs fo)) rfl rfl rfl ⟨Go.Proofs.Try.underlying30, Go.Proofs.Try.sizeOf37, Go.Proofs.Try.zeroValue37, ⟨_, Go.Proofs.Try.typeInfo37, rfl⟩, rfl, by decide, by decide⟩ rfl (by decide) (by cases fo <;> kernel_rfl) ?_
    intro H9 M9
    have hs9 := M9.size
    have hA9 := hA8.fr (M9.fr nowhere) (fun _ _ _ _ => nw)
    have hB9 := hB8.imp id (fun h => h.fr (M9.fr nowhere) (fun _ _ _ _ => nw))
    have m5 : Rd H9 H8.size 0 (row EF [fo]) := M9.rd _ [] (by simp [row, EF])
    refine ⟨trivial, ?_⟩
    refine O.appA (E := EF) (Y := [fo]) rfl rfl rfl ⟨Go.Proofs.Try.underlying30, Go.Proofs.Try.sizeOf37, Go.Proofs.Try.zeroValue37, ⟨_, Go.Proofs.Try.typeInfo37, rfl⟩, rfl, by decide, by decide⟩ rfl hA9 rfl ⟨_, _, _, rfl, m5⟩ (Nat.succ_pos _) (by rw [hlout]; exact Nat.le_trans (Nat.mul_le_mul_left _ (Nat.le_of_ble_eq_true (n := _) (m := 4096) rfl)) (by simp only [List.length_cons, List.length_nil]; omega)) (by rw [hlout]; simp only [List.length_cons, List.length_nil]; omega) ?_
    intro v9 H10 hA10 hF10 hs10
    have hB10 : (iv2 = iv0 ∧ Pl.del (OO ord) y L = Pl.puts (OO ord) l) ∨ Acc EJ (fun b => ¬ (Zo b ∨ (b = H9.size ∧ b < H10.size))) H10 iv2 (Pl.del (OO ord) y L) := hB9.imp id (fun h => ((h.mono (Y := fun b => ¬ Zo b ∧ b < H9.size) (fun b hb hz => ⟨hz.1, hb⟩)).fr hF10 (fun b o hb hz hr => hz.1 hr)).mono (fun b hb hz h => h.elim hz.1 (fun h => by have := hz.2; omega)))
    have hg10 := hF10.size
    refine ⟨trivial, ?_⟩
    refine O.asg rfl rfl rfl rfl rfl ?_
    refine Pl.fin [(3, _), (8, _), (9, _), (11, _), (12, _), (17, _), (18, _), (19, _), (20, _)] ⟨rfl, rfl, rfl, rfl, rfl, rfl, rfl, rfl, rfl, trivial⟩ ?_
    refine Go'.inBlock ?_
    -- region 9 (tree.go:35)
    refine Go'.region [(0, 0), (1, 0)] rfl ?_
    refine O.add (((j + 1 : Nat) : Int)) rfl rfl rfl rfl rfl rfl (by omega) (by omega) ?_
    refine O.mv rfl rfl rfl rfl rfl ?_
    refine Pl.fin [(3, _), (8, _), (9, _), (11, _), (12, _), (17, _), (18, _), (19, _), (20, _)] ⟨rfl, rfl, rfl, rfl, rfl, rfl, rfl, rfl, rfl, trivial⟩ ?_
    refine Go'.keep [(3, _), (8, _), (9, _), (17, _), (18, _), (19, _)] ⟨rfl, rfl, rfl, rfl, rfl, rfl, trivial⟩ ?_
    refine Go'.inLoop ?_
    refine ih (j + 1, v9, iv2, fun b => Zo b ∨ (b = H9.size ∧ b < H10.size)) H10 ⟨((hF.trans hf8).trans (M9.fr nowhere)).trans' hF10 (fun _ _ _ h => h) (fun b o hb hz => by have h1 := (hZ b hz).1; omega), hlt, ?_, ?_, fun b hb => hb.elim (fun h => ⟨(hZ b h).1, by have := (hZ b h).2; omega⟩) (fun h => ⟨by omega, h.2⟩)⟩ (by simp only; omega)
    · simp only
      rw [erun]
      simp only [Pl.delk]
      rw [hgo]
      exact hA10
    · simp only
      rw [erun]
      exact hB10
  · skip
    obtain rfl : j = ks.length := by omega
    rw [List.take_length] at hA hin
    -- region 4 (tree.go:35)
    refine Go'.region [(0, 0)] rfl ?_
    refine O.cmp rfl rfl rfl rfl rfl rfl (lssF (by omega)) ?_
    refine Pl.fin [(3, _), (8, _), (9, _), (17, _), (18, _), (19, _), (20, _)] ⟨rfl, rfl, rfl, rfl, rfl, rfl, rfl, trivial⟩ ?_
    refine Go'.seq ?_
    refine Go'.condF rfl ?_
    refine Go'.exit rfl ?_
    refine Go'.seq ?_
    -- region 10 (tree.go:40)
    refine Go'.region [(0, 0), (1, 0), (2, 0), (3, 0)] rfl ?_
    refine O.mv rfl rfl rfl rfl rfl ?_
    refine O.mv rfl rfl rfl rfl rfl ?_
    refine O.asg rfl rfl rfl rfl rfl ?_
    refine O.asg rfl rfl rfl rfl rfl ?_
    refine Pl.fin [(6, _), (7, _)] ⟨rfl, rfl, trivial⟩ ?_
    refine Go'.ret (vs := [_, _]) Go.Proofs.Try.func69 Go.Proofs.Try.results69 ⟨rfl, rfl, trivial⟩ ?_
    exact ⟨_, _, rfl, hA.out, hin, hF12.trans hF⟩

theorem lawMDelete_spec {B : World} {H : Mem} {d : Nat} {u v : Value} {l : List (Int × Int)} {ks : List Int} (hd : 2 ≤ d ∧ d ≤ 128) (hi : InS EJ H u l) (hll : l.length ≤ 4294967296) (hk : InS EN H v ks) (hkl : ks.length ≤ 4294967296) :
    Fn Try.prog B 39 [.int .i64 (d : Int), u, v] H (fun r H' => r = .bool true ∧ Fr nowhere H H') := by
  have hpl := Pl.puts_length OI l
  have h1l := Pl.runs_len (fun m k => Pl.delk OI m ((k : Int), (0 : Int))) (Pl.puts OI l) ks
  have h2l := Pl.runs_le (fun m k => Pl.delk_le OI m ((k : Int), (0 : Int))) (Pl.puts OI l) ks
  refine fn_of Go.Proofs.Try.func39 rfl Go.Proofs.Try.ntmps39 ?_
  refine (show Go' _ _ _ _ 34 [(0, _), (1, _), (2, _)] [.code _] _ from ?_)
  refine Go'.seq ?_
  -- region 0 (exact.go:1178)
  refine Go'.region [(0, 0)] rfl ?_
  refine O.asg rfl rfl rfl rfl rfl ?_
  refine Pl.fin [(0, _), (1, _), (2, _), (6, _)] ⟨rfl, rfl, rfl, rfl, trivial⟩ ?_
  refine Go'.seq ?_
  -- region 1 (exact.go:1179)
  refine Go'.region [(0, 0), (1, 0), (2, 0), (3, 2), (4, 0), (5, 0), (6, 0), (7, 0), (8, 0)] rfl ?_
  refine O.mv rfl rfl rfl rfl rfl ?_
  refine O.mv rfl rfl rfl rfl rfl ?_
  refine O.mv rfl rfl rfl rfl rfl ?_
  refine O.call rfl rfl rfl Go.Proofs.Try.call68 rfl (mdeletes_spec hd hi hll hk hkl) ?_
  rintro _ H1 ⟨v1, v2, rfl, h1, h2, hF1⟩
  refine ⟨trivial, ?_⟩
  refine O.mv rfl rfl rfl rfl rfl ?_
  refine O.ext rfl rfl rfl rfl rfl rfl ?_
  refine O.ext rfl rfl rfl rfl rfl rfl ?_
  refine O.asg rfl rfl rfl rfl rfl ?_
  refine O.asg rfl rfl rfl rfl rfl ?_
  refine Pl.fin [(1, _), (2, _), (6, _), (7, _), (8, _)] ⟨rfl, rfl, rfl, rfl, rfl, trivial⟩ ?_
  refine Go'.seq ?_
  -- region 2 (exact.go:1180)
  refine Go'.region [(0, 0), (1, 0), (2, 0), (3, 2), (4, 2), (5, 0), (6, 0), (7, 0), (8, 0), (9, 0)] rfl ?_
  refine O.bld (cs := [.slice none 0 0, .int .i64 0, .bool false]) rfl rfl rfl rfl (st58) rfl (by kernel_rfl) ?_
  refine O.mv rfl rfl rfl rfl rfl ?_
  refine O.mv rfl rfl rfl rfl rfl ?_
  refine O.call rfl rfl rfl Go.Proofs.Try.call70 rfl (specItems_spec (hk.fr hF1) hkl) ?_
  rintro kv H2 ⟨hkv, hF2⟩
  refine ⟨trivial, ?_⟩
  refine O.call rfl rfl rfl Go.Proofs.Try.call69 rfl (gdelete_spec (ord := []) (InS.nil EN H2) (by simp) (hi.fr (hF1.trans hF2)) hll hkv.inS (by rw [List.length_map]; exact hkl)) ?_
  rintro _ H3 ⟨v3, v4, rfl, h3, h4, hF3⟩
  rw [OO_nil, Pl.runs_map] at h3 h4
  have hF23 := hF2.trans hF3
  refine ⟨trivial, ?_⟩
  refine O.mv rfl rfl rfl rfl rfl ?_
  refine O.ext rfl rfl rfl rfl rfl rfl ?_
  refine O.ext rfl rfl rfl rfl rfl rfl ?_
  refine O.asg rfl rfl rfl rfl rfl ?_
  refine O.asg rfl rfl rfl rfl rfl ?_
  refine Pl.fin [(6, _), (7, _), (8, _), (9, _), (10, _)] ⟨rfl, rfl, rfl, rfl, rfl, trivial⟩ ?_
  refine Go'.seq ?_
  -- region 3 (exact.go:1181)
  refine Go'.region [(0, 0), (1, 0), (2, 2), (3, 0), (4, 0), (5, 0), (6, 2), (7, 0), (8, 0)] rfl ?_
  refine O.mv rfl rfl rfl rfl rfl ?_
  refine O.mv rfl rfl rfl rfl rfl ?_
  refine O.callQ rfl rfl rfl Go.Proofs.Try.call26 rfl (eqFounds_spec (h1.inS.fr hF23) h3.inS (by omega)) trivial ?_
  refine O.mv rfl rfl rfl rfl rfl ?_
  refine O.mv rfl rfl rfl rfl rfl ?_
  refine O.mv rfl rfl rfl rfl rfl ?_
  refine O.callQ rfl rfl rfl Go.Proofs.Try.call27 rfl (eqItems_spec (h2.inS.fr hF23) h4 (by omega)) trivial ?_
  refine O.pick rfl rfl rfl rfl rfl rfl ?_
  refine O.asg rfl rfl rfl rfl rfl ?_
  refine Pl.fin [(6, _)] ⟨rfl, trivial⟩ ?_
  refine Go'.ret (vs := [_]) Go.Proofs.Try.func39 Go.Proofs.Try.results39 ⟨rfl, trivial⟩ ?_
  exact ⟨rfl, hF1.trans hF23⟩

theorem fnExactMDelete {B : World} {H : Mem} {z : Int} {u v : Value} {l : List (Int × Int)} {ks : List Int} (hi : InS EJ H u l) (hk : InS EN H v ks) :
    Fn Try.prog B 11 [.int .i64 z, u, v] H (fun r H' => r = .bool true ∧ Fr nowhere H H') := by
  obtain ⟨a, c, hu⟩ := hi.len
  subst hu
  obtain ⟨a2, c2, hu⟩ := hk.len
  subst hu
  have hi0 := hi
  have hk0 := hk
  refine fn_of Go.Proofs.Try.func11 rfl Go.Proofs.Try.ntmps11 ?_
  refine (show Go' _ _ _ _ 33 [(0, _), (1, _), (2, _)] [.code _] _ from ?_)
  refine Go'.seq ?_
  -- region 0 (exact.go:1171)
  refine Go'.region [(0, 0)] rfl ?_
  refine O.asg rfl rfl rfl rfl rfl ?_
  refine Pl.fin [(0, _), (1, _), (2, _), (6, _)] ⟨rfl, rfl, rfl, rfl, trivial⟩ ?_
  refine Go'.seq ?_
  refine Go'.seq ?_
  by_cases hbig : (2147483647 : Int) < (l.length : Int)
  · skip
    -- region 1 (exact.go:1172)
    refine Go'.region [(0, 0), (1, 0), (2, 0), (3, 0), (4, 0), (5, 0), (6, 0), (7, 0)] rfl ?_
    refine O.mv rfl rfl rfl rfl rfl ?_
    refine O.len rfl rfl rfl rfl Go.Proofs.Try.underlying22 rfl ?_
    refine O.cmp rfl rfl rfl rfl rfl rfl (gtrT (by omega)) ?_
    refine O.mv rfl rfl rfl rfl rfl ?_
    refine Pl.pass rfl rfl rfl rfl ?_
    refine Pl.pass rfl rfl rfl rfl ?_
    refine Pl.pass rfl rfl rfl rfl ?_
    refine O.pick rfl rfl rfl rfl rfl rfl ?_
    refine Pl.fin [(0, _), (1, _), (2, _), (6, _), (14, _)] ⟨rfl, rfl, rfl, rfl, rfl, trivial⟩ ?_
    refine Go'.condT rfl ?_
    refine Go'.seq ?_
    -- region 2 (exact.go:1173)
    refine Go'.region [(0, 0)] rfl ?_
    refine O.asg rfl rfl rfl rfl rfl ?_
    refine Pl.fin [(0, _), (1, _), (2, _), (6, _)] ⟨rfl, rfl, rfl, rfl, trivial⟩ ?_
    refine Go'.ret (vs := [_]) Go.Proofs.Try.func11 Go.Proofs.Try.results11 ⟨rfl, trivial⟩ ?_
    exact ⟨rfl, Fr.refl _ _⟩
  by_cases hbig2 : (2147483647 : Int) < (ks.length : Int)
  · skip
    -- region 1 (exact.go:1172)
    refine Go'.region [(0, 0), (1, 0), (2, 0), (3, 0), (4, 0), (5, 0), (6, 0), (7, 0)] rfl ?_
    refine O.mv rfl rfl rfl rfl rfl ?_
    refine O.len rfl rfl rfl rfl Go.Proofs.Try.underlying22 rfl ?_
    refine O.cmp rfl rfl rfl rfl rfl rfl (gtrF (by omega)) ?_
    refine O.mv rfl rfl rfl rfl rfl ?_
    refine O.mv rfl rfl rfl rfl rfl ?_
    refine O.len rfl rfl rfl rfl Go.Proofs.Try.underlying39 rfl ?_
    refine O.cmp rfl rfl rfl rfl rfl rfl (gtrT (by omega)) ?_
    refine O.pick rfl rfl rfl rfl rfl rfl ?_
    refine Pl.fin [(0, _), (1, _), (2, _), (6, _), (14, _)] ⟨rfl, rfl, rfl, rfl, rfl, trivial⟩ ?_
    refine Go'.condT rfl ?_
    refine Go'.seq ?_
    -- region 2 (exact.go:1173)
    refine Go'.region [(0, 0)] rfl ?_
    refine O.asg rfl rfl rfl rfl rfl ?_
    refine Pl.fin [(0, _), (1, _), (2, _), (6, _)] ⟨rfl, rfl, rfl, rfl, trivial⟩ ?_
    refine Go'.ret (vs := [_]) Go.Proofs.Try.func11 Go.Proofs.Try.results11 ⟨rfl, trivial⟩ ?_
    exact ⟨rfl, Fr.refl _ _⟩
  -- region 1 (exact.go:1172)
  refine Go'.region [(0, 0), (1, 0), (2, 0), (3, 0), (4, 0), (5, 0), (6, 0), (7, 0)] rfl ?_
  refine O.mv rfl rfl rfl rfl rfl ?_
  refine O.len rfl rfl rfl rfl Go.Proofs.Try.underlying22 rfl ?_
  refine O.cmp rfl rfl rfl rfl rfl rfl (gtrF (by omega)) ?_
  refine O.mv rfl rfl rfl rfl rfl ?_
  refine O.mv rfl rfl rfl rfl rfl ?_
  refine O.len rfl rfl rfl rfl Go.Proofs.Try.underlying39 rfl ?_
  refine O.cmp rfl rfl rfl rfl rfl rfl (gtrF (by omega)) ?_
  refine O.pick rfl rfl rfl rfl rfl rfl ?_
  refine Pl.fin [(0, _), (1, _), (2, _), (6, _), (14, _)] ⟨rfl, rfl, rfl, rfl, rfl, trivial⟩ ?_
  refine Go'.condF rfl ?_
  refine Go'.skip ?_
  refine Go'.seq ?_
  cases hfz : fitsb z
  · skip
    -- region 3 (exact.go:1175)
    refine Go'.region [(0, 2), (1, 2), (2, 2), (3, 0), (4, 0), (5, 2), (6, 0), (7, 0), (8, 0), (9, 0), (10, 0), (11, 0), (12, 0), (13, 0), (14, 0), (15, 2), (16, 0), (17, 0), (18, 0)] rfl ?_
    refine O.call rfl rfl rfl Go.Proofs.Try.call15 rfl exItems_spec ?_
    rintro ev H1 ⟨hev, hF1⟩
    refine ⟨trivial, ?_⟩
    refine O.bsl (cs := [.int .i64 3, .int .i64 4]) rfl rfl rfl ⟨Go.Proofs.Try.underlying39, Go.Proofs.Try.sizeOf3, Go.Proofs.Try.zeroValue3, ⟨_, Go.Proofs.Try.typeInfo3, rfl⟩, rfl, by decide, by decide⟩ rfl (by decide) (by kernel_rfl) ?_
    intro H2 M2
    have hF2 := hF1.trans (M2.fr nowhere)
    replace hev := hev.fr (M2.fr nowhere)
    have hek : InS EN H2 (.slice (some ⟨H1.size, 0, none⟩) 2 2) [3, 4] := .inl ⟨_, _, _, rfl, Nat.le_refl _, M2.rd _ [] rfl⟩
    refine ⟨trivial, ?_⟩
    refine O.call rfl rfl rfl Go.Proofs.Try.call39 rfl (lawMDelete_spec (d := 2) (by decide) hev (by decide) hek (by decide)) ?_
    rintro _ H3 ⟨rfl, hF3⟩
    have hF := hF2.trans hF3
    have hi2 := hi0.fr hF
    have hk2 := hk0.fr hF
    refine ⟨trivial, ?_⟩
    refine O.mv rfl rfl rfl rfl rfl ?_
    refine O.mv rfl rfl rfl rfl rfl ?_
    refine O.callQ rfl rfl rfl Go.Proofs.Try.call16 rfl (fits_spec' hfz) trivial ?_
    refine O.mv rfl rfl rfl rfl rfl ?_
    refine Pl.pass rfl rfl rfl rfl ?_
    refine Pl.pass rfl rfl rfl rfl ?_
    refine O.pick rfl rfl rfl rfl rfl rfl ?_
    refine O.not rfl rfl rfl rfl rfl ?_
    refine O.mv rfl rfl rfl rfl rfl ?_
    refine Pl.pass rfl rfl rfl rfl ?_
    refine Pl.pass rfl rfl rfl rfl ?_
    refine Pl.pass rfl rfl rfl rfl ?_
    refine Pl.pass2 rfl rfl rfl rfl trivial ?_
    refine O.pick rfl rfl rfl rfl rfl rfl ?_
    refine O.pick rfl rfl rfl rfl rfl rfl ?_
    refine O.asg rfl rfl rfl rfl rfl ?_
    refine Pl.fin [(6, _)] ⟨rfl, trivial⟩ ?_
    refine Go'.ret (vs := [_]) Go.Proofs.Try.func11 Go.Proofs.Try.results11 ⟨rfl, trivial⟩ ?_
    exact ⟨rfl, hF⟩
  · skip
    by_cases hp : 0 < z
    · skip
      obtain ⟨d, rfl⟩ := Int.eq_ofNat_of_zero_le (by omega : 0 ≤ z)
      have hd : 2 ≤ d ∧ d ≤ 128 := by
        unfold fitsb at hfz
        simp only [Bool.or_eq_true, Bool.and_eq_true, decide_eq_true_eq] at hfz
        omega
      -- region 3 (exact.go:1175)
      refine Go'.region [(0, 2), (1, 2), (2, 2), (3, 0), (4, 0), (5, 2), (6, 0), (7, 0), (8, 0), (9, 0), (10, 0), (11, 0), (12, 0), (13, 0), (14, 0), (15, 2), (16, 0), (17, 0), (18, 0)] rfl ?_
      refine O.call rfl rfl rfl Go.Proofs.Try.call15 rfl exItems_spec ?_
      rintro ev H1 ⟨hev, hF1⟩
      refine ⟨trivial, ?_⟩
      refine O.bsl (cs := [.int .i64 3, .int .i64 4]) rfl rfl rfl ⟨Go.Proofs.Try.underlying39, Go.Proofs.Try.sizeOf3, Go.Proofs.Try.zeroValue3, ⟨_, Go.Proofs.Try.typeInfo3, rfl⟩, rfl, by decide, by decide⟩ rfl (by decide) (by kernel_rfl) ?_
      intro H2 M2
      have hF2 := hF1.trans (M2.fr nowhere)
      replace hev := hev.fr (M2.fr nowhere)
      have hek : InS EN H2 (.slice (some ⟨H1.size, 0, none⟩) 2 2) [3, 4] := .inl ⟨_, _, _, rfl, Nat.le_refl _, M2.rd _ [] rfl⟩
      refine ⟨trivial, ?_⟩
      refine O.call rfl rfl rfl Go.Proofs.Try.call39 rfl (lawMDelete_spec (d := 2) (by decide) hev (by decide) hek (by decide)) ?_
      rintro _ H3 ⟨rfl, hF3⟩
      have hF := hF2.trans hF3
      have hi2 := hi0.fr hF
      have hk2 := hk0.fr hF
      refine ⟨trivial, ?_⟩
      refine O.mv rfl rfl rfl rfl rfl ?_
      refine O.mv rfl rfl rfl rfl rfl ?_
      refine O.callQ rfl rfl rfl Go.Proofs.Try.call16 rfl (fits_spec' hfz) trivial ?_
      refine O.mv rfl rfl rfl rfl rfl ?_
      refine O.mv rfl rfl rfl rfl rfl ?_
      refine O.cmp rfl rfl rfl rfl rfl rfl (gtrT (by omega)) ?_
      refine O.pick rfl rfl rfl rfl rfl rfl ?_
      refine O.not rfl rfl rfl rfl rfl ?_
      refine O.mv rfl rfl rfl rfl rfl ?_
      refine O.mv rfl rfl rfl rfl rfl ?_
      refine O.mv rfl rfl rfl rfl rfl ?_
      refine O.mv rfl rfl rfl rfl rfl ?_
      refine O.call rfl rfl rfl Go.Proofs.Try.call39 rfl (lawMDelete_spec hd hi2 (by omega) hk2 (by omega)) ?_
      rintro _ H4 ⟨rfl, hF4⟩
      replace hF := hF.trans hF4
      refine ⟨trivial, ?_⟩
      refine O.pick rfl rfl rfl rfl rfl rfl ?_
      refine O.pick rfl rfl rfl rfl rfl rfl ?_
      refine O.asg rfl rfl rfl rfl rfl ?_
      refine Pl.fin [(6, _)] ⟨rfl, trivial⟩ ?_
      refine Go'.ret (vs := [_]) Go.Proofs.Try.func11 Go.Proofs.Try.results11 ⟨rfl, trivial⟩ ?_
      exact ⟨rfl, hF⟩
    · skip
      -- region 3 (exact.go:1175)
      refine Go'.region [(0, 2), (1, 2), (2, 2), (3, 0), (4, 0), (5, 2), (6, 0), (7, 0), (8, 0), (9, 0), (10, 0), (11, 0), (12, 0), (13, 0), (14, 0), (15, 2), (16, 0), (17, 0), (18, 0)] rfl ?_
      refine O.call rfl rfl rfl Go.Proofs.Try.call15 rfl exItems_spec ?_
      rintro ev H1 ⟨hev, hF1⟩
      refine ⟨trivial, ?_⟩
      refine O.bsl (cs := [.int .i64 3, .int .i64 4]) rfl rfl rfl ⟨Go.Proofs.Try.underlying39, Go.Proofs.Try.sizeOf3, Go.Proofs.Try.zeroValue3, ⟨_, Go.Proofs.Try.typeInfo3, rfl⟩, rfl, by decide, by decide⟩ rfl (by decide) (by kernel_rfl) ?_
      intro H2 M2
      have hF2 := hF1.trans (M2.fr nowhere)
      replace hev := hev.fr (M2.fr nowhere)
      have hek : InS EN H2 (.slice (some ⟨H1.size, 0, none⟩) 2 2) [3, 4] := .inl ⟨_, _, _, rfl, Nat.le_refl _, M2.rd _ [] rfl⟩
      refine ⟨trivial, ?_⟩
      refine O.call rfl rfl rfl Go.Proofs.Try.call39 rfl (lawMDelete_spec (d := 2) (by decide) hev (by decide) hek (by decide)) ?_
      rintro _ H3 ⟨rfl, hF3⟩
      have hF := hF2.trans hF3
      have hi2 := hi0.fr hF
      have hk2 := hk0.fr hF
      refine ⟨trivial, ?_⟩
      refine O.mv rfl rfl rfl rfl rfl ?_
      refine O.mv rfl rfl rfl rfl rfl ?_
      refine O.callQ rfl rfl rfl Go.Proofs.Try.call16 rfl (fits_spec' hfz) trivial ?_
      refine O.mv rfl rfl rfl rfl rfl ?_
      refine O.mv rfl rfl rfl rfl rfl ?_
      refine O.cmp rfl rfl rfl rfl rfl rfl (gtrF (by omega)) ?_
      refine O.pick rfl rfl rfl rfl rfl rfl ?_
      refine O.not rfl rfl rfl rfl rfl ?_
      refine O.mv rfl rfl rfl rfl rfl ?_
      refine Pl.pass rfl rfl rfl rfl ?_
      refine Pl.pass rfl rfl rfl rfl ?_
      refine Pl.pass rfl rfl rfl rfl ?_
      refine Pl.pass2 rfl rfl rfl rfl trivial ?_
      refine O.pick rfl rfl rfl rfl rfl rfl ?_
      refine O.pick rfl rfl rfl rfl rfl rfl ?_
      refine O.asg rfl rfl rfl rfl rfl ?_
      refine Pl.fin [(6, _)] ⟨rfl, trivial⟩ ?_
      refine Go'.ret (vs := [_]) Go.Proofs.Try.func11 Go.Proofs.Try.results11 ⟨rfl, trivial⟩ ?_
      exact ⟨rfl, hF⟩

end Go.Bt
