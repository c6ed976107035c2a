/- Contracts of functions of the program, proved by walking through their code. Conditions: those that each theorem names. -/
import Derived.Test.YtmboghgpakhceaaToiM
import Derived.Test.YtmboghgpakhceaaTogK
import Derived.Test.YtmboghgpakhceaaToSo
namespace Go.Bt.FG
open Go Go.Proofs Go.Proofs.Try
set_option maxRecDepth 20000
set_option maxHeartbeats 4000000
set_option linter.unusedVariables false
set_option linter.unusedSectionVars false

section
variable [Inhabited Cx]

def DelP (H : Mem) (tr : Nat) (P : Ps) (S : Nat → Prop) (l : List (Int × Int)) (x : Int × Int) (r : Value) (H' : Mem) : Prop :=
  r = .tuple #[PV (Pl.got OI x l),.bool (Pl.fnd OI x l)] ∧ MapTo H H' tr P S (Pl.del OI x l)
theorem delh_spec {B : World} {H : Mem} {tr : Nat} {P : Ps} (hP : PsOk P) {S : Nat → Prop} {l : List (Int × Int)} {x : Int × Int} (hM : MapM H tr P S l) (hlen : l.length < 2305843009213693952) :
    Fn Try.prog B 132 [.pointer (some ⟨tr,0,none⟩),.agg (EJ.enc x).toArray,.pointer none] H (DelP H tr P S l x) := by
  have hh1 := hP.h1
  have hmm := hP.hm
  have hSlt := hM.lt
  have htb := hM.tc.tb
  have hbs0 := hM.tc.hb
  refine fn_of func132 rfl ntmps132 ?_
  refine (show Go' _ _ _ _ 82 [(0,_),(1,_),(2,_)] [.code _] _ from ?_)
  refine Go'.seq ?_
  refine Go'.region [(0,2),(1,2),(2,0)] rfl ?_
  refine O.box rfl rfl rfl rfl ?_
  intro H0 M0
  refine ⟨trivial,?_⟩
  have hs0 := M0.size
  replace hM := hM.fr (M0.fr nowhere) (fun _ _ _ => nw)
  have mk : Rd H0 H.size 0 (EJ.enc x) := M0.rd _ [] (by simp [Value.cells])
  refine O.alloc rfl rfl rfl zeroValue27 ?_
  intro H1 M1
  refine ⟨trivial,?_⟩
  have hs1 := M1.size
  replace hM := hM.fr (M1.fr nowhere) (fun _ _ _ => nw)
  replace mk := (M1.fr nowhere).rd mk (fun _ _ => nw)
  have wr8 : Wr H1 H0.size 0 2 := M1.wr 2 (by decide)
  have hF : Fr (fun b _ => S b) H H1 := ((M0.fr nowhere).trans (M1.fr nowhere)).mono fun _ _ _ h => h.elim
  refine O.asg rfl rfl rfl rfl rfl ?_
  refine Pl.fin [(0,_),(2,_),(4,_),(6,_),(7,_)] ⟨rfl,rfl,rfl,rfl,rfl,trivial⟩ ?_
  refine Go'.seq ?_
  refine Go'.seq ?_
  have hM0 := hM
  obtain ⟨tc,srt,cnt,own,lt,bs,hr⟩ := hM
  rcases hr with ⟨rfl,hptr⟩ | ⟨h,t,hg,hx1,e,hc,hnt,hown⟩
  · -- none at all
    refine Go'.region [(0,0),(1,0),(2,0),(3,1),(4,0)] rfl ?_
    refine O.mv rfl rfl rfl rfl rfl ?_
    refine O.nc rfl rfl rfl rfl rfl ?_
    refine O.fa0 (off := 2) rfl rfl rfl rfl ⟨_,_,_,underlying158,rfl,rfl,sizeOf129⟩ rfl ?_
    refine O.ld rfl rfl rfl (fun w => ⟨isAgg129 w,sizeOf129 w⟩) rfl hptr ?_
    refine O.isNil rfl rfl rfl rfl underlying129 rfl rfl ?_
    refine Pl.fin [(0,_),(2,_),(4,_),(6,_),(7,_),(14,_)] ⟨rfl,rfl,rfl,rfl,rfl,rfl,trivial⟩ ?_
    refine Go'.condT rfl ?_
    refine Go'.seq ?_
    refine Go'.region [(0,0),(1,0),(2,0),(3,1),(4,2),(5,0)] rfl ?_
    refine O.mv rfl rfl rfl rfl rfl ?_
    refine O.nc rfl rfl rfl rfl rfl ?_
    refine O.fa0 (off := 7) rfl rfl rfl rfl ⟨_,_,_,underlying158,rfl,rfl,sizeOf27⟩ rfl ?_
    refine O.lds rfl rfl rfl (fun w => ⟨isAgg27 w,sizeOf27 w⟩) rfl rfl tc.emp ?_
    refine O.st (vs := (EJ.enc (0,0))) rfl rfl sizeOf27 rfl rfl rfl rfl rfl wr8 ?_
    intro H3 W3
    have hs3 := W3.size
    replace hF := hF.trans' W3.fr (fun _ _ _ h => h) (fun b o hb h => by have h' := h.1; omega)
    refine ⟨trivial,?_⟩
    refine O.asg rfl rfl rfl rfl rfl ?_
    refine Pl.fin [(0,_),(2,_),(4,_),(6,_),(7,_)] ⟨rfl,rfl,rfl,rfl,rfl,trivial⟩ ?_
    refine Go'.ret (vs := [_,_]) func132 results132 ⟨⟨_,_,rfl,fun _ _ => run_loadVar_agg (fun w => ⟨isAgg27 w,sizeOf27 w⟩) rfl W3.all⟩,rfl,trivial⟩ ?_
    exact ⟨rfl,S,hM0.fr W3.fr (fun b o hb => nr (.inl (by
      rcases hb with hb | hb
      · have := hSlt b hb; omega
      · omega))),hF,fun b hb => .inl hb⟩
  · -- a tree
    have hht := Gt.Good.tall hP hg hx1
    rw [e] at hht
    have hlt : ∀ b o,Gt.af h t b o → b < H.size := fun b o hb => hSlt b (hown b o hb)
    refine Go'.region [(0,0),(1,0),(2,0),(3,1),(4,0)] rfl ?_
    refine O.mv rfl rfl rfl rfl rfl ?_
    refine O.nc rfl rfl rfl rfl rfl ?_
    refine O.fa0 (off := 2) rfl rfl rfl rfl ⟨_,_,_,underlying158,rfl,rfl,sizeOf129⟩ rfl ?_
    refine O.ld rfl rfl rfl (fun w => ⟨isAgg129 w,sizeOf129 w⟩) rfl (show cl _ tr 2 = some (.pointer (some ⟨Gt.p h t,0,none⟩)) from hc) ?_
    refine O.isNil rfl rfl rfl rfl underlying129 rfl rfl ?_
    refine Pl.fin [(0,_),(2,_),(4,_),(6,_),(7,_),(14,_)] ⟨rfl,rfl,rfl,rfl,rfl,rfl,trivial⟩ ?_
    refine Go'.condF rfl ?_
    refine Go'.skip ?_
    refine Go'.seq ?_
    refine Go'.draw2s (σ := (Int × Int) × Bool × Nat) (fun H' => Rd H' H.size 0 (EJ.enc x)) (fun s H' => TrC H' tr P.iso P.mx P.mn ∧ cl H' tr 3 = some (.int .i64 (l.length : Int)) ∧ cl H' tr 2 = some (ptr (Gt.p h t)) ∧ Wr H' H0.size 0 2 ∧ Rd H' s.2.2 0 (EJ.enc s.1) ∧ H1.size ≤ s.2.2 ∧ s.2.2 < H'.size ∧ Fr (fun b _ => S b) H H' ∧ ((s.2.1 = false ∧ Pl.dlr OI false x l = none ∧ Fr nowhere H1 H') ∨ (s.2.1 = true ∧ ∃ L1,∃ t1 : Gt EJ h,Pl.dlr OI false x l = some (s.1,L1) ∧ Gt.Good H' P h t1 ∧ Gt.p h t1 = Gt.p h t ∧ (∀ b o,Gt.af h t1 b o → (Gt.af h t b o ∨ H1.size ≤ b) ∧ b ≠ s.2.2 ∧ b < H'.size) ∧ Gt.L h t1 = L1))) (fun s => [(0,.pointer (some ⟨tr,0,none⟩)),(6,.pointer (some ⟨H0.size,0,none⟩)),(7,.bool false),(8,.pointer (some ⟨s.2.2,0,none⟩)),(9,.bool s.2.1)]) 6 10 [(0,0),(1,0),(2,0),(3,0),(4,0),(5,0),(6,2),(7,0),(8,0),(9,0),(10,2),(11,2),(12,0)] [(0,0),(1,0),(2,0),(3,0),(4,0),(5,0),(10,2),(6,2),(7,0),(8,0),(9,0),(11,2),(12,0)] (by kernel_rfl) (by kernel_rfl) (mk) ?_ ?_ ?_
    · intro _ _ _ hj
      refine O.mv rfl rfl rfl rfl rfl ?_
      refine O.mv rfl rfl rfl rfl rfl ?_
      refine O.nc rfl rfl rfl rfl rfl ?_
      refine O.fa0 (off := 2) rfl rfl rfl rfl ⟨_,_,_,underlying158,rfl,rfl,sizeOf129⟩ rfl ?_
      refine O.ldsC rfl rfl rfl (fun w => ⟨isAgg27 w,sizeOf27 w⟩) rfl rfl (fun _ h => h) ?_
      refine O.mv rfl rfl rfl rfl rfl ?_
      refine O.call rfl rfl rfl call181 rfl ((del hP h (mx := false) (x := x) (t := t) (dp := 0) ⟨tc,hg,hc,fun b o hb => by have := hnt b o hb; omega,by rw [e]; exact srt,by rw [e]; omega,hx1⟩ (by omega)).mono fun _ _ => DelQ.uni) ?_
      rintro _ H2 ⟨y,bb,rfl,hfr,hq⟩
      have hs2 := hfr.size
      replace tc := tc.fr hfr (fun b o hb _ hz => by have := hnt b o hz; omega)
      replace cnt := hfr.keep cnt (fun hz => by have := hnt _ _ hz; omega)
      replace hc := hfr.keep hc (fun hz => by have := hnt _ _ hz; omega)
      replace wr8 := hfr.wr wr8
      replace mk := hfr.rd mk (fun _ _ hz => by have := hlt _ _ hz; omega)
      replace hF := hF.trans' hfr (fun _ _ _ h => h) (fun b o _ hz => hown b o hz)
      rw [e] at hq
      refine ⟨mk,?_⟩
      refine O.mv rfl rfl rfl rfl rfl ?_
      refine O.ext rfl rfl rfl rfl rfl rfl ?_
      refine O.ext rfl rfl rfl rfl rfl rfl ?_
      refine O.alloc rfl rfl rfl zeroValue27 ?_
      intro H3 M3
      have hs3 := M3.size
      replace tc := tc.fr (M3.fr nowhere) (fun _ _ _ _ => nw)
      replace cnt := (M3.fr nowhere).keep cnt nw
      replace hc := (M3.fr nowhere).keep hc nw
      replace wr8 := (M3.fr nowhere).wr wr8
      replace mk := (M3.fr nowhere).rd mk (fun _ _ => nw)
      replace hF := hF.trans' (M3.fr nowhere) (fun _ _ _ h => h) (fun _ _ _ h => h.elim)
      have w6 : Wr H3 H2.size 0 2 := M3.wr 2 (by decide)
      refine ⟨mk,?_⟩
      refine O.st (vs := (EJ.enc y)) rfl rfl sizeOf27 rfl rfl rfl rfl rfl w6 ?_
      intro H4 W4
      have hs4 := W4.size
      replace tc := tc.fr W4.fr (fun b o hb _ => nr (.inl (by omega)))
      replace cnt := W4.fr.keep cnt (nr (.inl (by omega)))
      replace hc := W4.fr.keep hc (nr (.inl (by omega)))
      replace wr8 := W4.fr.wr wr8
      replace mk := W4.fr.rd mk (fun _ _ => nr (.inl (by omega)))
      replace hF := hF.trans' W4.fr (fun _ _ _ h => h) (fun b o hb h => by have h' := h.1; omega)
      refine ⟨mk,?_⟩
      refine O.asg rfl rfl rfl rfl rfl ?_
      refine Pl.fin [(0,_),(6,_),(7,_),(8,_),(9,_)] ⟨rfl,rfl,rfl,rfl,rfl,trivial⟩ (hj (y,bb,H2.size) _ ?_)
      refine ⟨tc,cnt,hc,wr8,W4.all,(show H1.size ≤ H2.size by omega),(show H2.size < H4.size by omega),hF,?_⟩
      rcases hq with ⟨h1,h2,h3⟩ | ⟨h1,L1,t1,h2,hT⟩
      · exact .inl ⟨h1,h2,(h3.trans (M3.fr nowhere)).trans' W4.fr (fun _ _ _ h => h) (fun b o hb h => by have h' := h.1; omega)⟩
      · exact .inr ⟨h1,L1,t1,h2,(hT.g.fr (M3.fr nowhere) (fun _ _ _ => nw)).fr W4.fr (fun b o hb => nr (.inl (by have := hT.g.lt hb; omega))),hT.p,fun b o hb => ⟨hT.a b o hb,(show b ≠ H2.size by have := hT.g.lt hb; omega),by have := hT.g.lt hb; omega⟩,hT.l⟩
    · intro _ _ _ hj
      refine O.mv rfl rfl rfl rfl rfl ?_
      refine O.mv rfl rfl rfl rfl rfl ?_
      refine O.nc rfl rfl rfl rfl rfl ?_
      refine O.fa0 (off := 2) rfl rfl rfl rfl ⟨_,_,_,underlying158,rfl,rfl,sizeOf129⟩ rfl ?_
      refine O.ldsC rfl rfl rfl (fun w => ⟨isAgg27 w,sizeOf27 w⟩) rfl rfl (fun _ h => h) ?_
      refine O.mv rfl rfl rfl rfl rfl ?_
      refine O.alloc rfl rfl rfl zeroValue27 ?_
      intro H2 M2
      have hs2 := M2.size
      replace tc := tc.fr (M2.fr nowhere) (fun _ _ _ _ => nw)
      replace cnt := (M2.fr nowhere).keep cnt nw
      replace hc := (M2.fr nowhere).keep hc nw
      replace wr8 := (M2.fr nowhere).wr wr8
      replace mk := (M2.fr nowhere).rd mk (fun _ _ => nw)
      replace hF := hF.trans' (M2.fr nowhere) (fun _ _ _ h => h) (fun _ _ _ h => h.elim)
      have w6 : Wr H2 H1.size 0 2 := M2.wr 2 (by decide)
      refine ⟨mk,?_⟩
      refine O.call rfl rfl rfl call181 rfl ((del hP h (mx := false) (x := x) (t := t) (dp := 0) ⟨tc,(hg.fr (M2.fr nowhere) (fun _ _ _ => nw)),hc,fun b o hb => by have := hnt b o hb; omega,by rw [e]; exact srt,by rw [e]; omega,hx1⟩ (by omega)).mono fun _ _ => DelQ.uni) ?_
      rintro _ H3 ⟨y,bb,rfl,hfr,hq⟩
      have hs3 := hfr.size
      replace tc := tc.fr hfr (fun b o hb _ hz => by have := hnt b o hz; omega)
      replace cnt := hfr.keep cnt (fun hz => by have := hnt _ _ hz; omega)
      replace hc := hfr.keep hc (fun hz => by have := hnt _ _ hz; omega)
      replace wr8 := hfr.wr wr8
      replace mk := hfr.rd mk (fun _ _ hz => by have := hlt _ _ hz; omega)
      replace hF := hF.trans' hfr (fun _ _ _ h => h) (fun b o _ hz => hown b o hz)
      rw [e] at hq
      replace w6 := hfr.wr w6
      refine ⟨mk,?_⟩
      refine O.mv rfl rfl rfl rfl rfl ?_
      refine O.ext rfl rfl rfl rfl rfl rfl ?_
      refine O.ext rfl rfl rfl rfl rfl rfl ?_
      refine O.st (vs := (EJ.enc y)) rfl rfl sizeOf27 rfl rfl rfl rfl rfl w6 ?_
      intro H4 W4
      have hs4 := W4.size
      replace tc := tc.fr W4.fr (fun b o hb _ => nr (.inl (by omega)))
      replace cnt := W4.fr.keep cnt (nr (.inl (by omega)))
      replace hc := W4.fr.keep hc (nr (.inl (by omega)))
      replace wr8 := W4.fr.wr wr8
      replace mk := W4.fr.rd mk (fun _ _ => nr (.inl (by omega)))
      replace hF := hF.trans' W4.fr (fun _ _ _ h => h) (fun b o hb h => by have h' := h.1; omega)
      refine ⟨mk,?_⟩
      refine O.asg rfl rfl rfl rfl rfl ?_
      refine Pl.fin [(0,_),(6,_),(7,_),(8,_),(9,_)] ⟨rfl,rfl,rfl,rfl,rfl,trivial⟩ (hj (y,bb,H1.size) _ ?_)
      refine ⟨tc,cnt,hc,wr8,W4.all,(show H1.size ≤ H1.size from Nat.le_refl _),(show H1.size < H4.size by omega),hF,?_⟩
      rcases hq with ⟨h1,h2,h3⟩ | ⟨h1,L1,t1,h2,hT⟩
      · exact .inl ⟨h1,h2,((M2.fr nowhere).trans h3).trans' W4.fr (fun _ _ _ h => h) (fun b o hb h => by have h' := h.1; omega)⟩
      · have hn : ∀ b o,Gt.af h t1 b o → b ≠ H1.size := fun b o hb => (hT.a b o hb).elim (fun h => by have := hlt b o h; omega) (fun h => by omega)
        exact .inr ⟨h1,L1,t1,h2,hT.g.fr W4.fr (fun b o hb => nr (.inl (hn b o hb))),hT.p,fun b o hb => ⟨(hT.a b o hb).imp id (fun h => by omega),hn b o hb,by have := hT.g.lt hb; omega⟩,hT.l⟩
    clear hc cnt tc mk wr8 hF
    rintro ⟨y,bb,pb⟩ H4 ⟨tc,cnt,hc,wr8,m6,hpb1,hpb2,hF,hq⟩
    simp only at m6 hpb1 hpb2 hq
    refine Go'.seq ?_
    refine Go'.seq ?_
    rcases hq with ⟨rfl,hd,hfn⟩ | ⟨rfl,L1,t1,hd,hg1,hp1,ha1,hl1⟩
    · -- not there
      refine Go'.region [(0,0),(1,0)] rfl ?_
      refine O.mv rfl rfl rfl rfl rfl ?_
      refine O.not rfl rfl rfl rfl rfl ?_
      refine Pl.fin [(0,_),(6,_),(7,_),(8,_),(30,_)] ⟨rfl,rfl,rfl,rfl,rfl,trivial⟩ ?_
      refine Go'.condT rfl ?_
      refine Go'.seq ?_
      refine Go'.region [(0,0),(1,0),(2,0),(3,1),(4,2),(5,0)] rfl ?_
      refine O.mv rfl rfl rfl rfl rfl ?_
      refine O.nc rfl rfl rfl rfl rfl ?_
      refine O.fa0 (off := 7) rfl rfl rfl rfl ⟨_,_,_,underlying158,rfl,rfl,sizeOf27⟩ rfl ?_
      refine O.lds rfl rfl rfl (fun w => ⟨isAgg27 w,sizeOf27 w⟩) rfl rfl tc.emp ?_
      refine O.st (vs := (EJ.enc (0,0))) rfl rfl sizeOf27 rfl rfl rfl rfl rfl wr8 ?_
      intro H5 W5
      have hs5 := W5.size
      replace hF := hF.trans' W5.fr (fun _ _ _ h => h) (fun b o hb h => by have h' := h.1; omega)
      refine ⟨trivial,?_⟩
      refine O.asg rfl rfl rfl rfl rfl ?_
      refine Pl.fin [(0,_),(6,_),(7,_),(8,_)] ⟨rfl,rfl,rfl,rfl,trivial⟩ ?_
      refine Go'.ret (vs := [_,_]) func132 results132 ⟨⟨_,_,rfl,fun _ _ => run_loadVar_agg (fun w => ⟨isAgg27 w,sizeOf27 w⟩) rfl W5.all⟩,rfl,trivial⟩ ?_
      have hgn : Pl.got OI x l = none := by
        simpa [Pl.dlr] using hd
      have hfd : Pl.fnd OI x l = false := by rw [← Pl.got_isSome,hgn]; rfl
      have hM5 := hM0.fr hfn (fun _ _ _ => nw)
      replace hM5 := hM5.fr W5.fr (fun b o hb => nr (.inl (by
        rcases hb with hb | hb
        · have := hSlt b hb; omega
        · omega)))
      refine ⟨by rw [hgn,hfd]; rfl,S,by rw [Pl.del_none OI hfd]; exact hM5,hF,fun b hb => .inl hb⟩
    · -- there
      have hgy : Pl.got OI x l = some y ∧ Pl.del OI x l = L1 := by
        simp only [Pl.dlr,Option.map_eq_some_iff,Prod.mk.injEq] at hd
        obtain ⟨z,hz,rfl,rfl⟩ := hd
        exact ⟨hz,rfl⟩
      have hfd : Pl.fnd OI x l = true := by rw [← Pl.got_isSome,hgy.1]; rfl
      have hln := Pl.dlr_len OI hd
      have hown1 : ∀ b o,Gt.af h t1 b o → S b ∨ (H1.size ≤ b ∧ b < H4.size) := fun b o hb => (ha1 b o hb).1.imp (hown b o) (fun h9 => ⟨h9,(ha1 b o hb).2.2⟩)
      have hnt1 : ∀ b o,Gt.af h t1 b o → cx.base ≤ b := fun b o hb => (ha1 b o hb).1.elim (hnt b o) (fun h9 => by omega)
      have hne1 : ∀ b o,Gt.af h t1 b o → b ≠ H0.size := fun b o hb => (ha1 b o hb).1.elim (fun h => by have := hlt b o h; omega) (fun h9 => by omega)
      have hsrt1 : Pl.Srt OI L1 := by rw [← hgy.2]; exact srt.del OI
      rw [← hp1] at hc
      obtain ⟨kp,hn1⟩ := hg1.node
      have hxm1 := hg1.xmx
      have hx255 := hP.hx
      clear hd hg hx1 hM0 hlt ha1 hp1
      refine Go'.region [(0,0),(1,0)] rfl ?_
      refine O.mv rfl rfl rfl rfl rfl ?_
      refine O.not rfl rfl rfl rfl rfl ?_
      refine Pl.fin [(0,_),(6,_),(7,_),(8,_),(30,_)] ⟨rfl,rfl,rfl,rfl,rfl,trivial⟩ ?_
      refine Go'.condF rfl ?_
      refine Go'.skip ?_
      refine Go'.seq ?_
      refine Go'.seq ?_
      by_cases h0 : (Gt.X h t1).length = 0
      · -- none left in the root
        match h,t1,hg1,hc,hown1,hnt1,hne1,hl1,hn1,h0,hxm1 with
        | 0,t1,hg1,hc,hown1,hnt1,hne1,hl1,hn1,h0,hxm1 =>
          refine Go'.region [(0,0),(1,0),(2,0),(3,1),(4,0),(5,0),(6,1),(7,0),(8,0),(9,0),(10,0),(11,0),(12,0),(13,1),(14,2),(15,0),(16,0)] rfl ?_
          refine O.mv rfl rfl rfl rfl rfl ?_
          refine O.nc rfl rfl rfl rfl rfl ?_
          refine O.fa0 (off := 2) rfl rfl rfl rfl ⟨_,_,_,underlying158,rfl,rfl,sizeOf129⟩ rfl ?_
          refine O.ld rfl rfl rfl (fun w => ⟨isAgg129 w,sizeOf129 w⟩) rfl (show cl _ tr 2 = some (.pointer (some ⟨Gt.p 0 t1,0,none⟩)) from hc) ?_
          refine O.nc rfl rfl rfl rfl rfl ?_
          refine O.fa0 (off := 2) rfl rfl rfl rfl ⟨_,_,_,underlying168,rfl,rfl,sizeOf25⟩ rfl ?_
          refine O.ld rfl rfl rfl (fun w => ⟨isAgg25 w,sizeOf25 w⟩) rfl (show cl _ (Gt.p 0 t1) 2 = some (.slice (some ⟨(Gt.g 0 t1).ib,(Gt.g 0 t1).io,none⟩) (Gt.X 0 t1).length (Gt.g 0 t1).ic) from hn1.c2) ?_
          refine O.len rfl rfl rfl rfl underlying25 rfl ?_
          refine O.cmp rfl rfl rfl rfl rfl rfl (eqlT (by omega)) ?_
          refine O.mv rfl rfl rfl rfl rfl ?_
          refine O.mv rfl rfl rfl rfl rfl ?_
          refine O.nc rfl rfl rfl rfl rfl ?_
          refine O.fa0 (off := 2) rfl rfl rfl rfl ⟨_,_,_,underlying158,rfl,rfl,sizeOf129⟩ rfl ?_
          refine O.ld rfl rfl rfl (fun w => ⟨isAgg129 w,sizeOf129 w⟩) rfl (show cl _ tr 2 = some (.pointer (some ⟨Gt.p 0 t1,0,none⟩)) from hc) ?_
          refine O.callQ rfl rfl rfl call133 rfl (leaf_spec (show cl _ (Gt.p 0 t1) 3 = some (.pointer none) from hg1.1.c3)) trivial ?_
          refine O.not rfl rfl rfl rfl rfl ?_
          refine O.pick rfl rfl rfl rfl rfl rfl ?_
          refine Pl.fin [(0,_),(6,_),(7,_),(8,_),(51,_)] ⟨rfl,rfl,rfl,rfl,rfl,trivial⟩ ?_
          refine Go'.condF rfl ?_
          refine Go'.skip ?_
          refine Go'.seq ?_
          have hL0 : L1.length = 0 := by rw [← hl1]; exact h0
          refine Go'.region [(0,0),(1,0),(2,0),(3,1),(4,0),(5,0),(6,0),(7,2)] rfl ?_
          refine O.mv rfl rfl rfl rfl rfl ?_
          refine O.nc rfl rfl rfl rfl rfl ?_
          refine O.fa0 (off := 3) rfl rfl rfl rfl ⟨_,_,_,underlying158,rfl,rfl,sizeOf3⟩ rfl ?_
          refine O.ld rfl rfl rfl (fun w => ⟨isAgg3 w,sizeOf3 w⟩) rfl cnt ?_
          refine O.sub (((l.length - 1 : Nat) : Int)) rfl rfl rfl rfl rfl rfl (by omega) (by omega) ?_
          refine O.nc rfl rfl rfl rfl rfl ?_
          refine O.fa0 (off := 3) rfl rfl rfl rfl ⟨_,_,_,underlying158,rfl,rfl,sizeOf3⟩ rfl ?_
          refine O.st rfl rfl sizeOf3 rfl rfl rfl rfl rfl (tc.wr.at0 3 1 (by omega)) ?_
          intro H6 W6
          have hs6 := W6.size
          replace tc := tc.fr (W6.fr' 1 rfl) (fun b o hb he hz => by have h1 := he hz.1; have h2 := hz.2.1; have h3 := hz.2.2; omega)
          replace hc := W6.keep1 hc (by omega)
          replace hF := hF.trans' W6.fr (fun _ _ _ h => h) (fun b o _ h => by rw [h.1]; exact own)
          replace m6 := W6.fr.rd m6 (fun _ _ => nr (.inl (by omega)))
          replace wr8 := W6.fr.wr wr8
          have cnt5 : cl H6 tr 3 = some (.int .i64 ((l.length - 1 : Nat) : Int)) := W6.at
          refine ⟨trivial,?_⟩
          refine Pl.fin [(0,_),(6,_),(7,_),(8,_)] ⟨rfl,rfl,rfl,rfl,trivial⟩ ?_
          refine Go'.seq ?_
          refine Go'.seq ?_
          refine Go'.region [(0,0),(1,0),(2,0),(3,1),(4,0)] rfl ?_
          refine O.mv rfl rfl rfl rfl rfl ?_
          refine O.nc rfl rfl rfl rfl rfl ?_
          refine O.fa0 (off := 3) rfl rfl rfl rfl ⟨_,_,_,underlying158,rfl,rfl,sizeOf3⟩ rfl ?_
          refine O.ld rfl rfl rfl (fun w => ⟨isAgg3 w,sizeOf3 w⟩) rfl cnt5 ?_
          refine O.cmp rfl rfl rfl rfl rfl rfl (eqlT (by omega)) ?_
          refine Pl.fin [(0,_),(6,_),(7,_),(8,_),(77,_)] ⟨rfl,rfl,rfl,rfl,rfl,trivial⟩ ?_
          refine Go'.condT rfl ?_
          refine Go'.region [(0,0),(1,0),(2,0),(3,2)] rfl ?_
          refine O.mv rfl rfl rfl rfl rfl ?_
          refine O.nc rfl rfl rfl rfl rfl ?_
          refine O.fa0 (off := 2) rfl rfl rfl rfl ⟨_,_,_,underlying158,rfl,rfl,sizeOf129⟩ rfl ?_
          refine O.st rfl rfl sizeOf129 rfl rfl rfl rfl rfl (tc.wr.at0 2 1 (by omega)) ?_
          intro H7 W7
          have hs7 := W7.size
          replace tc := tc.fr (W7.fr' 1 rfl) (fun b o hb he hz => by have h1 := he hz.1; have h2 := hz.2.1; have h3 := hz.2.2; omega)
          replace cnt5 := W7.keep1 cnt5 (by omega)
          replace hF := hF.trans' W7.fr (fun _ _ _ h => h) (fun b o _ h => by rw [h.1]; exact own)
          replace m6 := W7.fr.rd m6 (fun _ _ => nr (.inl (by omega)))
          replace wr8 := W7.fr.wr wr8
          have hc6 : cl H7 tr 2 = some (.pointer none) := W7.at
          refine ⟨trivial,?_⟩
          refine Pl.fin [(6,_),(7,_),(8,_)] ⟨rfl,rfl,rfl,trivial⟩ ?_
          refine Go'.seq ?_
          refine Go'.region [(0,1),(1,2),(2,0)] rfl ?_
          refine O.lds rfl rfl rfl (fun w => ⟨isAgg27 w,sizeOf27 w⟩) rfl rfl m6 ?_
          refine O.st rfl rfl sizeOf27 rfl rfl rfl rfl rfl wr8 ?_
          intro H8 W8
          have hs8 := W8.size
          replace tc := tc.fr W8.fr (fun b o hb _ => nr (.inl (by omega)))
          replace cnt5 := W8.fr.keep cnt5 (nr (.inl (by omega)))
          replace hc6 := W8.fr.keep hc6 (nr (.inl (by omega)))
          replace hF := hF.trans' W8.fr (fun _ _ _ h => h) (fun b o hb h => by have h' := h.1; omega)
          have m8 : Rd H8 H0.size 0 (EJ.enc y) := W8.all
          refine ⟨trivial,?_⟩
          refine O.asg rfl rfl rfl rfl rfl ?_
          refine Pl.fin [(6,_),(7,_)] ⟨rfl,rfl,trivial⟩ ?_
          refine Go'.ret (vs := [_,_]) func132 results132 ⟨⟨_,_,rfl,fun _ _ => run_loadVar_agg (fun w => ⟨isAgg27 w,sizeOf27 w⟩) rfl m8⟩,rfl,trivial⟩ ?_
          have hl5 : L1 = [] := List.length_eq_zero_iff.1 (by omega)
          unfold DelP
          rw [hgy.1,hfd,hgy.2]
          have e9 : l.length - 1 = L1.length := by omega
          rw [e9] at cnt5
          exact ⟨rfl,fun b => S b ∨ (H.size ≤ b ∧ b < H8.size),⟨tc,hsrt1,cnt5,.inl own,fun b hb => hb.elim (fun h9 => by have := hSlt b h9; omega) (fun h9 => h9.2),fun b hb => hb.elim (bs b) (fun h9 => .inr (by omega)),.inl ⟨hl5,hc6⟩⟩,hF,fun b hb => hb.imp id (fun h9 => h9.1)⟩
        | h + 1,t1,hg1,hc,hown1,hnt1,hne1,hl1,hn1,h0,hxm1 =>
          refine Go'.region [(0,0),(1,0),(2,0),(3,1),(4,0),(5,0),(6,1),(7,0),(8,0),(9,0),(10,0),(11,0),(12,0),(13,1),(14,2),(15,0),(16,0)] rfl ?_
          refine O.mv rfl rfl rfl rfl rfl ?_
          refine O.nc rfl rfl rfl rfl rfl ?_
          refine O.fa0 (off := 2) rfl rfl rfl rfl ⟨_,_,_,underlying158,rfl,rfl,sizeOf129⟩ rfl ?_
          refine O.ld rfl rfl rfl (fun w => ⟨isAgg129 w,sizeOf129 w⟩) rfl (show cl _ tr 2 = some (.pointer (some ⟨Gt.p (h + 1) t1,0,none⟩)) from hc) ?_
          refine O.nc rfl rfl rfl rfl rfl ?_
          refine O.fa0 (off := 2) rfl rfl rfl rfl ⟨_,_,_,underlying168,rfl,rfl,sizeOf25⟩ rfl ?_
          refine O.ld rfl rfl rfl (fun w => ⟨isAgg25 w,sizeOf25 w⟩) rfl (show cl _ (Gt.p (h + 1) t1) 2 = some (.slice (some ⟨(Gt.g (h + 1) t1).ib,(Gt.g (h + 1) t1).io,none⟩) (Gt.X (h + 1) t1).length (Gt.g (h + 1) t1).ic) from hn1.c2) ?_
          refine O.len rfl rfl rfl rfl underlying25 rfl ?_
          refine O.cmp rfl rfl rfl rfl rfl rfl (eqlT (by omega)) ?_
          refine O.mv rfl rfl rfl rfl rfl ?_
          refine O.mv rfl rfl rfl rfl rfl ?_
          refine O.nc rfl rfl rfl rfl rfl ?_
          refine O.fa0 (off := 2) rfl rfl rfl rfl ⟨_,_,_,underlying158,rfl,rfl,sizeOf129⟩ rfl ?_
          refine O.ld rfl rfl rfl (fun w => ⟨isAgg129 w,sizeOf129 w⟩) rfl (show cl _ tr 2 = some (.pointer (some ⟨Gt.p (h + 1) t1,0,none⟩)) from hc) ?_
          refine O.callQ rfl rfl rfl call133 rfl (leaf_spec (show cl _ (Gt.p (h + 1) t1) 3 = some (.pointer (some ⟨t1.1.cb,0,none⟩)) from hg1.1.c3)) trivial ?_
          refine O.not rfl rfl rfl rfl rfl ?_
          refine O.pick rfl rfl rfl rfl rfl rfl ?_
          refine Pl.fin [(0,_),(6,_),(7,_),(8,_),(51,_)] ⟨rfl,rfl,rfl,rfl,rfl,trivial⟩ ?_
          refine Go'.condT rfl ?_
          obtain ⟨g,X,K⟩ := t1
          have hX0 : X = [] := List.length_eq_zero_iff.1 h0
          subst hX0
          have hK1 : K.length = 1 := hg1.2.2.2.2.2.1
          obtain ⟨k,rfl⟩ : ∃ k,K = [k] := by
            match K,hK1 with
            | [k],_ => exact ⟨k,rfl⟩
          obtain ⟨hgz,hkm,hkd⟩ := hg1.2.2.2.2.2.2.1 k (List.mem_singleton.2 rfl)
          have hI := Gt.Good.inn hg1
          have hk0 : ((Gt.ps h [k]).map some)[0]? = some (some (Gt.p h k)) := rfl
          have hlz : Gt.L h k = L1 := by rw [← hl1]; rfl
          have hafk : ∀ b o,Gt.af h k b o → Gt.af (h + 1) ((g,[],[k]) : Gt EJ (h + 1)) b o := fun b o hb => .inr (.inr ⟨k,List.mem_singleton.2 rfl,hb⟩)
          have hownz : ∀ b o,Gt.af h k b o → S b ∨ (H1.size ≤ b ∧ b < H4.size) := fun b o hb => hown1 b o (hafk b o hb)
          have hntz : ∀ b o,Gt.af h k b o → cx.base ≤ b := fun b o hb => hnt1 b o (hafk _ _ hb)
          have hnez : ∀ b o,Gt.af h k b o → b ≠ H0.size := fun b o hb => hne1 b o (hafk _ _ hb)
          have hxz : 1 ≤ (Gt.X h k).length := by omega
          have hne := hgz.ne hxz
          have hL0 : L1.length ≠ 0 := by rw [← hlz]; omega
          refine Go'.region [(0,0),(1,0),(2,0),(3,0),(4,1),(5,0),(6,0),(7,1),(8,0),(9,1),(10,0),(11,1),(12,0),(13,0),(14,2)] rfl ?_
          refine O.mv rfl rfl rfl rfl rfl ?_
          refine O.mv rfl rfl rfl rfl rfl ?_
          refine O.nc rfl rfl rfl rfl rfl ?_
          refine O.fa0 (off := 2) rfl rfl rfl rfl ⟨_,_,_,underlying158,rfl,rfl,sizeOf129⟩ rfl ?_
          refine O.ld rfl rfl rfl (fun w => ⟨isAgg129 w,sizeOf129 w⟩) rfl (show cl _ tr 2 = some (.pointer (some ⟨g.p,0,none⟩)) from hc) ?_
          refine O.nc rfl rfl rfl rfl rfl ?_
          refine O.fa0 (off := 3) rfl rfl rfl rfl ⟨_,_,_,underlying168,rfl,rfl,sizeOf166⟩ rfl ?_
          refine O.ld rfl rfl rfl (fun w => ⟨isAgg166 w,sizeOf166 w⟩) rfl (show cl _ g.p 3 = some (.pointer (some ⟨g.cb,0,none⟩)) from hI.n.c3) ?_
          refine O.nc rfl rfl rfl rfl rfl ?_
          refine O.ld rfl rfl rfl (fun w => ⟨isAgg170 w,sizeOf170 w⟩) rfl hI.k.c ?_
          refine O.ix (j := 0) rfl rfl rfl rfl underlying170 sizeOf129 rfl rfl rfl (by simp [Gt.ps]) ?_
          refine O.ld rfl rfl rfl (fun w => ⟨isAgg129 w,sizeOf129 w⟩) rfl (hI.k.at hk0) ?_
          refine O.nc rfl rfl rfl rfl rfl ?_
          refine O.fa0 (off := 2) rfl rfl rfl rfl ⟨_,_,_,underlying158,rfl,rfl,sizeOf129⟩ rfl ?_
          refine O.st rfl rfl sizeOf129 rfl rfl rfl rfl rfl (tc.wr.at0 2 1 (by omega)) ?_
          intro H5 W5
          have hs5 := W5.size
          replace tc := tc.fr (W5.fr' 1 rfl) (fun b o hb he hz => by have h1 := he hz.1; have h2 := hz.2.1; have h3 := hz.2.2; omega)
          replace cnt := W5.keep1 cnt (by omega)
          replace hF := hF.trans' W5.fr (fun _ _ _ h => h) (fun b o _ h => by rw [h.1]; exact own)
          replace m6 := W5.fr.rd m6 (fun _ _ => nr (.inl (by omega)))
          replace wr8 := W5.fr.wr wr8
          replace hgz := hgz.fr W5.fr (fun b o hb => nr (.inl (by have := hntz b o hb; omega)))
          clear hc
          have hc : cl H5 tr 2 = some (ptr (Gt.p h k)) := W5.at
          refine ⟨trivial,?_⟩
          refine Pl.fin [(0,_),(6,_),(7,_),(8,_)] ⟨rfl,rfl,rfl,rfl,trivial⟩ ?_
          refine Go'.seq ?_
          refine Go'.region [(0,0),(1,0),(2,0),(3,1),(4,0),(5,0),(6,0),(7,2)] rfl ?_
          refine O.mv rfl rfl rfl rfl rfl ?_
          refine O.nc rfl rfl rfl rfl rfl ?_
          refine O.fa0 (off := 3) rfl rfl rfl rfl ⟨_,_,_,underlying158,rfl,rfl,sizeOf3⟩ rfl ?_
          refine O.ld rfl rfl rfl (fun w => ⟨isAgg3 w,sizeOf3 w⟩) rfl cnt ?_
          refine O.sub (((l.length - 1 : Nat) : Int)) rfl rfl rfl rfl rfl rfl (by omega) (by omega) ?_
          refine O.nc rfl rfl rfl rfl rfl ?_
          refine O.fa0 (off := 3) rfl rfl rfl rfl ⟨_,_,_,underlying158,rfl,rfl,sizeOf3⟩ rfl ?_
          refine O.st rfl rfl sizeOf3 rfl rfl rfl rfl rfl (tc.wr.at0 3 1 (by omega)) ?_
          intro H6 W6
          have hs6 := W6.size
          replace tc := tc.fr (W6.fr' 1 rfl) (fun b o hb he hz => by have h1 := he hz.1; have h2 := hz.2.1; have h3 := hz.2.2; omega)
          replace hc := W6.keep1 hc (by omega)
          replace hF := hF.trans' W6.fr (fun _ _ _ h => h) (fun b o _ h => by rw [h.1]; exact own)
          replace m6 := W6.fr.rd m6 (fun _ _ => nr (.inl (by omega)))
          replace wr8 := W6.fr.wr wr8
          have cnt5 : cl H6 tr 3 = some (.int .i64 ((l.length - 1 : Nat) : Int)) := W6.at
          refine ⟨trivial,?_⟩
          refine Pl.fin [(0,_),(6,_),(7,_),(8,_)] ⟨rfl,rfl,rfl,rfl,trivial⟩ ?_
          refine Go'.seq ?_
          refine Go'.seq ?_
          refine Go'.region [(0,0),(1,0),(2,0),(3,1),(4,0)] rfl ?_
          refine O.mv rfl rfl rfl rfl rfl ?_
          refine O.nc rfl rfl rfl rfl rfl ?_
          refine O.fa0 (off := 3) rfl rfl rfl rfl ⟨_,_,_,underlying158,rfl,rfl,sizeOf3⟩ rfl ?_
          refine O.ld rfl rfl rfl (fun w => ⟨isAgg3 w,sizeOf3 w⟩) rfl cnt5 ?_
          refine O.cmp rfl rfl rfl rfl rfl rfl (eqlF (by omega)) ?_
          refine Pl.fin [(0,_),(6,_),(7,_),(8,_),(77,_)] ⟨rfl,rfl,rfl,rfl,rfl,trivial⟩ ?_
          refine Go'.condF rfl ?_
          refine Go'.skip ?_
          refine Go'.seq ?_
          refine Go'.region [(0,1),(1,2),(2,0)] rfl ?_
          refine O.lds rfl rfl rfl (fun w => ⟨isAgg27 w,sizeOf27 w⟩) rfl rfl m6 ?_
          refine O.st rfl rfl sizeOf27 rfl rfl rfl rfl rfl wr8 ?_
          intro H8 W8
          have hs8 := W8.size
          replace tc := tc.fr W8.fr (fun b o hb _ => nr (.inl (by omega)))
          replace cnt5 := W8.fr.keep cnt5 (nr (.inl (by omega)))
          replace hc := W8.fr.keep hc (nr (.inl (by omega)))
          replace hF := hF.trans' W8.fr (fun _ _ _ h => h) (fun b o hb h => by have h' := h.1; omega)
          have m8 : Rd H8 H0.size 0 (EJ.enc y) := W8.all
          refine ⟨trivial,?_⟩
          refine O.asg rfl rfl rfl rfl rfl ?_
          refine Pl.fin [(6,_),(7,_)] ⟨rfl,rfl,trivial⟩ ?_
          refine Go'.ret (vs := [_,_]) func132 results132 ⟨⟨_,_,rfl,fun _ _ => run_loadVar_agg (fun w => ⟨isAgg27 w,sizeOf27 w⟩) rfl m8⟩,rfl,trivial⟩ ?_
          have hg5 := (hgz.fr W6.fr (fun b o hb => nr (.inl (by have := hntz b o hb; omega)))).fr W8.fr (fun b o hb => nr (.inl (hnez b o hb)))
          unfold DelP
          rw [hgy.1,hfd,hgy.2]
          have e9 : l.length - 1 = L1.length := by omega
          rw [e9] at cnt5
          exact ⟨rfl,fun b => S b ∨ (H.size ≤ b ∧ b < H8.size),⟨tc,hsrt1,cnt5,.inl own,fun b hb => hb.elim (fun h9 => by have := hSlt b h9; omega) (fun h9 => h9.2),fun b hb => hb.elim (bs b) (fun h9 => .inr (by omega)),.inr ⟨h,k,hg5,hxz,hlz,hc,hntz,fun b o hb => (hownz b o hb).imp id (fun h => ⟨by omega,by omega⟩)⟩⟩,hF,fun b hb => hb.imp id (fun h9 => h9.1)⟩
      · -- some left in the root
        refine Go'.region [(0,0),(1,0),(2,0),(3,1),(4,0),(5,0),(6,1),(7,0),(8,0),(9,0),(10,0),(11,0),(12,0),(13,1),(14,2),(15,0),(16,0)] rfl ?_
        refine O.mv rfl rfl rfl rfl rfl ?_
        refine O.nc rfl rfl rfl rfl rfl ?_
        refine O.fa0 (off := 2) rfl rfl rfl rfl ⟨_,_,_,underlying158,rfl,rfl,sizeOf129⟩ rfl ?_
        refine O.ld rfl rfl rfl (fun w => ⟨isAgg129 w,sizeOf129 w⟩) rfl (show cl _ tr 2 = some (.pointer (some ⟨Gt.p h t1,0,none⟩)) from hc) ?_
        refine O.nc rfl rfl rfl rfl rfl ?_
        refine O.fa0 (off := 2) rfl rfl rfl rfl ⟨_,_,_,underlying168,rfl,rfl,sizeOf25⟩ rfl ?_
        refine O.ld rfl rfl rfl (fun w => ⟨isAgg25 w,sizeOf25 w⟩) rfl (show cl _ (Gt.p h t1) 2 = some (.slice (some ⟨(Gt.g h t1).ib,(Gt.g h t1).io,none⟩) (Gt.X h t1).length (Gt.g h t1).ic) from hn1.c2) ?_
        refine O.len rfl rfl rfl rfl underlying25 rfl ?_
        refine O.cmp rfl rfl rfl rfl rfl rfl (eqlF (by omega)) ?_
        refine O.mv rfl rfl rfl rfl rfl ?_
        refine Pl.pass rfl rfl rfl rfl ?_
        refine Pl.pass rfl rfl rfl rfl ?_
        refine Pl.pass rfl rfl rfl rfl ?_
        refine Pl.pass rfl rfl rfl rfl ?_
        refine Pl.pass2 rfl rfl rfl rfl trivial ?_
        refine Pl.pass rfl rfl rfl rfl ?_
        refine O.pick rfl rfl rfl rfl rfl rfl ?_
        refine Pl.fin [(0,_),(6,_),(7,_),(8,_),(51,_)] ⟨rfl,rfl,rfl,rfl,rfl,trivial⟩ ?_
        refine Go'.condF rfl ?_
        refine Go'.skip ?_
        refine Go'.seq ?_
        have hgz := hg1
        have hlz := hl1
        have hownz := hown1
        have hntz := hnt1
        have hnez := hne1
        have hxz : 1 ≤ (Gt.X h t1).length := by omega
        have hne := hgz.ne hxz
        have hL0 : L1.length ≠ 0 := by rw [← hlz]; omega
        refine Go'.region [(0,0),(1,0),(2,0),(3,1),(4,0),(5,0),(6,0),(7,2)] rfl ?_
        refine O.mv rfl rfl rfl rfl rfl ?_
        refine O.nc rfl rfl rfl rfl rfl ?_
        refine O.fa0 (off := 3) rfl rfl rfl rfl ⟨_,_,_,underlying158,rfl,rfl,sizeOf3⟩ rfl ?_
        refine O.ld rfl rfl rfl (fun w => ⟨isAgg3 w,sizeOf3 w⟩) rfl cnt ?_
        refine O.sub (((l.length - 1 : Nat) : Int)) rfl rfl rfl rfl rfl rfl (by omega) (by omega) ?_
        refine O.nc rfl rfl rfl rfl rfl ?_
        refine O.fa0 (off := 3) rfl rfl rfl rfl ⟨_,_,_,underlying158,rfl,rfl,sizeOf3⟩ rfl ?_
        refine O.st rfl rfl sizeOf3 rfl rfl rfl rfl rfl (tc.wr.at0 3 1 (by omega)) ?_
        intro H6 W6
        have hs6 := W6.size
        replace tc := tc.fr (W6.fr' 1 rfl) (fun b o hb he hz => by have h1 := he hz.1; have h2 := hz.2.1; have h3 := hz.2.2; omega)
        replace hc := W6.keep1 hc (by omega)
        replace hF := hF.trans' W6.fr (fun _ _ _ h => h) (fun b o _ h => by rw [h.1]; exact own)
        replace m6 := W6.fr.rd m6 (fun _ _ => nr (.inl (by omega)))
        replace wr8 := W6.fr.wr wr8
        have cnt5 : cl H6 tr 3 = some (.int .i64 ((l.length - 1 : Nat) : Int)) := W6.at
        refine ⟨trivial,?_⟩
        refine Pl.fin [(0,_),(6,_),(7,_),(8,_)] ⟨rfl,rfl,rfl,rfl,trivial⟩ ?_
        refine Go'.seq ?_
        refine Go'.seq ?_
        refine Go'.region [(0,0),(1,0),(2,0),(3,1),(4,0)] rfl ?_
        refine O.mv rfl rfl rfl rfl rfl ?_
        refine O.nc rfl rfl rfl rfl rfl ?_
        refine O.fa0 (off := 3) rfl rfl rfl rfl ⟨_,_,_,underlying158,rfl,rfl,sizeOf3⟩ rfl ?_
        refine O.ld rfl rfl rfl (fun w => ⟨isAgg3 w,sizeOf3 w⟩) rfl cnt5 ?_
        refine O.cmp rfl rfl rfl rfl rfl rfl (eqlF (by omega)) ?_
        refine Pl.fin [(0,_),(6,_),(7,_),(8,_),(77,_)] ⟨rfl,rfl,rfl,rfl,rfl,trivial⟩ ?_
        refine Go'.condF rfl ?_
        refine Go'.skip ?_
        refine Go'.seq ?_
        refine Go'.region [(0,1),(1,2),(2,0)] rfl ?_
        refine O.lds rfl rfl rfl (fun w => ⟨isAgg27 w,sizeOf27 w⟩) rfl rfl m6 ?_
        refine O.st rfl rfl sizeOf27 rfl rfl rfl rfl rfl wr8 ?_
        intro H8 W8
        have hs8 := W8.size
        replace tc := tc.fr W8.fr (fun b o hb _ => nr (.inl (by omega)))
        replace cnt5 := W8.fr.keep cnt5 (nr (.inl (by omega)))
        replace hc := W8.fr.keep hc (nr (.inl (by omega)))
        replace hF := hF.trans' W8.fr (fun _ _ _ h => h) (fun b o hb h => by have h' := h.1; omega)
        have m8 : Rd H8 H0.size 0 (EJ.enc y) := W8.all
        refine ⟨trivial,?_⟩
        refine O.asg rfl rfl rfl rfl rfl ?_
        refine Pl.fin [(6,_),(7,_)] ⟨rfl,rfl,trivial⟩ ?_
        refine Go'.ret (vs := [_,_]) func132 results132 ⟨⟨_,_,rfl,fun _ _ => run_loadVar_agg (fun w => ⟨isAgg27 w,sizeOf27 w⟩) rfl m8⟩,rfl,trivial⟩ ?_
        have hg5 := (hgz.fr W6.fr (fun b o hb => nr (.inl (by have := hntz b o hb; omega)))).fr W8.fr (fun b o hb => nr (.inl (hnez b o hb)))
        unfold DelP
        rw [hgy.1,hfd,hgy.2]
        have e9 : l.length - 1 = L1.length := by omega
        rw [e9] at cnt5
        exact ⟨rfl,fun b => S b ∨ (H.size ≤ b ∧ b < H8.size),⟨tc,hsrt1,cnt5,.inl own,fun b hb => hb.elim (fun h9 => by have := hSlt b h9; omega) (fun h9 => h9.2),fun b hb => hb.elim (bs b) (fun h9 => .inr (by omega)),.inr ⟨h,t1,hg5,hxz,hlz,hc,hntz,fun b o hb => (hownz b o hb).imp id (fun h => ⟨by omega,by omega⟩)⟩⟩,hF,fun b hb => hb.imp id (fun h9 => h9.1)⟩

theorem deleteH_spec {B : World} {H : Mem} {tr : Nat} {P : Ps} (hP : PsOk P) {S : Nat → Prop} {l : List (Int × Int)} {x : Int × Int} (hM : MapM H tr P S l) (hlen : l.length < 2305843009213693952) :
    Fn Try.prog B 150 [.pointer (some ⟨tr,0,none⟩),.agg (EJ.enc x).toArray,.pointer none] H (DelP H tr P S l x) := by
  have hSlt := hM.lt
  have hbs0 := hM.tc.hb
  refine fn_of func150 rfl ntmps150 ?_
  refine (show Go' _ _ _ _ 17 [(0,_),(1,_),(2,_)] [.code _] _ from ?_)
  refine Go'.seq ?_
  refine Go'.region [(0,2),(1,2),(2,0)] rfl ?_
  refine O.box rfl rfl rfl rfl ?_
  intro H0 M0
  refine ⟨trivial,?_⟩
  have hs0 := M0.size
  replace hM := hM.fr (M0.fr nowhere) (fun _ _ _ => nw)
  have mk : Rd H0 H.size 0 (EJ.enc x) := M0.rd _ [] (by simp [Value.cells])
  refine O.alloc rfl rfl rfl zeroValue27 ?_
  intro H1 M1
  refine ⟨trivial,?_⟩
  have hs1 := M1.size
  replace hM := hM.fr (M1.fr nowhere) (fun _ _ _ => nw)
  replace mk := (M1.fr nowhere).rd mk (fun _ _ => nw)
  have wr8 : Wr H1 H0.size 0 2 := M1.wr 2 (by decide)
  refine O.asg rfl rfl rfl rfl rfl ?_
  refine Pl.fin [(0,_),(2,_),(4,_),(6,_),(7,_)] ⟨rfl,rfl,rfl,rfl,rfl,trivial⟩ ?_
  refine Go'.seq ?_
  refine Go'.seq ?_
  refine Go'.region [(0,0),(1,2)] rfl ?_
  refine O.mv rfl rfl rfl rfl rfl ?_
  refine O.callQ rfl rfl rfl call128 rfl lock_spec trivial ?_
  refine Pl.fin [(0,_),(2,_),(4,_),(6,_),(7,_),(9,_)] ⟨rfl,rfl,rfl,rfl,rfl,rfl,trivial⟩ ?_
  refine Go'.condF rfl ?_
  refine Go'.skip ?_
  refine Go'.seq ?_
  refine Go'.region [(0,0),(1,1),(2,0),(3,2),(4,0),(5,0),(6,2),(7,0)] rfl ?_
  refine O.mv rfl rfl rfl rfl rfl ?_
  refine O.lds rfl rfl rfl (fun w => ⟨isAgg27 w,sizeOf27 w⟩) rfl rfl mk ?_
  refine O.mv rfl rfl rfl rfl rfl ?_
  refine O.call rfl rfl rfl call132 rfl (delh_spec hP hM hlen) ?_
  rintro _ H2 ⟨rfl,hq⟩
  obtain ⟨S1,hM1,hF1,hS1⟩ := hq
  have hs2 := hF1.size
  replace wr8 := hF1.wr wr8
  refine ⟨trivial,?_⟩
  refine O.ext rfl rfl rfl rfl rfl rfl ?_
  refine O.ext rfl rfl rfl rfl rfl rfl ?_
  refine O.st (vs := (EJ.enc ((Pl.got OI x l).getD (0,0)))) rfl rfl sizeOf27 rfl rfl rfl rfl rfl wr8 ?_
  intro H3 W3
  have hs3 := W3.size
  refine ⟨trivial,?_⟩
  refine O.asg rfl rfl rfl rfl rfl ?_
  refine Pl.fin [(6,_),(7,_)] ⟨rfl,rfl,trivial⟩ ?_
  refine Go'.ret (vs := [_,_]) func150 results150 ⟨⟨_,_,rfl,fun _ _ => run_loadVar_agg (fun w => ⟨isAgg27 w,sizeOf27 w⟩) rfl W3.all⟩,rfl,trivial⟩ ?_
  refine ⟨rfl,S1,hM1.fr W3.fr (fun b o hb => nr (.inl (by
    rcases hb with hb | hb
    · rcases hS1 b hb with h9 | h9
      · have := hSlt b h9; omega
      · omega
    · omega))),?_,fun b hb => (hS1 b hb).imp id (fun h9 => by omega)⟩
  exact (((M0.fr nowhere).trans' (M1.fr nowhere) (fun _ _ _ h => h) (fun _ _ _ h => h)).trans' hF1 (fun _ _ _ h => h.elim) (fun _ _ _ h => h)).trans' W3.fr (fun _ _ _ h => h) (fun b o hb h => by have h' := h.1; omega)

theorem delete_spec {B : World} {H : Mem} {tr : Nat} {P : Ps} (hP : PsOk P) {S : Nat → Prop} {l : List (Int × Int)} {x : Int × Int} (hM : MapM H tr P S l) (hlen : l.length < 2305843009213693952) :
    Fn Try.prog B 105 [.pointer (some ⟨tr,0,none⟩),.agg (EJ.enc x).toArray] H (DelP H tr P S l x) := by
  have hSlt := hM.lt
  have hbs0 := hM.tc.hb
  refine fn_of func105 rfl ntmps105 ?_
  refine (show Go' _ _ _ _ 11 [(0,_),(1,_)] [.code _] _ from ?_)
  refine Go'.seq ?_
  refine Go'.region [(0,2),(1,2),(2,0)] rfl ?_
  refine O.box rfl rfl rfl rfl ?_
  intro H0 M0
  refine ⟨trivial,?_⟩
  have hs0 := M0.size
  replace hM := hM.fr (M0.fr nowhere) (fun _ _ _ => nw)
  have mk : Rd H0 H.size 0 (EJ.enc x) := M0.rd _ [] (by simp [Value.cells])
  refine O.alloc rfl rfl rfl zeroValue27 ?_
  intro H1 M1
  refine ⟨trivial,?_⟩
  have hs1 := M1.size
  replace hM := hM.fr (M1.fr nowhere) (fun _ _ _ => nw)
  replace mk := (M1.fr nowhere).rd mk (fun _ _ => nw)
  have wr8 : Wr H1 H0.size 0 2 := M1.wr 2 (by decide)
  refine O.asg rfl rfl rfl rfl rfl ?_
  refine Pl.fin [(0,_),(3,_),(4,_),(5,_)] ⟨rfl,rfl,rfl,rfl,trivial⟩ ?_
  refine Go'.seq ?_
  refine Go'.region [(0,0),(1,1),(2,2),(3,0),(4,0),(5,2),(6,0)] rfl ?_
  refine O.mv rfl rfl rfl rfl rfl ?_
  refine O.lds rfl rfl rfl (fun w => ⟨isAgg27 w,sizeOf27 w⟩) rfl rfl mk ?_
  refine O.call rfl rfl rfl call150 rfl (deleteH_spec hP hM hlen) ?_
  rintro _ H2 ⟨rfl,hq⟩
  obtain ⟨S1,hM1,hF1,hS1⟩ := hq
  have hs2 := hF1.size
  replace wr8 := hF1.wr wr8
  refine ⟨trivial,?_⟩
  refine O.ext rfl rfl rfl rfl rfl rfl ?_
  refine O.ext rfl rfl rfl rfl rfl rfl ?_
  refine O.st (vs := (EJ.enc ((Pl.got OI x l).getD (0,0)))) rfl rfl sizeOf27 rfl rfl rfl rfl rfl wr8 ?_
  intro H3 W3
  have hs3 := W3.size
  refine ⟨trivial,?_⟩
  refine O.asg rfl rfl rfl rfl rfl ?_
  refine Pl.fin [(4,_),(5,_)] ⟨rfl,rfl,trivial⟩ ?_
  refine Go'.ret (vs := [_,_]) func105 results105 ⟨⟨_,_,rfl,fun _ _ => run_loadVar_agg (fun w => ⟨isAgg27 w,sizeOf27 w⟩) rfl W3.all⟩,rfl,trivial⟩ ?_
  refine ⟨rfl,S1,hM1.fr W3.fr (fun b o hb => nr (.inl (by
    rcases hb with hb | hb
    · rcases hS1 b hb with h9 | h9
      · have := hSlt b h9; omega
      · omega
    · omega))),?_,fun b hb => (hS1 b hb).imp id (fun h9 => by omega)⟩
  exact (((M0.fr nowhere).trans' (M1.fr nowhere) (fun _ _ _ h => h) (fun _ _ _ h => h)).trans' hF1 (fun _ _ _ h => h.elim) (fun _ _ _ h => h)).trans' W3.fr (fun _ _ _ h => h) (fun b o hb h => by have h' := h.1; omega)

end
end Go.Bt.FG
namespace Go.Bt.FG
open Go Go.Proofs Go.Proofs.Try
set_option maxRecDepth 20000
set_option maxHeartbeats 4000000
set_option linter.unusedVariables false
set_option linter.unusedSectionVars false

section
variable [Inhabited Cx]

theorem MapM.zr {H H' : Mem} {tr : Nat} {P : Ps} {S : Nat → Prop} {l : List (Int × Int)} (hM : MapM H tr P S l) {zr o : Nat} {vs : List Value} (hzb : cx.base ≤ zr) (hzS : ∀ b,S b → b ≠ zr) (W : Wrote H H' zr o vs) : MapM H' tr P S l :=
  hM.fr W.fr fun b o hb => nr (.inl (by
    rcases hb with hb | hb
    · exact hzS b hb
    · have := hb.1; omega))
/-- What PopMin and PopMax do. -/
def PopP (H : Mem) (tr : Nat) (P : Ps) (S : Nat → Prop) (l : List (Int × Int)) (d : Bool) (r : Value) (H' : Mem) : Prop :=
  r = .tuple #[PV (Pl.popk l d).2,.bool (Pl.popk l d).2.isSome] ∧ MapTo H H' tr P S (Pl.popk l d).1
/-- The same with a cell zr for the result. -/
def PopZ (H : Mem) (tr : Nat) (P : Ps) (S : Nat → Prop) (zr : Nat) (l : List (Int × Int)) (d : Bool) (r : Value) (H' : Mem) : Prop :=
  r = .tuple #[PV (Pl.popk l d).2,.bool (Pl.popk l d).2.isSome] ∧ ∃ S',MapM H' tr P S' (Pl.popk l d).1 ∧ Fr (fun b _ => S b ∨ b = zr) H H' ∧ ∀ b,S' b → S b ∨ H.size ≤ b
theorem PopZ.out {H H1 : Mem} {tr : Nat} {P : Ps} {S : Nat → Prop} {l : List (Int × Int)} {d : Bool} {v : Value} {H' : Mem} (hf : Fr nowhere H H1) (hs : ∀ b,S b → b < H.size) (h : PopZ H1 tr P S H.size l d v H') : PopP H tr P S l d v H' := by
  obtain ⟨e,S',hM,hF,hS⟩ := h
  exact ⟨e,S',hM,hf.trans' hF (fun _ _ _ h => h.elim) (fun b o hb h => h.elim id (fun h => by omega)),fun b hb => (hS b hb).imp id (fun h => Nat.le_trans hf.size h)⟩

end
end Go.Bt.FG
