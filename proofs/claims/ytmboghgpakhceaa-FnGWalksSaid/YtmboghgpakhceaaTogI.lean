/- Contracts of functions of the program, proved by walking through their code. Conditions: those that each theorem names. -/
import Derived.Test.YtmboghgpakhceaaTogH
import Derived.Test.YtmboghgpakhceaaTogD
import Derived.Test.YtmboghgpakhceaaToHi
namespace Go.Bt.FG
open Go Go.Proofs Go.Proofs.Try
set_option maxRecDepth 20000
set_option maxHeartbeats 4000000
set_option linter.unusedVariables false
set_option linter.unusedSectionVars false
variable [Inhabited Cx]

/-- What nodeSet wants: a tree in memory,the cell that points to it,a hint. -/
structure NPreH (H : Mem) (tr : Nat) (P : Ps) (h : Nat) (t : Gt EJ h) (bp op : Nat) (hv : Value) (hz : Nat → Prop) (dp : Nat) : Prop where
  pre : NPre H tr P h t bp op
  x1 : 1 ≤ (Gt.X h t).length
  hk : HintOk H hv hz
  ho : ∀ b o,Gt.af h t b o → ¬ hz b
  dp : dp + h < 4611686018427387904
/-- What nodeSet does: as if the hint had been changed first. -/
def SetQH (H : Mem) (P : Ps) (h : Nat) (t : Gt EJ h) (x : Int × Int) (hv : Value) (hz : Nat → Prop) (v : Value) (H' : Mem) : Prop :=
  HintOk H' hv hz ∧ ∃ Hm : Mem,Hm.size = H.size ∧ Fr (fun b _ => hz b) H Hm ∧ SetQ Hm P h t x v H'
theorem HintOk.cut {H H' : Mem} {hv : Value} {hz : Nat → Prop} {Z : Nat → Nat → Prop} (hk : HintOk H hv hz) (hF : Fr (fun b o => Z b o ∨ hz b) H H') : ∃ Hm : Mem,Hm.size = H.size ∧ Fr (fun b _ => hz b) H Hm ∧ Fr Z Hm H' := by
  rcases hk with ⟨_,h0⟩ | ⟨hb,_,h1,h2,_,_⟩
  · exact ⟨H,rfl,Fr.refl _ _,hF.mono fun b o _ h => h.elim id fun h => absurd h (h0 b)⟩
  · obtain ⟨Hm,e,f1,f2⟩ := Fr.split (Z := Z) h2 (hF.mono fun b o _ h => h.imp id (h1 b).1)
    exact ⟨Hm,e,f1.mono fun b _ _ h => (h1 b).2 h,f2⟩
theorem SetQH.mk {H H' : Mem} {P : Ps} {h : Nat} {t : Gt EJ h} {x : Int × Int} {hv v : Value} {hz : Nat → Prop} {Z : Nat → Nat → Prop} (hk : HintOk H hv hz) (hF : Fr (fun b o => Z b o ∨ hz b) H H') (hk' : HintOk H' hv hz) (k : ∀ Hm : Mem,Hm.size = H.size → Fr Z Hm H' → SetQ Hm P h t x v H') : SetQH H P h t x hv hz v H' :=
  have ⟨Hm,e,f1,f2⟩ := hk.cut hF
  ⟨hk',Hm,e,f1,k Hm e f2⟩
theorem SetQ.uni {H : Mem} {P : Ps} {h : Nat} {t : Gt EJ h} {x : Int × Int} {v : Value} {H' : Mem} (hq : SetQ H P h t x v H') : ∃ pv r sp,v = .tuple #[PV pv,.bool r,.bool sp] ∧
    ((sp = false ∧ ∃ t',pv = Pl.got OI x (Gt.L h t) ∧ r = Pl.fnd OI x (Gt.L h t) ∧ SetT OI H H' P h t t' x) ∨ (sp = true ∧ pv = none ∧ r = false ∧ Fr nowhere H H' ∧ (Gt.X h t).length = P.mx ∧ ¬ Gt.NF OI P x h t ∧ Ab.put OI P.mx P.mn x h (Gt.ab h t) = none)) := by
  rcases hq with ⟨t',e,hs⟩ | ⟨e,hs⟩
  · exact ⟨_,_,_,e,.inl ⟨rfl,t',rfl,rfl,hs⟩⟩
  · exact ⟨_,_,_,e,.inr ⟨rfl,rfl,rfl,hs⟩⟩

theorem nset0 {B : World} {H : Mem} {tr bp op dp : Nat} {P : Ps} (hP : PsOk P) {x : Int × Int} {t : Gt EJ 0} {hv : Value} {hz : Nat → Prop} (hp : NPreH H tr P 0 t bp op hv hz dp) :
    Fn Try.prog B 195 [.pointer (some ⟨tr,0,none⟩),.pointer (some ⟨bp,op,none⟩),.agg (EJ.enc x).toArray,hv,.int .i64 (dp : Int)] H (SetQH H P 0 t x hv hz) := by
  obtain ⟨g,X⟩ := t
  obtain ⟨⟨tc,hg,hc,hnt,hsX,hlen⟩,hx1,hk,ho,hdp⟩ := hp
  unfold ptr at hc
  replace hsX : Pl.Srt OI X := hsX
  replace hx1 : 1 ≤ X.length := hx1
  replace ho : ∀ b o,ncl EJ g b o → ¬ hz b := ho
  have hN : NodeM EJ H g X (.pointer none) := hg.1
  have hiso : g.iso = P.iso := hg.2.1
  have hcnt : g.cnt = X.length := hg.2.2.1
  have hxm : X.length ≤ P.mx := hg.2.2.2
  have hx255 := hP.hx
  have hlt : ∀ b o,ncl EJ g b o → b < H.size := fun b o hb => NodeM.lt hN hb
  obtain ⟨hpl,hil⟩ := hN.cells
  obtain ⟨hn1,hn2⟩ := offB_node hN.ic hnt
  have hpi := hN.ne
  have htl : cx.base ≤ H.size := tc.hb
  have hzb := hk.base
  have hbpl := cl_lt hc
  have hk0 := hk
  replace hc : cl H bp op = some (.pointer (some ⟨g.p,0,none⟩)) := hc
  have hF : Fr nowhere H H := Fr.refl _ _
  refine fn_of func195 rfl ntmps195 ?_
  refine (show Go' _ _ _ _ 275 [(0,_),(1,_),(2,_),(3,_),(4,_)] [.code _] _ from ?_)
  refine Go'.seq ?_
  refine Go'.region [(0,2),(1,2),(2,0),(3,0)] rfl ?_
  refine O.box rfl rfl rfl rfl ?_
  intro H0 M0
  refine ⟨trivial,?_⟩
  have hs0 := M0.size
  replace hN := NodeM.fr EJ hN (M0.fr nowhere) (fun _ _ _ => nw)
  replace tc := tc.fr (M0.fr nowhere) (fun _ _ _ _ => nw)
  replace hk := hk.fr (M0.fr nowhere) (fun _ _ _ => nw)
  replace hc := (M0.fr nowhere).keep hc nw
  replace hF := hF.trans' (M0.fr nowhere) (fun _ _ _ h => h) (fun _ _ _ h => h.elim)
  have mi : Rd H0 H.size 0 (EJ.enc x) := M0.rd _ [] (by simp [Value.cells])
  refine O.alloc rfl rfl rfl zeroValue27 ?_
  intro H1 M1
  refine ⟨trivial,?_⟩
  have hs1 : H1.size = H.size + 2 := by have := M1.size; omega
  replace hN := NodeM.fr EJ hN (M1.fr nowhere) (fun _ _ _ => nw)
  replace tc := tc.fr (M1.fr nowhere) (fun _ _ _ _ => nw)
  replace hk := hk.fr (M1.fr nowhere) (fun _ _ _ => nw)
  replace hc := (M1.fr nowhere).keep hc nw
  replace hF := hF.trans' (M1.fr nowhere) (fun _ _ _ h => h) (fun _ _ _ h => h.elim)
  replace mi := (M1.fr nowhere).rd mi (fun _ _ => nw)
  have mp : Wr H1 H0.size 0 2 := M1.wr 2 (by decide)
  refine O.asg rfl rfl rfl rfl rfl ?_
  refine O.asg rfl rfl rfl rfl rfl ?_
  refine Pl.fin [(0,_),(1,_),(3,_),(4,_),(7,_),(10,_),(11,_),(12,_)] ⟨rfl,rfl,rfl,rfl,rfl,rfl,rfl,rfl,trivial⟩ ?_
  refine Go'.seq ?_
  refine Go'.seq ?_
  have hc0 := hN.c0
  rw [hiso] at hc0
  refine Go'.draw (fun _ => True) [(0,0),(1,0),(2,1),(3,0),(4,0),(5,1),(6,0),(7,0),(8,0),(9,1),(10,0)] (by kernel_rfl) (by kernel_rfl) (trivial) ?_
  refine O.mv rfl rfl rfl rfl rfl ?_
  refine O.nc rfl rfl rfl rfl rfl ?_
  refine O.ld rfl rfl rfl (fun w => ⟨isAgg129 w,sizeOf129 w⟩) rfl hc ?_
  refine O.nc rfl rfl rfl rfl rfl ?_
  refine O.faz rfl rfl rfl rfl ⟨_,_,_,underlying168,rfl,rfl,sizeOf155⟩ rfl ?_
  refine O.ld rfl rfl rfl (fun w => ⟨isAgg155 w,sizeOf155 w⟩) rfl hc0 ?_
  refine O.mv rfl rfl rfl rfl rfl ?_
  refine O.nc rfl rfl rfl rfl rfl ?_
  refine O.faz rfl rfl rfl rfl ⟨_,_,_,underlying158,rfl,rfl,sizeOf155⟩ rfl ?_
  refine O.ld rfl rfl rfl (fun w => ⟨isAgg155 w,sizeOf155 w⟩) rfl tc.iso ?_
  refine O.cmp rfl rfl rfl rfl rfl rfl (neqF (by omega)) ?_
  refine Pl.fin [(0,_),(1,_),(3,_),(4,_),(7,_),(10,_),(11,_),(12,_),(28,_)] ⟨rfl,rfl,rfl,rfl,rfl,rfl,rfl,rfl,rfl,trivial⟩ ?_
  refine Go'.condF rfl ?_
  refine Go'.skip ?_
  refine Go'.seq ?_
  refine Go'.region [(0,0),(1,0),(2,1),(3,2),(4,2)] rfl ?_
  refine O.mv rfl rfl rfl rfl rfl ?_
  refine O.nc rfl rfl rfl rfl rfl ?_
  refine O.ld rfl rfl rfl (fun w => ⟨isAgg129 w,sizeOf129 w⟩) rfl hc ?_
  refine O.alloc rfl rfl rfl zeroValue129 ?_
  intro H2 M2
  refine ⟨trivial,?_⟩
  have hs2 := M2.size
  replace hN := NodeM.fr EJ hN (M2.fr nowhere) (fun _ _ _ => nw)
  replace tc := tc.fr (M2.fr nowhere) (fun _ _ _ _ => nw)
  replace hk := hk.fr (M2.fr nowhere) (fun _ _ _ => nw)
  replace hc := (M2.fr nowhere).keep hc nw
  replace mi := (M2.fr nowhere).rd mi (fun _ _ => nw)
  replace mp := (M2.fr nowhere).wr mp
  replace hF := hF.trans' (M2.fr nowhere) (fun _ _ _ h => h) (fun _ _ _ h => h.elim)
  have m9w : Wr H2 H1.size 0 1 := M2.wr 1 (by decide)
  refine O.st rfl rfl sizeOf129 rfl rfl rfl rfl rfl m9w ?_
  intro Ha W3
  have hsa := W3.size
  replace hN := NodeM.fr EJ hN W3.fr (fun b o hb => nr (.inl (by have := hlt b o hb; omega)))
  replace tc := tc.fr W3.fr (fun b o hb _ => nr (.inl (by omega)))
  replace hc := W3.fr.keep hc (nr (.inl (by omega)))
  replace mi := W3.fr.rd mi (fun _ _ => nr (.inl (by omega)))
  replace mp := W3.fr.wr mp
  replace hk := hk.fr W3.fr (fun b o hb => nr (.inl (by have := (hzb b hb).2; omega)))
  replace hF := hF.trans' W3.fr (fun _ _ _ h => h) (fun b o hb h => by simp only [rng] at h; omega)
  have m9 : cl Ha H1.size 0 = some (.pointer (some ⟨g.p,0,none⟩)) := W3.at
  clear hc0
  refine ⟨trivial,?_⟩
  refine Pl.fin [(0,_),(3,_),(4,_),(7,_),(10,_),(11,_),(12,_),(13,_)] ⟨rfl,rfl,rfl,rfl,rfl,rfl,rfl,rfl,trivial⟩ ?_
  refine Go'.seq ?_
  clear hc
  refine Go'.region [(0,0)] rfl ?_
  refine O.asg rfl rfl rfl rfl rfl ?_
  refine Pl.fin [(0,_),(3,_),(4,_),(7,_),(10,_),(11,_),(12,_),(13,_),(14,_)] ⟨rfl,rfl,rfl,rfl,rfl,rfl,rfl,rfl,rfl,trivial⟩ ?_
  refine Go'.seq ?_
  refine Go'.region [(0,0)] rfl ?_
  refine O.asg rfl rfl rfl rfl rfl ?_
  refine Pl.fin [(0,_),(3,_),(4,_),(7,_),(10,_),(11,_),(12,_),(13,_),(14,_),(15,_)] ⟨rfl,rfl,rfl,rfl,rfl,rfl,rfl,rfl,rfl,rfl,trivial⟩ ?_
  refine Go'.seq ?_
  refine Go'.seq ?_
  generalize hi : Pl.pos OI x X = i at *
  generalize hfb : Pl.fnd OI x X = fb at *
  refine Go'.share2 (σ := Unit) (fun _ H' => Fr (fun b _ => hz b) Ha H' ∧ HintOk H' hv hz) (fun _ => [(0,.pointer (some ⟨tr,0,none⟩)),(3,hv),(4,.int .i64 (dp : Int)),(7,.pointer (some ⟨H.size,0,none⟩)),(10,.pointer (some ⟨H0.size,0,none⟩)),(13,.pointer (some ⟨H1.size,0,none⟩)),(14,.int .i64 ((i : Nat) : Int)),(15,.bool fb)]) ?_ ?_
  rotate_left
  · -- the search
    intro tail
    rcases hk with ⟨rfl,hz0⟩ | ⟨hb,rfl,hzq,hbl,hbb,hm⟩
    · skip
      refine Go'.region [(0,0),(1,0)] rfl ?_
      refine O.mv rfl rfl rfl rfl rfl ?_
      refine O.isNil rfl rfl rfl rfl underlying165 rfl rfl ?_
      refine Pl.fin [(0,_),(3,_),(4,_),(7,_),(10,_),(11,_),(12,_),(13,_),(14,_),(15,_),(40,_)] ⟨rfl,rfl,rfl,rfl,rfl,rfl,rfl,rfl,rfl,rfl,rfl,trivial⟩ ?_
      refine Go'.condT rfl ?_
      refine Go'.region [(0,0),(1,1),(2,1),(3,2),(4,0),(5,0),(6,0),(7,0),(8,0)] rfl ?_
      refine O.mv rfl rfl rfl rfl rfl ?_
      refine O.ld rfl rfl rfl (fun w => ⟨isAgg129 w,sizeOf129 w⟩) rfl m9 ?_
      refine O.lds rfl rfl rfl (fun w => ⟨isAgg27 w,sizeOf27 w⟩) rfl rfl mi ?_
      refine O.call rfl rfl rfl call179 rfl (bsearch_spec tc x hN hsX (by omega)) ?_
      rintro _ H3 ⟨rfl,hF3⟩
      rw [hi,hfb]
      refine ⟨trivial,?_⟩
      refine O.mv rfl rfl rfl rfl rfl ?_
      refine O.ext rfl rfl rfl rfl rfl rfl ?_
      refine O.ext rfl rfl rfl rfl rfl rfl ?_
      refine O.asg rfl rfl rfl rfl rfl ?_
      refine O.asg rfl rfl rfl rfl rfl ?_
      refine Pl.fin [(0,_),(3,_),(4,_),(7,_),(10,_),(11,_),(12,_),(13,_),(14,_),(15,_)] ⟨rfl,rfl,rfl,rfl,rfl,rfl,rfl,rfl,rfl,rfl,trivial⟩ ?_
      refine Go'.keep [(0,_),(3,_),(4,_),(7,_),(10,_),(13,_),(14,_),(15,_)] ⟨rfl,rfl,rfl,rfl,rfl,rfl,rfl,rfl,trivial⟩ ?_
      exact tail () H3 ⟨hF3.mono (fun _ _ _ h => h.elim),.inl ⟨rfl,hz0⟩⟩
    · skip
      refine Go'.region [(0,0),(1,0)] rfl ?_
      refine O.mv rfl rfl rfl rfl rfl ?_
      refine O.isNil rfl rfl rfl rfl underlying165 rfl rfl ?_
      refine Pl.fin [(0,_),(3,_),(4,_),(7,_),(10,_),(11,_),(12,_),(13,_),(14,_),(15,_),(40,_)] ⟨rfl,rfl,rfl,rfl,rfl,rfl,rfl,rfl,rfl,rfl,rfl,trivial⟩ ?_
      refine Go'.condF rfl ?_
      refine Go'.region [(0,0),(1,1),(2,1),(3,0),(4,0),(5,2),(6,0),(7,0),(8,0),(9,0),(10,0)] rfl ?_
      refine O.mv rfl rfl rfl rfl rfl ?_
      refine O.ld rfl rfl rfl (fun w => ⟨isAgg129 w,sizeOf129 w⟩) rfl m9 ?_
      refine O.lds rfl rfl rfl (fun w => ⟨isAgg27 w,sizeOf27 w⟩) rfl rfl mi ?_
      refine O.mv rfl rfl rfl rfl rfl ?_
      refine O.mv rfl rfl rfl rfl rfl ?_
      refine O.call rfl rfl rfl call180 rfl (hintsearch_spec tc x hN hsX (by omega) hx1 hm hbl hbb (fun o ho2 => ho hb o (ho2) ((hzq hb).2 rfl)) (by omega)) ?_
      rintro _ H3 ⟨rfl,hF3,hm3⟩
      rw [hi,hfb]
      refine ⟨trivial,?_⟩
      refine O.mv rfl rfl rfl rfl rfl ?_
      refine O.ext rfl rfl rfl rfl rfl rfl ?_
      refine O.ext rfl rfl rfl rfl rfl rfl ?_
      refine O.asg rfl rfl rfl rfl rfl ?_
      refine O.asg rfl rfl rfl rfl rfl ?_
      refine Pl.fin [(0,_),(3,_),(4,_),(7,_),(10,_),(11,_),(12,_),(13,_),(14,_),(15,_)] ⟨rfl,rfl,rfl,rfl,rfl,rfl,rfl,rfl,rfl,rfl,trivial⟩ ?_
      refine Go'.keep [(0,_),(3,_),(4,_),(7,_),(10,_),(13,_),(14,_),(15,_)] ⟨rfl,rfl,rfl,rfl,rfl,rfl,rfl,rfl,trivial⟩ ?_
      exact tail () H3 ⟨hF3.mono (fun b _ _ h => (hzq b).2 h),.inr ⟨hb,rfl,hzq,Nat.lt_of_lt_of_le hbl hF3.size,hbb,hm3⟩⟩
  clear hk
  rintro _ H3 ⟨hF3,hk⟩
  have hs3 := hF3.size
  replace hN := NodeM.fr EJ hN hF3 (fun b o hb hz => ho b o hb hz)
  replace tc := tc.fr hF3 (fun b o hb _ hz => (hzb b hz).1 hb)
  replace mi := hF3.rd mi (fun _ _ hz => by have := (hzb _ hz).2; omega)
  replace mp := hF3.wr mp
  replace m9 := hF3.keep m9 (fun hz => by have := (hzb _ hz).2; omega)
  replace hF : Fr (fun b _ => hz b) H H3 := hF.trans' hF3 (fun _ _ _ h => h.elim) (fun _ _ _ h => h)
  refine Go'.seq ?_
  refine Go'.seq ?_
  refine Go'.region [(0,0)] rfl ?_
  refine O.mv rfl rfl rfl rfl rfl ?_
  refine Pl.fin [(0,_),(3,_),(4,_),(7,_),(10,_),(13,_),(14,_),(57,_)] ⟨rfl,rfl,rfl,rfl,rfl,rfl,rfl,rfl,trivial⟩ ?_
  cases fb
  rotate_left
  · -- found
    have hlt9 : ∀ b o,ncl EJ g b o → b < H.size ∨ H1.size < b := fun b o hb => .inl (hlt b o hb)
    obtain ⟨y,hy,_,_⟩ := Pl.fnd_at OI hsX hfb
    rw [hi] at hy
    have hlt' : i < X.length := (List.getElem?_eq_some_iff.1 hy).1
    refine Go'.condT rfl ?_
    refine Go'.seq ?_
    refine Go'.region [(0,1),(1,0),(2,0),(3,1),(4,0),(5,0),(6,1),(7,2)] rfl ?_
    refine O.ld rfl rfl rfl (fun w => ⟨isAgg129 w,sizeOf129 w⟩) rfl m9 ?_
    refine O.nc rfl rfl rfl rfl rfl ?_
    refine O.fa0 (off := 2) rfl rfl rfl rfl ⟨_,_,_,underlying168,rfl,rfl,sizeOf25⟩ rfl ?_
    refine O.ld rfl rfl rfl (fun w => ⟨isAgg25 w,sizeOf25 w⟩) rfl hN.c2 ?_
    refine O.mv rfl rfl rfl rfl rfl ?_
    refine O.ix (j := i) rfl rfl rfl rfl underlying25 sizeOf27 rfl rfl (by omega) hlt' ?_
    refine O.lds rfl rfl rfl (fun w => ⟨isAgg27 w,sizeOf27 w⟩) rfl rfl (hN.sl.item hy) ?_
    refine O.st (vs := (EJ.enc y)) rfl rfl sizeOf27 rfl rfl rfl rfl rfl mp ?_
    intro H5 W5
    have hs5 := W5.size
    replace hN := NodeM.fr EJ hN W5.fr (fun b o hb => nr (.inl (by have := hlt b o hb; omega)))
    replace tc := tc.fr W5.fr (fun b o hb _ => nr (.inl (by omega)))
    replace mi := W5.fr.rd mi (fun _ _ => nr (.inl (by omega)))
    replace mp := W5.fr.wr mp
    replace m9 := W5.fr.keep m9 (nr (.inl (by omega)))
    replace hk := hk.fr W5.fr (fun b o hb => nr (.inl (by have := (hzb b hb).2; omega)))
    replace hF := hF.trans' W5.fr (fun _ _ _ h => h) (fun b o hb h => by simp only [rng] at h; omega)
    have mq : Rd H5 H0.size 0 (EJ.enc y) := W5.all
    refine ⟨trivial,?_⟩
    refine Pl.fin [(0,_),(3,_),(4,_),(7,_),(10,_),(13,_),(14,_)] ⟨rfl,rfl,rfl,rfl,rfl,rfl,rfl,trivial⟩ ?_
    refine Go'.seq ?_
    refine Go'.draw (fun _ => True) [(0,1),(1,0),(2,0),(3,1),(4,0),(5,1),(6,0),(7,3)] (by kernel_rfl) (by kernel_rfl) (trivial) ?_
    refine O.ld rfl rfl rfl (fun w => ⟨isAgg129 w,sizeOf129 w⟩) rfl m9 ?_
    refine O.nc rfl rfl rfl rfl rfl ?_
    refine O.fa0 (off := 2) rfl rfl rfl rfl ⟨_,_,_,underlying168,rfl,rfl,sizeOf25⟩ rfl ?_
    refine O.ld rfl rfl rfl (fun w => ⟨isAgg25 w,sizeOf25 w⟩) rfl hN.c2 ?_
    refine O.mv rfl rfl rfl rfl rfl ?_
    refine O.lds rfl rfl rfl (fun w => ⟨isAgg27 w,sizeOf27 w⟩) rfl rfl mi ?_
    refine O.ix (j := i) rfl rfl rfl rfl underlying25 sizeOf27 rfl rfl (by omega) hlt' ?_
    refine O.st3 rfl rfl sizeOf27 rfl rfl rfl rfl rfl (hN.sl.wri hlt') ?_
    intro H4 W4
    have hs4 := W4.size
    replace hk := hk.fr W4.fr (fun b o hb0 h => ho b o (by have := W4.as_row.in_items hN (by rw [List.length_singleton]; omega) (by rw [row_one]; exact h); exact .inr this) hb0)
    replace hF : Fr (fun b o => ncl EJ g b o ∨ hz b) H H4 := hF.trans' W4.fr (fun _ _ _ h => .inr h) (fun b o hb h => .inl (by have := W4.as_row.in_items hN (by rw [List.length_singleton]; omega) (by rw [row_one]; exact h); exact .inr this))
    replace mq := W4.fr.rd mq (fun _ _ => nr (.inl (by omega)))
    replace mp := W4.fr.wr mp
    replace hN := hN.set W4 hlt'
    refine Pl.fin [(0,_),(3,_),(4,_),(7,_),(10,_),(13,_),(14,_)] ⟨rfl,rfl,rfl,rfl,rfl,rfl,rfl,trivial⟩ ?_
    refine Go'.seq ?_
    refine Go'.region [(0,1),(1,2),(2,0),(3,0)] rfl ?_
    refine O.lds rfl rfl rfl (fun w => ⟨isAgg27 w,sizeOf27 w⟩) rfl rfl mq ?_
    refine O.st (vs := (EJ.enc y)) rfl rfl sizeOf27 rfl rfl rfl rfl rfl mp ?_
    intro H9 W9
    have hs9 := W9.size
    replace hk := hk.fr W9.fr (fun b o hb => nr (.inl (by have := (hzb b hb).2; omega)))
    replace hF := hF.trans' W9.fr (fun _ _ _ h => h) (fun b o hb h => by simp only [rng] at h; omega)
    replace hN := NodeM.fr EJ hN W9.fr (fun b o hb => nr (.inl (by rcases hlt9 b o hb with h | h <;> omega)))
    have mr : Rd H9 H0.size 0 (EJ.enc y) := W9.all
    refine ⟨trivial,?_⟩
    refine O.asg rfl rfl rfl rfl rfl ?_
    refine O.asg rfl rfl rfl rfl rfl ?_
    refine Pl.fin [(0,_),(3,_),(4,_),(7,_),(10,_),(11,_),(12,_),(13,_),(14,_)] ⟨rfl,rfl,rfl,rfl,rfl,rfl,rfl,rfl,rfl,trivial⟩ ?_
    refine Go'.ret (vs := [_,_,_]) func195 results195 ⟨⟨_,_,rfl,fun _ _ => run_loadVar_agg (fun w => ⟨isAgg27 w,sizeOf27 w⟩) rfl mr⟩,rfl,rfl,trivial⟩ ?_
    have hll : (X.take i ++ x :: X.drop (i + 1)).length = X.length := by simp only [List.length_append,List.length_take,List.length_cons,List.length_drop]; omega
    refine SetQH.mk hk0 hF hk fun Hm hsm hFm => .inl ⟨((g,X.take i ++ x :: X.drop (i + 1)) : Gt EJ 0),?_,⟨hFm,⟨hN,hiso,hcnt.trans hll.symm,by rw [hll]; exact hxm⟩,rfl,fun b o hb => .inl hb,?_,Nat.le_of_eq hll.symm,Ab.put_leaf_found hfb hi⟩⟩
    · show _ = Value.tuple #[PV (Pl.got OI x X),.bool (Pl.fnd OI x X),.bool false]
      rw [Pl.got_some OI hfb,hi,hy,hfb]; rfl
    · show _ = Pl.put OI x X
      unfold Pl.put; rw [hfb,hi]; rfl
  · -- not found
    have hle : i ≤ X.length := by rw [← hi]; exact Pl.pos_le OI x X
    refine Go'.condF rfl ?_
    refine Go'.skip ?_
    refine Go'.seq ?_
    refine Go'.seq ?_
    refine Go'.region [(0,1),(1,2)] rfl ?_
    refine O.ld rfl rfl rfl (fun w => ⟨isAgg129 w,sizeOf129 w⟩) rfl m9 ?_
    refine O.callQ rfl rfl rfl call133 rfl (leaf_spec hN.c3) trivial ?_
    refine Pl.fin [(0,_),(3,_),(4,_),(7,_),(10,_),(13,_),(14,_),(74,_)] ⟨rfl,rfl,rfl,rfl,rfl,rfl,rfl,rfl,trivial⟩ ?_
    refine Go'.condT rfl ?_
    refine Go'.seq ?_
    refine Go'.seq ?_
    by_cases hful : X.length = P.mx
    · -- full
      refine Go'.draw (fun _ => True) [(0,1),(1,0),(2,0),(3,1),(4,0),(5,0),(6,0),(7,0),(8,1),(9,0)] (by kernel_rfl) (by kernel_rfl) (trivial) ?_
      refine O.ld rfl rfl rfl (fun w => ⟨isAgg129 w,sizeOf129 w⟩) rfl m9 ?_
      refine O.nc rfl rfl rfl rfl rfl ?_
      refine O.fa0 (off := 2) rfl rfl rfl rfl ⟨_,_,_,underlying168,rfl,rfl,sizeOf25⟩ rfl ?_
      refine O.ld rfl rfl rfl (fun w => ⟨isAgg25 w,sizeOf25 w⟩) rfl hN.c2 ?_
      refine O.len rfl rfl rfl rfl underlying25 rfl ?_
      refine O.mv rfl rfl rfl rfl rfl ?_
      refine O.nc rfl rfl rfl rfl rfl ?_
      refine O.fa0 (off := 9) rfl rfl rfl rfl ⟨_,_,_,underlying158,rfl,rfl,sizeOf3⟩ rfl ?_
      refine O.ld rfl rfl rfl (fun w => ⟨isAgg3 w,sizeOf3 w⟩) rfl tc.mx' ?_
      refine O.cmp rfl rfl rfl rfl rfl rfl (eqlT (by omega)) ?_
      refine Pl.fin [(0,_),(3,_),(4,_),(7,_),(10,_),(13,_),(14,_),(84,_)] ⟨rfl,rfl,rfl,rfl,rfl,rfl,rfl,rfl,trivial⟩ ?_
      refine Go'.condT rfl ?_
      refine Go'.seq ?_
      have hlt9 : ∀ b o,ncl EJ g b o → b < H.size ∨ H1.size < b := fun b o hb => .inl (hlt b o hb)
      refine Go'.region [(0,0),(1,0),(2,0),(3,1),(4,2),(5,0),(6,0)] rfl ?_
      refine O.mv rfl rfl rfl rfl rfl ?_
      refine O.nc rfl rfl rfl rfl rfl ?_
      refine O.fa0 (off := 7) rfl rfl rfl rfl ⟨_,_,_,underlying158,rfl,rfl,sizeOf27⟩ rfl ?_
      refine O.lds rfl rfl rfl (fun w => ⟨isAgg27 w,sizeOf27 w⟩) rfl rfl tc.emp ?_
      refine O.st (vs := (EJ.enc (0,0))) rfl rfl sizeOf27 rfl rfl rfl rfl rfl mp ?_
      intro H9 W9
      have hs9 := W9.size
      replace hk := hk.fr W9.fr (fun b o hb => nr (.inl (by have := (hzb b hb).2; omega)))
      replace hF := hF.trans' W9.fr (fun _ _ _ h => h) (fun b o hb h => by simp only [rng] at h; omega)
      replace hN := NodeM.fr EJ hN W9.fr (fun b o hb => nr (.inl (by rcases hlt9 b o hb with h | h <;> omega)))
      have mr : Rd H9 H0.size 0 (EJ.enc (0,0)) := W9.all
      refine ⟨trivial,?_⟩
      refine O.asg rfl rfl rfl rfl rfl ?_
      refine O.asg rfl rfl rfl rfl rfl ?_
      refine Pl.fin [(0,_),(3,_),(4,_),(7,_),(10,_),(11,_),(12,_),(13,_),(14,_)] ⟨rfl,rfl,rfl,rfl,rfl,rfl,rfl,rfl,rfl,trivial⟩ ?_
      refine Go'.ret (vs := [_,_,_]) func195 results195 ⟨⟨_,_,rfl,fun _ _ => run_loadVar_agg (fun w => ⟨isAgg27 w,sizeOf27 w⟩) rfl mr⟩,rfl,rfl,trivial⟩ ?_
      exact SetQH.mk (Z := nowhere) hk0 (hF.mono fun _ _ _ h => .inr h) hk fun Hm hsm hFm => .inr ⟨rfl,hFm,hful,fun hh => by have hh2 : X.length < P.mx := hh; omega,Ab.put_leaf_full hfb hful⟩
    · -- room
      refine Go'.draw (fun _ => True) [(0,1),(1,0),(2,0),(3,1),(4,0),(5,0),(6,0),(7,0),(8,1),(9,0)] (by kernel_rfl) (by kernel_rfl) (trivial) ?_
      refine O.ld rfl rfl rfl (fun w => ⟨isAgg129 w,sizeOf129 w⟩) rfl m9 ?_
      refine O.nc rfl rfl rfl rfl rfl ?_
      refine O.fa0 (off := 2) rfl rfl rfl rfl ⟨_,_,_,underlying168,rfl,rfl,sizeOf25⟩ rfl ?_
      refine O.ld rfl rfl rfl (fun w => ⟨isAgg25 w,sizeOf25 w⟩) rfl hN.c2 ?_
      refine O.len rfl rfl rfl rfl underlying25 rfl ?_
      refine O.mv rfl rfl rfl rfl rfl ?_
      refine O.nc rfl rfl rfl rfl rfl ?_
      refine O.fa0 (off := 9) rfl rfl rfl rfl ⟨_,_,_,underlying158,rfl,rfl,sizeOf3⟩ rfl ?_
      refine O.ld rfl rfl rfl (fun w => ⟨isAgg3 w,sizeOf3 w⟩) rfl tc.mx' ?_
      refine O.cmp rfl rfl rfl rfl rfl rfl (eqlF (by omega)) ?_
      refine Pl.fin [(0,_),(3,_),(4,_),(7,_),(10,_),(13,_),(14,_),(84,_)] ⟨rfl,rfl,rfl,rfl,rfl,rfl,rfl,rfl,trivial⟩ ?_
      refine Go'.condF rfl ?_
      refine Go'.skip ?_
      refine Go'.seq ?_
      refine Go'.draw (fun H' => cl H' H1.size 0 = some (.pointer (some ⟨g.p,0,none⟩)) ∧ cl H' g.p 2 = some (.slice (some ⟨g.ib,g.io,none⟩) X.length g.ic)) [(0,0),(1,0),(2,0),(3,0),(4,0),(5,0),(6,0),(7,0),(8,1),(9,2),(10,2),(11,0),(12,0),(13,3)] (by kernel_rfl) (by kernel_rfl) (⟨m9,hN.c2⟩) ?_
      refine O.ldC rfl rfl rfl (fun w => ⟨isAgg129 w,sizeOf129 w⟩) rfl (fun _ h => h.1) ?_
      refine O.ldC rfl rfl rfl (fun w => ⟨isAgg129 w,sizeOf129 w⟩) rfl (fun _ h => h.1) ?_
      refine O.nc rfl rfl rfl rfl rfl ?_
      refine O.fa0 (off := 2) rfl rfl rfl rfl ⟨_,_,_,underlying168,rfl,rfl,sizeOf25⟩ rfl ?_
      refine O.ldC rfl rfl rfl (fun w => ⟨isAgg25 w,sizeOf25 w⟩) rfl (fun _ h => h.2) ?_
      refine O.mv rfl rfl rfl rfl rfl ?_
      refine O.nc rfl rfl rfl rfl rfl ?_
      refine O.fa0 (off := 7) rfl rfl rfl rfl ⟨_,_,_,underlying158,rfl,rfl,sizeOf27⟩ rfl ?_
      refine O.lds rfl rfl rfl (fun w => ⟨isAgg27 w,sizeOf27 w⟩) rfl rfl tc.emp ?_
      refine O.bsl (cs := (EJ.enc (0,0))) rfl rfl rfl ⟨underlying25,sizeOf27,zeroValue27,⟨_,typeInfo27,rfl⟩,rfl,by decide,by decide⟩ rfl (by decide) (by kernel_rfl) ?_
      intro H4 M4
      have hs4 := M4.size
      replace hN := NodeM.fr EJ hN (M4.fr nowhere) (fun _ _ _ => nw)
      replace tc := tc.fr (M4.fr nowhere) (fun _ _ _ _ => nw)
      replace hk := hk.fr (M4.fr nowhere) (fun _ _ _ => nw)
      replace mi := (M4.fr nowhere).rd mi (fun _ _ => nw)
      replace mp := (M4.fr nowhere).wr mp
      replace m9 := (M4.fr nowhere).keep m9 nw
      replace hF := hF.trans' (M4.fr nowhere) (fun _ _ _ h => h) (fun _ _ _ h => h.elim)
      have m4 : Rd H4 H3.size 0 (EJ.enc (0,0)) := M4.rd _ [] (by simp)
      refine ⟨⟨m9,hN.c2⟩,?_⟩
      refine O.app (m := 1) (news := (EJ.enc (0,0))) rfl rfl rfl ⟨underlying25,sizeOf27,zeroValue27,⟨_,typeInfo27,rfl⟩,rfl,by decide,by decide⟩ rfl hN.sl rfl (.inl ⟨_,_,_,rfl,m4⟩) rfl rfl (Nat.le_trans (Nat.mul_le_mul_left _ (Nat.le_of_ble_eq_true (n := _) (m := 4096) rfl)) (by omega)) (by omega) ?_
      intro b' o' c' H5 ha
      have hin : ∀ b o,b < H.size → (b = b' ∧ o' ≤ o ∧ o < o' + c' * EJ.s) → ncl EJ g b o := fun b o hb hh => .inr (ha.inside (by omega) hh)
      have hbn : (b' < H.size ∨ H1.size < b') ∧ cx.base ≤ b' ∧ b' ≠ g.p := by rcases ha.place with ⟨r,_⟩ | ⟨r,_⟩ <;> omega
      have hsl := SlE.app (E := EJ) (x := (0,0)) ha
      have hN0 := hN
      replace hN := hN.appd ha
      replace tc := tc.fr ha.fr (fun b o hb _ => nr (.inl (by omega)))
      replace mi := ha.fr.rd mi (fun _ _ => nr (.inl (by omega)))
      replace mp := ha.fr.wr mp
      replace m9 := ha.fr.keep m9 (nr (.inl (by omega)))
      replace hk := hk.fr (ha.in_node hN0) (fun b o hb h => ho b o h hb)
      replace hF : Fr (fun b o => ncl EJ g b o ∨ hz b) H H5 := hF.trans' (ha.in_node hN0) (fun _ _ _ h => .inr h) (fun b o _ h => .inl h)
      have hs5 : H4.size ≤ H5.size := ha.fr.size
      refine ⟨⟨m9,hN.c2⟩,?_⟩
      refine O.nc rfl rfl rfl rfl rfl ?_
      refine O.fa0 (off := 2) rfl rfl rfl rfl ⟨_,_,_,underlying168,rfl,rfl,sizeOf25⟩ rfl ?_
      refine O.st3 rfl rfl sizeOf25 rfl rfl rfl rfl rfl (hN.wr.at0 2 1 (by omega)) ?_
      intro H6 W6
      have hs6 := W6.size
      replace hN := hN0.push (e := (0,0)) ha W6
      replace tc := tc.fr W6.fr (fun b o hb _ => nr (.inl (by omega)))
      replace mi := W6.fr.rd mi (fun _ _ => nr (.inl (by omega)))
      replace mp := W6.fr.wr mp
      replace m9 := W6.fr.keep m9 (nr (.inl (by omega)))
      replace hk := hk.fr W6.fr (fun b o hb0 h => ho b o (by have hb := (hzb b hb0).2; exact NodeM.in1 (H := H5) (H' := H6) (by simp) h) hb0)
      replace hF := hF.trans' W6.fr (fun _ _ _ h => h) (fun b o hb h => .inl (NodeM.in1 (H := H5) (H' := H6) (by simp) h))
      refine Pl.fin [(0,_),(3,_),(4,_),(7,_),(10,_),(13,_),(14,_)] ⟨rfl,rfl,rfl,rfl,rfl,rfl,rfl,trivial⟩ ?_
      refine Go'.seq ?_
      have hl1 : (X ++ [((0 : Int),(0 : Int))]).length = X.length + 1 := by simp
      have hcp := hN.sl.hle
      rw [hl1] at hcp
      simp only at hcp
      have hh2 : cl H6 g.p 2 = some (.slice (some ⟨b',o',none⟩) (X.length + 1) c') := by have := hN.c2; rwa [hl1] at this
      refine Go'.draw (fun _ => True) [(0,1),(1,0),(2,0),(3,1),(4,0),(5,0),(6,0),(7,1),(8,0),(9,0),(10,1),(11,0),(12,0),(13,2)] (by kernel_rfl) (by kernel_rfl) (trivial) ?_
      refine O.ld rfl rfl rfl (fun w => ⟨isAgg129 w,sizeOf129 w⟩) rfl m9 ?_
      refine O.nc rfl rfl rfl rfl rfl ?_
      refine O.fa0 (off := 2) rfl rfl rfl rfl ⟨_,_,_,underlying168,rfl,rfl,sizeOf25⟩ rfl ?_
      refine O.ld rfl rfl rfl (fun w => ⟨isAgg25 w,sizeOf25 w⟩) rfl hh2 ?_
      refine O.mv rfl rfl rfl rfl rfl ?_
      refine O.add (((i + 1 : Nat) : Int)) rfl rfl rfl rfl rfl rfl (by omega) (by omega) ?_
      refine O.slc (jl := i + 1) (jh := X.length + 1) (jm := c') rfl rfl rfl rfl underlying25 sizeOf27 rfl rfl rfl ⟨_,by rfl⟩ (by omega) (by omega) (by simp) (by simp) ?_
      intro o7 ho7
      refine O.ld rfl rfl rfl (fun w => ⟨isAgg129 w,sizeOf129 w⟩) rfl m9 ?_
      refine O.nc rfl rfl rfl rfl rfl ?_
      refine O.fa0 (off := 2) rfl rfl rfl rfl ⟨_,_,_,underlying168,rfl,rfl,sizeOf25⟩ rfl ?_
      refine O.ld rfl rfl rfl (fun w => ⟨isAgg25 w,sizeOf25 w⟩) rfl hh2 ?_
      refine O.mv rfl rfl rfl rfl rfl ?_
      refine O.slc (jl := i) (jh := X.length + 1) (jm := c') rfl rfl rfl rfl underlying25 sizeOf27 rfl rfl rfl ⟨_,by rfl⟩ (by omega) (by omega) (by simp) (by simp) ?_
      intro o8 ho8
      obtain rfl := ho8 (by omega)
      refine O.copy (b := b') (o := (o' + (i + 1) * 2)) (j := (X.length - i)) (cs := (row EJ (X.drop i))) rfl rfl rfl ⟨underlying25,sizeOf27,zeroValue27,⟨_,typeInfo27,rfl⟩,rfl,by decide,by decide⟩ rfl rfl (show _ = min _ _ by omega) ((Nat.lt_or_ge i X.length).elim (fun h => .inl (by rw [ho7 (by omega)])) (fun h => .inr (by omega))) (.inl ⟨_,_,_,rfl,hN.sl.tail hle⟩) (by rw [row_len,List.length_drop]; rfl) (row_ones EJ _) (hN.sl.wrm (i := i + 1) (m := X.length - i) (by rw [hl1]; omega)) ?_
      intro H7 W7
      have hs7 := W7.size
      have hN1 := hN
      have hdl : (X.drop i).length = X.length - i := List.length_drop
      replace hN := hN.cpy (i := i + 1) (Y := X.drop i) W7 (by rw [hl1,hdl]; omega)
      replace tc := tc.fr W7.fr (fun b o hb _ => nr (.inl (by omega)))
      replace mi := W7.fr.rd mi (fun _ _ => nr (.inl (by omega)))
      replace mp := W7.fr.wr mp
      replace m9 := W7.fr.keep m9 (nr (.inl (by omega)))
      replace hh2 := W7.fr.keep hh2 (nr (.inl (by omega)))
      replace hk := hk.fr W7.fr (fun b o hb0 h => ho b o (by have hb := (hzb b hb0).2; exact hin b o hb (W7.in_items (i := i + 1) (Y := X.drop i) hN1 (by rw [hl1,hdl]; omega) h)) hb0)
      replace hF := hF.trans' W7.fr (fun _ _ _ h => h) (fun b o hb h => .inl (hin b o hb (W7.in_items (i := i + 1) (Y := X.drop i) hN1 (by rw [hl1,hdl]; omega) h)))
      refine ⟨trivial,?_⟩
      refine Pl.fin [(0,_),(3,_),(4,_),(7,_),(10,_),(13,_),(14,_)] ⟨rfl,rfl,rfl,rfl,rfl,rfl,rfl,trivial⟩ ?_
      refine Go'.seq ?_
      have hl2 := Pl.ins_len X ((0 : Int),(0 : Int)) i hle
      refine Go'.draw (fun _ => True) [(0,1),(1,0),(2,0),(3,1),(4,0),(5,1),(6,0),(7,3)] (by kernel_rfl) (by kernel_rfl) (trivial) ?_
      refine O.ld rfl rfl rfl (fun w => ⟨isAgg129 w,sizeOf129 w⟩) rfl m9 ?_
      refine O.nc rfl rfl rfl rfl rfl ?_
      refine O.fa0 (off := 2) rfl rfl rfl rfl ⟨_,_,_,underlying168,rfl,rfl,sizeOf25⟩ rfl ?_
      refine O.ld rfl rfl rfl (fun w => ⟨isAgg25 w,sizeOf25 w⟩) rfl hh2 ?_
      refine O.mv rfl rfl rfl rfl rfl ?_
      refine O.lds rfl rfl rfl (fun w => ⟨isAgg27 w,sizeOf27 w⟩) rfl rfl mi ?_
      refine O.ix (j := i) rfl rfl rfl rfl underlying25 sizeOf27 rfl rfl (by omega) (by omega) ?_
      refine O.st3 rfl rfl sizeOf27 rfl rfl rfl rfl rfl (hN.sl.wri (i := i) (by rw [hl2]; omega)) ?_
      intro H8 W8
      have hs8 := W8.size
      have hN2 := hN
      replace hN := hN.set (i := i) W8 (by rw [hl2]; omega)
      rw [Pl.ins_list X _ x i hle] at hN
      replace tc := tc.fr W8.fr (fun b o hb _ => nr (.inl (by omega)))
      replace mi := W8.fr.rd mi (fun _ _ => nr (.inl (by omega)))
      replace mp := W8.fr.wr mp
      replace m9 := W8.fr.keep m9 (nr (.inl (by omega)))
      replace hh2 := W8.fr.keep hh2 (nr (.inl (by omega)))
      replace hk := hk.fr W8.fr (fun b o hb0 h => ho b o (by have hb := (hzb b hb0).2; exact hin b o hb (W8.as_row.in_items (i := i) hN2 (by rw [hl2,List.length_singleton]; omega) (by rw [row_one]; exact h))) hb0)
      replace hF := hF.trans' W8.fr (fun _ _ _ h => h) (fun b o hb h => .inl (hin b o hb (W8.as_row.in_items (i := i) hN2 (by rw [hl2,List.length_singleton]; omega) (by rw [row_one]; exact h))))
      refine Pl.fin [(0,_),(3,_),(4,_),(7,_),(10,_),(13,_),(14,_)] ⟨rfl,rfl,rfl,rfl,rfl,rfl,rfl,trivial⟩ ?_
      refine Go'.seq ?_
      have hc1 : cl H8 g.p 1 = some (.int .i64 (g.cnt : Int)) := hN.c1
      refine Go'.region [(0,1),(1,0),(2,0),(3,1),(4,0),(5,0),(6,0),(7,2)] rfl ?_
      refine O.ld rfl rfl rfl (fun w => ⟨isAgg129 w,sizeOf129 w⟩) rfl m9 ?_
      refine O.nc rfl rfl rfl rfl rfl ?_
      refine O.fa0 (off := 1) rfl rfl rfl rfl ⟨_,_,_,underlying168,rfl,rfl,sizeOf3⟩ rfl ?_
      refine O.ld rfl rfl rfl (fun w => ⟨isAgg3 w,sizeOf3 w⟩) rfl hc1 ?_
      refine O.add (((g.cnt + 1 : Nat) : Int)) rfl rfl rfl rfl rfl rfl (by omega) (by omega) ?_
      refine O.nc rfl rfl rfl rfl rfl ?_
      refine O.fa0 (off := 1) rfl rfl rfl rfl ⟨_,_,_,underlying168,rfl,rfl,sizeOf3⟩ rfl ?_
      refine O.st rfl rfl sizeOf3 rfl rfl rfl rfl rfl (hN.wr.at0 1 1 (by omega)) ?_
      intro Hc Wc
      have hsc := Wc.size
      replace hN := hN.count Wc
      replace tc := tc.fr Wc.fr (fun b o hb _ => nr (.inl (by omega)))
      replace mi := Wc.fr.rd mi (fun _ _ => nr (.inl (by omega)))
      replace mp := Wc.fr.wr mp
      replace m9 := Wc.fr.keep m9 (nr (.inl (by omega)))
      replace hk := hk.fr Wc.fr (fun b o hb0 h => ho b o (by have hb := (hzb b hb0).2; exact NodeM.in1 (H := H8) (H' := Hc) (by simp) h) hb0)
      replace hF := hF.trans' Wc.fr (fun _ _ _ h => h) (fun b o hb h => .inl (NodeM.in1 (H := H8) (H' := Hc) (by simp) h))
      refine ⟨trivial,?_⟩
      refine Pl.fin [(0,_),(3,_),(4,_),(7,_),(10,_),(13,_),(14,_)] ⟨rfl,rfl,rfl,rfl,rfl,rfl,rfl,trivial⟩ ?_
      refine Go'.seq ?_
      have hlt9 : ∀ b o,ncl EJ { g with cnt := g.cnt + 1,ib := b',io := o',ic := c' } b o → b < H.size ∨ H1.size < b := fun b o hb => by
        rcases hb with hb | hb
        · exact .inl (hlt b o (.inl hb))
        · rw [hb.1]; exact hbn.1
      refine Go'.region [(0,0),(1,0),(2,0),(3,1),(4,2),(5,0),(6,0)] rfl ?_
      refine O.mv rfl rfl rfl rfl rfl ?_
      refine O.nc rfl rfl rfl rfl rfl ?_
      refine O.fa0 (off := 7) rfl rfl rfl rfl ⟨_,_,_,underlying158,rfl,rfl,sizeOf27⟩ rfl ?_
      refine O.lds rfl rfl rfl (fun w => ⟨isAgg27 w,sizeOf27 w⟩) rfl rfl tc.emp ?_
      refine O.st (vs := (EJ.enc (0,0))) rfl rfl sizeOf27 rfl rfl rfl rfl rfl mp ?_
      intro H9 W9
      have hs9 := W9.size
      replace hk := hk.fr W9.fr (fun b o hb => nr (.inl (by have := (hzb b hb).2; omega)))
      replace hF := hF.trans' W9.fr (fun _ _ _ h => h) (fun b o hb h => by simp only [rng] at h; omega)
      replace hN := NodeM.fr EJ hN W9.fr (fun b o hb => nr (.inl (by rcases hlt9 b o hb with h | h <;> omega)))
      have mr : Rd H9 H0.size 0 (EJ.enc (0,0)) := W9.all
      refine ⟨trivial,?_⟩
      refine O.asg rfl rfl rfl rfl rfl ?_
      refine O.asg rfl rfl rfl rfl rfl ?_
      refine Pl.fin [(0,_),(3,_),(4,_),(7,_),(10,_),(11,_),(12,_),(13,_),(14,_)] ⟨rfl,rfl,rfl,rfl,rfl,rfl,rfl,rfl,rfl,trivial⟩ ?_
      refine Go'.ret (vs := [_,_,_]) func195 results195 ⟨⟨_,_,rfl,fun _ _ => run_loadVar_agg (fun w => ⟨isAgg27 w,sizeOf27 w⟩) rfl mr⟩,rfl,rfl,trivial⟩ ?_
      have hll : (X.take i ++ x :: X.drop i).length = X.length + 1 := by simp only [List.length_append,List.length_take,List.length_cons,List.length_drop]; omega
      refine SetQH.mk hk0 hF hk fun Hm hsm hFm => .inl ⟨(({ g with cnt := g.cnt + 1,ib := b',io := o',ic := c' },X.take i ++ x :: X.drop i) : Gt EJ 0),?_,⟨hFm,⟨hN,hiso,?_,by rw [hll]; omega⟩,rfl,fun b o hb => ?_,?_,?_,Ab.put_leaf_room hfb hi hful⟩⟩
      · show _ = Value.tuple #[PV (Pl.got OI x X),.bool (Pl.fnd OI x X),.bool false]
        rw [Pl.got_none OI hfb,hfb]; rfl
      · show g.cnt + 1 = _; rw [hll,hcnt]
      · rw [hsm]
        rcases Nat.lt_or_ge b H.size with hl | hl
        · left
          rcases hb with hb | hb
          · exact .inl hb
          · exact hin b o hl hb
        · exact .inr hl
      · show _ = Pl.put OI x X
        unfold Pl.put; rw [hfb,hi]; rfl
      · show X.length ≤ (X.take i ++ x :: X.drop i).length
        omega

end Go.Bt.FG
