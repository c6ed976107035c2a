/- Contracts of functions of the program, proved by walking through their code. Conditions: those that each theorem names. -/
import Derived.Test.YtnlempnbagoipaaTocH
import Derived.Test.YtnlempnbagoipaaToLgK
namespace Go.Bt.FB
open Go Go.Proofs Go.Proofs.Try
set_option maxRecDepth 20000
set_option maxHeartbeats 4000000
set_option linter.unusedVariables false
set_option linter.unusedSectionVars false

theorem ibascendhintmut_spec {B : World} {H : Mem} {d : Nat} {nl : Bool} {v u : Value} {ord : List Int} {l : List (Int × Int)} (hd : d = 0 ∨ 2 ≤ d ∧ d ≤ 128) (ho : InS EN H v ord) (hol : ord.length ≤ 4294967296) (hi : InS EJ H u l) (hll : l.length ≤ 4294967296) {al : Bool} (x : Int × Int) {n : Int} :
    Fn Try.prog B 42 [.agg #[v,.int .i64 (d : Int),.bool nl],u,.bool al,.agg (EJ.enc x).toArray,.int .i64 n] H (fun r H' => OutS EJ H' r (firstN (cond al (Pl.puts (OO ord) l) (Pl.up (OO ord) x (Pl.puts (OO ord) l))) n) ∧ Fr nowhere H H') := by
  obtain ⟨a,c,hu⟩ := hi.len
  subst hu
  obtain ⟨av,mv,cv,hv⟩ := InS.form ho
  subst hv
  have hF : Fr nowhere H H := Fr.refl _ _
  have hP := PD_ok hd
  refine fn_of func42 rfl ntmps42 ?_
  refine (show Go' _ _ _ _ 23 [(0,_),(1,_),(2,_),(3,_),(4,_)] [.code _] _ from ?_)
  refine Go'.seq ?_
  refine Go'.region [(0,2),(1,2),(2,0)] rfl ?_
  refine O.box rfl rfl rfl rfl ?_
  intro B1 MB1
  refine ⟨trivial,?_⟩
  have hsB1 := MB1.size
  replace hF := hF.trans (MB1.fr nowhere)
  have mm : Rd B1 H.size 0 [.slice av mv cv,.int .i64 (d : Int),.bool nl] := MB1.rd _ [] (by simp [Value.cells])
  have mm0 : cl B1 H.size 0 = some (.slice av mv cv) := mm 0 _ rfl
  have mm1 : cl B1 H.size (0 + 1) = some (.int .i64 (d : Int)) := mm 1 _ rfl
  refine O.box rfl rfl rfl rfl ?_
  intro B2 MB2
  refine ⟨trivial,?_⟩
  have hsB2 := MB2.size
  replace hF := hF.trans (MB2.fr nowhere)
  replace mm := (MB2.fr nowhere).rd mm (fun _ _ => nw)
  replace mm0 := (MB2.fr nowhere).keep mm0 nw
  replace mm1 := (MB2.fr nowhere).keep mm1 nw
  have mpivot : Rd B2 B1.size 0 (EJ.enc x) := MB2.rd _ [] (by simp [Value.cells])
  refine O.asg rfl rfl rfl rfl rfl ?_
  refine Pl.fin [(1,_),(2,_),(4,_),(5,_),(8,_),(10,_)] ⟨rfl,rfl,rfl,rfl,rfl,rfl,trivial⟩ ?_
  refine Go'.seq ?_
  refine Go'.region [(0,2)] rfl ?_
  refine O.alloc rfl rfl rfl zeroValue25 ?_
  intro H2 M2
  refine ⟨trivial,?_⟩
  have hs2 := M2.size
  replace hF := hF.trans (M2.fr nowhere)
  replace mm := (M2.fr nowhere).rd mm (fun _ _ => nw)
  replace mm0 := (M2.fr nowhere).keep mm0 nw
  replace mm1 := (M2.fr nowhere).keep mm1 nw
  replace mpivot := (M2.fr nowhere).rd mpivot (fun _ _ => nw)
  have hD : cl H2 B2.size 0 = some (.slice none 0 0) := (M2.cl 0).trans rfl
  have hw : Wr H2 B2.size 0 1 := M2.wr 1 (by decide)
  refine Pl.fin [(1,_),(2,_),(4,_),(5,_),(8,_),(10,_),(11,_)] ⟨rfl,rfl,rfl,rfl,rfl,rfl,rfl,trivial⟩ ?_
  refine Go'.seq ?_
  refine Go'.drawT (σ := Unit) (fun H' => Rd H' H.size 0 [.slice av mv cv,.int .i64 (d : Int),.bool nl] ∧ Rd H' B1.size 0 (EJ.enc x)) (fun _ H' => Fr nowhere H H' ∧ ∃ ov,cl H' B2.size 0 = some ov ∧ OutS EJ H' ov (firstN (cond al (Pl.puts (OO ord) l) (Pl.up (OO ord) x (Pl.puts (OO ord) l))) n)) (fun s => [(11,.pointer (some ⟨B2.size,0,none⟩))]) 8 [2,5,7] (.node [(0,0),(1,0),(3,0),(4,0),(6,0),(8,2),(2,2),(5,2),(7,2),(9,2)] [(0,0),(1,0),(3,0),(4,0),(6,0),(2,2)] (.node [(8,2),(5,2),(7,2),(9,2)] [(5,2)] (.node [(8,2),(7,2),(9,2)] [(7,2)] (.leaf [(8,2),(9,2)])))) (by kernel_rfl) (by kernel_rfl) (⟨mm,mpivot⟩) ?_ ?_
  · intro _ _ _ hj
    refine Tk.node ?_ ?_
    · skip
      refine O.ldsC rfl rfl rfl (fun w => ⟨isAgg24 w,sizeOf24 w⟩) rfl rfl (fun _ h => h.1) ?_
      refine O.mv rfl rfl rfl rfl rfl ?_
      refine O.mv rfl rfl rfl rfl rfl ?_
      refine O.ldsC rfl rfl rfl (fun w => ⟨isAgg35 w,sizeOf35 w⟩) rfl rfl (fun _ h => h.2) ?_
      refine O.mv rfl rfl rfl rfl rfl ?_
      refine O.alloc rfl rfl rfl zeroValue82 ?_
      intro H6 M6
      have hs6 := M6.size
      replace hF := hF.trans (M6.fr nowhere)
      replace mm := (M6.fr nowhere).rd mm (fun _ _ => nw)
      replace mm0 := (M6.fr nowhere).keep mm0 nw
      replace mm1 := (M6.fr nowhere).keep mm1 nw
      replace mpivot := (M6.fr nowhere).rd mpivot (fun _ _ => nw)
      replace hD := (M6.fr nowhere).keep hD nw
      replace hw := (M6.fr nowhere).wr hw
      have hkM : HintM H6 H2.size := by
        letI : Inhabited Cx := nilCx
        exact (HintM.new M6 (fun i hi => by have hi8 : i = 0 ∨ i = 1 ∨ i = 2 ∨ i = 3 ∨ i = 4 ∨ i = 5 ∨ i = 6 ∨ i = 7 := (by omega); rcases hi8 with rfl | rfl | rfl | rfl | rfl | rfl | rfl | rfl <;> rfl) (fun i hi => by have hi8 : i = 0 ∨ i = 1 ∨ i = 2 ∨ i = 3 ∨ i = 4 ∨ i = 5 ∨ i = 6 ∨ i = 7 := (by omega); rcases hi8 with rfl | rfl | rfl | rfl | rfl | rfl | rfl | rfl <;> rfl) (by decide))
      refine ⟨⟨mm,mpivot⟩,?_⟩
      refine O.call rfl rfl rfl call51 rfl (grow_spec hd (ho.fr hF) hol (hi.fr hF) hll) ?_
      rintro _ H3 ⟨I,hIo,hIw,hIb,tr,S,bt,rfl,hM,hbt,hbl,hbu,hbS,hF3,hS⟩
      have hs3 := hF3.size
      replace hF := hF.trans hF3
      replace mm := hF3.rd mm (fun _ _ => nw)
      replace mm0 := hF3.keep mm0 nw
      replace mm1 := hF3.keep mm1 nw
      replace mpivot := hF3.rd mpivot (fun _ _ => nw)
      replace hD := hF3.keep hD nw
      replace hw := hF3.wr hw
      have hSb : ∀ b,S b ∨ (b < cx.base ∧ cx.own b) → H6.size ≤ b := fun b hb => hb.elim (hS b) (fun h => hIw b h.2)
      have hbg := hbl
      have hOO : OO ord = OI := by rw [← hIo]; rfl
      have hpl := Pl.puts_length OI l
      have hSlt := hM.lt
      have hbs := hM.tc.hb
      unfold ptr
      replace hkM := hkM.fr hF3 (fun _ => nw)
      refine ⟨⟨mm,mpivot⟩,?_⟩
      refine O.call rfl rfl rfl call53 rfl (ifrom_spec (al := al) (x := x)) ?_
      rintro _ H4 ⟨rfl,hF4⟩
      have hs4 := hF4.size
      replace hF := hF.trans hF4
      replace mm := hF4.rd mm (fun _ _ => nw)
      replace mm0 := hF4.keep mm0 nw
      replace mm1 := hF4.keep mm1 nw
      replace mpivot := hF4.rd mpivot (fun _ _ => nw)
      replace hD := hF4.keep hD nw
      replace hw := hF4.wr hw
      replace hM := hM.fr hF4 (fun _ _ _ => nw)
      replace hbt := Fr.keep hF4 hbt nw
      replace hkM := hkM.fr hF4 (fun _ => nw)
      refine ⟨⟨mm,mpivot⟩,?_⟩
      refine O.call rfl rfl rfl call54 rfl (takerAny_spec (n := n) hD hw) ?_
      rintro _ H5 ⟨pb,b2,b3,rfl,hT,hF5⟩
      have hs5 := hF5.size
      replace hF := hF.trans hF5
      replace mm := hF5.rd mm (fun _ _ => nw)
      replace mm0 := hF5.keep mm0 nw
      replace mm1 := hF5.keep mm1 nw
      replace mpivot := hF5.rd mpivot (fun _ _ => nw)
      replace hD := hF5.keep hD nw
      replace hw := hF5.wr hw
      replace hM := hM.fr hF5 (fun _ _ _ => nw)
      replace hbt := Fr.keep hF5 hbt nw
      replace hkM := hkM.fr hF5 (fun _ => nw)
      refine ⟨⟨mm,mpivot⟩,?_⟩
      refine O.call rfl rfl rfl call65 rfl (bAscendHintMut_spec (cbAny B pb b2 b3 B2.size n) call80 hP x hM hbt hT (fun b hb hz => hz.elim (fun h => by have := hSb b (.inl hb); omega) (fun h => by have := hSlt b hb; omega)) (fun b hz hb => hz.elim (fun h => by have := hSb b (.inr hb); omega) (fun h => by omega)) (by omega) (Nat.le_refl _) (hv := .pointer (some ⟨H2.size,0,none⟩)) (hz := fun b => b = H2.size) (.inr ⟨H2.size,rfl,fun _ => Iff.rfl,by omega,fun h => by have h1 := hIw _ h.2; have h2 := h.1; omega,hkM⟩) (fun b h hb => by have h1 := hSlt b hb; have h2 := hSb b (.inl hb); omega) (fun b hz h => hz.elim (fun e => by omega) (fun e => by omega))) ?_
      rintro _ H7 ⟨Z7,hT7,hF7,hZ7⟩
      replace mm := hF7.rd mm (fun _ _ hz => hz.elim (fun hz => hz.elim (fun h => by omega) (fun h => by omega)) (fun h => by omega))
      replace mpivot := hF7.rd mpivot (fun _ _ hz => hz.elim (fun hz => hz.elim (fun h => by omega) (fun h => by omega)) (fun h => by omega))
      obtain ⟨ov,hv,hov⟩ := PrT.out hT7
      rw [takes_first] at hov
      replace hF := hF.trans' hF7 (fun _ _ _ h => h) (fun b o hb hz => hz.elim (fun hz => hz.elim (fun h => by omega) (fun h => by omega)) (fun h => by omega))
      refine ⟨⟨mm,mpivot⟩,?_⟩
      refine Pl.fin [(11,_)] ⟨rfl,trivial⟩ (hj () _ ?_)
      exact ⟨hF,ov,hv,by rw [hOO]; exact hov⟩
    · skip
      refine Ok.ldsC rfl rfl rfl (fun w => ⟨isAgg24 w,sizeOf24 w⟩) rfl rfl (fun _ h => h.1) ?_
      refine Ok.mv rfl rfl rfl rfl rfl ?_
      refine Ok.mv rfl rfl rfl rfl rfl ?_
      refine Ok.ldsC rfl rfl rfl (fun w => ⟨isAgg35 w,sizeOf35 w⟩) rfl rfl (fun _ h => h.2) ?_
      refine Ok.mv rfl rfl rfl rfl rfl ?_
      refine Ok.call rfl rfl rfl call51 rfl (grow_spec hd (ho.fr hF) hol (hi.fr hF) hll) ?_
      rintro _ H3 ⟨I,hIo,hIw,hIb,tr,S,bt,rfl,hM,hbt,hbl,hbu,hbS,hF3,hS⟩
      have hs3 := hF3.size
      replace hF := hF.trans hF3
      replace mm := hF3.rd mm (fun _ _ => nw)
      replace mm0 := hF3.keep mm0 nw
      replace mm1 := hF3.keep mm1 nw
      replace mpivot := hF3.rd mpivot (fun _ _ => nw)
      replace hD := hF3.keep hD nw
      replace hw := hF3.wr hw
      have hSb : ∀ b,S b ∨ (b < cx.base ∧ cx.own b) → H2.size ≤ b := fun b hb => hb.elim (hS b) (fun h => hIw b h.2)
      have hbg := hbl
      have hOO : OO ord = OI := by rw [← hIo]; rfl
      have hpl := Pl.puts_length OI l
      have hSlt := hM.lt
      have hbs := hM.tc.hb
      unfold ptr
      refine ⟨⟨mm,mpivot⟩,?_⟩
      refine Pk.fin ?_
      refine Tk.node ?_ ?_
      · skip
        refine O.alloc rfl rfl rfl zeroValue82 ?_
        intro H6 M6
        have hs6 := M6.size
        replace hF := hF.trans (M6.fr nowhere)
        replace mm := (M6.fr nowhere).rd mm (fun _ _ => nw)
        replace mm0 := (M6.fr nowhere).keep mm0 nw
        replace mm1 := (M6.fr nowhere).keep mm1 nw
        replace mpivot := (M6.fr nowhere).rd mpivot (fun _ _ => nw)
        replace hD := (M6.fr nowhere).keep hD nw
        replace hw := (M6.fr nowhere).wr hw
        replace hM := hM.fr (M6.fr nowhere) (fun _ _ _ => nw)
        replace hbt := Fr.keep (M6.fr nowhere) hbt nw
        have hkM : HintM H6 H3.size := by
          letI : Inhabited Cx := nilCx
          exact (HintM.new M6 (fun i hi => by have hi8 : i = 0 ∨ i = 1 ∨ i = 2 ∨ i = 3 ∨ i = 4 ∨ i = 5 ∨ i = 6 ∨ i = 7 := (by omega); rcases hi8 with rfl | rfl | rfl | rfl | rfl | rfl | rfl | rfl <;> rfl) (fun i hi => by have hi8 : i = 0 ∨ i = 1 ∨ i = 2 ∨ i = 3 ∨ i = 4 ∨ i = 5 ∨ i = 6 ∨ i = 7 := (by omega); rcases hi8 with rfl | rfl | rfl | rfl | rfl | rfl | rfl | rfl <;> rfl) (by decide))
        refine ⟨⟨mm,mpivot⟩,?_⟩
        refine O.call rfl rfl rfl call53 rfl (ifrom_spec (al := al) (x := x)) ?_
        rintro _ H4 ⟨rfl,hF4⟩
        have hs4 := hF4.size
        replace hF := hF.trans hF4
        replace mm := hF4.rd mm (fun _ _ => nw)
        replace mm0 := hF4.keep mm0 nw
        replace mm1 := hF4.keep mm1 nw
        replace mpivot := hF4.rd mpivot (fun _ _ => nw)
        replace hD := hF4.keep hD nw
        replace hw := hF4.wr hw
        replace hM := hM.fr hF4 (fun _ _ _ => nw)
        replace hbt := Fr.keep hF4 hbt nw
        replace hkM := hkM.fr hF4 (fun _ => nw)
        refine ⟨⟨mm,mpivot⟩,?_⟩
        refine O.call rfl rfl rfl call54 rfl (takerAny_spec (n := n) hD hw) ?_
        rintro _ H5 ⟨pb,b2,b3,rfl,hT,hF5⟩
        have hs5 := hF5.size
        replace hF := hF.trans hF5
        replace mm := hF5.rd mm (fun _ _ => nw)
        replace mm0 := hF5.keep mm0 nw
        replace mm1 := hF5.keep mm1 nw
        replace mpivot := hF5.rd mpivot (fun _ _ => nw)
        replace hD := hF5.keep hD nw
        replace hw := hF5.wr hw
        replace hM := hM.fr hF5 (fun _ _ _ => nw)
        replace hbt := Fr.keep hF5 hbt nw
        replace hkM := hkM.fr hF5 (fun _ => nw)
        refine ⟨⟨mm,mpivot⟩,?_⟩
        refine O.call rfl rfl rfl call65 rfl (bAscendHintMut_spec (cbAny B pb b2 b3 B2.size n) call80 hP x hM hbt hT (fun b hb hz => hz.elim (fun h => by have := hSb b (.inl hb); omega) (fun h => by have := hSlt b hb; omega)) (fun b hz hb => hz.elim (fun h => by have := hSb b (.inr hb); omega) (fun h => by omega)) (by omega) (Nat.le_refl _) (hv := .pointer (some ⟨H3.size,0,none⟩)) (hz := fun b => b = H3.size) (.inr ⟨H3.size,rfl,fun _ => Iff.rfl,by omega,fun h => by have h1 := hIw _ h.2; have h2 := h.1; omega,hkM⟩) (fun b h hb => by have h1 := hSlt b hb; have h2 := hSb b (.inl hb); omega) (fun b hz h => hz.elim (fun e => by omega) (fun e => by omega))) ?_
        rintro _ H7 ⟨Z7,hT7,hF7,hZ7⟩
        replace mm := hF7.rd mm (fun _ _ hz => hz.elim (fun hz => hz.elim (fun h => by omega) (fun h => by omega)) (fun h => by omega))
        replace mpivot := hF7.rd mpivot (fun _ _ hz => hz.elim (fun hz => hz.elim (fun h => by omega) (fun h => by omega)) (fun h => by omega))
        obtain ⟨ov,hv,hov⟩ := PrT.out hT7
        rw [takes_first] at hov
        replace hF := hF.trans' hF7 (fun _ _ _ h => h) (fun b o hb hz => hz.elim (fun hz => hz.elim (fun h => by omega) (fun h => by omega)) (fun h => by omega))
        refine ⟨⟨mm,mpivot⟩,?_⟩
        refine Pl.fin [(11,_)] ⟨rfl,trivial⟩ (hj () _ ?_)
        exact ⟨hF,ov,hv,by rw [hOO]; exact hov⟩
      · skip
        refine Ok.call rfl rfl rfl call53 rfl (ifrom_spec (al := al) (x := x)) ?_
        rintro _ H4 ⟨rfl,hF4⟩
        have hs4 := hF4.size
        replace hF := hF.trans hF4
        replace mm := hF4.rd mm (fun _ _ => nw)
        replace mm0 := hF4.keep mm0 nw
        replace mm1 := hF4.keep mm1 nw
        replace mpivot := hF4.rd mpivot (fun _ _ => nw)
        replace hD := hF4.keep hD nw
        replace hw := hF4.wr hw
        replace hM := hM.fr hF4 (fun _ _ _ => nw)
        replace hbt := Fr.keep hF4 hbt nw
        refine ⟨⟨mm,mpivot⟩,?_⟩
        refine Pk.fin ?_
        refine Tk.node ?_ ?_
        · skip
          refine O.alloc rfl rfl rfl zeroValue82 ?_
          intro H6 M6
          have hs6 := M6.size
          replace hF := hF.trans (M6.fr nowhere)
          replace mm := (M6.fr nowhere).rd mm (fun _ _ => nw)
          replace mm0 := (M6.fr nowhere).keep mm0 nw
          replace mm1 := (M6.fr nowhere).keep mm1 nw
          replace mpivot := (M6.fr nowhere).rd mpivot (fun _ _ => nw)
          replace hD := (M6.fr nowhere).keep hD nw
          replace hw := (M6.fr nowhere).wr hw
          replace hM := hM.fr (M6.fr nowhere) (fun _ _ _ => nw)
          replace hbt := Fr.keep (M6.fr nowhere) hbt nw
          have hkM : HintM H6 H4.size := by
            letI : Inhabited Cx := nilCx
            exact (HintM.new M6 (fun i hi => by have hi8 : i = 0 ∨ i = 1 ∨ i = 2 ∨ i = 3 ∨ i = 4 ∨ i = 5 ∨ i = 6 ∨ i = 7 := (by omega); rcases hi8 with rfl | rfl | rfl | rfl | rfl | rfl | rfl | rfl <;> rfl) (fun i hi => by have hi8 : i = 0 ∨ i = 1 ∨ i = 2 ∨ i = 3 ∨ i = 4 ∨ i = 5 ∨ i = 6 ∨ i = 7 := (by omega); rcases hi8 with rfl | rfl | rfl | rfl | rfl | rfl | rfl | rfl <;> rfl) (by decide))
          refine ⟨⟨mm,mpivot⟩,?_⟩
          refine O.call rfl rfl rfl call54 rfl (takerAny_spec (n := n) hD hw) ?_
          rintro _ H5 ⟨pb,b2,b3,rfl,hT,hF5⟩
          have hs5 := hF5.size
          replace hF := hF.trans hF5
          replace mm := hF5.rd mm (fun _ _ => nw)
          replace mm0 := hF5.keep mm0 nw
          replace mm1 := hF5.keep mm1 nw
          replace mpivot := hF5.rd mpivot (fun _ _ => nw)
          replace hD := hF5.keep hD nw
          replace hw := hF5.wr hw
          replace hM := hM.fr hF5 (fun _ _ _ => nw)
          replace hbt := Fr.keep hF5 hbt nw
          replace hkM := hkM.fr hF5 (fun _ => nw)
          refine ⟨⟨mm,mpivot⟩,?_⟩
          refine O.call rfl rfl rfl call65 rfl (bAscendHintMut_spec (cbAny B pb b2 b3 B2.size n) call80 hP x hM hbt hT (fun b hb hz => hz.elim (fun h => by have := hSb b (.inl hb); omega) (fun h => by have := hSlt b hb; omega)) (fun b hz hb => hz.elim (fun h => by have := hSb b (.inr hb); omega) (fun h => by omega)) (by omega) (Nat.le_refl _) (hv := .pointer (some ⟨H4.size,0,none⟩)) (hz := fun b => b = H4.size) (.inr ⟨H4.size,rfl,fun _ => Iff.rfl,by omega,fun h => by have h1 := hIw _ h.2; have h2 := h.1; omega,hkM⟩) (fun b h hb => by have h1 := hSlt b hb; have h2 := hSb b (.inl hb); omega) (fun b hz h => hz.elim (fun e => by omega) (fun e => by omega))) ?_
          rintro _ H7 ⟨Z7,hT7,hF7,hZ7⟩
          replace mm := hF7.rd mm (fun _ _ hz => hz.elim (fun hz => hz.elim (fun h => by omega) (fun h => by omega)) (fun h => by omega))
          replace mpivot := hF7.rd mpivot (fun _ _ hz => hz.elim (fun hz => hz.elim (fun h => by omega) (fun h => by omega)) (fun h => by omega))
          obtain ⟨ov,hv,hov⟩ := PrT.out hT7
          rw [takes_first] at hov
          replace hF := hF.trans' hF7 (fun _ _ _ h => h) (fun b o hb hz => hz.elim (fun hz => hz.elim (fun h => by omega) (fun h => by omega)) (fun h => by omega))
          refine ⟨⟨mm,mpivot⟩,?_⟩
          refine Pl.fin [(11,_)] ⟨rfl,trivial⟩ (hj () _ ?_)
          exact ⟨hF,ov,hv,by rw [hOO]; exact hov⟩
        · skip
          refine Ok.call rfl rfl rfl call54 rfl (takerAny_spec (n := n) hD hw) ?_
          rintro _ H5 ⟨pb,b2,b3,rfl,hT,hF5⟩
          have hs5 := hF5.size
          replace hF := hF.trans hF5
          replace mm := hF5.rd mm (fun _ _ => nw)
          replace mm0 := hF5.keep mm0 nw
          replace mm1 := hF5.keep mm1 nw
          replace mpivot := hF5.rd mpivot (fun _ _ => nw)
          replace hD := hF5.keep hD nw
          replace hw := hF5.wr hw
          replace hM := hM.fr hF5 (fun _ _ _ => nw)
          replace hbt := Fr.keep hF5 hbt nw
          refine ⟨⟨mm,mpivot⟩,?_⟩
          refine Pk.fin ?_
          refine Tk.leaf ?_
          refine O.alloc rfl rfl rfl zeroValue82 ?_
          intro H6 M6
          have hs6 := M6.size
          replace hF := hF.trans (M6.fr nowhere)
          replace mm := (M6.fr nowhere).rd mm (fun _ _ => nw)
          replace mm0 := (M6.fr nowhere).keep mm0 nw
          replace mm1 := (M6.fr nowhere).keep mm1 nw
          replace mpivot := (M6.fr nowhere).rd mpivot (fun _ _ => nw)
          replace hM := hM.fr (M6.fr nowhere) (fun _ _ _ => nw)
          replace hbt := Fr.keep (M6.fr nowhere) hbt nw
          replace hT := (cbAny B pb b2 b3 B2.size n).fr hT (M6.fr nowhere) (fun _ _ _ => nw)
          have hkM : HintM H6 H5.size := by
            letI : Inhabited Cx := nilCx
            exact (HintM.new M6 (fun i hi => by have hi8 : i = 0 ∨ i = 1 ∨ i = 2 ∨ i = 3 ∨ i = 4 ∨ i = 5 ∨ i = 6 ∨ i = 7 := (by omega); rcases hi8 with rfl | rfl | rfl | rfl | rfl | rfl | rfl | rfl <;> rfl) (fun i hi => by have hi8 : i = 0 ∨ i = 1 ∨ i = 2 ∨ i = 3 ∨ i = 4 ∨ i = 5 ∨ i = 6 ∨ i = 7 := (by omega); rcases hi8 with rfl | rfl | rfl | rfl | rfl | rfl | rfl | rfl <;> rfl) (by decide))
          refine ⟨⟨mm,mpivot⟩,?_⟩
          refine O.call rfl rfl rfl call65 rfl (bAscendHintMut_spec (cbAny B pb b2 b3 B2.size n) call80 hP x hM hbt hT (fun b hb hz => hz.elim (fun h => by have := hSb b (.inl hb); omega) (fun h => by have := hSlt b hb; omega)) (fun b hz hb => hz.elim (fun h => by have := hSb b (.inr hb); omega) (fun h => by omega)) (by omega) (Nat.le_refl _) (hv := .pointer (some ⟨H5.size,0,none⟩)) (hz := fun b => b = H5.size) (.inr ⟨H5.size,rfl,fun _ => Iff.rfl,by omega,fun h => by have h1 := hIw _ h.2; have h2 := h.1; omega,hkM⟩) (fun b h hb => by have h1 := hSlt b hb; have h2 := hSb b (.inl hb); omega) (fun b hz h => hz.elim (fun e => by omega) (fun e => by omega))) ?_
          rintro _ H7 ⟨Z7,hT7,hF7,hZ7⟩
          replace mm := hF7.rd mm (fun _ _ hz => hz.elim (fun hz => hz.elim (fun h => by omega) (fun h => by omega)) (fun h => by omega))
          replace mpivot := hF7.rd mpivot (fun _ _ hz => hz.elim (fun hz => hz.elim (fun h => by omega) (fun h => by omega)) (fun h => by omega))
          obtain ⟨ov,hv,hov⟩ := PrT.out hT7
          rw [takes_first] at hov
          replace hF := hF.trans' hF7 (fun _ _ _ h => h) (fun b o hb hz => hz.elim (fun hz => hz.elim (fun h => by omega) (fun h => by omega)) (fun h => by omega))
          refine ⟨⟨mm,mpivot⟩,?_⟩
          refine Pl.fin [(11,_)] ⟨rfl,trivial⟩ (hj () _ ?_)
          exact ⟨hF,ov,hv,by rw [hOO]; exact hov⟩
  clear hF
  rintro _ H7 ⟨hF,ov,hv,hov⟩
  refine Go'.seq ?_
  refine Go'.region [(0,1),(1,0)] rfl ?_
  refine O.ld rfl rfl rfl (fun w => ⟨isAgg25 w,sizeOf25 w⟩) rfl hv ?_
  refine O.asg rfl rfl rfl rfl rfl ?_
  refine Pl.fin [(10,_)] ⟨rfl,trivial⟩ ?_
  refine Go'.ret (vs := [_]) func42 results42 ⟨rfl,trivial⟩ ?_
  exact ⟨hov,hF⟩

theorem lawBAscendHintMut_spec {B : World} {H : Mem} {d : Nat} {nl : Bool} {v u : Value} {ord : List Int} {l : List (Int × Int)} (hd : d = 0 ∨ 2 ≤ d ∧ d ≤ 128) (ho : InS EN H v ord) (hol : ord.length ≤ 4294967296) (hi : InS EJ H u l) (hll : l.length ≤ 4294967296) {al : Bool} {x : Int × Int} {n : Int} :
    Fn Try.prog B 21 [.agg #[v,.int .i64 (d : Int),.bool nl],u,.bool al,.agg (EJ.enc x).toArray,.int .i64 n] H (fun r H' => r = .bool true ∧ Fr nowhere H H') := by
  obtain ⟨a,c,hu⟩ := hi.len
  subst hu
  obtain ⟨av,mv,cv,hv⟩ := InS.form ho
  subst hv
  have hF : Fr nowhere H H := Fr.refl _ _
  have hP := PD_ok hd
  refine fn_of func21 rfl ntmps21 ?_
  refine (show Go' _ _ _ _ 34 [(0,_),(1,_),(2,_),(3,_),(4,_)] [.code _] _ from ?_)
  refine Go'.seq ?_
  refine Go'.region [(0,2),(1,2),(2,0)] rfl ?_
  refine O.box rfl rfl rfl rfl ?_
  intro B1 MB1
  refine ⟨trivial,?_⟩
  have hsB1 := MB1.size
  replace hF := hF.trans (MB1.fr nowhere)
  have mm : Rd B1 H.size 0 [.slice av mv cv,.int .i64 (d : Int),.bool nl] := MB1.rd _ [] (by simp [Value.cells])
  have mm0 : cl B1 H.size 0 = some (.slice av mv cv) := mm 0 _ rfl
  have mm1 : cl B1 H.size (0 + 1) = some (.int .i64 (d : Int)) := mm 1 _ rfl
  refine O.box rfl rfl rfl rfl ?_
  intro B2 MB2
  refine ⟨trivial,?_⟩
  have hsB2 := MB2.size
  replace hF := hF.trans (MB2.fr nowhere)
  replace mm := (MB2.fr nowhere).rd mm (fun _ _ => nw)
  replace mm0 := (MB2.fr nowhere).keep mm0 nw
  replace mm1 := (MB2.fr nowhere).keep mm1 nw
  have mpivot : Rd B2 B1.size 0 (EJ.enc x) := MB2.rd _ [] (by simp [Value.cells])
  refine O.asg rfl rfl rfl rfl rfl ?_
  refine Pl.fin [(1,_),(2,_),(4,_),(5,_),(8,_),(10,_)] ⟨rfl,rfl,rfl,rfl,rfl,rfl,trivial⟩ ?_
  refine Go'.seq ?_
  have hpl := Pl.puts_length (OO ord) l
  have hul := Pl.up_le (OO ord) x (Pl.puts (OO ord) l)
  have hf1 := firstN_len (Pl.up (OO ord) x (Pl.puts (OO ord) l)) n
  have hf2 := firstN_len (Pl.puts (OO ord) l) n
  cases al
  · skip
    refine Go'.region [(0,1),(1,0),(2,0),(3,1),(4,0),(5,2),(6,0)] rfl ?_
    refine O.lds rfl rfl rfl (fun w => ⟨isAgg24 w,sizeOf24 w⟩) rfl rfl mm ?_
    refine O.mv rfl rfl rfl rfl rfl ?_
    refine O.mv rfl rfl rfl rfl rfl ?_
    refine O.lds rfl rfl rfl (fun w => ⟨isAgg35 w,sizeOf35 w⟩) rfl rfl mpivot ?_
    refine O.mv rfl rfl rfl rfl rfl ?_
    refine O.call rfl rfl rfl call42 rfl (ibascendhintmut_spec (al := false) hd (ho.fr hF) hol (hi.fr hF) hll x (n := n)) ?_
    rintro v1 H3 ⟨h1,hF3⟩
    simp only [cond_false] at h1
    replace hF := hF.trans hF3
    replace mm := hF3.rd mm (fun _ _ => nw)
    replace mm0 := hF3.keep mm0 nw
    replace mm1 := hF3.keep mm1 nw
    replace mpivot := hF3.rd mpivot (fun _ _ => nw)
    refine ⟨trivial,?_⟩
    refine O.asg rfl rfl rfl rfl rfl ?_
    refine Pl.fin [(1,_),(2,_),(4,_),(5,_),(8,_),(10,_),(11,_)] ⟨rfl,rfl,rfl,rfl,rfl,rfl,rfl,trivial⟩ ?_
    refine Go'.seq ?_
    refine Go'.seq ?_
    refine Go'.region [(0,0)] rfl ?_
    refine O.mv rfl rfl rfl rfl rfl ?_
    refine Pl.fin [(1,_),(4,_),(5,_),(8,_),(10,_),(11,_),(19,_)] ⟨rfl,rfl,rfl,rfl,rfl,rfl,rfl,trivial⟩ ?_
    refine Go'.condF rfl ?_
    refine Go'.skip ?_
    refine Go'.seq ?_
    refine Go'.region [(0,1),(1,0),(2,1),(3,0),(4,2),(5,0)] rfl ?_
    refine O.lds rfl rfl rfl (fun w => ⟨isAgg24 w,sizeOf24 w⟩) rfl rfl mm ?_
    refine O.mv rfl rfl rfl rfl rfl ?_
    refine O.lds rfl rfl rfl (fun w => ⟨isAgg35 w,sizeOf35 w⟩) rfl rfl mpivot ?_
    refine O.mv rfl rfl rfl rfl rfl ?_
    refine O.call rfl rfl rfl call41 rfl (gascend_spec (x := x) (n := n) (ho.fr hF) (by omega) (hi.fr hF) hll) ?_
    rintro v2 H4 ⟨h2,hF4⟩
    replace hF := hF.trans hF4
    replace mm := hF4.rd mm (fun _ _ => nw)
    replace mm0 := hF4.keep mm0 nw
    replace mm1 := hF4.keep mm1 nw
    replace mpivot := hF4.rd mpivot (fun _ _ => nw)
    refine ⟨trivial,?_⟩
    refine O.asg rfl rfl rfl rfl rfl ?_
    refine Pl.fin [(10,_),(11,_),(12,_)] ⟨rfl,rfl,rfl,trivial⟩ ?_
    refine Go'.seq ?_
    refine Go'.region [(0,0),(1,0),(2,2),(3,0)] rfl ?_
    refine O.mv rfl rfl rfl rfl rfl ?_
    refine O.mv rfl rfl rfl rfl rfl ?_
    refine O.callQ rfl rfl rfl call39 rfl (eqItems_spec (h1.inS.fr hF4) h2 (by omega)) trivial ?_
    refine O.asg rfl rfl rfl rfl rfl ?_
    refine Pl.fin [(10,_)] ⟨rfl,trivial⟩ ?_
    refine Go'.ret (vs := [_]) func21 results21 ⟨rfl,trivial⟩ ?_
    exact ⟨rfl,hF⟩
  · skip
    refine Go'.region [(0,1),(1,0),(2,0),(3,1),(4,0),(5,2),(6,0)] rfl ?_
    refine O.lds rfl rfl rfl (fun w => ⟨isAgg24 w,sizeOf24 w⟩) rfl rfl mm ?_
    refine O.mv rfl rfl rfl rfl rfl ?_
    refine O.mv rfl rfl rfl rfl rfl ?_
    refine O.lds rfl rfl rfl (fun w => ⟨isAgg35 w,sizeOf35 w⟩) rfl rfl mpivot ?_
    refine O.mv rfl rfl rfl rfl rfl ?_
    refine O.call rfl rfl rfl call42 rfl (ibascendhintmut_spec (al := true) hd (ho.fr hF) hol (hi.fr hF) hll x (n := n)) ?_
    rintro v1 H3 ⟨h1,hF3⟩
    simp only [cond_true] at h1
    replace hF := hF.trans hF3
    replace mm := hF3.rd mm (fun _ _ => nw)
    replace mm0 := hF3.keep mm0 nw
    replace mm1 := hF3.keep mm1 nw
    replace mpivot := hF3.rd mpivot (fun _ _ => nw)
    refine ⟨trivial,?_⟩
    refine O.asg rfl rfl rfl rfl rfl ?_
    refine Pl.fin [(1,_),(2,_),(4,_),(5,_),(8,_),(10,_),(11,_)] ⟨rfl,rfl,rfl,rfl,rfl,rfl,rfl,trivial⟩ ?_
    refine Go'.seq ?_
    refine Go'.seq ?_
    refine Go'.region [(0,0)] rfl ?_
    refine O.mv rfl rfl rfl rfl rfl ?_
    refine Pl.fin [(1,_),(4,_),(5,_),(8,_),(10,_),(11,_),(19,_)] ⟨rfl,rfl,rfl,rfl,rfl,rfl,rfl,trivial⟩ ?_
    refine Go'.condT rfl ?_
    refine Go'.seq ?_
    refine Go'.region [(0,0),(1,1),(2,0),(3,0),(4,2),(5,2),(6,0)] rfl ?_
    refine O.mv rfl rfl rfl rfl rfl ?_
    refine O.lds rfl rfl rfl (fun w => ⟨isAgg24 w,sizeOf24 w⟩) rfl rfl mm ?_
    refine O.mv rfl rfl rfl rfl rfl ?_
    refine O.mv rfl rfl rfl rfl rfl ?_
    refine O.call rfl rfl rfl call40 rfl (gscan_spec (n := n) (ho.fr hF) (by omega) (hi.fr hF) hll) ?_
    rintro v2 H4 ⟨h2,hF4⟩
    replace hF := hF.trans hF4
    replace mm := hF4.rd mm (fun _ _ => nw)
    replace mm0 := hF4.keep mm0 nw
    replace mm1 := hF4.keep mm1 nw
    replace mpivot := hF4.rd mpivot (fun _ _ => nw)
    refine ⟨trivial,?_⟩
    refine O.callQ rfl rfl rfl call39 rfl (eqItems_spec (h1.inS.fr hF4) h2 (by omega)) trivial ?_
    refine O.asg rfl rfl rfl rfl rfl ?_
    refine Pl.fin [(1,_),(4,_),(5,_),(8,_),(10,_),(11,_)] ⟨rfl,rfl,rfl,rfl,rfl,rfl,trivial⟩ ?_
    refine Go'.ret (vs := [_]) func21 results21 ⟨rfl,trivial⟩ ?_
    exact ⟨rfl,hF⟩

theorem fnExactBAscendHintMut {B : World} {H : Mem} {z : Int} {nl : Bool} {v u : Value} {ord : List Int} {l : List (Int × Int)} {al : Bool} {y3 : Int × Int} {n : Int} (ho : InS EN H v ord) (hi : InS EJ H u l) :
    Fn Try.prog B 7 [.agg #[v,.int .i64 z,.bool nl],u,.bool al,.agg (EJ.enc y3).toArray,.int .i64 n] H (fun r H' => r = .bool true ∧ Fr nowhere H H') := by
  obtain ⟨a,c,hu⟩ := hi.len
  subst hu
  obtain ⟨av,mv,cv,hv⟩ := InS.form ho
  subst hv
  have hF : Fr nowhere H H := Fr.refl _ _
  refine fn_of func7 rfl ntmps7 ?_
  refine (show Go' _ _ _ _ 37 [(0,_),(1,_),(2,_),(3,_),(4,_)] [.code _] _ from ?_)
  refine Go'.seq ?_
  refine Go'.region [(0,2),(1,2),(2,0)] rfl ?_
  refine O.box rfl rfl rfl rfl ?_
  intro B1 MB1
  refine ⟨trivial,?_⟩
  have hsB1 := MB1.size
  replace hF := hF.trans (MB1.fr nowhere)
  have mm : Rd B1 H.size 0 [.slice av mv cv,.int .i64 z,.bool nl] := MB1.rd _ [] (by simp [Value.cells])
  have mm0 : cl B1 H.size 0 = some (.slice av mv cv) := mm 0 _ rfl
  have mm1 : cl B1 H.size (0 + 1) = some (.int .i64 z) := mm 1 _ rfl
  refine O.box rfl rfl rfl rfl ?_
  intro B2 MB2
  refine ⟨trivial,?_⟩
  have hsB2 := MB2.size
  replace hF := hF.trans (MB2.fr nowhere)
  replace mm := (MB2.fr nowhere).rd mm (fun _ _ => nw)
  replace mm0 := (MB2.fr nowhere).keep mm0 nw
  replace mm1 := (MB2.fr nowhere).keep mm1 nw
  have mpivot : Rd B2 B1.size 0 (EJ.enc y3) := MB2.rd _ [] (by simp [Value.cells])
  refine O.asg rfl rfl rfl rfl rfl ?_
  refine Pl.fin [(1,_),(2,_),(4,_),(5,_),(8,_),(10,_)] ⟨rfl,rfl,rfl,rfl,rfl,rfl,trivial⟩ ?_
  refine Go'.seq ?_
  refine Go'.seq ?_
  cases hoz : decide (ord.length ≤ 2147483647)
  · skip
    refine Go'.region [(0,1),(1,2),(2,0),(3,0),(4,0),(5,0),(6,0),(7,0)] rfl ?_
    refine O.lds rfl rfl rfl (fun w => ⟨isAgg24 w,sizeOf24 w⟩) rfl rfl mm ?_
    refine O.call rfl rfl rfl call11 rfl (zzFits1_spec (ho.fr hF) hoz) ?_
    rintro _ H1 ⟨rfl,hF1⟩
    replace hF := hF.trans hF1
    replace mm := hF1.rd mm (fun _ _ => nw)
    replace mm0 := hF1.keep mm0 nw
    replace mm1 := hF1.keep mm1 nw
    replace mpivot := hF1.rd mpivot (fun _ _ => nw)
    refine ⟨trivial,?_⟩
    refine O.not rfl rfl rfl rfl rfl ?_
    refine O.mv rfl rfl rfl rfl rfl ?_
    refine Pl.pass rfl rfl rfl rfl ?_
    refine Pl.pass rfl rfl rfl rfl ?_
    refine Pl.pass rfl rfl rfl rfl ?_
    refine O.pick rfl rfl rfl rfl rfl rfl ?_
    refine Pl.fin [(1,_),(2,_),(4,_),(5,_),(8,_),(10,_),(18,_)] ⟨rfl,rfl,rfl,rfl,rfl,rfl,rfl,trivial⟩ ?_
    refine Go'.condT rfl ?_
    refine Go'.seq ?_
    refine Go'.region [(0,0)] rfl ?_
    refine O.asg rfl rfl rfl rfl rfl ?_
    refine Pl.fin [(1,_),(2,_),(4,_),(5,_),(8,_),(10,_)] ⟨rfl,rfl,rfl,rfl,rfl,rfl,trivial⟩ ?_
    refine Go'.ret (vs := [_]) func7 results7 ⟨rfl,trivial⟩ ?_
    exact ⟨rfl,hF⟩
  · skip
    have hoz2 := of_decide_eq_true hoz
    by_cases hb_lenl : (2147483647 : Int) < (l.length : Int)
    · skip
      refine Go'.region [(0,1),(1,2),(2,0),(3,0),(4,0),(5,0),(6,0),(7,0)] rfl ?_
      refine O.lds rfl rfl rfl (fun w => ⟨isAgg24 w,sizeOf24 w⟩) rfl rfl mm ?_
      refine O.call rfl rfl rfl call11 rfl (zzFits1_spec (ho.fr hF) hoz) ?_
      rintro _ H1 ⟨rfl,hF1⟩
      replace hF := hF.trans hF1
      replace mm := hF1.rd mm (fun _ _ => nw)
      replace mm0 := hF1.keep mm0 nw
      replace mm1 := hF1.keep mm1 nw
      replace mpivot := hF1.rd mpivot (fun _ _ => nw)
      refine ⟨trivial,?_⟩
      refine O.not rfl rfl rfl rfl rfl ?_
      refine O.mv rfl rfl rfl rfl rfl ?_
      refine O.mv rfl rfl rfl rfl rfl ?_
      refine O.len rfl rfl rfl rfl underlying25 rfl ?_
      refine O.cmp rfl rfl rfl rfl rfl rfl (gtrT (by omega)) ?_
      refine O.pick rfl rfl rfl rfl rfl rfl ?_
      refine Pl.fin [(1,_),(2,_),(4,_),(5,_),(8,_),(10,_),(18,_)] ⟨rfl,rfl,rfl,rfl,rfl,rfl,rfl,trivial⟩ ?_
      refine Go'.condT rfl ?_
      refine Go'.seq ?_
      refine Go'.region [(0,0)] rfl ?_
      refine O.asg rfl rfl rfl rfl rfl ?_
      refine Pl.fin [(1,_),(2,_),(4,_),(5,_),(8,_),(10,_)] ⟨rfl,rfl,rfl,rfl,rfl,rfl,trivial⟩ ?_
      refine Go'.ret (vs := [_]) func7 results7 ⟨rfl,trivial⟩ ?_
      exact ⟨rfl,hF⟩
    · skip
      refine Go'.region [(0,1),(1,2),(2,0),(3,0),(4,0),(5,0),(6,0),(7,0)] rfl ?_
      refine O.lds rfl rfl rfl (fun w => ⟨isAgg24 w,sizeOf24 w⟩) rfl rfl mm ?_
      refine O.call rfl rfl rfl call11 rfl (zzFits1_spec (ho.fr hF) hoz) ?_
      rintro _ H1 ⟨rfl,hF1⟩
      replace hF := hF.trans hF1
      replace mm := hF1.rd mm (fun _ _ => nw)
      replace mm0 := hF1.keep mm0 nw
      replace mm1 := hF1.keep mm1 nw
      replace mpivot := hF1.rd mpivot (fun _ _ => nw)
      refine ⟨trivial,?_⟩
      refine O.not rfl rfl rfl rfl rfl ?_
      refine O.mv rfl rfl rfl rfl rfl ?_
      refine O.mv rfl rfl rfl rfl rfl ?_
      refine O.len rfl rfl rfl rfl underlying25 rfl ?_
      refine O.cmp rfl rfl rfl rfl rfl rfl (gtrF (by omega)) ?_
      refine O.pick rfl rfl rfl rfl rfl rfl ?_
      refine Pl.fin [(1,_),(2,_),(4,_),(5,_),(8,_),(10,_),(18,_)] ⟨rfl,rfl,rfl,rfl,rfl,rfl,rfl,trivial⟩ ?_
      refine Go'.condF rfl ?_
      refine Go'.skip ?_
      refine Go'.seq ?_
      cases hfz : fitsb z
      · skip
        refine Go'.region [(0,2),(1,2),(2,0),(3,2),(4,0),(5,0),(6,1),(7,2),(8,0),(9,0),(10,1),(11,0),(12,0),(13,1),(14,0),(15,2),(16,0),(17,0),(18,0)] rfl ?_
        refine O.call rfl rfl rfl call13 rfl exMake_spec ?_
        rintro _ H2 ⟨rfl,hF2⟩
        replace hF := hF.trans hF2
        replace mm := hF2.rd mm (fun _ _ => nw)
        replace mm0 := hF2.keep mm0 nw
        replace mm1 := hF2.keep mm1 nw
        replace mpivot := hF2.rd mpivot (fun _ _ => nw)
        refine ⟨trivial,?_⟩
        refine O.call rfl rfl rfl call14 rfl exItems_spec ?_
        rintro ev H3 ⟨hev,hF3⟩
        replace hF := hF.trans hF3
        replace mm := hF3.rd mm (fun _ _ => nw)
        replace mm0 := hF3.keep mm0 nw
        replace mm1 := hF3.keep mm1 nw
        replace mpivot := hF3.rd mpivot (fun _ _ => nw)
        refine ⟨trivial,?_⟩
        refine O.bld (cs := [.int .i64 4,.int .i64 0]) rfl rfl rfl rfl (st35) rfl (by kernel_rfl) ?_
        refine O.call rfl rfl rfl call21 rfl (lawBAscendHintMut_spec (d := 2) (by decide) (InS.nil EN _) (by decide) hev (by decide) (al := false) (x := (4,0)) (n := 2)) ?_
        rintro _ H4 ⟨rfl,hF4⟩
        replace hF := hF.trans hF4
        replace mm := hF4.rd mm (fun _ _ => nw)
        replace mm0 := hF4.keep mm0 nw
        replace mm1 := hF4.keep mm1 nw
        replace mpivot := hF4.rd mpivot (fun _ _ => nw)
        refine ⟨trivial,?_⟩
        refine O.mv rfl rfl rfl rfl rfl ?_
        refine O.fa0 (off := 1) rfl rfl rfl rfl ⟨_,_,_,underlying24,rfl,rfl,sizeOf3⟩ rfl ?_
        refine O.ld rfl rfl rfl (fun w => ⟨isAgg3 w,sizeOf3 w⟩) rfl mm1 ?_
        refine O.callQ rfl rfl rfl call15 rfl (fits_spec' hfz) trivial ?_
        refine O.not rfl rfl rfl rfl rfl ?_
        refine O.mv rfl rfl rfl rfl rfl ?_
        refine Pl.pass rfl rfl rfl rfl ?_
        refine Pl.pass rfl rfl rfl rfl ?_
        refine Pl.pass rfl rfl rfl rfl ?_
        refine Pl.pass rfl rfl rfl rfl ?_
        refine Pl.pass rfl rfl rfl rfl ?_
        refine Pl.pass2 rfl rfl rfl rfl trivial ?_
        refine O.pick rfl rfl rfl rfl rfl rfl ?_
        refine O.pick rfl rfl rfl rfl rfl rfl ?_
        refine O.asg rfl rfl rfl rfl rfl ?_
        refine Pl.fin [(10,_)] ⟨rfl,trivial⟩ ?_
        refine Go'.ret (vs := [_]) func7 results7 ⟨rfl,trivial⟩ ?_
        exact ⟨rfl,hF⟩
      · skip
        obtain ⟨d,rfl,hd⟩ := fitsb_nat hfz
        refine Go'.region [(0,2),(1,2),(2,0),(3,2),(4,0),(5,0),(6,1),(7,2),(8,0),(9,0),(10,1),(11,0),(12,0),(13,1),(14,0),(15,2),(16,0),(17,0),(18,0)] rfl ?_
        refine O.call rfl rfl rfl call13 rfl exMake_spec ?_
        rintro _ H2 ⟨rfl,hF2⟩
        replace hF := hF.trans hF2
        replace mm := hF2.rd mm (fun _ _ => nw)
        replace mm0 := hF2.keep mm0 nw
        replace mm1 := hF2.keep mm1 nw
        replace mpivot := hF2.rd mpivot (fun _ _ => nw)
        refine ⟨trivial,?_⟩
        refine O.call rfl rfl rfl call14 rfl exItems_spec ?_
        rintro ev H3 ⟨hev,hF3⟩
        replace hF := hF.trans hF3
        replace mm := hF3.rd mm (fun _ _ => nw)
        replace mm0 := hF3.keep mm0 nw
        replace mm1 := hF3.keep mm1 nw
        replace mpivot := hF3.rd mpivot (fun _ _ => nw)
        refine ⟨trivial,?_⟩
        refine O.bld (cs := [.int .i64 4,.int .i64 0]) rfl rfl rfl rfl (st35) rfl (by kernel_rfl) ?_
        refine O.call rfl rfl rfl call21 rfl (lawBAscendHintMut_spec (d := 2) (by decide) (InS.nil EN _) (by decide) hev (by decide) (al := false) (x := (4,0)) (n := 2)) ?_
        rintro _ H4 ⟨rfl,hF4⟩
        replace hF := hF.trans hF4
        replace mm := hF4.rd mm (fun _ _ => nw)
        replace mm0 := hF4.keep mm0 nw
        replace mm1 := hF4.keep mm1 nw
        replace mpivot := hF4.rd mpivot (fun _ _ => nw)
        refine ⟨trivial,?_⟩
        refine O.mv rfl rfl rfl rfl rfl ?_
        refine O.fa0 (off := 1) rfl rfl rfl rfl ⟨_,_,_,underlying24,rfl,rfl,sizeOf3⟩ rfl ?_
        refine O.ld rfl rfl rfl (fun w => ⟨isAgg3 w,sizeOf3 w⟩) rfl mm1 ?_
        refine O.callQ rfl rfl rfl call15 rfl (fits_spec' hfz) trivial ?_
        refine O.not rfl rfl rfl rfl rfl ?_
        refine O.mv rfl rfl rfl rfl rfl ?_
        refine O.lds rfl rfl rfl (fun w => ⟨isAgg24 w,sizeOf24 w⟩) rfl rfl mm ?_
        refine O.mv rfl rfl rfl rfl rfl ?_
        refine O.mv rfl rfl rfl rfl rfl ?_
        refine O.lds rfl rfl rfl (fun w => ⟨isAgg35 w,sizeOf35 w⟩) rfl rfl mpivot ?_
        refine O.mv rfl rfl rfl rfl rfl ?_
        refine O.call rfl rfl rfl call21 rfl (lawBAscendHintMut_spec hd (ho.fr hF) (by omega) (hi.fr hF) (by omega) (x := y3)) ?_
        rintro _ H5 ⟨rfl,hF5⟩
        replace hF := hF.trans hF5
        replace mm := hF5.rd mm (fun _ _ => nw)
        replace mm0 := hF5.keep mm0 nw
        replace mm1 := hF5.keep mm1 nw
        replace mpivot := hF5.rd mpivot (fun _ _ => nw)
        refine ⟨trivial,?_⟩
        refine O.pick rfl rfl rfl rfl rfl rfl ?_
        refine O.pick rfl rfl rfl rfl rfl rfl ?_
        refine O.asg rfl rfl rfl rfl rfl ?_
        refine Pl.fin [(10,_)] ⟨rfl,trivial⟩ ?_
        refine Go'.ret (vs := [_]) func7 results7 ⟨rfl,trivial⟩ ?_
        exact ⟨rfl,hF⟩

end Go.Bt.FB
