/- Contracts of functions of the program, proved by walking through their code. Conditions: those that each theorem names. -/
import Derived.Test.YtnlempnbagoipaaTocX
namespace Go.Bt.FB
open Go Go.Proofs Go.Proofs.Try
set_option maxRecDepth 20000
set_option maxHeartbeats 4000000
set_option linter.unusedVariables false
set_option linter.unusedSectionVars false

theorem ibiter_spec {B : World} {H : Mem} {d : Nat} {nl : Bool} {v u : Value} {ord : List Int} {l : List (Int × Int)} {um : Value} {ms : List (Int × Int × Int)} (hd : d = 0 ∨ 2 ≤ d ∧ d ≤ 128) (ho : InS EN H v ord) (hol : ord.length ≤ 4294967296) (hi : InS EJ H u l) (hll : l.length ≤ 4294967296) (hu : InS EMv H um ms) (hml : ms.length ≤ 4294967296) :
    Fn Try.prog B 46 [.agg #[v,.int .i64 (d : Int),.bool nl],u,um] H (fun v H' => ∃ outs,OutS EF H' v outs ∧ Pl.Agree outs (Pl.itRun (OO ord) (Pl.puts (OO ord) l) ms).2.1 (Pl.itRun (OO ord) (Pl.puts (OO ord) l) ms).2.2 ∧ Fr nowhere H H') := by
  obtain ⟨a,c,hu⟩ := hi.len
  subst hu
  obtain ⟨av,mv,cv,hv⟩ := InS.form ho
  subst hv
  have hF : Fr nowhere H H := Fr.refl _ _
  have hP := PD_ok hd
  refine fn_of func46 rfl ntmps46 ?_
  refine (show Go' _ _ _ _ 17 [(0,_),(1,_),(2,_)] [.code _] _ from ?_)
  refine Go'.seq ?_
  refine Go'.region [(0,2),(1,0)] rfl ?_
  refine O.box rfl rfl rfl rfl ?_
  intro B1 MB1
  refine ⟨trivial,?_⟩
  have hsB1 := MB1.size
  replace hF := hF.trans (MB1.fr nowhere)
  have mm : Rd B1 H.size 0 [.slice av mv cv,.int .i64 (d : Int),.bool nl] := MB1.rd _ [] (by simp [Value.cells])
  have mm0 : cl B1 H.size 0 = some (.slice av mv cv) := mm 0 _ rfl
  have mm1 : cl B1 H.size (0 + 1) = some (.int .i64 (d : Int)) := mm 1 _ rfl
  refine O.asg rfl rfl rfl rfl rfl ?_
  refine Pl.fin [(1,_),(2,_),(3,_),(6,_)] ⟨rfl,rfl,rfl,rfl,trivial⟩ ?_
  refine Go'.seq ?_
  refine Go'.region [(0,1),(1,0),(2,2),(3,2),(4,2),(5,2)] rfl ?_
  refine O.lds rfl rfl rfl (fun w => ⟨isAgg24 w,sizeOf24 w⟩) rfl rfl mm ?_
  refine O.mv rfl rfl rfl rfl rfl ?_
  refine O.call rfl rfl rfl call51 rfl (grow_spec hd (ho.fr hF) hol (hi.fr hF) hll) ?_
  rintro _ H3 ⟨I,hIo,hIw,hIb,tr,S,bt,rfl,hM,hbt,hbl,hbu,hbS,hF3,hS⟩
  have hs3 := hF3.size
  replace hF := hF.trans hF3
  replace mm := hF3.rd mm (fun _ _ => nw)
  replace mm0 := hF3.keep mm0 nw
  replace mm1 := hF3.keep mm1 nw
  have hSb : ∀ b,S b ∨ (b < cx.base ∧ cx.own b) → B1.size ≤ b := fun b hb => hb.elim (hS b) (fun h => hIw b h.2)
  have hbg := hbl
  have hOO : OO ord = OI := by rw [← hIo]; rfl
  have hpl := Pl.puts_length OI l
  have hSlt := hM.lt
  have hbs := hM.tc.hb
  unfold ptr
  refine ⟨trivial,?_⟩
  refine O.call rfl rfl rfl call70 rfl (bIter_spec hbt) ?_
  rintro _ H4 ⟨kb,rfl,hF4,hwk,hkl,hkg⟩
  have hs4 := hF4.size
  replace hM := hM.fr hF4 (fun _ _ _ => nw)
  replace hF := hF.trans hF4
  replace mm := hF4.rd mm (fun _ _ => nw)
  replace mm0 := hF4.keep mm0 nw
  replace mm1 := hF4.keep mm1 nw
  refine ⟨trivial,?_⟩
  refine O.alloc rfl rfl rfl zeroValue104 ?_
  intro H5 M5
  refine ⟨trivial,?_⟩
  have hs5 := M5.size
  replace hM := hM.fr (M5.fr nowhere) (fun _ _ _ => nw)
  replace hF := hF.trans (M5.fr nowhere)
  replace mm := (M5.fr nowhere).rd mm (fun _ _ => nw)
  replace mm0 := (M5.fr nowhere).keep mm0 nw
  replace mm1 := (M5.fr nowhere).keep mm1 nw
  replace hwk := (M5.fr nowhere).wr hwk
  have m7 : Wr H5 H4.size 0 16 := M5.wr 16 (by decide)
  refine O.st (vs := (itv tr false kb)) rfl rfl sizeOf104 rfl rfl rfl rfl rfl m7 ?_
  intro H6 W6
  have hs6 := W6.size
  replace hM := hM.fr W6.fr (fun b o hb => nr (.inl (hb.elim (fun hb => by have := hSlt b hb; omega) (fun hb => by have := hb.1; omega))))
  replace hF := hF.trans' W6.fr (fun _ _ _ h => h) (fun b o hb h => by have h' := h.1; omega)
  replace mm := W6.fr.rd mm (fun _ _ => nr (.inl (by omega)))
  replace mm0 := W6.fr.keep mm0 (nr (.inl (by omega)))
  replace mm1 := W6.fr.keep mm1 (nr (.inl (by omega)))
  have hI := itr_new W6 m7 hwk (by omega) (by omega)
  obtain ⟨r,hT⟩ := hM.treeR hP (by omega)
  refine ⟨trivial,?_⟩
  refine Pl.fin [(2,_),(6,_),(7,_)] ⟨rfl,rfl,rfl,trivial⟩ ?_
  refine Go'.seq ?_
  refine Go'.region [(0,0),(1,2),(2,0)] rfl ?_
  refine O.mv rfl rfl rfl rfl rfl ?_
  refine O.call rfl rfl rfl call71 rfl (moved_spec hP hI hT (fun h => h.elim (fun h => by have := hSlt _ h; omega) (fun h => by have := h.1; omega)) (fun b h e => h.elim (fun h => by have := hSlt _ h; have e' : b = kb := e; omega) (fun h => by have := h.1; have e' : b = kb := e; omega)) (Pl.puts_srt OI l) hu hml hF (by have := hF.size; omega) (fun b h => by have h' : b = kb := h; omega)) ?_
  rintro _ H7 ⟨outs,Zo,hA,hZi,hag,hF7,sk,sa,se,Z,fr,kv,hI7⟩
  refine ⟨trivial,?_⟩
  refine O.asg rfl rfl rfl rfl rfl ?_
  refine Pl.fin [(6,_),(7,_),(8,_)] ⟨rfl,rfl,rfl,trivial⟩ ?_
  refine Go'.seq ?_
  refine Go'.region [(0,2)] rfl ?_
  refine O.call rfl rfl rfl call72 rfl (wRelease_spec hI7) ?_
  rintro _ H8 ⟨rfl,hF8⟩
  refine ⟨trivial,?_⟩
  refine Pl.fin [(6,_),(8,_)] ⟨rfl,rfl,trivial⟩ ?_
  refine Go'.seq ?_
  refine Go'.region [(0,0),(1,0)] rfl ?_
  refine O.mv rfl rfl rfl rfl rfl ?_
  refine O.asg rfl rfl rfl rfl rfl ?_
  refine Pl.fin [(6,_)] ⟨rfl,trivial⟩ ?_
  refine Go'.ret (vs := [_]) func46 results46 ⟨rfl,trivial⟩ ?_
  rw [hOO]
  exact ⟨outs,(hA.fr hF8 (fun b o _ hb => hZi b hb)).out,hag,hF7.trans' hF8 (fun _ _ _ h => h) (fun b o hb h => by have h' : b = H4.size := h; omega)⟩

theorem ath_cut (l : List (Int × Int)) (z : Int) : (Pl.cut l.length z).bind (l[·]?) = ath l z := by
  unfold Pl.cut ath
  by_cases h : z < 0
  · rw [if_neg (by omega),if_pos h]; rfl
  · rw [if_neg h]
    by_cases h2 : z < (l.length : Int)
    · rw [if_pos ⟨by omega,h2⟩]; rfl
    · rw [if_neg (by omega),List.getElem?_eq_none (by omega)]; rfl
theorem atz_none {l : List (Int × Int)} {z : Int} (h : ath l z = none) : Pl.atz (Pl.cut l.length z) = -1 := by
  cases hc : Pl.cut l.length z with
  | none => rfl
  | some q =>
    have hq := Pl.cut_lt hc
    rw [← ath_cut,hc] at h
    have : l[q]? = none := h
    rw [List.getElem?_eq_none_iff] at this
    omega
theorem atz_some {l : List (Int × Int)} {z : Int} {y : Int × Int} (h : ath l z = some y) : Pl.atz (Pl.cut l.length z) = z := by
  cases hc : Pl.cut l.length z with
  | none => rw [← ath_cut,hc] at h; cases h
  | some q =>
    unfold Pl.cut at hc
    split at hc
    · cases hc
      show ((z.toNat : Nat) : Int) = z
      omega
    · cases hc

theorem giter_spec {B : World} {H : Mem} {v u um : Value} {ord : List Int} {l : List (Int × Int)} {ms : List (Int × Int × Int)} (ho : InS EN H v ord) (hl : ord.length < 4611686018427387904) (hi : InS EJ H u l) (hs : Pl.Srt (OO ord) l) (hll : l.length ≤ 4294967296) (hu : InS EMv H um ms) (hml : ms.length ≤ 4294967296) :
    Fn Try.prog B 47 [v,u,um] H (fun r H' => ∃ v1 v2,r = .tuple #[v1,v2] ∧ OutS EF H' v1 (Pl.itRun (OO ord) l ms).2.1 ∧ OutS EB H' v2 (Pl.itRun (OO ord) l ms).2.2 ∧ Fr nowhere H H') := by
  obtain ⟨a,c,hue⟩ := hi.len
  subst hue
  obtain ⟨am,cm,hue⟩ := hu.len
  subst hue
  refine fn_of func47 rfl ntmps47 ?_
  refine (show Go' _ _ _ _ 79 [(0,_),(1,_),(2,_)] [.code _] _ from ?_)
  refine Go'.seq ?_
  refine Go'.region [(0,0),(1,0)] rfl ?_
  refine O.asg rfl rfl rfl rfl rfl ?_
  refine O.asg rfl rfl rfl rfl rfl ?_
  refine Pl.fin [(0,_),(1,_),(2,_),(6,_),(7,_)] ⟨rfl,rfl,rfl,rfl,rfl,trivial⟩ ?_
  refine Go'.seq ?_
  refine Go'.region [(0,0)] rfl ?_
  refine O.asg rfl rfl rfl rfl rfl ?_
  refine Pl.fin [(0,_),(1,_),(2,_),(6,_),(7,_),(8,_)] ⟨rfl,rfl,rfl,rfl,rfl,rfl,trivial⟩ ?_
  refine Go'.seq ?_
  refine Go'.region [(0,0)] rfl ?_
  refine O.asg rfl rfl rfl rfl rfl ?_
  refine Pl.fin [(0,_),(1,_),(2,_),(6,_),(7,_),(8,_),(9,_)] ⟨rfl,rfl,rfl,rfl,rfl,rfl,rfl,trivial⟩ ?_
  refine Go'.seq ?_
  refine Go'.region [(0,0)] rfl ?_
  refine O.asg rfl rfl rfl rfl rfl ?_
  refine Pl.fin [(0,_),(1,_),(2,_),(6,_),(7,_),(8,_),(9,_),(10,_)] ⟨rfl,rfl,rfl,rfl,rfl,rfl,rfl,rfl,trivial⟩ ?_
  refine Go'.seq ?_
  refine Go'.seq ?_
  refine Go'.region [(0,0),(1,0),(2,0)] rfl ?_
  refine O.mv rfl rfl rfl rfl rfl ?_
  refine O.len rfl rfl rfl rfl underlying38 rfl ?_
  refine O.mv rfl rfl rfl rfl rfl ?_
  refine Pl.fin [(0,_),(1,_),(6,_),(7,_),(8,_),(9,_),(10,_),(15,_),(16,_),(17,_)] ⟨rfl,rfl,rfl,rfl,rfl,rfl,rfl,rfl,rfl,rfl,trivial⟩ ?_
  refine Go'.block ?_
  refine Go'.loop ?_
  refine Go'.keep [(0,_),(1,_),(8,_),(9,_),(10,_),(15,_),(16,_),(17,_)] ⟨rfl,rfl,rfl,rfl,rfl,rfl,rfl,rfl,trivial⟩ ?_
  refine Go'.ind (σ := Nat × Value × Value) (fun s => ms.length - s.1) (fun s H' => Fr nowhere H H' ∧ s.1 ≤ ms.length ∧ ∃ Zo Zt,Acc EF Zo H' s.2.1 (Pl.itRun (OO ord) l (ms.take s.1)).2.1 ∧ Acc EB Zt H' s.2.2 (Pl.itRun (OO ord) l (ms.take s.1)).2.2 ∧ (∀ b,Zo b → H.size ≤ b ∧ b < H'.size ∧ ¬ Zt b) ∧ ∀ b,Zt b → H.size ≤ b ∧ b < H'.size)
    (fun s => [(0,v),(1,.slice a l.length c),(8,s.2.1),(9,s.2.2),(10,.int .i64 (Pl.atz (Pl.itRun (OO ord) l (ms.take s.1)).1)),(15,.slice am ms.length cm),(16,.int .i64 (ms.length : Int)),(17,.int .i64 (s.1 : Int))]) (0,.slice none 0 0,.slice none 0 0)
    ⟨Fr.refl _ _,Nat.zero_le _,fun _ => False,fun _ => False,Acc.nil _ _ _,Acc.nil _ _ _,fun _ h => h.elim,fun _ h => h.elim⟩ rfl ?_
  rintro ⟨j,sv,tv⟩ H2 ⟨hF,hjl,Zo,Zt,hA,hB,hZo,hZt⟩ ih
  simp only at hjl hA hB
  have ho2 := ho.fr hF
  have hi2 := hi.fr hF
  refine Go'.seq ?_
  by_cases hlt : j < ms.length
  · skip
    obtain ⟨y,hy⟩ : ∃ y,ms[j]? = some y := ⟨ms[j],List.getElem?_eq_getElem hlt⟩
    obtain ⟨b,o,c',e,hr⟩ := (hu.fr hF).at hy
    cases e
    have hsz0 := hF.size
    have erun : Pl.itRun (OO ord) l (ms.take (j + 1)) = Pl.itStep (OO ord) l (Pl.itRun (OO ord) l (ms.take j)) y := by rw [List.take_add_one,hy]; exact Pl.itRun_snoc _ _ _ _
    have hlA : (Pl.itRun (OO ord) l (ms.take j)).2.1.length = j := by rw [(Pl.itRun_len (OO ord) l (ms.take j)).1,List.length_take]; omega
    have hlB : (Pl.itRun (OO ord) l (ms.take j)).2.2.length = j := by rw [(Pl.itRun_len (OO ord) l (ms.take j)).2,List.length_take]; omega
    refine Go'.region [(0,0)] rfl ?_
    refine O.cmp rfl rfl rfl rfl rfl rfl (lssT (by omega)) ?_
    refine Pl.fin [(0,_),(1,_),(8,_),(9,_),(10,_),(15,_),(16,_),(17,_),(18,_)] ⟨rfl,rfl,rfl,rfl,rfl,rfl,rfl,rfl,rfl,trivial⟩ ?_
    refine Go'.seq ?_
    refine Go'.condT rfl ?_
    refine Go'.skip ?_
    refine Go'.seq ?_
    refine Go'.block ?_
    refine Go'.seq ?_
    refine Go'.region [(0,0),(1,1),(2,2),(3,2)] rfl ?_
    refine O.ix (j := j) rfl rfl rfl rfl underlying38 sizeOf65 rfl rfl (by omega) hlt ?_
    refine O.lds rfl rfl rfl (fun w => ⟨isAgg65 w,sizeOf65 w⟩) rfl rfl hr ?_
    refine O.alloc rfl rfl rfl zeroValue65 ?_
    intro H3 M3
    refine ⟨trivial,?_⟩
    have hs3 := M3.size
    have m7 : Wr H3 H2.size 0 3 := M3.wr 3 (by decide)
    refine O.st rfl rfl sizeOf65 rfl rfl rfl rfl rfl m7 ?_
    intro H4 W4
    have hs4 := W4.size
    have hf4 : Fr nowhere H2 H4 := (M3.fr nowhere).trans' W4.fr (fun _ _ _ h => h) (fun b o hb hz => by have h1 := hz.1; omega)
    replace ho2 := ho2.fr hf4
    replace hi2 := hi2.fr hf4
    replace hA := hA.fr hf4 (fun _ _ _ _ => nw)
    replace hB := hB.fr hf4 (fun _ _ _ _ => nw)
    have k0 : cl H4 H2.size 0 = some (.int .i64 y.1) := W4.all 0 _ rfl
    have k2 : Rd H4 H2.size 1 (EJ.enc y.2) := fun i v hv => by
      have h := W4.all (1 + i) v (by rw [← hv,Nat.add_comm]; rfl)
      rwa [Nat.zero_add] at h
    clear hr m7 M3
    refine ⟨trivial,?_⟩
    refine Pl.fin [(0,_),(1,_),(8,_),(9,_),(10,_),(12,_),(15,_),(16,_),(17,_),(18,_)] ⟨rfl,rfl,rfl,rfl,rfl,rfl,rfl,rfl,rfl,rfl,trivial⟩ ?_
    refine Go'.seq ?_
    refine Go'.region [(0,0)] rfl ?_
    refine O.asg rfl rfl rfl rfl rfl ?_
    refine Pl.fin [(0,_),(1,_),(8,_),(9,_),(10,_),(12,_),(13,_),(15,_),(16,_),(17,_),(18,_)] ⟨rfl,rfl,rfl,rfl,rfl,rfl,rfl,rfl,rfl,rfl,rfl,trivial⟩ ?_
    refine Go'.seq ?_
    refine Go'.seq ?_
    refine Go'.region [(0,0),(1,1)] rfl ?_
    refine O.faz rfl rfl rfl rfl ⟨_,_,_,underlying65,rfl,rfl,sizeOf3⟩ rfl ?_
    refine O.ld rfl rfl rfl (fun w => ⟨isAgg3 w,sizeOf3 w⟩) rfl k0 ?_
    refine Pl.fin [(0,_),(1,_),(8,_),(9,_),(10,_),(12,_),(13,_),(15,_),(16,_),(17,_),(18,_),(22,_)] ⟨rfl,rfl,rfl,rfl,rfl,rfl,rfl,rfl,rfl,rfl,rfl,rfl,trivial⟩ ?_
    refine Go'.block ?_
    refine Go'.seq ?_
    refine Go'.seq ?_
    refine Go'.cut4 (σ := Int × Bool) (fun s H' => Fr nowhere H4 H' ∧ s.1 = Pl.mvTo (OO ord) l y (Pl.itRun (OO ord) l (ms.take j)).1 ∧ s.2 = Pl.mvTold l y (Pl.itRun (OO ord) l (ms.take j)).1) (fun s => [(0,v),(1,.slice a l.length c),(8,sv),(9,tv),(10,.int .i64 s.1),(13,.bool s.2),(15,.slice (some ⟨b,o,none⟩) ms.length cm),(16,.int .i64 (ms.length : Int)),(17,.int .i64 (j : Int))]) ?_ ?_
    · rintro ⟨z,k⟩ H5 ⟨hf5,ez,ek⟩
      simp only at ez ek
      replace hi2 := hi2.fr hf5
      replace hA := hA.fr hf5 (fun _ _ _ _ => nw)
      replace hB := hB.fr hf5 (fun _ _ _ _ => nw)
      replace hf5 := hf4.trans hf5
      have hs5 := hf5.size
      have e1 : (Pl.itRun (OO ord) l (ms.take (j + 1))).1 = Pl.cut l.length z := by rw [erun,ez]; rfl
      have e2 : (Pl.itRun (OO ord) l (ms.take (j + 1))).2.1 = (Pl.itRun (OO ord) l (ms.take j)).2.1 ++ [ath l z] := by rw [erun,← ath_cut,ez]; rfl
      have e3 : (Pl.itRun (OO ord) l (ms.take (j + 1))).2.2 = (Pl.itRun (OO ord) l (ms.take j)).2.2 ++ [k] := by rw [erun,ek]; rfl
      refine Go'.seq ?_
      cases hath : ath l z
      · skip
        refine Go'.region [(0,0),(1,0),(2,2),(3,2),(4,2)] rfl ?_
        refine O.mv rfl rfl rfl rfl rfl ?_
        refine O.mv rfl rfl rfl rfl rfl ?_
        refine O.call rfl rfl rfl call58 rfl (at_spec z hi2 hll) ?_
        rintro _ H6 ⟨rfl,hF6⟩
        rw [hath]
        unfold FV
        have hs6 := hF6.size
        replace hA := hA.fr hF6 (fun _ _ _ _ => nw)
        replace hB := hB.fr hF6 (fun _ _ _ _ => nw)
        refine ⟨trivial,?_⟩
        refine O.alloc rfl rfl rfl zeroValue44 ?_
        intro H7 M7
        refine ⟨trivial,?_⟩
        have hs7 := M7.size
        have m14 : Wr H7 H6.size 0 3 := M7.wr 3 (by decide)
        replace hA := hA.fr (M7.fr nowhere) (fun _ _ _ _ => nw)
        replace hB := hB.fr (M7.fr nowhere) (fun _ _ _ _ => nw)
        refine O.st (vs := (fvs none)) rfl rfl sizeOf44 rfl rfl rfl rfl rfl m14 ?_
        intro H8 W8
        have hs8 := W8.size
        have f8 : Rd H8 H6.size 0 (fvs none) := W8.all
        have hf8 : Fr nowhere H2 H8 := ((hf5.trans hF6).trans (M7.fr nowhere)).trans' W8.fr (fun _ _ _ h => h) (fun b o hb hz => by have h1 := hz.1; omega)
        replace hA := hA.fr W8.fr (fun b o _ hz hx => by have h1 := hx.1; have h2 := hZo b hz; omega)
        replace hB := hB.fr W8.fr (fun b o _ hz hx => by have h1 := hx.1; have h2 := hZt b hz; omega)
        refine ⟨trivial,?_⟩
        refine Pl.fin [(0,_),(1,_),(8,_),(9,_),(10,_),(13,_),(14,_),(15,_),(16,_),(17,_)] ⟨rfl,rfl,rfl,rfl,rfl,rfl,rfl,rfl,rfl,rfl,trivial⟩ ?_
        refine Go'.seq ?_
        refine Go'.seq ?_
        refine Go'.region [(0,0),(1,1),(2,0)] rfl ?_
        refine O.fa0 (off := 2) rfl rfl rfl rfl ⟨_,_,_,underlying44,rfl,rfl,sizeOf4⟩ rfl ?_
        refine O.ld rfl rfl rfl (fun w => ⟨isAgg4 w,sizeOf4 w⟩) rfl (f8 2 _ rfl) ?_
        refine O.not rfl rfl rfl rfl rfl ?_
        refine Pl.fin [(0,_),(1,_),(8,_),(9,_),(10,_),(13,_),(14,_),(15,_),(16,_),(17,_),(67,_)] ⟨rfl,rfl,rfl,rfl,rfl,rfl,rfl,rfl,rfl,rfl,rfl,trivial⟩ ?_
        refine Go'.condT rfl ?_
        refine Go'.region [(0,0)] rfl ?_
        refine O.asg rfl rfl rfl rfl rfl ?_
        refine Pl.fin [(0,_),(1,_),(8,_),(9,_),(10,_),(13,_),(14,_),(15,_),(16,_),(17,_),(67,_)] ⟨rfl,rfl,rfl,rfl,rfl,rfl,rfl,rfl,rfl,rfl,rfl,trivial⟩ ?_
        refine Go'.region [(0,0),(1,1),(2,2),(3,2),(4,0),(5,0),(6,2),(7,2),(8,0),(9,0)] rfl ?_
        refine O.mv rfl rfl rfl rfl rfl ?_
        refine O.lds rfl rfl rfl (fun w => ⟨isAgg44 w,sizeOf44 w⟩) rfl rfl f8 ?_
        refine O.bsl (cs := (fvs none)) rfl rfl rfl ⟨underlying48,sizeOf44,zeroValue44,⟨_,typeInfo44,rfl⟩,rfl,by decide,by decide⟩ rfl (by decide) (by kernel_rfl) ?_
        intro H9 M9
        have hs9 := M9.size
        replace hA := hA.fr (M9.fr nowhere) (fun _ _ _ _ => nw)
        replace hB := hB.fr (M9.fr nowhere) (fun _ _ _ _ => nw)
        have m5 : Rd H9 H8.size 0 (row EF [none]) := M9.rd _ [] (by simp [row,EF,fvs])
        refine ⟨trivial,?_⟩
        refine O.appA (E := EF) (Y := [none]) rfl rfl rfl ⟨underlying48,sizeOf44,zeroValue44,⟨_,typeInfo44,rfl⟩,rfl,by decide,by decide⟩ rfl hA rfl ⟨_,_,_,rfl,m5⟩ (Nat.succ_pos _) (Nat.le_trans (Nat.mul_le_mul_left _ (Nat.le_of_ble_eq_true (n := _) (m := 4096) rfl)) (by rw [hlA]; simp only [List.length_cons,List.length_nil]; omega)) (by rw [hlA]; simp only [List.length_cons,List.length_nil]; omega) ?_
        intro v10 H10 hA10 hF10 hs10
        have hg10 := hF10.size
        replace hB := hB.fr hF10 (fun b o _ hz hx => (hZo b hx).2.2 hz)
        refine ⟨trivial,?_⟩
        refine O.mv rfl rfl rfl rfl rfl ?_
        refine O.mv rfl rfl rfl rfl rfl ?_
        refine O.bsl (cs := [.bool k]) rfl rfl rfl ⟨underlying59,sizeOf4,zeroValue4,⟨_,typeInfo4,rfl⟩,rfl,by decide,by decide⟩ rfl (by decide) (by kernel_rfl) ?_
        intro H11 M11
        have hs11 := M11.size
        have hA11 := hA10.fr (M11.fr nowhere) (fun _ _ _ _ => nw)
        replace hB := hB.fr (M11.fr nowhere) (fun _ _ _ _ => nw)
        have m6 : Rd H11 H10.size 0 (row EB [k]) := M11.rd _ [] (by simp [row,EB])
        refine ⟨trivial,?_⟩
        refine O.appA (E := EB) (Y := [k]) rfl rfl rfl ⟨underlying59,sizeOf4,zeroValue4,⟨_,typeInfo4,rfl⟩,rfl,by decide,by decide⟩ rfl hB rfl ⟨_,_,_,rfl,m6⟩ (Nat.succ_pos _) (Nat.le_trans (Nat.mul_le_mul_left _ (Nat.le_of_ble_eq_true (n := _) (m := 4096) rfl)) (by rw [hlB]; simp only [List.length_cons,List.length_nil]; omega)) (by rw [hlB]; simp only [List.length_cons,List.length_nil]; omega) ?_
        intro v12 H12 hB12 hF12 hs12
        have hg12 := hF12.size
        have hA12 := hA11.fr hF12 (fun b o _ hz hx => by
          have h2 := hZt b hx
          rcases hz with hz | hz
          · exact (hZo b hz).2.2 hx
          · omega)
        rw [hath] at e2
        refine ⟨trivial,?_⟩
        refine O.asg rfl rfl rfl rfl rfl ?_
        refine O.asg rfl rfl rfl rfl rfl ?_
        refine Pl.fin [(0,_),(1,_),(8,_),(9,_),(10,_),(13,_),(14,_),(15,_),(16,_),(17,_),(67,_)] ⟨rfl,rfl,rfl,rfl,rfl,rfl,rfl,rfl,rfl,rfl,rfl,trivial⟩ ?_
        refine Go'.inBlock ?_
        refine Go'.region [(0,0),(1,0)] rfl ?_
        refine O.add (((j + 1 : Nat) : Int)) rfl rfl rfl rfl rfl rfl (by omega) (by omega) ?_
        refine O.mv rfl rfl rfl rfl rfl ?_
        refine Pl.fin [(0,_),(1,_),(8,_),(9,_),(10,_),(13,_),(14,_),(15,_),(16,_),(17,_),(67,_)] ⟨rfl,rfl,rfl,rfl,rfl,rfl,rfl,rfl,rfl,rfl,rfl,trivial⟩ ?_
        refine Go'.keep [(0,_),(1,_),(8,_),(9,_),(10,_),(15,_),(16,_),(17,_)] ⟨rfl,rfl,rfl,rfl,rfl,rfl,rfl,rfl,trivial⟩ ?_
        refine Go'.inLoop ?_
        have hn := ih (j + 1,v10,v12) H12 ⟨((((hF.trans hf8).trans (M9.fr nowhere)).trans' hF10 (fun _ _ _ h => h) (fun b o hb hz => by have := (hZo b hz).1; omega)).trans (M11.fr nowhere)).trans' hF12 (fun _ _ _ h => h) (fun b o hb hz => by have := (hZt b hz).1; omega),hlt,(fun b => Zo b ∨ (b = H9.size ∧ b < H10.size)),(fun b => Zt b ∨ (b = H11.size ∧ b < H12.size)),by
          simp only
          rw [e2]
          exact hA12,by
          simp only
          rw [e3]
          exact hB12,fun b hb => hb.elim (fun h => ⟨(hZo b h).1,by have := (hZo b h).2.1; omega,fun hx => hx.elim (hZo b h).2.2 (fun h2 => by have := (hZo b h).2.1; omega)⟩) (fun h => ⟨by omega,by omega,fun hx => hx.elim (fun h2 => by have := (hZt b h2).2; omega) (fun h2 => by omega)⟩),fun b hb => hb.elim (fun h => ⟨(hZt b h).1,by have := (hZt b h).2; omega⟩) (fun h => ⟨by omega,h.2⟩)⟩ (by simp only; omega)
        simp only [e1,atz_none hath] at hn
        exact hn
      · rename_i y2
        refine Go'.region [(0,0),(1,0),(2,2),(3,2),(4,2)] rfl ?_
        refine O.mv rfl rfl rfl rfl rfl ?_
        refine O.mv rfl rfl rfl rfl rfl ?_
        refine O.call rfl rfl rfl call58 rfl (at_spec z hi2 hll) ?_
        rintro _ H6 ⟨rfl,hF6⟩
        rw [hath]
        unfold FV
        have hs6 := hF6.size
        replace hA := hA.fr hF6 (fun _ _ _ _ => nw)
        replace hB := hB.fr hF6 (fun _ _ _ _ => nw)
        refine ⟨trivial,?_⟩
        refine O.alloc rfl rfl rfl zeroValue44 ?_
        intro H7 M7
        refine ⟨trivial,?_⟩
        have hs7 := M7.size
        have m14 : Wr H7 H6.size 0 3 := M7.wr 3 (by decide)
        replace hA := hA.fr (M7.fr nowhere) (fun _ _ _ _ => nw)
        replace hB := hB.fr (M7.fr nowhere) (fun _ _ _ _ => nw)
        refine O.st (vs := (fvs (some y2))) rfl rfl sizeOf44 rfl rfl rfl rfl rfl m14 ?_
        intro H8 W8
        have hs8 := W8.size
        have f8 : Rd H8 H6.size 0 (fvs (some y2)) := W8.all
        have hf8 : Fr nowhere H2 H8 := ((hf5.trans hF6).trans (M7.fr nowhere)).trans' W8.fr (fun _ _ _ h => h) (fun b o hb hz => by have h1 := hz.1; omega)
        replace hA := hA.fr W8.fr (fun b o _ hz hx => by have h1 := hx.1; have h2 := hZo b hz; omega)
        replace hB := hB.fr W8.fr (fun b o _ hz hx => by have h1 := hx.1; have h2 := hZt b hz; omega)
        refine ⟨trivial,?_⟩
        refine Pl.fin [(0,_),(1,_),(8,_),(9,_),(10,_),(13,_),(14,_),(15,_),(16,_),(17,_)] ⟨rfl,rfl,rfl,rfl,rfl,rfl,rfl,rfl,rfl,rfl,trivial⟩ ?_
        refine Go'.seq ?_
        refine Go'.seq ?_
        refine Go'.region [(0,0),(1,1),(2,0)] rfl ?_
        refine O.fa0 (off := 2) rfl rfl rfl rfl ⟨_,_,_,underlying44,rfl,rfl,sizeOf4⟩ rfl ?_
        refine O.ld rfl rfl rfl (fun w => ⟨isAgg4 w,sizeOf4 w⟩) rfl (f8 2 _ rfl) ?_
        refine O.not rfl rfl rfl rfl rfl ?_
        refine Pl.fin [(0,_),(1,_),(8,_),(9,_),(10,_),(13,_),(14,_),(15,_),(16,_),(17,_),(67,_)] ⟨rfl,rfl,rfl,rfl,rfl,rfl,rfl,rfl,rfl,rfl,rfl,trivial⟩ ?_
        refine Go'.condF rfl ?_
        refine Go'.skip ?_
        refine Go'.region [(0,0),(1,1),(2,2),(3,2),(4,0),(5,0),(6,2),(7,2),(8,0),(9,0)] rfl ?_
        refine O.mv rfl rfl rfl rfl rfl ?_
        refine O.lds rfl rfl rfl (fun w => ⟨isAgg44 w,sizeOf44 w⟩) rfl rfl f8 ?_
        refine O.bsl (cs := (fvs (some y2))) rfl rfl rfl ⟨underlying48,sizeOf44,zeroValue44,⟨_,typeInfo44,rfl⟩,rfl,by decide,by decide⟩ rfl (by decide) (by kernel_rfl) ?_
        intro H9 M9
        have hs9 := M9.size
        replace hA := hA.fr (M9.fr nowhere) (fun _ _ _ _ => nw)
        replace hB := hB.fr (M9.fr nowhere) (fun _ _ _ _ => nw)
        have m5 : Rd H9 H8.size 0 (row EF [(some y2)]) := M9.rd _ [] (by simp [row,EF,fvs])
        refine ⟨trivial,?_⟩
        refine O.appA (E := EF) (Y := [(some y2)]) rfl rfl rfl ⟨underlying48,sizeOf44,zeroValue44,⟨_,typeInfo44,rfl⟩,rfl,by decide,by decide⟩ rfl hA rfl ⟨_,_,_,rfl,m5⟩ (Nat.succ_pos _) (Nat.le_trans (Nat.mul_le_mul_left _ (Nat.le_of_ble_eq_true (n := _) (m := 4096) rfl)) (by rw [hlA]; simp only [List.length_cons,List.length_nil]; omega)) (by rw [hlA]; simp only [List.length_cons,List.length_nil]; omega) ?_
        intro v10 H10 hA10 hF10 hs10
        have hg10 := hF10.size
        replace hB := hB.fr hF10 (fun b o _ hz hx => (hZo b hx).2.2 hz)
        refine ⟨trivial,?_⟩
        refine O.mv rfl rfl rfl rfl rfl ?_
        refine O.mv rfl rfl rfl rfl rfl ?_
        refine O.bsl (cs := [.bool k]) rfl rfl rfl ⟨underlying59,sizeOf4,zeroValue4,⟨_,typeInfo4,rfl⟩,rfl,by decide,by decide⟩ rfl (by decide) (by kernel_rfl) ?_
        intro H11 M11
        have hs11 := M11.size
        have hA11 := hA10.fr (M11.fr nowhere) (fun _ _ _ _ => nw)
        replace hB := hB.fr (M11.fr nowhere) (fun _ _ _ _ => nw)
        have m6 : Rd H11 H10.size 0 (row EB [k]) := M11.rd _ [] (by simp [row,EB])
        refine ⟨trivial,?_⟩
        refine O.appA (E := EB) (Y := [k]) rfl rfl rfl ⟨underlying59,sizeOf4,zeroValue4,⟨_,typeInfo4,rfl⟩,rfl,by decide,by decide⟩ rfl hB rfl ⟨_,_,_,rfl,m6⟩ (Nat.succ_pos _) (Nat.le_trans (Nat.mul_le_mul_left _ (Nat.le_of_ble_eq_true (n := _) (m := 4096) rfl)) (by rw [hlB]; simp only [List.length_cons,List.length_nil]; omega)) (by rw [hlB]; simp only [List.length_cons,List.length_nil]; omega) ?_
        intro v12 H12 hB12 hF12 hs12
        have hg12 := hF12.size
        have hA12 := hA11.fr hF12 (fun b o _ hz hx => by
          have h2 := hZt b hx
          rcases hz with hz | hz
          · exact (hZo b hz).2.2 hx
          · omega)
        rw [hath] at e2
        refine ⟨trivial,?_⟩
        refine O.asg rfl rfl rfl rfl rfl ?_
        refine O.asg rfl rfl rfl rfl rfl ?_
        refine Pl.fin [(0,_),(1,_),(8,_),(9,_),(10,_),(13,_),(14,_),(15,_),(16,_),(17,_),(67,_)] ⟨rfl,rfl,rfl,rfl,rfl,rfl,rfl,rfl,rfl,rfl,rfl,trivial⟩ ?_
        refine Go'.inBlock ?_
        refine Go'.region [(0,0),(1,0)] rfl ?_
        refine O.add (((j + 1 : Nat) : Int)) rfl rfl rfl rfl rfl rfl (by omega) (by omega) ?_
        refine O.mv rfl rfl rfl rfl rfl ?_
        refine Pl.fin [(0,_),(1,_),(8,_),(9,_),(10,_),(13,_),(14,_),(15,_),(16,_),(17,_),(67,_)] ⟨rfl,rfl,rfl,rfl,rfl,rfl,rfl,rfl,rfl,rfl,rfl,trivial⟩ ?_
        refine Go'.keep [(0,_),(1,_),(8,_),(9,_),(10,_),(15,_),(16,_),(17,_)] ⟨rfl,rfl,rfl,rfl,rfl,rfl,rfl,rfl,trivial⟩ ?_
        refine Go'.inLoop ?_
        have hn := ih (j + 1,v10,v12) H12 ⟨((((hF.trans hf8).trans (M9.fr nowhere)).trans' hF10 (fun _ _ _ h => h) (fun b o hb hz => by have := (hZo b hz).1; omega)).trans (M11.fr nowhere)).trans' hF12 (fun _ _ _ h => h) (fun b o hb hz => by have := (hZt b hz).1; omega),hlt,(fun b => Zo b ∨ (b = H9.size ∧ b < H10.size)),(fun b => Zt b ∨ (b = H11.size ∧ b < H12.size)),by
          simp only
          rw [e2]
          exact hA12,by
          simp only
          rw [e3]
          exact hB12,fun b hb => hb.elim (fun h => ⟨(hZo b h).1,by have := (hZo b h).2.1; omega,fun hx => hx.elim (hZo b h).2.2 (fun h2 => by have := (hZo b h).2.1; omega)⟩) (fun h => ⟨by omega,by omega,fun hx => hx.elim (fun h2 => by have := (hZt b h2).2; omega) (fun h2 => by omega)⟩),fun b hb => hb.elim (fun h => ⟨(hZt b h).1,by have := (hZt b h).2; omega⟩) (fun h => ⟨by omega,h.2⟩)⟩ (by simp only; omega)
        simp only [e1,atz_some hath] at hn
        exact hn
    · intro tail
      have hqlt : ∀ q,(Pl.itRun (OO ord) l (ms.take j)).1 = some q → q < l.length := fun q h => Pl.itRun_lt (OO ord) l _ h
      generalize (Pl.itRun (OO ord) l (ms.take j)).1 = s0 at *
      by_cases h2 : y.1 = 2
      · skip
        refine Go'.region [(0,0),(1,0)] rfl ?_
        refine O.cmp rfl rfl rfl rfl rfl rfl (eqlT (by omega)) ?_
        refine O.asg rfl rfl rfl rfl rfl ?_
        refine Pl.fin [(0,_),(1,_),(8,_),(9,_),(10,_),(12,_),(13,_),(15,_),(16,_),(17,_),(18,_),(22,_),(23,_)] ⟨rfl,rfl,rfl,rfl,rfl,rfl,rfl,rfl,rfl,rfl,rfl,rfl,rfl,trivial⟩ ?_
        refine Go'.condT rfl ?_
        refine Go'.skip ?_
        refine Go'.condT rfl ?_
        refine Go'.seq ?_
        rcases s0 with _ | q
        · skip
          by_cases hl0 : l.length = 0
          · skip
            refine Go'.region [(0,0),(1,0),(2,0),(3,0),(4,0),(5,0),(6,0),(7,0)] rfl ?_
            refine O.mv rfl rfl rfl rfl rfl ?_
            refine O.cmp rfl rfl rfl rfl rfl rfl (geqF (by decide)) ?_
            refine O.mv rfl rfl rfl rfl rfl ?_
            refine O.mv rfl rfl rfl rfl rfl ?_
            refine O.len rfl rfl rfl rfl underlying25 rfl ?_
            refine O.cmp rfl rfl rfl rfl rfl rfl (eqlT (by omega)) ?_
            refine O.pick rfl rfl rfl rfl rfl rfl ?_
            refine O.asg rfl rfl rfl rfl rfl ?_
            refine Pl.fin [(0,_),(1,_),(8,_),(9,_),(10,_),(12,_),(13,_),(15,_),(16,_),(17,_),(18,_),(22,_),(23,_)] ⟨rfl,rfl,rfl,rfl,rfl,rfl,rfl,rfl,rfl,rfl,rfl,rfl,rfl,trivial⟩ ?_
            refine Go'.seq ?_
            refine Go'.region [(0,0),(1,0),(2,0),(3,0),(4,1),(5,0),(6,0)] rfl ?_
            refine O.mv rfl rfl rfl rfl rfl ?_
            refine O.cmp rfl rfl rfl rfl rfl rfl (geqF (by decide)) ?_
            refine O.mv rfl rfl rfl rfl rfl ?_
            refine Pl.pass rfl rfl rfl rfl ?_
            refine Pl.pass rfl rfl rfl rfl ?_
            refine Pl.pass rfl rfl rfl rfl ?_
            refine O.pick rfl rfl rfl rfl rfl rfl ?_
            refine Pl.fin [(0,_),(1,_),(8,_),(9,_),(10,_),(12,_),(13,_),(15,_),(16,_),(17,_),(18,_),(22,_),(23,_),(39,_)] ⟨rfl,rfl,rfl,rfl,rfl,rfl,rfl,rfl,rfl,rfl,rfl,rfl,rfl,rfl,trivial⟩ ?_
            refine Go'.condF rfl ?_
            refine Go'.seq ?_
            refine Go'.region [(0,0),(1,0)] rfl ?_
            refine O.mv rfl rfl rfl rfl rfl ?_
            refine O.cmp rfl rfl rfl rfl rfl rfl (geqF (by decide)) ?_
            refine Pl.fin [(0,_),(1,_),(8,_),(9,_),(10,_),(12,_),(13,_),(15,_),(16,_),(17,_),(18,_),(22,_),(23,_),(39,_),(43,_)] ⟨rfl,rfl,rfl,rfl,rfl,rfl,rfl,rfl,rfl,rfl,rfl,rfl,rfl,rfl,rfl,trivial⟩ ?_
            refine Go'.condF rfl ?_
            refine Go'.skip ?_
            refine Go'.inBlock ?_
            refine Go'.keep [(0,_),(1,_),(8,_),(9,_),(10,_),(13,_),(15,_),(16,_),(17,_)] ⟨rfl,rfl,rfl,rfl,rfl,rfl,rfl,rfl,rfl,trivial⟩ ?_
            exact tail (-1,true) _ ⟨Fr.refl _ _,by unfold Pl.mvTo; rw [if_pos (.inl h2)],by unfold Pl.mvTold; rw [if_pos (.inl h2)]; rw [List.length_eq_zero_iff.1 hl0]; rfl⟩
          · skip
            refine Go'.region [(0,0),(1,0),(2,0),(3,0),(4,0),(5,0),(6,0),(7,0)] rfl ?_
            refine O.mv rfl rfl rfl rfl rfl ?_
            refine O.cmp rfl rfl rfl rfl rfl rfl (geqF (by decide)) ?_
            refine O.mv rfl rfl rfl rfl rfl ?_
            refine O.mv rfl rfl rfl rfl rfl ?_
            refine O.len rfl rfl rfl rfl underlying25 rfl ?_
            refine O.cmp rfl rfl rfl rfl rfl rfl (eqlF (by omega)) ?_
            refine O.pick rfl rfl rfl rfl rfl rfl ?_
            refine O.asg rfl rfl rfl rfl rfl ?_
            refine Pl.fin [(0,_),(1,_),(8,_),(9,_),(10,_),(12,_),(13,_),(15,_),(16,_),(17,_),(18,_),(22,_),(23,_)] ⟨rfl,rfl,rfl,rfl,rfl,rfl,rfl,rfl,rfl,rfl,rfl,rfl,rfl,trivial⟩ ?_
            refine Go'.seq ?_
            refine Go'.region [(0,0),(1,0),(2,0),(3,0),(4,1),(5,0),(6,0)] rfl ?_
            refine O.mv rfl rfl rfl rfl rfl ?_
            refine O.cmp rfl rfl rfl rfl rfl rfl (geqF (by decide)) ?_
            refine O.mv rfl rfl rfl rfl rfl ?_
            refine Pl.pass rfl rfl rfl rfl ?_
            refine Pl.pass rfl rfl rfl rfl ?_
            refine Pl.pass rfl rfl rfl rfl ?_
            refine O.pick rfl rfl rfl rfl rfl rfl ?_
            refine Pl.fin [(0,_),(1,_),(8,_),(9,_),(10,_),(12,_),(13,_),(15,_),(16,_),(17,_),(18,_),(22,_),(23,_),(39,_)] ⟨rfl,rfl,rfl,rfl,rfl,rfl,rfl,rfl,rfl,rfl,rfl,rfl,rfl,rfl,trivial⟩ ?_
            refine Go'.condF rfl ?_
            refine Go'.seq ?_
            refine Go'.region [(0,0),(1,0)] rfl ?_
            refine O.mv rfl rfl rfl rfl rfl ?_
            refine O.cmp rfl rfl rfl rfl rfl rfl (geqF (by decide)) ?_
            refine Pl.fin [(0,_),(1,_),(8,_),(9,_),(10,_),(12,_),(13,_),(15,_),(16,_),(17,_),(18,_),(22,_),(23,_),(39,_),(43,_)] ⟨rfl,rfl,rfl,rfl,rfl,rfl,rfl,rfl,rfl,rfl,rfl,rfl,rfl,rfl,rfl,trivial⟩ ?_
            refine Go'.condF rfl ?_
            refine Go'.skip ?_
            refine Go'.inBlock ?_
            refine Go'.keep [(0,_),(1,_),(8,_),(9,_),(10,_),(13,_),(15,_),(16,_),(17,_)] ⟨rfl,rfl,rfl,rfl,rfl,rfl,rfl,rfl,rfl,trivial⟩ ?_
            exact tail (-1,false) _ ⟨Fr.refl _ _,by unfold Pl.mvTo; rw [if_pos (.inl h2)],by unfold Pl.mvTold; rw [if_pos (.inl h2)]; cases l with | nil => exact absurd rfl hl0 | cons => rfl⟩
        · skip
          have hql := hqlt q rfl
          refine Go'.region [(0,0),(1,0),(2,0),(3,0),(4,0),(5,0),(6,0),(7,0)] rfl ?_
          refine O.mv rfl rfl rfl rfl rfl ?_
          refine O.cmp rfl rfl rfl rfl rfl rfl (geqT (Int.natCast_nonneg q)) ?_
          refine O.mv rfl rfl rfl rfl rfl ?_
          refine Pl.pass rfl rfl rfl rfl ?_
          refine Pl.pass rfl rfl rfl rfl ?_
          refine Pl.pass rfl rfl rfl rfl ?_
          refine O.pick rfl rfl rfl rfl rfl rfl ?_
          refine O.asg rfl rfl rfl rfl rfl ?_
          refine Pl.fin [(0,_),(1,_),(8,_),(9,_),(10,_),(12,_),(13,_),(15,_),(16,_),(17,_),(18,_),(22,_),(23,_)] ⟨rfl,rfl,rfl,rfl,rfl,rfl,rfl,rfl,rfl,rfl,rfl,rfl,rfl,trivial⟩ ?_
          refine Go'.seq ?_
          refine Go'.region [(0,0),(1,0),(2,0),(3,0),(4,1),(5,0),(6,0)] rfl ?_
          refine O.mv rfl rfl rfl rfl rfl ?_
          refine O.cmp rfl rfl rfl rfl rfl rfl (geqT (Int.natCast_nonneg q)) ?_
          refine O.mv rfl rfl rfl rfl rfl ?_
          refine O.faz rfl rfl rfl rfl ⟨_,_,_,underlying65,rfl,rfl,sizeOf3⟩ rfl ?_
          refine O.ld rfl rfl rfl (fun w => ⟨isAgg3 w,sizeOf3 w⟩) rfl k0 ?_
          refine O.cmp rfl rfl rfl rfl rfl rfl (eqlT (by omega)) ?_
          refine O.pick rfl rfl rfl rfl rfl rfl ?_
          refine Pl.fin [(0,_),(1,_),(8,_),(9,_),(10,_),(12,_),(13,_),(15,_),(16,_),(17,_),(18,_),(22,_),(23,_),(39,_)] ⟨rfl,rfl,rfl,rfl,rfl,rfl,rfl,rfl,rfl,rfl,rfl,rfl,rfl,rfl,trivial⟩ ?_
          refine Go'.condT rfl ?_
          refine Go'.region [(0,0),(1,0),(2,0)] rfl ?_
          refine O.mv rfl rfl rfl rfl rfl ?_
          refine O.add ((q : Int) + 1) rfl rfl rfl rfl rfl rfl (show (q : Int) + 1 = (q : Int) + 1 from rfl) (by omega) ?_
          refine O.asg rfl rfl rfl rfl rfl ?_
          refine Pl.fin [(0,_),(1,_),(8,_),(9,_),(10,_),(12,_),(13,_),(15,_),(16,_),(17,_),(18,_),(22,_),(23,_),(39,_)] ⟨rfl,rfl,rfl,rfl,rfl,rfl,rfl,rfl,rfl,rfl,rfl,rfl,rfl,rfl,trivial⟩ ?_
          refine Go'.inBlock ?_
          refine Go'.keep [(0,_),(1,_),(8,_),(9,_),(10,_),(13,_),(15,_),(16,_),(17,_)] ⟨rfl,rfl,rfl,rfl,rfl,rfl,rfl,rfl,rfl,trivial⟩ ?_
          exact tail ((q : Int) + 1,true) _ ⟨Fr.refl _ _,by unfold Pl.mvTo; rw [if_pos (.inl h2)]; simp only; rw [if_pos h2],by unfold Pl.mvTold; rw [if_pos (.inl h2)]; rfl⟩
      refine Go'.region [(0,0),(1,0)] rfl ?_
      refine O.cmp rfl rfl rfl rfl rfl rfl (eqlF (by omega)) ?_
      refine O.asg rfl rfl rfl rfl rfl ?_
      refine Pl.fin [(0,_),(1,_),(8,_),(9,_),(10,_),(12,_),(13,_),(15,_),(16,_),(17,_),(18,_),(22,_),(23,_)] ⟨rfl,rfl,rfl,rfl,rfl,rfl,rfl,rfl,rfl,rfl,rfl,rfl,rfl,trivial⟩ ?_
      refine Go'.condF rfl ?_
      by_cases h3 : y.1 = 3
      · skip
        refine Go'.region [(0,0),(1,0)] rfl ?_
        refine O.cmp rfl rfl rfl rfl rfl rfl (eqlT (by omega)) ?_
        refine O.asg rfl rfl rfl rfl rfl ?_
        refine Pl.fin [(0,_),(1,_),(8,_),(9,_),(10,_),(12,_),(13,_),(15,_),(16,_),(17,_),(18,_),(22,_),(23,_)] ⟨rfl,rfl,rfl,rfl,rfl,rfl,rfl,rfl,rfl,rfl,rfl,rfl,rfl,trivial⟩ ?_
        refine Go'.condT rfl ?_
        refine Go'.seq ?_
        rcases s0 with _ | q
        · skip
          by_cases hl0 : l.length = 0
          · skip
            refine Go'.region [(0,0),(1,0),(2,0),(3,0),(4,0),(5,0),(6,0),(7,0)] rfl ?_
            refine O.mv rfl rfl rfl rfl rfl ?_
            refine O.cmp rfl rfl rfl rfl rfl rfl (geqF (by decide)) ?_
            refine O.mv rfl rfl rfl rfl rfl ?_
            refine O.mv rfl rfl rfl rfl rfl ?_
            refine O.len rfl rfl rfl rfl underlying25 rfl ?_
            refine O.cmp rfl rfl rfl rfl rfl rfl (eqlT (by omega)) ?_
            refine O.pick rfl rfl rfl rfl rfl rfl ?_
            refine O.asg rfl rfl rfl rfl rfl ?_
            refine Pl.fin [(0,_),(1,_),(8,_),(9,_),(10,_),(12,_),(13,_),(15,_),(16,_),(17,_),(18,_),(22,_),(23,_)] ⟨rfl,rfl,rfl,rfl,rfl,rfl,rfl,rfl,rfl,rfl,rfl,rfl,rfl,trivial⟩ ?_
            refine Go'.seq ?_
            refine Go'.region [(0,0),(1,0),(2,0),(3,0),(4,1),(5,0),(6,0)] rfl ?_
            refine O.mv rfl rfl rfl rfl rfl ?_
            refine O.cmp rfl rfl rfl rfl rfl rfl (geqF (by decide)) ?_
            refine O.mv rfl rfl rfl rfl rfl ?_
            refine Pl.pass rfl rfl rfl rfl ?_
            refine Pl.pass rfl rfl rfl rfl ?_
            refine Pl.pass rfl rfl rfl rfl ?_
            refine O.pick rfl rfl rfl rfl rfl rfl ?_
            refine Pl.fin [(0,_),(1,_),(8,_),(9,_),(10,_),(12,_),(13,_),(15,_),(16,_),(17,_),(18,_),(22,_),(23,_),(39,_)] ⟨rfl,rfl,rfl,rfl,rfl,rfl,rfl,rfl,rfl,rfl,rfl,rfl,rfl,rfl,trivial⟩ ?_
            refine Go'.condF rfl ?_
            refine Go'.seq ?_
            refine Go'.region [(0,0),(1,0)] rfl ?_
            refine O.mv rfl rfl rfl rfl rfl ?_
            refine O.cmp rfl rfl rfl rfl rfl rfl (geqF (by decide)) ?_
            refine Pl.fin [(0,_),(1,_),(8,_),(9,_),(10,_),(12,_),(13,_),(15,_),(16,_),(17,_),(18,_),(22,_),(23,_),(39,_),(43,_)] ⟨rfl,rfl,rfl,rfl,rfl,rfl,rfl,rfl,rfl,rfl,rfl,rfl,rfl,rfl,rfl,trivial⟩ ?_
            refine Go'.condF rfl ?_
            refine Go'.skip ?_
            refine Go'.inBlock ?_
            refine Go'.keep [(0,_),(1,_),(8,_),(9,_),(10,_),(13,_),(15,_),(16,_),(17,_)] ⟨rfl,rfl,rfl,rfl,rfl,rfl,rfl,rfl,rfl,trivial⟩ ?_
            exact tail (-1,true) _ ⟨Fr.refl _ _,by unfold Pl.mvTo; rw [if_pos (.inr h3)],by unfold Pl.mvTold; rw [if_pos (.inr h3)]; rw [List.length_eq_zero_iff.1 hl0]; rfl⟩
          · skip
            refine Go'.region [(0,0),(1,0),(2,0),(3,0),(4,0),(5,0),(6,0),(7,0)] rfl ?_
            refine O.mv rfl rfl rfl rfl rfl ?_
            refine O.cmp rfl rfl rfl rfl rfl rfl (geqF (by decide)) ?_
            refine O.mv rfl rfl rfl rfl rfl ?_
            refine O.mv rfl rfl rfl rfl rfl ?_
            refine O.len rfl rfl rfl rfl underlying25 rfl ?_
            refine O.cmp rfl rfl rfl rfl rfl rfl (eqlF (by omega)) ?_
            refine O.pick rfl rfl rfl rfl rfl rfl ?_
            refine O.asg rfl rfl rfl rfl rfl ?_
            refine Pl.fin [(0,_),(1,_),(8,_),(9,_),(10,_),(12,_),(13,_),(15,_),(16,_),(17,_),(18,_),(22,_),(23,_)] ⟨rfl,rfl,rfl,rfl,rfl,rfl,rfl,rfl,rfl,rfl,rfl,rfl,rfl,trivial⟩ ?_
            refine Go'.seq ?_
            refine Go'.region [(0,0),(1,0),(2,0),(3,0),(4,1),(5,0),(6,0)] rfl ?_
            refine O.mv rfl rfl rfl rfl rfl ?_
            refine O.cmp rfl rfl rfl rfl rfl rfl (geqF (by decide)) ?_
            refine O.mv rfl rfl rfl rfl rfl ?_
            refine Pl.pass rfl rfl rfl rfl ?_
            refine Pl.pass rfl rfl rfl rfl ?_
            refine Pl.pass rfl rfl rfl rfl ?_
            refine O.pick rfl rfl rfl rfl rfl rfl ?_
            refine Pl.fin [(0,_),(1,_),(8,_),(9,_),(10,_),(12,_),(13,_),(15,_),(16,_),(17,_),(18,_),(22,_),(23,_),(39,_)] ⟨rfl,rfl,rfl,rfl,rfl,rfl,rfl,rfl,rfl,rfl,rfl,rfl,rfl,rfl,trivial⟩ ?_
            refine Go'.condF rfl ?_
            refine Go'.seq ?_
            refine Go'.region [(0,0),(1,0)] rfl ?_
            refine O.mv rfl rfl rfl rfl rfl ?_
            refine O.cmp rfl rfl rfl rfl rfl rfl (geqF (by decide)) ?_
            refine Pl.fin [(0,_),(1,_),(8,_),(9,_),(10,_),(12,_),(13,_),(15,_),(16,_),(17,_),(18,_),(22,_),(23,_),(39,_),(43,_)] ⟨rfl,rfl,rfl,rfl,rfl,rfl,rfl,rfl,rfl,rfl,rfl,rfl,rfl,rfl,rfl,trivial⟩ ?_
            refine Go'.condF rfl ?_
            refine Go'.skip ?_
            refine Go'.inBlock ?_
            refine Go'.keep [(0,_),(1,_),(8,_),(9,_),(10,_),(13,_),(15,_),(16,_),(17,_)] ⟨rfl,rfl,rfl,rfl,rfl,rfl,rfl,rfl,rfl,trivial⟩ ?_
            exact tail (-1,false) _ ⟨Fr.refl _ _,by unfold Pl.mvTo; rw [if_pos (.inr h3)],by unfold Pl.mvTold; rw [if_pos (.inr h3)]; cases l with | nil => exact absurd rfl hl0 | cons => rfl⟩
        · skip
          have hql := hqlt q rfl
          refine Go'.region [(0,0),(1,0),(2,0),(3,0),(4,0),(5,0),(6,0),(7,0)] rfl ?_
          refine O.mv rfl rfl rfl rfl rfl ?_
          refine O.cmp rfl rfl rfl rfl rfl rfl (geqT (Int.natCast_nonneg q)) ?_
          refine O.mv rfl rfl rfl rfl rfl ?_
          refine Pl.pass rfl rfl rfl rfl ?_
          refine Pl.pass rfl rfl rfl rfl ?_
          refine Pl.pass rfl rfl rfl rfl ?_
          refine O.pick rfl rfl rfl rfl rfl rfl ?_
          refine O.asg rfl rfl rfl rfl rfl ?_
          refine Pl.fin [(0,_),(1,_),(8,_),(9,_),(10,_),(12,_),(13,_),(15,_),(16,_),(17,_),(18,_),(22,_),(23,_)] ⟨rfl,rfl,rfl,rfl,rfl,rfl,rfl,rfl,rfl,rfl,rfl,rfl,rfl,trivial⟩ ?_
          refine Go'.seq ?_
          refine Go'.region [(0,0),(1,0),(2,0),(3,0),(4,1),(5,0),(6,0)] rfl ?_
          refine O.mv rfl rfl rfl rfl rfl ?_
          refine O.cmp rfl rfl rfl rfl rfl rfl (geqT (Int.natCast_nonneg q)) ?_
          refine O.mv rfl rfl rfl rfl rfl ?_
          refine O.faz rfl rfl rfl rfl ⟨_,_,_,underlying65,rfl,rfl,sizeOf3⟩ rfl ?_
          refine O.ld rfl rfl rfl (fun w => ⟨isAgg3 w,sizeOf3 w⟩) rfl k0 ?_
          refine O.cmp rfl rfl rfl rfl rfl rfl (eqlF (by omega)) ?_
          refine O.pick rfl rfl rfl rfl rfl rfl ?_
          refine Pl.fin [(0,_),(1,_),(8,_),(9,_),(10,_),(12,_),(13,_),(15,_),(16,_),(17,_),(18,_),(22,_),(23,_),(39,_)] ⟨rfl,rfl,rfl,rfl,rfl,rfl,rfl,rfl,rfl,rfl,rfl,rfl,rfl,rfl,trivial⟩ ?_
          refine Go'.condF rfl ?_
          refine Go'.seq ?_
          refine Go'.region [(0,0),(1,0)] rfl ?_
          refine O.mv rfl rfl rfl rfl rfl ?_
          refine O.cmp rfl rfl rfl rfl rfl rfl (geqT (Int.natCast_nonneg q)) ?_
          refine Pl.fin [(0,_),(1,_),(8,_),(9,_),(10,_),(12,_),(13,_),(15,_),(16,_),(17,_),(18,_),(22,_),(23,_),(39,_),(43,_)] ⟨rfl,rfl,rfl,rfl,rfl,rfl,rfl,rfl,rfl,rfl,rfl,rfl,rfl,rfl,rfl,trivial⟩ ?_
          refine Go'.condT rfl ?_
          refine Go'.region [(0,0),(1,0),(2,0)] rfl ?_
          refine O.mv rfl rfl rfl rfl rfl ?_
          refine O.sub ((q : Int) - 1) rfl rfl rfl rfl rfl rfl (show (q : Int) - 1 = (q : Int) - 1 from rfl) (by omega) ?_
          refine O.asg rfl rfl rfl rfl rfl ?_
          refine Pl.fin [(0,_),(1,_),(8,_),(9,_),(10,_),(12,_),(13,_),(15,_),(16,_),(17,_),(18,_),(22,_),(23,_),(39,_),(43,_)] ⟨rfl,rfl,rfl,rfl,rfl,rfl,rfl,rfl,rfl,rfl,rfl,rfl,rfl,rfl,rfl,trivial⟩ ?_
          refine Go'.inBlock ?_
          refine Go'.keep [(0,_),(1,_),(8,_),(9,_),(10,_),(13,_),(15,_),(16,_),(17,_)] ⟨rfl,rfl,rfl,rfl,rfl,rfl,rfl,rfl,rfl,trivial⟩ ?_
          exact tail ((q : Int) - 1,true) _ ⟨Fr.refl _ _,by unfold Pl.mvTo; rw [if_pos (.inr h3)]; simp only; rw [if_neg (by omega)],by unfold Pl.mvTold; rw [if_pos (.inr h3)]; rfl⟩
      have eT : Pl.mvTold l y s0 = true := by unfold Pl.mvTold; rw [if_neg (by omega)]
      refine Go'.region [(0,0),(1,0)] rfl ?_
      refine O.cmp rfl rfl rfl rfl rfl rfl (eqlF (by omega)) ?_
      refine O.asg rfl rfl rfl rfl rfl ?_
      refine Pl.fin [(0,_),(1,_),(8,_),(9,_),(10,_),(12,_),(13,_),(15,_),(16,_),(17,_),(18,_),(22,_),(23,_)] ⟨rfl,rfl,rfl,rfl,rfl,rfl,rfl,rfl,rfl,rfl,rfl,rfl,rfl,trivial⟩ ?_
      refine Go'.condF rfl ?_
      refine Go'.seq ?_
      by_cases h1 : y.1 = 1
      · skip
        refine Go'.region [(0,0),(1,0)] rfl ?_
        refine O.cmp rfl rfl rfl rfl rfl rfl (eqlT (by omega)) ?_
        refine O.asg rfl rfl rfl rfl rfl ?_
        refine Pl.fin [(0,_),(1,_),(8,_),(9,_),(10,_),(12,_),(13,_),(15,_),(16,_),(17,_),(18,_),(22,_),(23,_),(46,_)] ⟨rfl,rfl,rfl,rfl,rfl,rfl,rfl,rfl,rfl,rfl,rfl,rfl,rfl,rfl,trivial⟩ ?_
        refine Go'.condT rfl ?_
        refine Go'.region [(0,0),(1,0),(2,0),(3,0)] rfl ?_
        refine O.mv rfl rfl rfl rfl rfl ?_
        refine O.len rfl rfl rfl rfl underlying25 rfl ?_
        refine O.sub ((l.length : Int) - 1) rfl rfl rfl rfl rfl rfl (by omega) (by omega) ?_
        refine O.asg rfl rfl rfl rfl rfl ?_
        refine Pl.fin [(0,_),(1,_),(8,_),(9,_),(10,_),(12,_),(13,_),(15,_),(16,_),(17,_),(18,_),(22,_),(23,_),(46,_)] ⟨rfl,rfl,rfl,rfl,rfl,rfl,rfl,rfl,rfl,rfl,rfl,rfl,rfl,rfl,trivial⟩ ?_
        refine Go'.inBlock ?_
        refine Go'.keep [(0,_),(1,_),(8,_),(9,_),(10,_),(13,_),(15,_),(16,_),(17,_)] ⟨rfl,rfl,rfl,rfl,rfl,rfl,rfl,rfl,rfl,trivial⟩ ?_
        exact tail ((l.length : Int) - 1,true) _ ⟨Fr.refl _ _,by unfold Pl.mvTo; rw [if_neg (by omega),if_pos h1],eT.symm⟩
      refine Go'.region [(0,0),(1,0)] rfl ?_
      refine O.cmp rfl rfl rfl rfl rfl rfl (eqlF (by omega)) ?_
      refine O.asg rfl rfl rfl rfl rfl ?_
      refine Pl.fin [(0,_),(1,_),(8,_),(9,_),(10,_),(12,_),(13,_),(15,_),(16,_),(17,_),(18,_),(22,_),(23,_),(46,_)] ⟨rfl,rfl,rfl,rfl,rfl,rfl,rfl,rfl,rfl,rfl,rfl,rfl,rfl,rfl,trivial⟩ ?_
      refine Go'.condF rfl ?_
      refine Go'.seq ?_
      refine Go'.seq ?_
      by_cases h4 : y.1 = 4
      · skip
        refine Go'.region [(0,0),(1,0)] rfl ?_
        refine O.cmp rfl rfl rfl rfl rfl rfl (eqlT (by omega)) ?_
        refine O.asg rfl rfl rfl rfl rfl ?_
        refine Pl.fin [(0,_),(1,_),(8,_),(9,_),(10,_),(12,_),(13,_),(15,_),(16,_),(17,_),(18,_),(22,_),(23,_),(46,_),(51,_)] ⟨rfl,rfl,rfl,rfl,rfl,rfl,rfl,rfl,rfl,rfl,rfl,rfl,rfl,rfl,rfl,trivial⟩ ?_
        refine Go'.condT rfl ?_
        refine Go'.skip ?_
        refine Go'.condT rfl ?_
        refine Go'.region [(0,0),(1,0),(2,0),(3,1),(4,2),(5,0),(6,0),(7,0),(8,0)] rfl ?_
        refine O.mv rfl rfl rfl rfl rfl ?_
        refine O.mv rfl rfl rfl rfl rfl ?_
        refine O.fa0 (off := 1) rfl rfl rfl rfl ⟨_,_,_,underlying65,rfl,rfl,sizeOf35⟩ rfl ?_
        refine O.lds rfl rfl rfl (fun w => ⟨isAgg35 w,sizeOf35 w⟩) rfl rfl k2 ?_
        refine O.call rfl rfl rfl call61 rfl (place_spec (x := y.2) ho2 hl hi2 hs (by omega)) ?_
        rintro _ H5 ⟨rfl,hf5⟩
        refine ⟨trivial,?_⟩
        refine O.mv rfl rfl rfl rfl rfl ?_
        refine O.ext rfl rfl rfl rfl rfl rfl ?_
        refine O.ext rfl rfl rfl rfl rfl rfl ?_
        refine O.asg rfl rfl rfl rfl rfl ?_
        refine Pl.fin [(0,_),(1,_),(8,_),(9,_),(10,_),(12,_),(13,_),(15,_),(16,_),(17,_),(18,_),(22,_),(23,_),(46,_),(51,_)] ⟨rfl,rfl,rfl,rfl,rfl,rfl,rfl,rfl,rfl,rfl,rfl,rfl,rfl,rfl,rfl,trivial⟩ ?_
        refine Go'.inBlock ?_
        refine Go'.keep [(0,_),(1,_),(8,_),(9,_),(10,_),(13,_),(15,_),(16,_),(17,_)] ⟨rfl,rfl,rfl,rfl,rfl,rfl,rfl,rfl,rfl,trivial⟩ ?_
        exact tail (_,true) _ ⟨hf5,by unfold Pl.mvTo; rw [if_neg (by omega),if_neg h1,if_pos (.inl h4)],eT.symm⟩
      refine Go'.region [(0,0),(1,0)] rfl ?_
      refine O.cmp rfl rfl rfl rfl rfl rfl (eqlF (by omega)) ?_
      refine O.asg rfl rfl rfl rfl rfl ?_
      refine Pl.fin [(0,_),(1,_),(8,_),(9,_),(10,_),(12,_),(13,_),(15,_),(16,_),(17,_),(18,_),(22,_),(23,_),(46,_),(51,_)] ⟨rfl,rfl,rfl,rfl,rfl,rfl,rfl,rfl,rfl,rfl,rfl,rfl,rfl,rfl,rfl,trivial⟩ ?_
      refine Go'.condF rfl ?_
      by_cases h5 : y.1 = 5
      · skip
        refine Go'.region [(0,0),(1,0)] rfl ?_
        refine O.cmp rfl rfl rfl rfl rfl rfl (eqlT (by omega)) ?_
        refine O.asg rfl rfl rfl rfl rfl ?_
        refine Pl.fin [(0,_),(1,_),(8,_),(9,_),(10,_),(12,_),(13,_),(15,_),(16,_),(17,_),(18,_),(22,_),(23,_),(46,_),(51,_)] ⟨rfl,rfl,rfl,rfl,rfl,rfl,rfl,rfl,rfl,rfl,rfl,rfl,rfl,rfl,rfl,trivial⟩ ?_
        refine Go'.condT rfl ?_
        refine Go'.region [(0,0),(1,0),(2,0),(3,1),(4,2),(5,0),(6,0),(7,0),(8,0)] rfl ?_
        refine O.mv rfl rfl rfl rfl rfl ?_
        refine O.mv rfl rfl rfl rfl rfl ?_
        refine O.fa0 (off := 1) rfl rfl rfl rfl ⟨_,_,_,underlying65,rfl,rfl,sizeOf35⟩ rfl ?_
        refine O.lds rfl rfl rfl (fun w => ⟨isAgg35 w,sizeOf35 w⟩) rfl rfl k2 ?_
        refine O.call rfl rfl rfl call61 rfl (place_spec (x := y.2) ho2 hl hi2 hs (by omega)) ?_
        rintro _ H5 ⟨rfl,hf5⟩
        refine ⟨trivial,?_⟩
        refine O.mv rfl rfl rfl rfl rfl ?_
        refine O.ext rfl rfl rfl rfl rfl rfl ?_
        refine O.ext rfl rfl rfl rfl rfl rfl ?_
        refine O.asg rfl rfl rfl rfl rfl ?_
        refine Pl.fin [(0,_),(1,_),(8,_),(9,_),(10,_),(12,_),(13,_),(15,_),(16,_),(17,_),(18,_),(22,_),(23,_),(46,_),(51,_)] ⟨rfl,rfl,rfl,rfl,rfl,rfl,rfl,rfl,rfl,rfl,rfl,rfl,rfl,rfl,rfl,trivial⟩ ?_
        refine Go'.inBlock ?_
        refine Go'.keep [(0,_),(1,_),(8,_),(9,_),(10,_),(13,_),(15,_),(16,_),(17,_)] ⟨rfl,rfl,rfl,rfl,rfl,rfl,rfl,rfl,rfl,trivial⟩ ?_
        exact tail (_,true) _ ⟨hf5,by unfold Pl.mvTo; rw [if_neg (by omega),if_neg h1,if_pos (.inr h5)],eT.symm⟩
      · skip
        refine Go'.region [(0,0),(1,0)] rfl ?_
        refine O.cmp rfl rfl rfl rfl rfl rfl (eqlF (by omega)) ?_
        refine O.asg rfl rfl rfl rfl rfl ?_
        refine Pl.fin [(0,_),(1,_),(8,_),(9,_),(10,_),(12,_),(13,_),(15,_),(16,_),(17,_),(18,_),(22,_),(23,_),(46,_),(51,_)] ⟨rfl,rfl,rfl,rfl,rfl,rfl,rfl,rfl,rfl,rfl,rfl,rfl,rfl,rfl,rfl,trivial⟩ ?_
        refine Go'.condF rfl ?_
        refine Go'.region [(0,0)] rfl ?_
        refine O.asg rfl rfl rfl rfl rfl ?_
        refine Pl.fin [(0,_),(1,_),(8,_),(9,_),(10,_),(12,_),(13,_),(15,_),(16,_),(17,_),(18,_),(22,_),(23,_),(46,_),(51,_)] ⟨rfl,rfl,rfl,rfl,rfl,rfl,rfl,rfl,rfl,rfl,rfl,rfl,rfl,rfl,rfl,trivial⟩ ?_
        refine Go'.inBlock ?_
        refine Go'.keep [(0,_),(1,_),(8,_),(9,_),(10,_),(13,_),(15,_),(16,_),(17,_)] ⟨rfl,rfl,rfl,rfl,rfl,rfl,rfl,rfl,rfl,trivial⟩ ?_
        exact tail (0,true) _ ⟨Fr.refl _ _,by unfold Pl.mvTo; rw [if_neg (by omega),if_neg h1,if_neg (by omega)],eT.symm⟩
  · skip
    obtain rfl : j = ms.length := by omega
    rw [List.take_length] at hA hB
    refine Go'.region [(0,0)] rfl ?_
    refine O.cmp rfl rfl rfl rfl rfl rfl (lssF (by omega)) ?_
    refine Pl.fin [(0,_),(1,_),(8,_),(9,_),(10,_),(15,_),(16,_),(17,_),(18,_)] ⟨rfl,rfl,rfl,rfl,rfl,rfl,rfl,rfl,rfl,trivial⟩ ?_
    refine Go'.seq ?_
    refine Go'.condF rfl ?_
    refine Go'.exit rfl ?_
    refine Go'.seq ?_
    refine Go'.region [(0,0),(1,0),(2,0),(3,0)] rfl ?_
    refine O.mv rfl rfl rfl rfl rfl ?_
    refine O.mv rfl rfl rfl rfl rfl ?_
    refine O.asg rfl rfl rfl rfl rfl ?_
    refine O.asg rfl rfl rfl rfl rfl ?_
    refine Pl.fin [(6,_),(7,_)] ⟨rfl,rfl,trivial⟩ ?_
    refine Go'.ret (vs := [_,_]) func47 results47 ⟨rfl,rfl,trivial⟩ ?_
    exact ⟨_,_,rfl,hA.out,hB.out,hF⟩

end Go.Bt.FB
namespace Go.Bt.FB
open Go Go.Proofs Go.Proofs.Try
set_option maxRecDepth 20000
set_option maxHeartbeats 4000000
set_option linter.unusedVariables false
set_option linter.unusedSectionVars false

theorem st65 : StT Try.prog 65 [(0,1),(1,2)] [.int .i64 0,.int .i64 0,.int .i64 0] := ⟨⟨_,underlying65,fun w => by simp [Array.mapM_eq_mapM_toList,sizeOf3,sizeOf35]⟩,zeroValue65⟩
def exml : List (Int × Int × Int) := [(1,0,0),(3,0,0),(4,4,0),(2,0,0),(5,1,0),(0,0,0)]
theorem exMoves_spec {B : World} {H : Mem} : Fn Try.prog B 26 [] H (fun r H' => InS EMv H' r exml ∧ Fr nowhere H H') := by
  refine fn_of func26 rfl ntmps26 ?_
  refine (show Go' _ _ _ _ 10 [] [.code _] _ from ?_)
  refine Go'.seq ?_
  refine Go'.region [(0,0)] rfl ?_
  refine O.asg rfl rfl rfl rfl rfl ?_
  refine Pl.fin [(0,_)] ⟨rfl,trivial⟩ ?_
  refine Go'.seq ?_
  refine Go'.region [(0,0),(1,0),(2,0),(3,0),(4,0),(5,0),(6,0),(7,0),(8,2),(9,0)] rfl ?_
  refine O.bld (cs := [.int .i64 1,.int .i64 0,.int .i64 0]) rfl rfl rfl rfl (st65) rfl (by kernel_rfl) ?_
  refine O.bld (cs := [.int .i64 3,.int .i64 0,.int .i64 0]) rfl rfl rfl rfl (st65) rfl (by kernel_rfl) ?_
  refine O.bld (cs := [.int .i64 4,.int .i64 0]) rfl rfl rfl rfl (st35) rfl (by kernel_rfl) ?_
  refine O.bld (cs := [.int .i64 4,.int .i64 4,.int .i64 0]) rfl rfl rfl rfl (st65) rfl (by kernel_rfl) ?_
  refine O.bld (cs := [.int .i64 2,.int .i64 0,.int .i64 0]) rfl rfl rfl rfl (st65) rfl (by kernel_rfl) ?_
  refine O.bld (cs := [.int .i64 1,.int .i64 0]) rfl rfl rfl rfl (st35) rfl (by kernel_rfl) ?_
  refine O.bld (cs := [.int .i64 5,.int .i64 1,.int .i64 0]) rfl rfl rfl rfl (st65) rfl (by kernel_rfl) ?_
  refine O.bld (cs := [.int .i64 0,.int .i64 0,.int .i64 0]) rfl rfl rfl rfl (st65) rfl (by kernel_rfl) ?_
  refine O.bsl (cs := (row EMv exml)) rfl rfl rfl ⟨underlying38,sizeOf65,zeroValue65,⟨_,typeInfo65,rfl⟩,rfl,by decide,by decide⟩ rfl (by decide) (by kernel_rfl) ?_
  intro H1 M1
  refine ⟨trivial,?_⟩
  refine O.asg rfl rfl rfl rfl rfl ?_
  refine Pl.fin [(0,_)] ⟨rfl,trivial⟩ ?_
  refine Go'.ret (vs := [_]) func26 results26 ⟨rfl,trivial⟩ ?_
  exact ⟨.inl ⟨H.size,0,6,rfl,by decide,M1.rd _ [] (by simp)⟩,M1.fr nowhere⟩

theorem sameMoves_spec {B : World} {H : Mem} {u v t : Value} {a b : List (Option (Int × Int))} {tl : List Bool} (hu : InS EF H u a) (hv : InS EF H v b) (ht : InS EB H t tl) (hag : Pl.Agree a b tl) (hll : b.length ≤ 4294967296) :
    Fn Try.prog B 49 [u,v,t] H (fun r H' => r = .bool true ∧ H' = H) := by
  obtain ⟨hab,htb,hag⟩ := hag
  obtain ⟨a1,c1,e⟩ := hu.len
  subst e
  obtain ⟨a2,c2,e⟩ := hv.len
  subst e
  obtain ⟨a3,c3,e⟩ := ht.len
  subst e
  rw [hab,htb]
  rw [hab] at hu
  rw [htb] at ht
  refine fn_of func49 rfl ntmps49 ?_
  refine (show Go' _ _ _ _ 34 [(0,_),(1,_),(2,_)] [.code _] _ from ?_)
  refine Go'.seq ?_
  refine Go'.region [(0,0)] rfl ?_
  refine O.asg rfl rfl rfl rfl rfl ?_
  refine Pl.fin [(0,_),(1,_),(2,_),(6,_)] ⟨rfl,rfl,rfl,rfl,trivial⟩ ?_
  refine Go'.seq ?_
  refine Go'.seq ?_
  refine Go'.region [(0,0),(1,0),(2,0),(3,0),(4,0)] rfl ?_
  refine O.mv rfl rfl rfl rfl rfl ?_
  refine O.len rfl rfl rfl rfl underlying48 rfl ?_
  refine O.mv rfl rfl rfl rfl rfl ?_
  refine O.len rfl rfl rfl rfl underlying48 rfl ?_
  refine O.cmp rfl rfl rfl rfl rfl rfl (neqF (by omega)) ?_
  refine Pl.fin [(0,_),(1,_),(2,_),(6,_),(12,_)] ⟨rfl,rfl,rfl,rfl,rfl,trivial⟩ ?_
  refine Go'.condF rfl ?_
  refine Go'.skip ?_
  refine Go'.seq ?_
  refine Go'.seq ?_
  refine Go'.region [(0,0),(1,0),(2,0)] rfl ?_
  refine O.mv rfl rfl rfl rfl rfl ?_
  refine O.len rfl rfl rfl rfl underlying48 rfl ?_
  refine O.mv rfl rfl rfl rfl rfl ?_
  refine Pl.fin [(0,_),(1,_),(2,_),(6,_),(14,_),(15,_)] ⟨rfl,rfl,rfl,rfl,rfl,rfl,trivial⟩ ?_
  refine Go'.block ?_
  refine Go'.loop ?_
  refine Go'.keep [(0,_),(1,_),(2,_),(14,_),(15,_)] ⟨rfl,rfl,rfl,rfl,rfl,trivial⟩ ?_
  refine Go'.ind (σ := Nat) (fun j => b.length - j) (fun j H' => H' = H ∧ j ≤ b.length)
    (fun j => [(0,.slice a1 b.length c1),(1,.slice a2 b.length c2),(2,.slice a3 b.length c3),(14,.int .i64 (b.length : Int)),(15,.int .i64 (j : Int))]) 0 ⟨rfl,Nat.zero_le _⟩ rfl ?_
  rintro j H2 ⟨hHH,hjl⟩ ih
  have eH : H = H2 := hHH.symm
  subst eH
  clear hHH
  refine Go'.seq ?_
  by_cases hlt : j < b.length
  · skip
    obtain ⟨y,hy⟩ : ∃ y,b[j]? = some y := ⟨b[j],List.getElem?_eq_getElem hlt⟩
    obtain ⟨x,hx⟩ : ∃ x,a[j]? = some x := ⟨a[j]'(by omega),List.getElem?_eq_getElem (by omega)⟩
    obtain ⟨k,hk⟩ : ∃ k,tl[j]? = some k := ⟨tl[j]'(by omega),List.getElem?_eq_getElem (by omega)⟩
    obtain ⟨b1,o1,cc1,e,hr1⟩ := hu.at hx
    rw [hab] at e
    cases e
    obtain ⟨b2,o2,cc2,e,hr2⟩ := hv.at hy
    cases e
    obtain ⟨b3,o3,cc3,e,hr3⟩ := ht.at hk
    rw [htb] at e
    cases e
    refine Go'.region [(0,0)] rfl ?_
    refine O.cmp rfl rfl rfl rfl rfl rfl (lssT (by omega)) ?_
    refine Pl.fin [(0,_),(1,_),(2,_),(14,_),(15,_),(16,_)] ⟨rfl,rfl,rfl,rfl,rfl,rfl,trivial⟩ ?_
    refine Go'.seq ?_
    refine Go'.condT rfl ?_
    refine Go'.skip ?_
    refine Go'.seq ?_
    refine Go'.block ?_
    refine Go'.seq ?_
    refine Go'.region [(0,0),(1,0)] rfl ?_
    refine O.mv rfl rfl rfl rfl rfl ?_
    refine O.asg rfl rfl rfl rfl rfl ?_
    refine Pl.fin [(0,_),(1,_),(2,_),(7,_),(14,_),(15,_),(16,_)] ⟨rfl,rfl,rfl,rfl,rfl,rfl,rfl,trivial⟩ ?_
    refine Go'.seq ?_
    rcases k with _ | _
    · skip
      refine Go'.draw (fun _ => True) [(0,0),(1,0),(2,0),(3,1),(4,0),(5,0),(6,0),(7,0),(8,1),(9,0),(10,0),(11,0),(12,1),(13,0),(14,0)] (by kernel_rfl) (by kernel_rfl) (trivial) ?_
      refine O.mv rfl rfl rfl rfl rfl ?_
      refine O.mv rfl rfl rfl rfl rfl ?_
      refine O.ix (j := j) rfl rfl rfl rfl underlying59 sizeOf4 rfl rfl (by omega) hlt ?_
      refine O.ld rfl rfl rfl (fun w => ⟨isAgg4 w,sizeOf4 w⟩) rfl (hr3 0 _ rfl) ?_
      refine O.mv rfl rfl rfl rfl rfl ?_
      refine Pl.pass rfl rfl rfl rfl ?_
      refine Pl.pass rfl rfl rfl rfl ?_
      refine Pl.pass rfl rfl rfl rfl ?_
      refine Pl.pass rfl rfl rfl rfl ?_
      refine Pl.pass rfl rfl rfl rfl ?_
      refine Pl.pass rfl rfl rfl rfl ?_
      refine Pl.pass rfl rfl rfl rfl ?_
      refine Pl.pass rfl rfl rfl rfl ?_
      refine Pl.pass rfl rfl rfl rfl ?_
      refine O.pick rfl rfl rfl rfl rfl rfl ?_
      refine Pl.fin [(0,_),(1,_),(2,_),(7,_),(14,_),(15,_),(16,_),(32,_)] ⟨rfl,rfl,rfl,rfl,rfl,rfl,rfl,rfl,trivial⟩ ?_
      refine Go'.condF rfl ?_
      refine Go'.skip ?_
      refine Go'.inBlock ?_
      refine Go'.region [(0,0),(1,0)] rfl ?_
      refine O.add (((j + 1 : Nat) : Int)) rfl rfl rfl rfl rfl rfl (by omega) (by omega) ?_
      refine O.mv rfl rfl rfl rfl rfl ?_
      refine Pl.fin [(0,_),(1,_),(2,_),(7,_),(14,_),(15,_),(16,_),(32,_)] ⟨rfl,rfl,rfl,rfl,rfl,rfl,rfl,rfl,trivial⟩ ?_
      refine Go'.keep [(0,_),(1,_),(2,_),(14,_),(15,_)] ⟨rfl,rfl,rfl,rfl,rfl,trivial⟩ ?_
      refine Go'.inLoop ?_
      exact ih (j + 1) H ⟨rfl,hlt⟩ (by omega)
    · skip
      have exy : x = y := by
        have h := hag j hk
        rw [hx,hy] at h
        exact Option.some.inj h
      subst exy
      refine Go'.draw (fun _ => True) [(0,0),(1,0),(2,0),(3,1),(4,0),(5,0),(6,0),(7,0),(8,1),(9,0),(10,0),(11,0),(12,1),(13,0),(14,0)] (by kernel_rfl) (by kernel_rfl) (trivial) ?_
      refine O.mv rfl rfl rfl rfl rfl ?_
      refine O.mv rfl rfl rfl rfl rfl ?_
      refine O.ix (j := j) rfl rfl rfl rfl underlying59 sizeOf4 rfl rfl (by omega) hlt ?_
      refine O.ld rfl rfl rfl (fun w => ⟨isAgg4 w,sizeOf4 w⟩) rfl (hr3 0 _ rfl) ?_
      refine O.mv rfl rfl rfl rfl rfl ?_
      refine O.mv rfl rfl rfl rfl rfl ?_
      refine O.mv rfl rfl rfl rfl rfl ?_
      refine O.ix (j := j) rfl rfl rfl rfl underlying48 sizeOf44 rfl rfl (by omega) hlt ?_
      refine O.lds rfl rfl rfl (fun w => ⟨isAgg44 w,sizeOf44 w⟩) rfl (by cases x <;> rfl) hr1 ?_
      refine O.mv rfl rfl rfl rfl rfl ?_
      refine O.mv rfl rfl rfl rfl rfl ?_
      refine O.ix (j := j) rfl rfl rfl rfl underlying48 sizeOf44 rfl rfl (by omega) hlt ?_
      refine O.lds rfl rfl rfl (fun w => ⟨isAgg44 w,sizeOf44 w⟩) rfl (by cases x <;> rfl) hr2 ?_
      refine O.bin rfl rfl rfl rfl rfl rfl (found_neq x _ _) ?_
      refine O.pick rfl rfl rfl rfl rfl rfl ?_
      refine Pl.fin [(0,_),(1,_),(2,_),(7,_),(14,_),(15,_),(16,_),(32,_)] ⟨rfl,rfl,rfl,rfl,rfl,rfl,rfl,rfl,trivial⟩ ?_
      refine Go'.condF rfl ?_
      refine Go'.skip ?_
      refine Go'.inBlock ?_
      refine Go'.region [(0,0),(1,0)] rfl ?_
      refine O.add (((j + 1 : Nat) : Int)) rfl rfl rfl rfl rfl rfl (by omega) (by omega) ?_
      refine O.mv rfl rfl rfl rfl rfl ?_
      refine Pl.fin [(0,_),(1,_),(2,_),(7,_),(14,_),(15,_),(16,_),(32,_)] ⟨rfl,rfl,rfl,rfl,rfl,rfl,rfl,rfl,trivial⟩ ?_
      refine Go'.keep [(0,_),(1,_),(2,_),(14,_),(15,_)] ⟨rfl,rfl,rfl,rfl,rfl,trivial⟩ ?_
      refine Go'.inLoop ?_
      exact ih (j + 1) H ⟨rfl,hlt⟩ (by omega)
  · skip
    refine Go'.region [(0,0)] rfl ?_
    refine O.cmp rfl rfl rfl rfl rfl rfl (lssF (by omega)) ?_
    refine Pl.fin [(0,_),(1,_),(2,_),(14,_),(15,_),(16,_)] ⟨rfl,rfl,rfl,rfl,rfl,rfl,trivial⟩ ?_
    refine Go'.seq ?_
    refine Go'.condF rfl ?_
    refine Go'.exit rfl ?_
    refine Go'.seq ?_
    refine Go'.region [(0,0)] rfl ?_
    refine O.asg rfl rfl rfl rfl rfl ?_
    refine Pl.fin [(6,_)] ⟨rfl,trivial⟩ ?_
    refine Go'.ret (vs := [_]) func49 results49 ⟨rfl,trivial⟩ ?_
    exact ⟨rfl,rfl⟩

theorem lawBIter_spec {B : World} {H : Mem} {d : Nat} {nl : Bool} {v u : Value} {ord : List Int} {l : List (Int × Int)} {um : Value} {ms : List (Int × Int × Int)} (hd : d = 0 ∨ 2 ≤ d ∧ d ≤ 128) (ho : InS EN H v ord) (hol : ord.length ≤ 4294967296) (hi : InS EJ H u l) (hll : l.length ≤ 4294967296) (hu : InS EMv H um ms) (hml : ms.length ≤ 4294967296) :
    Fn Try.prog B 25 [.agg #[v,.int .i64 (d : Int),.bool nl],u,um] H (fun r H' => r = .bool true ∧ Fr nowhere H H') := by
  obtain ⟨a,c,hu⟩ := hi.len
  subst hu
  obtain ⟨av,mv,cv,hv⟩ := InS.form ho
  subst hv
  have hF : Fr nowhere H H := Fr.refl _ _
  have hP := PD_ok hd
  refine fn_of func25 rfl ntmps25 ?_
  refine (show Go' _ _ _ _ 29 [(0,_),(1,_),(2,_)] [.code _] _ from ?_)
  refine Go'.seq ?_
  refine Go'.region [(0,2),(1,0)] rfl ?_
  refine O.box rfl rfl rfl rfl ?_
  intro B1 MB1
  refine ⟨trivial,?_⟩
  have hsB1 := MB1.size
  replace hF := hF.trans (MB1.fr nowhere)
  have mm : Rd B1 H.size 0 [.slice av mv cv,.int .i64 (d : Int),.bool nl] := MB1.rd _ [] (by simp [Value.cells])
  have mm0 : cl B1 H.size 0 = some (.slice av mv cv) := mm 0 _ rfl
  have mm1 : cl B1 H.size (0 + 1) = some (.int .i64 (d : Int)) := mm 1 _ rfl
  refine O.asg rfl rfl rfl rfl rfl ?_
  refine Pl.fin [(1,_),(2,_),(3,_),(6,_)] ⟨rfl,rfl,rfl,rfl,trivial⟩ ?_
  refine Go'.seq ?_
  have hpl := Pl.puts_length (OO ord) l
  have hpl2 := (Pl.itRun_len (OO ord) (Pl.puts (OO ord) l) ms).1
  have hsrt := Pl.puts_srt (OO ord) l
  refine Go'.region [(0,1),(1,0),(2,0),(3,2),(4,0)] rfl ?_
  refine O.lds rfl rfl rfl (fun w => ⟨isAgg24 w,sizeOf24 w⟩) rfl rfl mm ?_
  refine O.mv rfl rfl rfl rfl rfl ?_
  refine O.mv rfl rfl rfl rfl rfl ?_
  refine O.call rfl rfl rfl call46 rfl (ibiter_spec hd (ho.fr hF) hol (hi.fr hF) hll (hu.fr hF) hml) ?_
  rintro _ H3 ⟨outs,hA,hag,hF3⟩
  replace hF := hF.trans hF3
  replace mm := hF3.rd mm (fun _ _ => nw)
  replace mm0 := hF3.keep mm0 nw
  replace mm1 := hF3.keep mm1 nw
  refine ⟨trivial,?_⟩
  refine O.asg rfl rfl rfl rfl rfl ?_
  refine Pl.fin [(1,_),(2,_),(3,_),(6,_),(7,_)] ⟨rfl,rfl,rfl,rfl,rfl,trivial⟩ ?_
  refine Go'.seq ?_
  refine Go'.draw (fun H' => cl H' H.size 0 = some (.slice av mv cv)) [(0,0),(1,0),(2,0),(3,1),(4,0),(6,0),(5,2),(7,2),(8,0),(9,0),(10,0),(11,0),(12,0)] (by kernel_rfl) (by kernel_rfl) (mm0) ?_
  refine O.faz rfl rfl rfl rfl ⟨_,_,_,underlying24,rfl,rfl,sizeOf22⟩ rfl ?_
  refine O.ldC rfl rfl rfl (fun w => ⟨isAgg22 w,sizeOf22 w⟩) rfl (fun _ h => h) ?_
  refine O.faz rfl rfl rfl rfl ⟨_,_,_,underlying24,rfl,rfl,sizeOf22⟩ rfl ?_
  refine O.ld rfl rfl rfl (fun w => ⟨isAgg22 w,sizeOf22 w⟩) rfl mm0 ?_
  refine O.mv rfl rfl rfl rfl rfl ?_
  refine O.mv rfl rfl rfl rfl rfl ?_
  refine O.call rfl rfl rfl call48 rfl (tree_spec (ho.fr hF) (by omega) (hi.fr hF) hll) ?_
  rintro r2 H4 ⟨hr2,hF4⟩
  replace hF := hF.trans hF4
  replace mm := hF4.rd mm (fun _ _ => nw)
  replace mm0 := hF4.keep mm0 nw
  replace mm1 := hF4.keep mm1 nw
  refine ⟨mm0,?_⟩
  refine O.call rfl rfl rfl call47 rfl (giter_spec (ho.fr hF) (by omega) hr2.inS hsrt (by omega) (hu.fr hF) hml) ?_
  rintro _ H5 ⟨v1,v2,rfl,h1,h2,hF5⟩
  replace hF := hF.trans hF5
  replace mm := hF5.rd mm (fun _ _ => nw)
  replace mm0 := hF5.keep mm0 nw
  replace mm1 := hF5.keep mm1 nw
  refine ⟨mm0,?_⟩
  refine O.mv rfl rfl rfl rfl rfl ?_
  refine O.ext rfl rfl rfl rfl rfl rfl ?_
  refine O.ext rfl rfl rfl rfl rfl rfl ?_
  refine O.asg rfl rfl rfl rfl rfl ?_
  refine O.asg rfl rfl rfl rfl rfl ?_
  refine Pl.fin [(6,_),(7,_),(8,_),(9,_)] ⟨rfl,rfl,rfl,rfl,trivial⟩ ?_
  refine Go'.seq ?_
  refine Go'.region [(0,0),(1,0),(2,0),(3,2),(4,0)] rfl ?_
  refine O.mv rfl rfl rfl rfl rfl ?_
  refine O.mv rfl rfl rfl rfl rfl ?_
  refine O.mv rfl rfl rfl rfl rfl ?_
  refine O.callQ rfl rfl rfl call49 rfl (sameMoves_spec (hA.inS.fr (hF4.trans hF5)) h1.inS h2.inS hag (by omega)) trivial ?_
  refine O.asg rfl rfl rfl rfl rfl ?_
  refine Pl.fin [(6,_)] ⟨rfl,trivial⟩ ?_
  refine Go'.ret (vs := [_]) func25 results25 ⟨rfl,trivial⟩ ?_
  exact ⟨rfl,hF⟩

theorem fnExactBIter {B : World} {H : Mem} {z : Int} {nl : Bool} {v u : Value} {ord : List Int} {l : List (Int × Int)} {um : Value} {ms : List (Int × Int × Int)} (ho : InS EN H v ord) (hi : InS EJ H u l) (hu : InS EMv H um ms) :
    Fn Try.prog B 9 [.agg #[v,.int .i64 z,.bool nl],u,um] H (fun r H' => r = .bool true ∧ Fr nowhere H H') := by
  obtain ⟨a,c,hu⟩ := hi.len
  subst hu
  obtain ⟨av,mv,cv,hv⟩ := InS.form ho
  subst hv
  obtain ⟨ua,uc,hu0⟩ := hu.len
  subst hu0
  have hF : Fr nowhere H H := Fr.refl _ _
  refine fn_of func9 rfl ntmps9 ?_
  refine (show Go' _ _ _ _ 36 [(0,_),(1,_),(2,_)] [.code _] _ from ?_)
  refine Go'.seq ?_
  refine Go'.region [(0,2),(1,0)] rfl ?_
  refine O.box rfl rfl rfl rfl ?_
  intro B1 MB1
  refine ⟨trivial,?_⟩
  have hsB1 := MB1.size
  replace hF := hF.trans (MB1.fr nowhere)
  have mm : Rd B1 H.size 0 [.slice av mv cv,.int .i64 z,.bool nl] := MB1.rd _ [] (by simp [Value.cells])
  have mm0 : cl B1 H.size 0 = some (.slice av mv cv) := mm 0 _ rfl
  have mm1 : cl B1 H.size (0 + 1) = some (.int .i64 z) := mm 1 _ rfl
  refine O.asg rfl rfl rfl rfl rfl ?_
  refine Pl.fin [(1,_),(2,_),(3,_),(6,_)] ⟨rfl,rfl,rfl,rfl,trivial⟩ ?_
  refine Go'.seq ?_
  refine Go'.seq ?_
  cases hoz : decide (ord.length ≤ 2147483647)
  · skip
    refine Go'.region [(0,1),(1,2),(2,0),(3,0),(4,0),(5,0),(6,0),(7,0),(8,0),(9,0),(10,0),(11,0),(12,0)] rfl ?_
    refine O.lds rfl rfl rfl (fun w => ⟨isAgg24 w,sizeOf24 w⟩) rfl rfl mm ?_
    refine O.call rfl rfl rfl call11 rfl (zzFits1_spec (ho.fr hF) hoz) ?_
    rintro _ H1 ⟨rfl,hF1⟩
    replace hF := hF.trans hF1
    replace mm := hF1.rd mm (fun _ _ => nw)
    replace mm0 := hF1.keep mm0 nw
    replace mm1 := hF1.keep mm1 nw
    refine ⟨trivial,?_⟩
    refine O.not rfl rfl rfl rfl rfl ?_
    refine O.mv rfl rfl rfl rfl rfl ?_
    refine Pl.pass rfl rfl rfl rfl ?_
    refine Pl.pass rfl rfl rfl rfl ?_
    refine Pl.pass rfl rfl rfl rfl ?_
    refine O.pick rfl rfl rfl rfl rfl rfl ?_
    refine O.mv rfl rfl rfl rfl rfl ?_
    refine Pl.pass rfl rfl rfl rfl ?_
    refine Pl.pass rfl rfl rfl rfl ?_
    refine Pl.pass rfl rfl rfl rfl ?_
    refine O.pick rfl rfl rfl rfl rfl rfl ?_
    refine Pl.fin [(1,_),(2,_),(3,_),(6,_),(19,_)] ⟨rfl,rfl,rfl,rfl,rfl,trivial⟩ ?_
    refine Go'.condT rfl ?_
    refine Go'.seq ?_
    refine Go'.region [(0,0)] rfl ?_
    refine O.asg rfl rfl rfl rfl rfl ?_
    refine Pl.fin [(1,_),(2,_),(3,_),(6,_)] ⟨rfl,rfl,rfl,rfl,trivial⟩ ?_
    refine Go'.ret (vs := [_]) func9 results9 ⟨rfl,trivial⟩ ?_
    exact ⟨rfl,hF⟩
  · skip
    have hoz2 := of_decide_eq_true hoz
    by_cases hb_lenl : (2147483647 : Int) < (l.length : Int)
    · skip
      refine Go'.region [(0,1),(1,2),(2,0),(3,0),(4,0),(5,0),(6,0),(7,0),(8,0),(9,0),(10,0),(11,0),(12,0)] rfl ?_
      refine O.lds rfl rfl rfl (fun w => ⟨isAgg24 w,sizeOf24 w⟩) rfl rfl mm ?_
      refine O.call rfl rfl rfl call11 rfl (zzFits1_spec (ho.fr hF) hoz) ?_
      rintro _ H1 ⟨rfl,hF1⟩
      replace hF := hF.trans hF1
      replace mm := hF1.rd mm (fun _ _ => nw)
      replace mm0 := hF1.keep mm0 nw
      replace mm1 := hF1.keep mm1 nw
      refine ⟨trivial,?_⟩
      refine O.not rfl rfl rfl rfl rfl ?_
      refine O.mv rfl rfl rfl rfl rfl ?_
      refine O.mv rfl rfl rfl rfl rfl ?_
      refine O.len rfl rfl rfl rfl underlying25 rfl ?_
      refine O.cmp rfl rfl rfl rfl rfl rfl (gtrT (by omega)) ?_
      refine O.pick rfl rfl rfl rfl rfl rfl ?_
      refine O.mv rfl rfl rfl rfl rfl ?_
      refine Pl.pass rfl rfl rfl rfl ?_
      refine Pl.pass rfl rfl rfl rfl ?_
      refine Pl.pass rfl rfl rfl rfl ?_
      refine O.pick rfl rfl rfl rfl rfl rfl ?_
      refine Pl.fin [(1,_),(2,_),(3,_),(6,_),(19,_)] ⟨rfl,rfl,rfl,rfl,rfl,trivial⟩ ?_
      refine Go'.condT rfl ?_
      refine Go'.seq ?_
      refine Go'.region [(0,0)] rfl ?_
      refine O.asg rfl rfl rfl rfl rfl ?_
      refine Pl.fin [(1,_),(2,_),(3,_),(6,_)] ⟨rfl,rfl,rfl,rfl,trivial⟩ ?_
      refine Go'.ret (vs := [_]) func9 results9 ⟨rfl,trivial⟩ ?_
      exact ⟨rfl,hF⟩
    · skip
      by_cases hb_lenmoves : (2147483647 : Int) < (ms.length : Int)
      · skip
        refine Go'.region [(0,1),(1,2),(2,0),(3,0),(4,0),(5,0),(6,0),(7,0),(8,0),(9,0),(10,0),(11,0),(12,0)] rfl ?_
        refine O.lds rfl rfl rfl (fun w => ⟨isAgg24 w,sizeOf24 w⟩) rfl rfl mm ?_
        refine O.call rfl rfl rfl call11 rfl (zzFits1_spec (ho.fr hF) hoz) ?_
        rintro _ H1 ⟨rfl,hF1⟩
        replace hF := hF.trans hF1
        replace mm := hF1.rd mm (fun _ _ => nw)
        replace mm0 := hF1.keep mm0 nw
        replace mm1 := hF1.keep mm1 nw
        refine ⟨trivial,?_⟩
        refine O.not rfl rfl rfl rfl rfl ?_
        refine O.mv rfl rfl rfl rfl rfl ?_
        refine O.mv rfl rfl rfl rfl rfl ?_
        refine O.len rfl rfl rfl rfl underlying25 rfl ?_
        refine O.cmp rfl rfl rfl rfl rfl rfl (gtrF (by omega)) ?_
        refine O.pick rfl rfl rfl rfl rfl rfl ?_
        refine O.mv rfl rfl rfl rfl rfl ?_
        refine O.mv rfl rfl rfl rfl rfl ?_
        refine O.len rfl rfl rfl rfl underlying38 rfl ?_
        refine O.cmp rfl rfl rfl rfl rfl rfl (gtrT (by omega)) ?_
        refine O.pick rfl rfl rfl rfl rfl rfl ?_
        refine Pl.fin [(1,_),(2,_),(3,_),(6,_),(19,_)] ⟨rfl,rfl,rfl,rfl,rfl,trivial⟩ ?_
        refine Go'.condT rfl ?_
        refine Go'.seq ?_
        refine Go'.region [(0,0)] rfl ?_
        refine O.asg rfl rfl rfl rfl rfl ?_
        refine Pl.fin [(1,_),(2,_),(3,_),(6,_)] ⟨rfl,rfl,rfl,rfl,trivial⟩ ?_
        refine Go'.ret (vs := [_]) func9 results9 ⟨rfl,trivial⟩ ?_
        exact ⟨rfl,hF⟩
      · skip
        refine Go'.region [(0,1),(1,2),(2,0),(3,0),(4,0),(5,0),(6,0),(7,0),(8,0),(9,0),(10,0),(11,0),(12,0)] rfl ?_
        refine O.lds rfl rfl rfl (fun w => ⟨isAgg24 w,sizeOf24 w⟩) rfl rfl mm ?_
        refine O.call rfl rfl rfl call11 rfl (zzFits1_spec (ho.fr hF) hoz) ?_
        rintro _ H1 ⟨rfl,hF1⟩
        replace hF := hF.trans hF1
        replace mm := hF1.rd mm (fun _ _ => nw)
        replace mm0 := hF1.keep mm0 nw
        replace mm1 := hF1.keep mm1 nw
        refine ⟨trivial,?_⟩
        refine O.not rfl rfl rfl rfl rfl ?_
        refine O.mv rfl rfl rfl rfl rfl ?_
        refine O.mv rfl rfl rfl rfl rfl ?_
        refine O.len rfl rfl rfl rfl underlying25 rfl ?_
        refine O.cmp rfl rfl rfl rfl rfl rfl (gtrF (by omega)) ?_
        refine O.pick rfl rfl rfl rfl rfl rfl ?_
        refine O.mv rfl rfl rfl rfl rfl ?_
        refine O.mv rfl rfl rfl rfl rfl ?_
        refine O.len rfl rfl rfl rfl underlying38 rfl ?_
        refine O.cmp rfl rfl rfl rfl rfl rfl (gtrF (by omega)) ?_
        refine O.pick rfl rfl rfl rfl rfl rfl ?_
        refine Pl.fin [(1,_),(2,_),(3,_),(6,_),(19,_)] ⟨rfl,rfl,rfl,rfl,rfl,trivial⟩ ?_
        refine Go'.condF rfl ?_
        refine Go'.skip ?_
        refine Go'.seq ?_
        cases hfz : fitsb z
        · skip
          refine Go'.region [(0,2),(1,2),(2,2),(3,2),(4,0),(5,0),(6,1),(7,2),(8,0),(9,0),(10,1),(11,0),(12,0),(13,2),(14,0),(15,0),(16,0)] rfl ?_
          refine O.call rfl rfl rfl call13 rfl exMake_spec ?_
          rintro _ H2 ⟨rfl,hF2⟩
          replace hF := hF.trans hF2
          replace mm := hF2.rd mm (fun _ _ => nw)
          replace mm0 := hF2.keep mm0 nw
          replace mm1 := hF2.keep mm1 nw
          refine ⟨trivial,?_⟩
          refine O.call rfl rfl rfl call14 rfl exItems_spec ?_
          rintro ev H3 ⟨hev,hF3⟩
          replace hF := hF.trans hF3
          replace mm := hF3.rd mm (fun _ _ => nw)
          replace mm0 := hF3.keep mm0 nw
          replace mm1 := hF3.keep mm1 nw
          refine ⟨trivial,?_⟩
          refine O.call rfl rfl rfl call26 rfl exMoves_spec ?_
          rintro em H4 ⟨hem,hF4⟩
          replace hF := hF.trans hF4
          replace mm := hF4.rd mm (fun _ _ => nw)
          replace mm0 := hF4.keep mm0 nw
          replace mm1 := hF4.keep mm1 nw
          replace hev := hev.fr hF4
          refine ⟨trivial,?_⟩
          refine O.call rfl rfl rfl call25 rfl (lawBIter_spec (d := 2) (by decide) (InS.nil EN _) (by decide) hev (by decide) hem (by decide)) ?_
          rintro _ H5 ⟨rfl,hF5⟩
          replace hF := hF.trans hF5
          replace mm := hF5.rd mm (fun _ _ => nw)
          replace mm0 := hF5.keep mm0 nw
          replace mm1 := hF5.keep mm1 nw
          refine ⟨trivial,?_⟩
          refine O.mv rfl rfl rfl rfl rfl ?_
          refine O.fa0 (off := 1) rfl rfl rfl rfl ⟨_,_,_,underlying24,rfl,rfl,sizeOf3⟩ rfl ?_
          refine O.ld rfl rfl rfl (fun w => ⟨isAgg3 w,sizeOf3 w⟩) rfl mm1 ?_
          refine O.callQ rfl rfl rfl call15 rfl (fits_spec' hfz) trivial ?_
          refine O.not rfl rfl rfl rfl rfl ?_
          refine O.mv rfl rfl rfl rfl rfl ?_
          refine Pl.pass rfl rfl rfl rfl ?_
          refine Pl.pass rfl rfl rfl rfl ?_
          refine Pl.pass rfl rfl rfl rfl ?_
          refine Pl.pass2 rfl rfl rfl rfl trivial ?_
          refine O.pick rfl rfl rfl rfl rfl rfl ?_
          refine O.pick rfl rfl rfl rfl rfl rfl ?_
          refine O.asg rfl rfl rfl rfl rfl ?_
          refine Pl.fin [(6,_)] ⟨rfl,trivial⟩ ?_
          refine Go'.ret (vs := [_]) func9 results9 ⟨rfl,trivial⟩ ?_
          exact ⟨rfl,hF⟩
        · skip
          obtain ⟨d,rfl,hd⟩ := fitsb_nat hfz
          refine Go'.region [(0,2),(1,2),(2,2),(3,2),(4,0),(5,0),(6,1),(7,2),(8,0),(9,0),(10,1),(11,0),(12,0),(13,2),(14,0),(15,0),(16,0)] rfl ?_
          refine O.call rfl rfl rfl call13 rfl exMake_spec ?_
          rintro _ H2 ⟨rfl,hF2⟩
          replace hF := hF.trans hF2
          replace mm := hF2.rd mm (fun _ _ => nw)
          replace mm0 := hF2.keep mm0 nw
          replace mm1 := hF2.keep mm1 nw
          refine ⟨trivial,?_⟩
          refine O.call rfl rfl rfl call14 rfl exItems_spec ?_
          rintro ev H3 ⟨hev,hF3⟩
          replace hF := hF.trans hF3
          replace mm := hF3.rd mm (fun _ _ => nw)
          replace mm0 := hF3.keep mm0 nw
          replace mm1 := hF3.keep mm1 nw
          refine ⟨trivial,?_⟩
          refine O.call rfl rfl rfl call26 rfl exMoves_spec ?_
          rintro em H4 ⟨hem,hF4⟩
          replace hF := hF.trans hF4
          replace mm := hF4.rd mm (fun _ _ => nw)
          replace mm0 := hF4.keep mm0 nw
          replace mm1 := hF4.keep mm1 nw
          replace hev := hev.fr hF4
          refine ⟨trivial,?_⟩
          refine O.call rfl rfl rfl call25 rfl (lawBIter_spec (d := 2) (by decide) (InS.nil EN _) (by decide) hev (by decide) hem (by decide)) ?_
          rintro _ H5 ⟨rfl,hF5⟩
          replace hF := hF.trans hF5
          replace mm := hF5.rd mm (fun _ _ => nw)
          replace mm0 := hF5.keep mm0 nw
          replace mm1 := hF5.keep mm1 nw
          refine ⟨trivial,?_⟩
          refine O.mv rfl rfl rfl rfl rfl ?_
          refine O.fa0 (off := 1) rfl rfl rfl rfl ⟨_,_,_,underlying24,rfl,rfl,sizeOf3⟩ rfl ?_
          refine O.ld rfl rfl rfl (fun w => ⟨isAgg3 w,sizeOf3 w⟩) rfl mm1 ?_
          refine O.callQ rfl rfl rfl call15 rfl (fits_spec' hfz) trivial ?_
          refine O.not rfl rfl rfl rfl rfl ?_
          refine O.mv rfl rfl rfl rfl rfl ?_
          refine O.lds rfl rfl rfl (fun w => ⟨isAgg24 w,sizeOf24 w⟩) rfl rfl mm ?_
          refine O.mv rfl rfl rfl rfl rfl ?_
          refine O.mv rfl rfl rfl rfl rfl ?_
          refine O.call rfl rfl rfl call25 rfl (lawBIter_spec hd (ho.fr hF) (by omega) (hi.fr hF) (by omega) (hu.fr hF) (by omega)) ?_
          rintro _ H6 ⟨rfl,hF6⟩
          replace hF := hF.trans hF6
          replace mm := hF6.rd mm (fun _ _ => nw)
          replace mm0 := hF6.keep mm0 nw
          replace mm1 := hF6.keep mm1 nw
          refine ⟨trivial,?_⟩
          refine O.pick rfl rfl rfl rfl rfl rfl ?_
          refine O.pick rfl rfl rfl rfl rfl rfl ?_
          refine O.asg rfl rfl rfl rfl rfl ?_
          refine Pl.fin [(6,_)] ⟨rfl,trivial⟩ ?_
          refine Go'.ret (vs := [_]) func9 results9 ⟨rfl,trivial⟩ ?_
          exact ⟨rfl,hF⟩

end Go.Bt.FB
