/- Contracts of functions of the program, proved by walking through their code. Conditions: those that each theorem names. -/
import Derived.Test.YtnlempnbagoipaaTobR
namespace Go.Bt.FB
open Go Go.Proofs Go.Proofs.Try
set_option maxRecDepth 20000
set_option maxHeartbeats 4000000
set_option linter.unusedVariables false
set_option linter.unusedSectionVars false

section
variable [Inhabited Cx]

theorem inter_drop {α : Type} {X : List α} {K : List (List α)} {i : Nat} {x : α} {k : List α} (hx : X[i]? = some x) (hk : K[i]? = some k) : Pl.inter (X.drop i) (K.drop i) = k ++ x :: Pl.inter (X.drop (i + 1)) (K.drop (i + 1)) := by
  obtain ⟨h1,h2⟩ := List.getElem?_eq_some_iff.1 hx
  obtain ⟨h3,h4⟩ := List.getElem?_eq_some_iff.1 hk
  rw [← List.getElem_cons_drop (h := h1),← List.getElem_cons_drop (h := h3),h2,h4]; rfl
theorem inter_drope {α : Type} {X : List α} {K : List (List α)} {k : List α} (hl : K.length = X.length + 1) (hk : K[X.length]? = some k) : Pl.inter (X.drop X.length) (K.drop X.length) = k := by
  obtain ⟨h3,h4⟩ := List.getElem?_eq_some_iff.1 hk
  rw [← List.getElem_cons_drop (h := h3),h4,List.drop_length]; rfl

theorem getAt_spec {B : World} {H : Mem} {tr : Nat} {P : Ps} (hP : PsOk P) {S : Nat → Prop} {l : List (Int × Int)} (hM : MapM H tr P S l) (z : Int) (mt : Bool) (hll : l.length < 4611686018427387904) :
    Fn Try.prog B 108 [.pointer (some ⟨tr,0,none⟩),.int .i64 z,.bool mt] H (fun r H' => r = .tuple #[PV (ath l z),.bool (ath l z).isSome] ∧ Fr nowhere H H') := by
  have hh1 := hP.h1
  have hx255 := hP.hx
  have lt0 := hM.lt
  refine fn_of func108 rfl ntmps108 ?_
  refine (show Go' _ _ _ _ 121 [(0,_),(1,_),(2,_)] [.code _] _ from ?_)
  refine Go'.seq ?_
  have M0 := Mk0.mk' H
  have hs0 := M0.size
  have hF := M0.fr nowhere
  refine Go'.region [(0,0),(1,0)] rfl ?_
  refine O.asg rfl rfl rfl rfl rfl ?_
  refine O.asg rfl rfl rfl rfl rfl ?_
  refine Pl.fin [(0,_),(1,_),(2,_),(6,_),(7,_)] ⟨rfl,rfl,rfl,rfl,rfl,trivial⟩ ?_
  refine Go'.seq ?_
  refine Go'.seq ?_
  refine Go'.region [(0,0),(1,0),(2,2)] rfl ?_
  refine O.mv rfl rfl rfl rfl rfl ?_
  refine O.mv rfl rfl rfl rfl rfl ?_
  refine O.callQ rfl rfl rfl call111 rfl lock_spec trivial ?_
  refine Pl.fin [(0,_),(1,_),(2,_),(6,_),(7,_),(12,_)] ⟨rfl,rfl,rfl,rfl,rfl,rfl,trivial⟩ ?_
  refine Go'.condF rfl ?_
  refine Go'.skip ?_
  refine Go'.seq ?_
  refine Go'.seq ?_
  obtain ⟨tc,srt,cnt,own,lt,bs,hr⟩ := hM
  rcases hr with ⟨rfl,hptr⟩ | ⟨h,t,hg,hx1,e,hc,hnt,hown⟩
  · skip
    refine Go'.region [(0,0),(1,0),(2,0),(3,1),(4,0),(5,0),(6,0),(7,0),(8,0),(9,0),(10,0),(11,0),(12,0),(13,0),(14,1),(15,0),(16,0)] rfl ?_
    refine O.mv rfl rfl rfl rfl rfl ?_
    refine O.nc rfl rfl rfl rfl rfl ?_
    refine O.fa0 (off := 2) rfl rfl rfl rfl ⟨_,_,_,underlying138,rfl,rfl,sizeOf96⟩ rfl ?_
    refine O.ld rfl rfl rfl (fun w => ⟨isAgg96 w,sizeOf96 w⟩) rfl hptr ?_
    refine O.isNil rfl rfl rfl rfl underlying96 rfl rfl ?_
    refine O.mv rfl rfl rfl rfl rfl ?_
    refine Pl.pass rfl rfl rfl rfl ?_
    refine Pl.pass rfl rfl rfl rfl ?_
    refine O.pick rfl rfl rfl rfl rfl rfl ?_
    refine O.mv rfl rfl rfl rfl rfl ?_
    refine Pl.pass rfl rfl rfl rfl ?_
    refine Pl.pass rfl rfl rfl rfl ?_
    refine Pl.pass rfl rfl rfl rfl ?_
    refine Pl.pass rfl rfl rfl rfl ?_
    refine Pl.pass rfl rfl rfl rfl ?_
    refine Pl.pass rfl rfl rfl rfl ?_
    refine O.pick rfl rfl rfl rfl rfl rfl ?_
    refine Pl.fin [(0,_),(1,_),(2,_),(6,_),(7,_),(31,_)] ⟨rfl,rfl,rfl,rfl,rfl,rfl,trivial⟩ ?_
    refine Go'.condT rfl ?_
    refine Go'.seq ?_
    have W3 := Wrote.nil H H.size 0
    refine Go'.region [(0,0),(1,0),(2,0),(3,1),(4,0),(5,0)] rfl ?_
    refine O.mv rfl rfl rfl rfl rfl ?_
    refine O.nc rfl rfl rfl rfl rfl ?_
    refine O.fa0 (off := 7) rfl rfl rfl rfl ⟨_,_,_,underlying138,rfl,rfl,sizeOf20⟩ rfl ?_
    refine O.ld rfl rfl rfl (fun w => ⟨isAgg20 w,sizeOf20 w⟩) rfl ((tc.emp) 0 _ rfl) ?_
    refine O.asg rfl rfl rfl rfl rfl ?_
    refine O.asg rfl rfl rfl rfl rfl ?_
    refine Pl.fin [(0,_),(1,_),(2,_),(6,_),(7,_)] ⟨rfl,rfl,rfl,rfl,rfl,trivial⟩ ?_
    refine Go'.ret (vs := [_,_]) func108 results108 ⟨rfl,rfl,trivial⟩ ?_
    refine ⟨?_,hF⟩
    have e : ath ([] : List (Int × Int)) z = none := by unfold ath; split <;> simp
    rw [e]; rfl
  · skip
    obtain ⟨kp,hN⟩ := hg.node
    have hc0 := hN.c0
    rw [hg.isoe] at hc0
    have hptr : cl H tr 2 = some (.pointer (some ⟨Gt.p h t,0,none⟩)) := hc
    by_cases hz0 : z < 0
    · skip
      refine Go'.region [(0,0),(1,0),(2,0),(3,1),(4,0),(5,0),(6,0),(7,0),(8,0),(9,0),(10,0),(11,0),(12,0),(13,0),(14,1),(15,0),(16,0)] rfl ?_
      refine O.mv rfl rfl rfl rfl rfl ?_
      refine O.nc rfl rfl rfl rfl rfl ?_
      refine O.fa0 (off := 2) rfl rfl rfl rfl ⟨_,_,_,underlying138,rfl,rfl,sizeOf96⟩ rfl ?_
      refine O.ld rfl rfl rfl (fun w => ⟨isAgg96 w,sizeOf96 w⟩) rfl hptr ?_
      refine O.isNil rfl rfl rfl rfl underlying96 rfl rfl ?_
      refine O.mv rfl rfl rfl rfl rfl ?_
      refine O.mv rfl rfl rfl rfl rfl ?_
      refine O.cmp rfl rfl rfl rfl rfl rfl (lssT (by omega)) ?_
      refine O.pick rfl rfl rfl rfl rfl rfl ?_
      refine O.mv rfl rfl rfl rfl rfl ?_
      refine Pl.pass rfl rfl rfl rfl ?_
      refine Pl.pass rfl rfl rfl rfl ?_
      refine Pl.pass rfl rfl rfl rfl ?_
      refine Pl.pass rfl rfl rfl rfl ?_
      refine Pl.pass rfl rfl rfl rfl ?_
      refine Pl.pass rfl rfl rfl rfl ?_
      refine O.pick rfl rfl rfl rfl rfl rfl ?_
      refine Pl.fin [(0,_),(1,_),(2,_),(6,_),(7,_),(31,_)] ⟨rfl,rfl,rfl,rfl,rfl,rfl,trivial⟩ ?_
      refine Go'.condT rfl ?_
      refine Go'.seq ?_
      have W3 := Wrote.nil H H.size 0
      refine Go'.region [(0,0),(1,0),(2,0),(3,1),(4,0),(5,0)] rfl ?_
      refine O.mv rfl rfl rfl rfl rfl ?_
      refine O.nc rfl rfl rfl rfl rfl ?_
      refine O.fa0 (off := 7) rfl rfl rfl rfl ⟨_,_,_,underlying138,rfl,rfl,sizeOf20⟩ rfl ?_
      refine O.ld rfl rfl rfl (fun w => ⟨isAgg20 w,sizeOf20 w⟩) rfl ((tc.emp) 0 _ rfl) ?_
      refine O.asg rfl rfl rfl rfl rfl ?_
      refine O.asg rfl rfl rfl rfl rfl ?_
      refine Pl.fin [(0,_),(1,_),(2,_),(6,_),(7,_)] ⟨rfl,rfl,rfl,rfl,rfl,trivial⟩ ?_
      refine Go'.ret (vs := [_,_]) func108 results108 ⟨rfl,rfl,trivial⟩ ?_
      refine ⟨?_,hF⟩
      have e : ath l z = none := by unfold ath; rw [if_pos hz0]
      rw [e]; rfl
    by_cases hzl : (l.length : Int) ≤ z
    · skip
      refine Go'.region [(0,0),(1,0),(2,0),(3,1),(4,0),(5,0),(6,0),(7,0),(8,0),(9,0),(10,0),(11,0),(12,0),(13,0),(14,1),(15,0),(16,0)] rfl ?_
      refine O.mv rfl rfl rfl rfl rfl ?_
      refine O.nc rfl rfl rfl rfl rfl ?_
      refine O.fa0 (off := 2) rfl rfl rfl rfl ⟨_,_,_,underlying138,rfl,rfl,sizeOf96⟩ rfl ?_
      refine O.ld rfl rfl rfl (fun w => ⟨isAgg96 w,sizeOf96 w⟩) rfl hptr ?_
      refine O.isNil rfl rfl rfl rfl underlying96 rfl rfl ?_
      refine O.mv rfl rfl rfl rfl rfl ?_
      refine O.mv rfl rfl rfl rfl rfl ?_
      refine O.cmp rfl rfl rfl rfl rfl rfl (lssF (by omega)) ?_
      refine O.pick rfl rfl rfl rfl rfl rfl ?_
      refine O.mv rfl rfl rfl rfl rfl ?_
      refine O.mv rfl rfl rfl rfl rfl ?_
      refine O.mv rfl rfl rfl rfl rfl ?_
      refine O.nc rfl rfl rfl rfl rfl ?_
      refine O.fa0 (off := 3) rfl rfl rfl rfl ⟨_,_,_,underlying138,rfl,rfl,sizeOf3⟩ rfl ?_
      refine O.ld rfl rfl rfl (fun w => ⟨isAgg3 w,sizeOf3 w⟩) rfl cnt ?_
      refine O.cmp rfl rfl rfl rfl rfl rfl (geqT (by omega)) ?_
      refine O.pick rfl rfl rfl rfl rfl rfl ?_
      refine Pl.fin [(0,_),(1,_),(2,_),(6,_),(7,_),(31,_)] ⟨rfl,rfl,rfl,rfl,rfl,rfl,trivial⟩ ?_
      refine Go'.condT rfl ?_
      refine Go'.seq ?_
      have W3 := Wrote.nil H H.size 0
      refine Go'.region [(0,0),(1,0),(2,0),(3,1),(4,0),(5,0)] rfl ?_
      refine O.mv rfl rfl rfl rfl rfl ?_
      refine O.nc rfl rfl rfl rfl rfl ?_
      refine O.fa0 (off := 7) rfl rfl rfl rfl ⟨_,_,_,underlying138,rfl,rfl,sizeOf20⟩ rfl ?_
      refine O.ld rfl rfl rfl (fun w => ⟨isAgg20 w,sizeOf20 w⟩) rfl ((tc.emp) 0 _ rfl) ?_
      refine O.asg rfl rfl rfl rfl rfl ?_
      refine O.asg rfl rfl rfl rfl rfl ?_
      refine Pl.fin [(0,_),(1,_),(2,_),(6,_),(7,_)] ⟨rfl,rfl,rfl,rfl,rfl,trivial⟩ ?_
      refine Go'.ret (vs := [_,_]) func108 results108 ⟨rfl,rfl,trivial⟩ ?_
      refine ⟨?_,hF⟩
      have e' : ath l z = none := by unfold ath; rw [if_neg hz0]; exact List.getElem?_eq_none (by omega)
      rw [e']; rfl
    · skip
      obtain ⟨j0,rfl⟩ := Int.eq_ofNat_of_zero_le (by omega : 0 ≤ z)
      rw [ath_nat]
      refine Go'.region [(0,0),(1,0),(2,0),(3,1),(4,0),(5,0),(6,0),(7,0),(8,0),(9,0),(10,0),(11,0),(12,0),(13,0),(14,1),(15,0),(16,0)] rfl ?_
      refine O.mv rfl rfl rfl rfl rfl ?_
      refine O.nc rfl rfl rfl rfl rfl ?_
      refine O.fa0 (off := 2) rfl rfl rfl rfl ⟨_,_,_,underlying138,rfl,rfl,sizeOf96⟩ rfl ?_
      refine O.ld rfl rfl rfl (fun w => ⟨isAgg96 w,sizeOf96 w⟩) rfl hptr ?_
      refine O.isNil rfl rfl rfl rfl underlying96 rfl rfl ?_
      refine O.mv rfl rfl rfl rfl rfl ?_
      refine O.mv rfl rfl rfl rfl rfl ?_
      refine O.cmp rfl rfl rfl rfl rfl rfl (lssF (by omega)) ?_
      refine O.pick rfl rfl rfl rfl rfl rfl ?_
      refine O.mv rfl rfl rfl rfl rfl ?_
      refine O.mv rfl rfl rfl rfl rfl ?_
      refine O.mv rfl rfl rfl rfl rfl ?_
      refine O.nc rfl rfl rfl rfl rfl ?_
      refine O.fa0 (off := 3) rfl rfl rfl rfl ⟨_,_,_,underlying138,rfl,rfl,sizeOf3⟩ rfl ?_
      refine O.ld rfl rfl rfl (fun w => ⟨isAgg3 w,sizeOf3 w⟩) rfl cnt ?_
      refine O.cmp rfl rfl rfl rfl rfl rfl (geqF (by omega)) ?_
      refine O.pick rfl rfl rfl rfl rfl rfl ?_
      refine Pl.fin [(0,_),(1,_),(2,_),(6,_),(7,_),(31,_)] ⟨rfl,rfl,rfl,rfl,rfl,rfl,trivial⟩ ?_
      refine Go'.condF rfl ?_
      refine Go'.skip ?_
      refine Go'.seq ?_
      refine Go'.region [(0,0),(1,0),(2,0),(3,0),(4,0),(5,2),(6,0)] rfl ?_
      refine O.mv rfl rfl rfl rfl rfl ?_
      refine O.mv rfl rfl rfl rfl rfl ?_
      refine O.nc rfl rfl rfl rfl rfl ?_
      refine O.fa0 (off := 2) rfl rfl rfl rfl ⟨_,_,_,underlying138,rfl,rfl,sizeOf96⟩ rfl ?_
      refine O.mv rfl rfl rfl rfl rfl ?_
      refine O.callQ rfl rfl rfl call114 rfl (isoLoad_spec mt hc hc0 tc.iso) trivial ?_
      refine O.asg rfl rfl rfl rfl rfl ?_
      refine Pl.fin [(0,_),(1,_),(2,_),(6,_),(7,_),(8,_)] ⟨rfl,rfl,rfl,rfl,rfl,rfl,trivial⟩ ?_
      refine Go'.block ?_
      refine Go'.loop ?_
      refine Go'.keep [(0,_),(1,_),(2,_),(6,_),(7,_),(8,_)] ⟨rfl,rfl,rfl,rfl,rfl,rfl,trivial⟩ ?_
      refine Go'.ind (σ := (h : Nat) × Gt EA h × Nat) (fun s => s.1) (fun s H' => H' = H ∧ Gt.Good H P s.1 s.2.1 ∧ 1 ≤ (Gt.X s.1 s.2.1).length ∧ (Gt.L s.1 s.2.1)[s.2.2]? = l[j0]? ∧ s.2.2 < (Gt.L s.1 s.2.1).length ∧ (Gt.L s.1 s.2.1).length < 4611686018427387904)
        (fun s => [(0,.pointer (some ⟨tr,0,none⟩)),(1,.int .i64 (s.2.2 : Int)),(2,.bool mt),(6,.nilIface),(7,.bool false),(8,.pointer (some ⟨Gt.p s.1 s.2.1,0,none⟩))]) ⟨h,t,j0⟩ ⟨rfl,hg,hx1,by rw [e],by simp only [e]; omega,by simp only [e]; omega⟩ rfl ?_
      clear hg hx1 e hc hnt hown hN hc0 hptr t h kp
      rintro ⟨h,t,j⟩ H2 ⟨hHH,hg,hx1,hL,hj,hln⟩ ih
      have eH : H = H2 := hHH.symm
      subst eH
      simp only at hg hx1 hL hj hln ⊢
      clear hHH
      refine Go'.block ?_
      refine Go'.seq ?_
      refine Go'.seq ?_
      rcases h with _ | h
      · -- a leaf
        obtain ⟨g,X⟩ := t
        have hN : NodeM EA H g X (.pointer none) := hg.1
        replace hj : j < X.length := hj
        replace hL : X[j]? = l[j0]? := hL
        obtain ⟨y,hy⟩ : ∃ y,X[j]? = some y := ⟨X[j],List.getElem?_eq_getElem hj⟩
        rw [← hL,hy]
        refine Go'.region [(0,0),(1,2)] rfl ?_
        refine O.mv rfl rfl rfl rfl rfl ?_
        refine O.callQ rfl rfl rfl call115 rfl (leaf_spec hN.c3) trivial ?_
        refine Pl.fin [(0,_),(1,_),(2,_),(6,_),(7,_),(8,_),(43,_)] ⟨rfl,rfl,rfl,rfl,rfl,rfl,rfl,trivial⟩ ?_
        refine Go'.condT rfl ?_
        refine Go'.seq ?_
        have W3 := Wrote.nil H H.size 0
        refine Go'.region [(0,0),(1,0),(2,0),(3,1),(4,0),(5,0),(6,1),(7,0),(8,0)] rfl ?_
        refine O.mv rfl rfl rfl rfl rfl ?_
        refine O.nc rfl rfl rfl rfl rfl ?_
        refine O.fa0 (off := 2) rfl rfl rfl rfl ⟨_,_,_,underlying144,rfl,rfl,sizeOf141⟩ rfl ?_
        refine O.ld rfl rfl rfl (fun w => ⟨isAgg141 w,sizeOf141 w⟩) rfl hN.c2 ?_
        refine O.mv rfl rfl rfl rfl rfl ?_
        refine O.ix (j := j) rfl rfl rfl rfl underlying141 sizeOf20 rfl rfl (by omega) (by omega) ?_
        refine O.ld rfl rfl rfl (fun w => ⟨isAgg20 w,sizeOf20 w⟩) rfl (((hN.sl.item hy)) 0 _ rfl) ?_
        refine O.asg rfl rfl rfl rfl rfl ?_
        refine O.asg rfl rfl rfl rfl rfl ?_
        refine Pl.fin [(0,_),(1,_),(2,_),(6,_),(7,_),(8,_),(43,_)] ⟨rfl,rfl,rfl,rfl,rfl,rfl,rfl,trivial⟩ ?_
        refine Go'.ret (vs := [_,_]) func108 results108 ⟨rfl,rfl,trivial⟩ ?_
        exact ⟨rfl,hF⟩
      · -- an inner node
        obtain ⟨g,X,K⟩ := t
        have hI : Inn H P h g X ((Gt.ps h K).map some) K := hg.inn
        have hKl : K.length = X.length + 1 := hg.2.2.2.2.2.1
        have hxm : X.length ≤ P.mx := hg.2.2.2.2.1
        have hol : ((Gt.ps h K).map some).length = X.length + 1 := by rw [List.length_map,Gt.ps,List.length_map]; exact hKl
        replace hL : (Pl.inter X (K.map (Gt.L h)))[j]? = l[j0]? := hL
        replace hj : j < (Pl.inter X (K.map (Gt.L h))).length := hj
        replace hln : (Pl.inter X (K.map (Gt.L h))).length < 4611686018427387904 := hln
        have kid : ∀ i,i ≤ X.length → ∃ k,K[i]? = some k ∧ Gt.Good H P h k ∧ P.mn ≤ (Gt.X h k).length ∧ cl H g.kb (g.ko + i * 1) = some (.pointer (some ⟨Gt.p h k,0,none⟩)) ∧ cl H (Gt.p h k) 0 = some (.int .u64 (P.iso : Int)) ∧ cl H (Gt.p h k) 1 = some (.int .i64 ((Gt.L h k).length : Int)) ∧ (K.map (Gt.L h))[i]? = some (Gt.L h k) := fun i hi => by
          obtain ⟨k,hkk⟩ : ∃ k,K[i]? = some k := ⟨K[i],List.getElem?_eq_getElem (by omega)⟩
          obtain ⟨hgk,hmk,_⟩ := hI.c.1 k (List.mem_of_getElem? hkk)
          obtain ⟨kp,hNk⟩ := hgk.node
          have hok : ((Gt.ps h K).map some)[i]? = some (some (Gt.p h k)) := by rw [Gt.ps,List.map_map,List.getElem?_map,hkk]; rfl
          have c0 := hNk.c0
          rw [hgk.isoe] at c0
          have c1 := hNk.c1
          rw [hgk.cnt] at c1
          exact ⟨k,hkk,hgk,hmk,hI.k.at hok,c0,c1,by rw [List.getElem?_map,hkk]; rfl⟩
        refine Go'.region [(0,0),(1,2)] rfl ?_
        refine O.mv rfl rfl rfl rfl rfl ?_
        refine O.callQ rfl rfl rfl call115 rfl (leaf_spec hI.n.c3) trivial ?_
        refine Pl.fin [(0,_),(1,_),(2,_),(6,_),(7,_),(8,_),(43,_)] ⟨rfl,rfl,rfl,rfl,rfl,rfl,rfl,trivial⟩ ?_
        refine Go'.condF rfl ?_
        refine Go'.skip ?_
        refine Go'.seq ?_
        refine Go'.region [(0,0)] rfl ?_
        refine O.asg rfl rfl rfl rfl rfl ?_
        refine Pl.fin [(0,_),(1,_),(2,_),(6,_),(7,_),(8,_),(9,_),(43,_)] ⟨rfl,rfl,rfl,rfl,rfl,rfl,rfl,rfl,trivial⟩ ?_
        refine Go'.seq ?_
        refine Go'.block ?_
        refine Go'.loop ?_
        refine Go'.keep [(0,_),(1,_),(2,_),(6,_),(7,_),(8,_),(9,_)] ⟨rfl,rfl,rfl,rfl,rfl,rfl,rfl,trivial⟩ ?_
        refine Go'.ind (σ := Nat × Nat) (fun s => X.length - s.1) (fun s H' => H' = H ∧ s.1 ≤ X.length ∧ (Pl.inter (X.drop s.1) ((K.map (Gt.L h)).drop s.1))[s.2]? = l[j0]? ∧ s.2 < (Pl.inter (X.drop s.1) ((K.map (Gt.L h)).drop s.1)).length ∧ (Pl.inter (X.drop s.1) ((K.map (Gt.L h)).drop s.1)).length < 4611686018427387904)
          (fun s => [(0,.pointer (some ⟨tr,0,none⟩)),(1,.int .i64 (s.2 : Int)),(2,.bool mt),(6,.nilIface),(7,.bool false),(8,.pointer (some ⟨g.p,0,none⟩)),(9,.int .i64 (s.1 : Int))]) (0,j) ⟨rfl,Nat.zero_le _,hL,hj,hln⟩ rfl ?_
        clear hL hj hln
        rintro ⟨i,j⟩ H2 ⟨hHH,hi,hL,hj,hln⟩ ih2
        have eH : H = H2 := hHH.symm
        subst eH
        simp only at hi hL hj hln ⊢
        clear hHH
        obtain ⟨k,hkk,hgk,hmk,hck,hk0,hkc,hkL⟩ := kid i hi
        refine Go'.seq ?_
        refine Go'.seq ?_
        by_cases hlt : i < X.length
        · skip
          obtain ⟨y,hy⟩ : ∃ y,X[i]? = some y := ⟨X[i],List.getElem?_eq_getElem hlt⟩
          have hid := inter_drop hy hkL
          rw [hid] at hL hj hln
          rw [List.length_append,List.length_cons] at hj hln
          have hkln : (Gt.L h k).length < 4611686018427387904 := by omega
          refine Go'.region [(0,0),(1,0),(2,0),(3,0),(4,1),(5,0),(6,0)] rfl ?_
          refine O.mv rfl rfl rfl rfl rfl ?_
          refine O.mv rfl rfl rfl rfl rfl ?_
          refine O.nc rfl rfl rfl rfl rfl ?_
          refine O.fa0 (off := 2) rfl rfl rfl rfl ⟨_,_,_,underlying144,rfl,rfl,sizeOf141⟩ rfl ?_
          refine O.ld rfl rfl rfl (fun w => ⟨isAgg141 w,sizeOf141 w⟩) rfl hI.n.c2 ?_
          refine O.len rfl rfl rfl rfl underlying141 rfl ?_
          refine O.cmp rfl rfl rfl rfl rfl rfl (lssT (by omega)) ?_
          refine Pl.fin [(0,_),(1,_),(2,_),(6,_),(7,_),(8,_),(9,_),(57,_)] ⟨rfl,rfl,rfl,rfl,rfl,rfl,rfl,rfl,trivial⟩ ?_
          refine Go'.condT rfl ?_
          refine Go'.skip ?_
          refine Go'.seq ?_
          refine Go'.block ?_
          refine Go'.seq ?_
          refine Go'.seq ?_
          by_cases hjk : j < (Gt.L h k).length
          · skip
            have hLj : (Gt.L h k)[j]? = (Gt.L h k ++ y :: Pl.inter (X.drop (i + 1)) ((K.map (Gt.L h)).drop (i + 1)))[j]? := (List.getElem?_append_left hjk).symm
            refine Go'.region [(0,0),(1,0),(2,0),(3,0),(4,1),(5,0),(6,1),(7,0),(8,0),(9,1),(10,0),(11,0),(12,1),(13,0)] rfl ?_
            refine O.mv rfl rfl rfl rfl rfl ?_
            refine O.mv rfl rfl rfl rfl rfl ?_
            refine O.nc rfl rfl rfl rfl rfl ?_
            refine O.fa0 (off := 3) rfl rfl rfl rfl ⟨_,_,_,underlying144,rfl,rfl,sizeOf142⟩ rfl ?_
            refine O.ld rfl rfl rfl (fun w => ⟨isAgg142 w,sizeOf142 w⟩) rfl hI.n.c3 ?_
            refine O.nc rfl rfl rfl rfl rfl ?_
            refine O.ld rfl rfl rfl (fun w => ⟨isAgg145 w,sizeOf145 w⟩) rfl hI.k.c ?_
            refine O.mv rfl rfl rfl rfl rfl ?_
            refine O.ix (j := i) rfl rfl rfl rfl underlying145 sizeOf96 rfl rfl (by omega) (by omega) ?_
            refine O.ld rfl rfl rfl (fun w => ⟨isAgg96 w,sizeOf96 w⟩) rfl hck ?_
            refine O.nc rfl rfl rfl rfl rfl ?_
            refine O.fa0 (off := 1) rfl rfl rfl rfl ⟨_,_,_,underlying144,rfl,rfl,sizeOf3⟩ rfl ?_
            refine O.ld rfl rfl rfl (fun w => ⟨isAgg3 w,sizeOf3 w⟩) rfl hkc ?_
            refine O.cmp rfl rfl rfl rfl rfl rfl (lssT (by omega)) ?_
            refine Pl.fin [(0,_),(1,_),(2,_),(6,_),(7,_),(8,_),(9,_),(57,_),(73,_)] ⟨rfl,rfl,rfl,rfl,rfl,rfl,rfl,rfl,rfl,trivial⟩ ?_
            refine Go'.condT rfl ?_
            refine Go'.exit rfl ?_
            refine Go'.region [(0,0),(1,0),(2,0),(3,0),(4,1),(5,0),(6,1),(7,0),(8,0),(9,0),(10,2),(11,0)] rfl ?_
            refine O.mv rfl rfl rfl rfl rfl ?_
            refine O.mv rfl rfl rfl rfl rfl ?_
            refine O.nc rfl rfl rfl rfl rfl ?_
            refine O.fa0 (off := 3) rfl rfl rfl rfl ⟨_,_,_,underlying144,rfl,rfl,sizeOf142⟩ rfl ?_
            refine O.ld rfl rfl rfl (fun w => ⟨isAgg142 w,sizeOf142 w⟩) rfl hI.n.c3 ?_
            refine O.nc rfl rfl rfl rfl rfl ?_
            refine O.ld rfl rfl rfl (fun w => ⟨isAgg145 w,sizeOf145 w⟩) rfl hI.k.c ?_
            refine O.mv rfl rfl rfl rfl rfl ?_
            refine O.ix (j := i) rfl rfl rfl rfl underlying145 sizeOf96 rfl rfl (by omega) (by omega) ?_
            refine O.mv rfl rfl rfl rfl rfl ?_
            refine O.callQ rfl rfl rfl call114 rfl (isoLoad_spec mt hck hk0 tc.iso) trivial ?_
            refine O.asg rfl rfl rfl rfl rfl ?_
            refine Pl.fin [(0,_),(1,_),(2,_),(6,_),(7,_),(8,_),(9,_),(57,_),(73,_)] ⟨rfl,rfl,rfl,rfl,rfl,rfl,rfl,rfl,rfl,trivial⟩ ?_
            refine Go'.inBlock ?_
            refine Go'.keep [(0,_),(1,_),(2,_),(6,_),(7,_),(8,_)] ⟨rfl,rfl,rfl,rfl,rfl,rfl,trivial⟩ ?_
            refine Go'.inLoop ?_
            exact ih ⟨h,k,j⟩ H ⟨rfl,hgk,Nat.le_trans hh1 hmk,by simp only; rw [← hL]; exact hLj,hjk,hkln⟩ (Nat.lt_succ_self h)
          · skip
            refine Go'.region [(0,0),(1,0),(2,0),(3,0),(4,1),(5,0),(6,1),(7,0),(8,0),(9,1),(10,0),(11,0),(12,1),(13,0)] rfl ?_
            refine O.mv rfl rfl rfl rfl rfl ?_
            refine O.mv rfl rfl rfl rfl rfl ?_
            refine O.nc rfl rfl rfl rfl rfl ?_
            refine O.fa0 (off := 3) rfl rfl rfl rfl ⟨_,_,_,underlying144,rfl,rfl,sizeOf142⟩ rfl ?_
            refine O.ld rfl rfl rfl (fun w => ⟨isAgg142 w,sizeOf142 w⟩) rfl hI.n.c3 ?_
            refine O.nc rfl rfl rfl rfl rfl ?_
            refine O.ld rfl rfl rfl (fun w => ⟨isAgg145 w,sizeOf145 w⟩) rfl hI.k.c ?_
            refine O.mv rfl rfl rfl rfl rfl ?_
            refine O.ix (j := i) rfl rfl rfl rfl underlying145 sizeOf96 rfl rfl (by omega) (by omega) ?_
            refine O.ld rfl rfl rfl (fun w => ⟨isAgg96 w,sizeOf96 w⟩) rfl hck ?_
            refine O.nc rfl rfl rfl rfl rfl ?_
            refine O.fa0 (off := 1) rfl rfl rfl rfl ⟨_,_,_,underlying144,rfl,rfl,sizeOf3⟩ rfl ?_
            refine O.ld rfl rfl rfl (fun w => ⟨isAgg3 w,sizeOf3 w⟩) rfl hkc ?_
            refine O.cmp rfl rfl rfl rfl rfl rfl (lssF (by omega)) ?_
            refine Pl.fin [(0,_),(1,_),(2,_),(6,_),(7,_),(8,_),(9,_),(57,_),(73,_)] ⟨rfl,rfl,rfl,rfl,rfl,rfl,rfl,rfl,rfl,trivial⟩ ?_
            refine Go'.condF rfl ?_
            refine Go'.seq ?_
            by_cases hje : j = (Gt.L h k).length
            · skip
              have hyl : l[j0]? = some y := by rw [← hL,hje,List.getElem?_append_right (Nat.le_refl _),Nat.sub_self]; rfl
              rw [hyl]
              refine Go'.region [(0,0),(1,0),(2,0),(3,0),(4,1),(5,0),(6,1),(7,0),(8,0),(9,1),(10,0),(11,0),(12,1),(13,0)] rfl ?_
              refine O.mv rfl rfl rfl rfl rfl ?_
              refine O.mv rfl rfl rfl rfl rfl ?_
              refine O.nc rfl rfl rfl rfl rfl ?_
              refine O.fa0 (off := 3) rfl rfl rfl rfl ⟨_,_,_,underlying144,rfl,rfl,sizeOf142⟩ rfl ?_
              refine O.ld rfl rfl rfl (fun w => ⟨isAgg142 w,sizeOf142 w⟩) rfl hI.n.c3 ?_
              refine O.nc rfl rfl rfl rfl rfl ?_
              refine O.ld rfl rfl rfl (fun w => ⟨isAgg145 w,sizeOf145 w⟩) rfl hI.k.c ?_
              refine O.mv rfl rfl rfl rfl rfl ?_
              refine O.ix (j := i) rfl rfl rfl rfl underlying145 sizeOf96 rfl rfl (by omega) (by omega) ?_
              refine O.ld rfl rfl rfl (fun w => ⟨isAgg96 w,sizeOf96 w⟩) rfl hck ?_
              refine O.nc rfl rfl rfl rfl rfl ?_
              refine O.fa0 (off := 1) rfl rfl rfl rfl ⟨_,_,_,underlying144,rfl,rfl,sizeOf3⟩ rfl ?_
              refine O.ld rfl rfl rfl (fun w => ⟨isAgg3 w,sizeOf3 w⟩) rfl hkc ?_
              refine O.cmp rfl rfl rfl rfl rfl rfl (eqlT (by omega)) ?_
              refine Pl.fin [(0,_),(1,_),(2,_),(6,_),(7,_),(8,_),(9,_),(57,_),(73,_),(87,_)] ⟨rfl,rfl,rfl,rfl,rfl,rfl,rfl,rfl,rfl,rfl,trivial⟩ ?_
              refine Go'.condT rfl ?_
              refine Go'.seq ?_
              have W3 := Wrote.nil H H.size 0
              refine Go'.region [(0,0),(1,0),(2,0),(3,1),(4,0),(5,0),(6,1),(7,0),(8,0)] rfl ?_
              refine O.mv rfl rfl rfl rfl rfl ?_
              refine O.nc rfl rfl rfl rfl rfl ?_
              refine O.fa0 (off := 2) rfl rfl rfl rfl ⟨_,_,_,underlying144,rfl,rfl,sizeOf141⟩ rfl ?_
              refine O.ld rfl rfl rfl (fun w => ⟨isAgg141 w,sizeOf141 w⟩) rfl hI.n.c2 ?_
              refine O.mv rfl rfl rfl rfl rfl ?_
              refine O.ix (j := i) rfl rfl rfl rfl underlying141 sizeOf20 rfl rfl (by omega) (by omega) ?_
              refine O.ld rfl rfl rfl (fun w => ⟨isAgg20 w,sizeOf20 w⟩) rfl (((hI.n.sl.item hy)) 0 _ rfl) ?_
              refine O.asg rfl rfl rfl rfl rfl ?_
              refine O.asg rfl rfl rfl rfl rfl ?_
              refine Pl.fin [(0,_),(1,_),(2,_),(6,_),(7,_),(8,_),(9,_),(57,_),(73,_),(87,_)] ⟨rfl,rfl,rfl,rfl,rfl,rfl,rfl,rfl,rfl,rfl,trivial⟩ ?_
              refine Go'.ret (vs := [_,_]) func108 results108 ⟨rfl,rfl,trivial⟩ ?_
              exact ⟨rfl,hF⟩
            · skip
              refine Go'.region [(0,0),(1,0),(2,0),(3,0),(4,1),(5,0),(6,1),(7,0),(8,0),(9,1),(10,0),(11,0),(12,1),(13,0)] rfl ?_
              refine O.mv rfl rfl rfl rfl rfl ?_
              refine O.mv rfl rfl rfl rfl rfl ?_
              refine O.nc rfl rfl rfl rfl rfl ?_
              refine O.fa0 (off := 3) rfl rfl rfl rfl ⟨_,_,_,underlying144,rfl,rfl,sizeOf142⟩ rfl ?_
              refine O.ld rfl rfl rfl (fun w => ⟨isAgg142 w,sizeOf142 w⟩) rfl hI.n.c3 ?_
              refine O.nc rfl rfl rfl rfl rfl ?_
              refine O.ld rfl rfl rfl (fun w => ⟨isAgg145 w,sizeOf145 w⟩) rfl hI.k.c ?_
              refine O.mv rfl rfl rfl rfl rfl ?_
              refine O.ix (j := i) rfl rfl rfl rfl underlying145 sizeOf96 rfl rfl (by omega) (by omega) ?_
              refine O.ld rfl rfl rfl (fun w => ⟨isAgg96 w,sizeOf96 w⟩) rfl hck ?_
              refine O.nc rfl rfl rfl rfl rfl ?_
              refine O.fa0 (off := 1) rfl rfl rfl rfl ⟨_,_,_,underlying144,rfl,rfl,sizeOf3⟩ rfl ?_
              refine O.ld rfl rfl rfl (fun w => ⟨isAgg3 w,sizeOf3 w⟩) rfl hkc ?_
              refine O.cmp rfl rfl rfl rfl rfl rfl (eqlF (by omega)) ?_
              refine Pl.fin [(0,_),(1,_),(2,_),(6,_),(7,_),(8,_),(9,_),(57,_),(73,_),(87,_)] ⟨rfl,rfl,rfl,rfl,rfl,rfl,rfl,rfl,rfl,rfl,trivial⟩ ?_
              refine Go'.condF rfl ?_
              refine Go'.skip ?_
              refine Go'.region [(0,0),(1,0),(2,0),(3,0),(4,1),(5,0),(6,1),(7,0),(8,0),(9,1),(10,0),(11,0),(12,1),(13,0),(14,0),(15,0)] rfl ?_
              refine O.mv rfl rfl rfl rfl rfl ?_
              refine O.mv rfl rfl rfl rfl rfl ?_
              refine O.nc rfl rfl rfl rfl rfl ?_
              refine O.fa0 (off := 3) rfl rfl rfl rfl ⟨_,_,_,underlying144,rfl,rfl,sizeOf142⟩ rfl ?_
              refine O.ld rfl rfl rfl (fun w => ⟨isAgg142 w,sizeOf142 w⟩) rfl hI.n.c3 ?_
              refine O.nc rfl rfl rfl rfl rfl ?_
              refine O.ld rfl rfl rfl (fun w => ⟨isAgg145 w,sizeOf145 w⟩) rfl hI.k.c ?_
              refine O.mv rfl rfl rfl rfl rfl ?_
              refine O.ix (j := i) rfl rfl rfl rfl underlying145 sizeOf96 rfl rfl (by omega) (by omega) ?_
              refine O.ld rfl rfl rfl (fun w => ⟨isAgg96 w,sizeOf96 w⟩) rfl hck ?_
              refine O.nc rfl rfl rfl rfl rfl ?_
              refine O.fa0 (off := 1) rfl rfl rfl rfl ⟨_,_,_,underlying144,rfl,rfl,sizeOf3⟩ rfl ?_
              refine O.ld rfl rfl rfl (fun w => ⟨isAgg3 w,sizeOf3 w⟩) rfl hkc ?_
              refine O.add (((((Gt.L h k).length) + 1 : Nat) : Int)) rfl rfl rfl rfl rfl rfl (by omega) (by omega) ?_
              refine O.sub (((j - ((Gt.L h k).length + 1) : Nat) : Int)) rfl rfl rfl rfl rfl rfl (by omega) (by omega) ?_
              refine O.asg rfl rfl rfl rfl rfl ?_
              refine Pl.fin [(0,_),(1,_),(2,_),(6,_),(7,_),(8,_),(9,_),(57,_),(73,_),(87,_)] ⟨rfl,rfl,rfl,rfl,rfl,rfl,rfl,rfl,rfl,rfl,trivial⟩ ?_
              refine Go'.inBlock ?_
              refine Go'.region [(0,0),(1,0),(2,0)] rfl ?_
              refine O.mv rfl rfl rfl rfl rfl ?_
              refine O.add (((i + 1 : Nat) : Int)) rfl rfl rfl rfl rfl rfl (by omega) (by omega) ?_
              refine O.asg rfl rfl rfl rfl rfl ?_
              refine Pl.fin [(0,_),(1,_),(2,_),(6,_),(7,_),(8,_),(9,_),(57,_),(73,_),(87,_)] ⟨rfl,rfl,rfl,rfl,rfl,rfl,rfl,rfl,rfl,rfl,trivial⟩ ?_
              refine Go'.keep [(0,_),(1,_),(2,_),(6,_),(7,_),(8,_),(9,_)] ⟨rfl,rfl,rfl,rfl,rfl,rfl,rfl,trivial⟩ ?_
              refine Go'.inLoop ?_
              exact ih2 (i + 1,j - ((Gt.L h k).length + 1)) H ⟨rfl,hlt,by
                simp only
                rw [← hL,List.getElem?_append_right (by omega)]
                obtain ⟨m,hm⟩ : ∃ m,j - (Gt.L h k).length = m + 1 := ⟨j - (Gt.L h k).length - 1,by omega⟩
                rw [hm,List.getElem?_cons_succ,show j - ((Gt.L h k).length + 1) = m by omega],by simp only; omega,by simp only; omega⟩ (by simp only; omega)
        · skip
          obtain rfl : i = X.length := by omega
          have hid := inter_drope (by rw [List.length_map]; exact hKl) hkL
          rw [hid] at hL hj hln
          have hkln := hln
          have hjk := hj
          have hLj : (Gt.L h k)[j]? = (Gt.L h k)[j]? := rfl
          refine Go'.region [(0,0),(1,0),(2,0),(3,0),(4,1),(5,0),(6,0)] rfl ?_
          refine O.mv rfl rfl rfl rfl rfl ?_
          refine O.mv rfl rfl rfl rfl rfl ?_
          refine O.nc rfl rfl rfl rfl rfl ?_
          refine O.fa0 (off := 2) rfl rfl rfl rfl ⟨_,_,_,underlying144,rfl,rfl,sizeOf141⟩ rfl ?_
          refine O.ld rfl rfl rfl (fun w => ⟨isAgg141 w,sizeOf141 w⟩) rfl hI.n.c2 ?_
          refine O.len rfl rfl rfl rfl underlying141 rfl ?_
          refine O.cmp rfl rfl rfl rfl rfl rfl (lssF (by omega)) ?_
          refine Pl.fin [(0,_),(1,_),(2,_),(6,_),(7,_),(8,_),(9,_),(57,_)] ⟨rfl,rfl,rfl,rfl,rfl,rfl,rfl,rfl,trivial⟩ ?_
          refine Go'.condF rfl ?_
          refine Go'.exit rfl ?_
          refine Go'.region [(0,0),(1,0),(2,0),(3,0),(4,1),(5,0),(6,1),(7,0),(8,0),(9,0),(10,2),(11,0)] rfl ?_
          refine O.mv rfl rfl rfl rfl rfl ?_
          refine O.mv rfl rfl rfl rfl rfl ?_
          refine O.nc rfl rfl rfl rfl rfl ?_
          refine O.fa0 (off := 3) rfl rfl rfl rfl ⟨_,_,_,underlying144,rfl,rfl,sizeOf142⟩ rfl ?_
          refine O.ld rfl rfl rfl (fun w => ⟨isAgg142 w,sizeOf142 w⟩) rfl hI.n.c3 ?_
          refine O.nc rfl rfl rfl rfl rfl ?_
          refine O.ld rfl rfl rfl (fun w => ⟨isAgg145 w,sizeOf145 w⟩) rfl hI.k.c ?_
          refine O.mv rfl rfl rfl rfl rfl ?_
          refine O.ix (j := X.length) rfl rfl rfl rfl underlying145 sizeOf96 rfl rfl (by omega) (by omega) ?_
          refine O.mv rfl rfl rfl rfl rfl ?_
          refine O.callQ rfl rfl rfl call114 rfl (isoLoad_spec mt hck hk0 tc.iso) trivial ?_
          refine O.asg rfl rfl rfl rfl rfl ?_
          refine Pl.fin [(0,_),(1,_),(2,_),(6,_),(7,_),(8,_),(9,_),(57,_)] ⟨rfl,rfl,rfl,rfl,rfl,rfl,rfl,rfl,trivial⟩ ?_
          refine Go'.inBlock ?_
          refine Go'.keep [(0,_),(1,_),(2,_),(6,_),(7,_),(8,_)] ⟨rfl,rfl,rfl,rfl,rfl,rfl,trivial⟩ ?_
          refine Go'.inLoop ?_
          exact ih ⟨h,k,j⟩ H ⟨rfl,hgk,Nat.le_trans hh1 hmk,hL,hjk,hkln⟩ (Nat.lt_succ_self h)

theorem getat_spec {B : World} {H : Mem} {tr : Nat} {P : Ps} (hP : PsOk P) {S : Nat → Prop} {l : List (Int × Int)} (hM : MapM H tr P S l) (z : Int) (hll : l.length < 4611686018427387904) :
    Fn Try.prog B 85 [.pointer (some ⟨tr,0,none⟩),.int .i64 z] H (fun r H' => r = .tuple #[PV (ath l z),.bool (ath l z).isSome] ∧ Fr nowhere H H') := by
  refine fn_of func85 rfl ntmps85 ?_
  refine (show Go' _ _ _ _ 11 [(0,_),(1,_)] [.code _] _ from ?_)
  refine Go'.seq ?_
  have M0 := Mk0.mk' H
  have hs0 := M0.size
  refine Go'.region [(0,0),(1,0)] rfl ?_
  refine O.asg rfl rfl rfl rfl rfl ?_
  refine O.asg rfl rfl rfl rfl rfl ?_
  refine Pl.fin [(0,_),(1,_),(4,_),(5,_)] ⟨rfl,rfl,rfl,rfl,trivial⟩ ?_
  refine Go'.seq ?_
  refine Go'.region [(0,0),(1,0),(2,2),(3,0),(4,0),(5,0),(6,0)] rfl ?_
  refine O.mv rfl rfl rfl rfl rfl ?_
  refine O.mv rfl rfl rfl rfl rfl ?_
  refine O.call rfl rfl rfl call108 rfl (getAt_spec hP hM z true hll) ?_
  rintro _ H2 ⟨rfl,hF2⟩
  have hs2 := hF2.size
  refine ⟨trivial,?_⟩
  refine O.ext rfl rfl rfl rfl rfl rfl ?_
  refine O.ext rfl rfl rfl rfl rfl rfl ?_
  refine O.asg rfl rfl rfl rfl rfl ?_
  refine O.asg rfl rfl rfl rfl rfl ?_
  refine Pl.fin [(4,_),(5,_)] ⟨rfl,rfl,trivial⟩ ?_
  have W3 := Wrote.nil H2 H2.size 0
  refine Go'.ret (vs := [_,_]) func85 results85 ⟨rfl,rfl,trivial⟩ ?_
  exact ⟨rfl,hF2⟩
theorem bGetAtMut_spec {B : World} {H : Mem} {tr bt : Nat} {P : Ps} (hP : PsOk P) {S : Nat → Prop} {l : List (Int × Int)} (hM : MapM H tr P S l) (hb : cl H bt 0 = some (ptr tr)) (z : Int) (hll : l.length < 4611686018427387904) :
    Fn Try.prog B 59 [ptr bt,.int .i64 z] H (fun r H' => r = PV (ath l z) ∧ Fr nowhere H H') := by
  unfold ptr at hb ⊢
  refine fn_of func59 rfl ntmps59 ?_
  refine (show Go' _ _ _ _ 19 [(0,_),(1,_)] [.code _] _ from ?_)
  refine Go'.seq ?_
  refine Go'.region [(0,0)] rfl ?_
  refine O.asg rfl rfl rfl rfl rfl ?_
  refine Pl.fin [(0,_),(1,_),(4,_)] ⟨rfl,rfl,rfl,trivial⟩ ?_
  refine Go'.seq ?_
  refine Go'.region [(0,0),(1,0),(2,0),(3,1),(4,0),(5,2),(6,0),(7,0),(8,0),(9,0),(10,0)] rfl ?_
  refine O.mv rfl rfl rfl rfl rfl ?_
  refine O.nc rfl rfl rfl rfl rfl ?_
  refine O.faz rfl rfl rfl rfl ⟨_,_,_,underlying115,rfl,rfl,sizeOf95⟩ rfl ?_
  refine O.ld rfl rfl rfl (fun w => ⟨isAgg95 w,sizeOf95 w⟩) rfl hb ?_
  refine O.mv rfl rfl rfl rfl rfl ?_
  refine O.call rfl rfl rfl call85 rfl (getat_spec hP hM z hll) ?_
  rintro _ H2 ⟨rfl,hF2⟩
  refine ⟨trivial,?_⟩
  refine O.mv rfl rfl rfl rfl rfl ?_
  refine O.ext rfl rfl rfl rfl rfl rfl ?_
  refine O.ext rfl rfl rfl rfl rfl rfl ?_
  refine O.asg rfl rfl rfl rfl rfl ?_
  refine O.asg rfl rfl rfl rfl rfl ?_
  refine Pl.fin [(4,_),(5,_),(6,_)] ⟨rfl,rfl,rfl,trivial⟩ ?_
  refine Go'.seq ?_
  refine Go'.seq ?_
  cases hg : ath l z with
  | none =>
    refine Go'.region [(0,0),(1,0)] rfl ?_
    refine O.mv rfl rfl rfl rfl rfl ?_
    refine O.not rfl rfl rfl rfl rfl ?_
    refine Pl.fin [(4,_),(5,_),(17,_)] ⟨rfl,rfl,rfl,trivial⟩ ?_
    refine Go'.condT rfl ?_
    refine Go'.seq ?_
    refine Go'.region [(0,0)] rfl ?_
    refine O.asg rfl rfl rfl rfl rfl ?_
    refine Pl.fin [(4,_),(5,_)] ⟨rfl,rfl,trivial⟩ ?_
    refine Go'.ret (vs := [_]) func59 results59 ⟨rfl,trivial⟩ ?_
    exact ⟨rfl,hF2⟩
  | some y =>
    refine Go'.region [(0,0),(1,0)] rfl ?_
    refine O.mv rfl rfl rfl rfl rfl ?_
    refine O.not rfl rfl rfl rfl rfl ?_
    refine Pl.fin [(4,_),(5,_),(17,_)] ⟨rfl,rfl,rfl,trivial⟩ ?_
    refine Go'.condF rfl ?_
    refine Go'.skip ?_
    refine Go'.seq ?_
    refine Go'.region [(0,0),(1,0)] rfl ?_
    refine O.mv rfl rfl rfl rfl rfl ?_
    refine O.asg rfl rfl rfl rfl rfl ?_
    refine Pl.fin [(4,_)] ⟨rfl,trivial⟩ ?_
    refine Go'.ret (vs := [_]) func59 results59 ⟨rfl,trivial⟩ ?_
    exact ⟨rfl,hF2⟩
end
end Go.Bt.FB
namespace Go.Bt.FB
open Go Go.Proofs Go.Proofs.Try
set_option maxRecDepth 20000
set_option maxHeartbeats 4000000
set_option linter.unusedVariables false
set_option linter.unusedSectionVars false

theorem ibgetatmut_spec {B : World} {H : Mem} {d : Nat} {nl : Bool} {v u : Value} {ord : List Int} {l : List (Int × Int)} {va : Value} {zs : List Int} (hd : d = 0 ∨ 2 ≤ d ∧ d ≤ 128) (ho : InS EN H v ord) (hol : ord.length ≤ 4294967296) (hi : InS EJ H u l) (hll : l.length ≤ 4294967296) (ha : InS EN H va zs) (hal : zs.length ≤ 4294967296) :
    Fn Try.prog B 33 [.agg #[v,.int .i64 (d : Int),.bool nl],u,va] H (fun r H' => OutS EF H' r (zs.map (ath (Pl.puts (OO ord) l))) ∧ Fr nowhere H H') := by
  obtain ⟨a,c,hu⟩ := hi.len
  subst hu
  obtain ⟨av,mv,cv,hv⟩ := InS.form ho
  subst hv
  have hF : Fr nowhere H H := Fr.refl _ _
  have hP := PD_ok hd
  obtain ⟨aa,ca,ha0⟩ := ha.len
  subst ha0
  refine fn_of func33 rfl ntmps33 ?_
  refine (show Go' _ _ _ _ 29 [(0,_),(1,_),(2,_)] [.code _] _ from ?_)
  refine Go'.seq ?_
  refine Go'.region [(0,2),(1,0)] rfl ?_
  refine O.box rfl rfl rfl rfl ?_
  intro B1 MB1
  refine ⟨trivial,?_⟩
  have hsB1 := MB1.size
  replace hF := hF.trans (MB1.fr nowhere)
  have mm : Rd B1 H.size 0 [.slice av mv cv,.int .i64 (d : Int),.bool nl] := MB1.rd _ [] (by simp [Value.cells])
  have mm0 : cl B1 H.size 0 = some (.slice av mv cv) := mm 0 _ rfl
  have mm1 : cl B1 H.size (0 + 1) = some (.int .i64 (d : Int)) := mm 1 _ rfl
  refine O.asg rfl rfl rfl rfl rfl ?_
  refine Pl.fin [(1,_),(2,_),(3,_),(6,_)] ⟨rfl,rfl,rfl,rfl,trivial⟩ ?_
  refine Go'.seq ?_
  refine Go'.region [(0,1),(1,0),(2,2),(3,0)] rfl ?_
  refine O.lds rfl rfl rfl (fun w => ⟨isAgg24 w,sizeOf24 w⟩) rfl rfl mm ?_
  refine O.mv rfl rfl rfl rfl rfl ?_
  refine O.call rfl rfl rfl call51 rfl (grow_spec hd (ho.fr hF) hol (hi.fr hF) hll) ?_
  rintro _ H3 ⟨I,hIo,hIw,hIb,tr,S,bt,rfl,hM,hbt,hbl,hbu,hbS,hF3,hS⟩
  have hs3 := hF3.size
  replace hF := hF.trans hF3
  replace mm := hF3.rd mm (fun _ _ => nw)
  replace mm0 := hF3.keep mm0 nw
  replace mm1 := hF3.keep mm1 nw
  have hSb : ∀ b,S b ∨ (b < cx.base ∧ cx.own b) → B1.size ≤ b := fun b hb => hb.elim (hS b) (fun h => hIw b h.2)
  have hbg := hbl
  have hOO : OO ord = OI := by rw [← hIo]; rfl
  have hpl := Pl.puts_length OI l
  have hSlt := hM.lt
  have hbs := hM.tc.hb
  unfold ptr
  refine ⟨trivial,?_⟩
  refine O.asg rfl rfl rfl rfl rfl ?_
  refine Pl.fin [(2,_),(6,_),(7,_)] ⟨rfl,rfl,rfl,trivial⟩ ?_
  refine Go'.seq ?_
  refine Go'.region [(0,0)] rfl ?_
  refine O.asg rfl rfl rfl rfl rfl ?_
  refine Pl.fin [(2,_),(6,_),(7,_),(8,_)] ⟨rfl,rfl,rfl,rfl,trivial⟩ ?_
  refine Go'.seq ?_
  refine Go'.seq ?_
  refine Go'.region [(0,0),(1,0),(2,0)] rfl ?_
  refine O.mv rfl rfl rfl rfl rfl ?_
  refine O.len rfl rfl rfl rfl underlying22 rfl ?_
  refine O.mv rfl rfl rfl rfl rfl ?_
  refine Pl.fin [(6,_),(7,_),(8,_),(14,_),(15,_),(16,_)] ⟨rfl,rfl,rfl,rfl,rfl,rfl,trivial⟩ ?_
  refine Go'.block ?_
  refine Go'.loop ?_
  refine Go'.keep [(6,_),(7,_),(8,_),(14,_),(15,_),(16,_)] ⟨rfl,rfl,rfl,rfl,rfl,rfl,trivial⟩ ?_
  refine Go'.ind (σ := Nat × Value) (fun s => zs.length - s.1) (fun s H' => s.1 ≤ zs.length ∧ Fr nowhere H3 H' ∧ ∃ Zo,Acc EF Zo H' s.2 ((zs.map (ath (Pl.puts (OO ord) l))).take s.1) ∧ ∀ b,Zo b → H3.size ≤ b ∧ b < H'.size)
    (fun s => [(6,.slice none 0 0),(7,.pointer (some ⟨bt,0,none⟩)),(8,s.2),(14,.slice aa zs.length ca),(15,.int .i64 (zs.length : Int)),(16,.int .i64 (s.1 : Int))]) (0,.slice none 0 0) ⟨Nat.zero_le _,Fr.refl _ _,fun _ => False,Acc.nil _ _ _,fun _ h => h.elim⟩ rfl ?_
  rintro ⟨j,sv⟩ H4 ⟨hjl,hF34,Zo,hA,hZ⟩ ih
  simp only at hjl hA
  have hF2 := hF.trans hF34
  have hsz4 := hF34.size
  have hM4 := hM
  replace hM4 := hM4.fr hF34 (fun _ _ _ => nw)
  refine Go'.seq ?_
  by_cases hlt : j < zs.length
  · skip
    obtain ⟨z,hz⟩ : ∃ z,zs[j]? = some z := ⟨zs[j],List.getElem?_eq_getElem hlt⟩
    obtain ⟨b,o,c',e,hr⟩ := (ha.fr hF2).at hz
    cases e
    have hb4 := hF34.keep hbt nw
    have eout : (zs.map (ath (Pl.puts (OO ord) l))).take (j + 1) = (zs.map (ath (Pl.puts (OO ord) l))).take j ++ [ath (Pl.puts OI l) z] := by rw [List.take_add_one,List.getElem?_map,hz,hOO]; rfl
    have hlo : ((zs.map (ath (Pl.puts (OO ord) l))).take j).length = j := by rw [List.length_take,List.length_map]; omega
    refine Go'.region [(0,0)] rfl ?_
    refine O.cmp rfl rfl rfl rfl rfl rfl (lssT (by omega)) ?_
    refine Pl.fin [(6,_),(7,_),(8,_),(14,_),(15,_),(16,_),(17,_)] ⟨rfl,rfl,rfl,rfl,rfl,rfl,rfl,trivial⟩ ?_
    refine Go'.seq ?_
    refine Go'.condT rfl ?_
    refine Go'.skip ?_
    refine Go'.seq ?_
    refine Go'.block ?_
    refine Go'.seq ?_
    refine Go'.region [(0,0),(1,1),(2,0)] rfl ?_
    refine O.ix (j := j) rfl rfl rfl rfl underlying22 sizeOf3 rfl rfl (by omega) hlt ?_
    refine O.ld rfl rfl rfl (fun w => ⟨isAgg3 w,sizeOf3 w⟩) rfl (hr 0 _ rfl) ?_
    refine O.asg rfl rfl rfl rfl rfl ?_
    refine Pl.fin [(6,_),(7,_),(8,_),(10,_),(14,_),(15,_),(16,_),(17,_)] ⟨rfl,rfl,rfl,rfl,rfl,rfl,rfl,rfl,trivial⟩ ?_
    refine Go'.region [(0,0),(1,0),(2,0),(3,2),(4,2),(5,2),(6,2),(7,0)] rfl ?_
    refine O.mv rfl rfl rfl rfl rfl ?_
    refine O.mv rfl rfl rfl rfl rfl ?_
    refine O.mv rfl rfl rfl rfl rfl ?_
    refine O.call rfl rfl rfl call59 rfl (bGetAtMut_spec hP hM4 hb4 z (by omega)) ?_
    rintro _ H5 ⟨rfl,hF5⟩
    have hshF5 := hF5.size
    replace hM4 := hM4.fr hF5 (fun _ _ _ => nw)
    replace hA := hA.fr hF5 (fun _ _ _ _ => nw)
    replace hF34 := hF34.trans hF5
    refine ⟨trivial,?_⟩
    refine O.call rfl rfl rfl call56 rfl (foundAny_spec _) ?_
    rintro _ H6 ⟨rfl,hF6⟩
    have hshF6 := hF6.size
    replace hM4 := hM4.fr hF6 (fun _ _ _ => nw)
    replace hA := hA.fr hF6 (fun _ _ _ _ => nw)
    replace hF34 := hF34.trans hF6
    rw [FVe]
    refine ⟨trivial,?_⟩
    refine O.bsl (cs := (fvs (ath (Pl.puts OI l) z))) rfl rfl rfl ⟨underlying48,sizeOf44,zeroValue44,⟨_,typeInfo44,rfl⟩,rfl,by decide,by decide⟩ rfl (by decide) (by generalize (ath (Pl.puts OI l) z) = o; cases o <;> kernel_rfl) ?_
    intro H7 M7
    have hs7 := M7.size
    replace hM4 := hM4.fr (M7.fr nowhere) (fun _ _ _ => nw)
    replace hA := hA.fr (M7.fr nowhere) (fun _ _ _ _ => nw)
    replace hF34 := hF34.trans (M7.fr nowhere)
    have m5 : Rd H7 H6.size 0 (row EF [(ath (Pl.puts OI l) z)]) := M7.rd _ [] (by simp [row,EF])
    refine ⟨trivial,?_⟩
    refine O.appA (E := EF) (Y := [(ath (Pl.puts OI l) z)]) rfl rfl rfl ⟨underlying48,sizeOf44,zeroValue44,⟨_,typeInfo44,rfl⟩,rfl,by decide,by decide⟩ rfl hA rfl ⟨_,_,_,rfl,m5⟩ (Nat.succ_pos _) (by rw [hlo]; exact Nat.le_trans (Nat.mul_le_mul_left _ (Nat.le_of_ble_eq_true (n := _) (m := 4096) rfl)) (by simp only [List.length_cons,List.length_nil]; omega)) (by rw [hlo]; simp only [List.length_cons,List.length_nil]; omega) ?_
    intro v8 H8 hA8 hF8 hs8
    have hs88 := hF8.size
    rw [← eout] at hA8
    refine ⟨trivial,?_⟩
    refine O.asg rfl rfl rfl rfl rfl ?_
    refine Pl.fin [(6,_),(7,_),(8,_),(10,_),(14,_),(15,_),(16,_),(17,_)] ⟨rfl,rfl,rfl,rfl,rfl,rfl,rfl,rfl,trivial⟩ ?_
    refine Go'.inBlock ?_
    refine Go'.region [(0,0),(1,0)] rfl ?_
    refine O.add (((j + 1 : Nat) : Int)) rfl rfl rfl rfl rfl rfl (by omega) (by omega) ?_
    refine O.mv rfl rfl rfl rfl rfl ?_
    refine Pl.fin [(6,_),(7,_),(8,_),(10,_),(14,_),(15,_),(16,_),(17,_)] ⟨rfl,rfl,rfl,rfl,rfl,rfl,rfl,rfl,trivial⟩ ?_
    refine Go'.keep [(6,_),(7,_),(8,_),(14,_),(15,_),(16,_)] ⟨rfl,rfl,rfl,rfl,rfl,rfl,trivial⟩ ?_
    refine Go'.inLoop ?_
    exact ih (j + 1,v8) H8 ⟨hlt,hF34.trans' hF8 (fun _ _ _ h => h) (fun b o hb hz => by have h1 := (hZ b hz).1; omega),fun b => Zo b ∨ (b = H7.size ∧ b < H8.size),hA8,fun b hb => hb.elim (fun h => ⟨(hZ b h).1,by have := (hZ b h).2; omega⟩) (fun h => ⟨by omega,h.2⟩)⟩ (by simp only; omega)
  · skip
    have ejl : j = zs.length := by omega
    have eall : (zs.map (ath (Pl.puts (OO ord) l))).take j = (zs.map (ath (Pl.puts (OO ord) l))) := by rw [ejl]; exact List.take_of_length_le (by rw [List.length_map]; exact Nat.le_refl _)
    rw [eall] at hA
    refine Go'.region [(0,0)] rfl ?_
    refine O.cmp rfl rfl rfl rfl rfl rfl (lssF (by omega)) ?_
    refine Pl.fin [(6,_),(7,_),(8,_),(14,_),(15,_),(16,_),(17,_)] ⟨rfl,rfl,rfl,rfl,rfl,rfl,rfl,trivial⟩ ?_
    refine Go'.seq ?_
    refine Go'.condF rfl ?_
    refine Go'.exit rfl ?_
    refine Go'.seq ?_
    refine Go'.region [(0,0),(1,0)] rfl ?_
    refine O.mv rfl rfl rfl rfl rfl ?_
    refine O.asg rfl rfl rfl rfl rfl ?_
    refine Pl.fin [(6,_)] ⟨rfl,trivial⟩ ?_
    refine Go'.ret (vs := [_]) func33 results33 ⟨rfl,trivial⟩ ?_
    exact ⟨hA.out,hF2⟩

theorem sggetat_spec {B : World} {H : Mem} {zz : Int} {nl : Bool} {v u : Value} {ord : List Int} {l : List (Int × Int)} {va : Value} {zs : List Int} (ho : InS EN H v ord) (hol : ord.length ≤ 4294967296) (hi : InS EJ H u l) (hll : l.length ≤ 4294967296) (ha : InS EN H va zs) (hal : zs.length ≤ 4294967296) :
    Fn Try.prog B 34 [.agg #[v,.int .i64 zz,.bool nl],u,va] H (fun r H' => OutS EF H' r (zs.map (ath (Pl.puts (OO ord) l))) ∧ Fr nowhere H H') := by
  obtain ⟨a,c,hu⟩ := hi.len
  subst hu
  obtain ⟨av,mv,cv,hv⟩ := InS.form ho
  subst hv
  have hF : Fr nowhere H H := Fr.refl _ _
  obtain ⟨aa,ca,ha0⟩ := ha.len
  subst ha0
  refine fn_of func34 rfl ntmps34 ?_
  refine (show Go' _ _ _ _ 29 [(0,_),(1,_),(2,_)] [.code _] _ from ?_)
  refine Go'.seq ?_
  refine Go'.region [(0,2),(1,0)] rfl ?_
  refine O.box rfl rfl rfl rfl ?_
  intro B1 MB1
  refine ⟨trivial,?_⟩
  have hsB1 := MB1.size
  replace hF := hF.trans (MB1.fr nowhere)
  have mm : Rd B1 H.size 0 [.slice av mv cv,.int .i64 zz,.bool nl] := MB1.rd _ [] (by simp [Value.cells])
  have mm0 : cl B1 H.size 0 = some (.slice av mv cv) := mm 0 _ rfl
  have mm1 : cl B1 H.size (0 + 1) = some (.int .i64 zz) := mm 1 _ rfl
  refine O.asg rfl rfl rfl rfl rfl ?_
  refine Pl.fin [(1,_),(2,_),(3,_),(6,_)] ⟨rfl,rfl,rfl,rfl,trivial⟩ ?_
  refine Go'.seq ?_
  refine Go'.region [(0,0),(1,1),(2,0),(3,2),(4,0)] rfl ?_
  refine O.faz rfl rfl rfl rfl ⟨_,_,_,underlying24,rfl,rfl,sizeOf22⟩ rfl ?_
  refine O.ld rfl rfl rfl (fun w => ⟨isAgg22 w,sizeOf22 w⟩) rfl mm0 ?_
  refine O.mv rfl rfl rfl rfl rfl ?_
  refine O.call rfl rfl rfl call48 rfl (tree_spec (ho.fr hF) (by omega) (hi.fr hF) hll) ?_
  rintro tv H3 ⟨hA4,hF3⟩
  have hs3 := hF3.size
  replace hF := hF.trans hF3
  replace mm := hF3.rd mm (fun _ _ => nw)
  replace mm0 := hF3.keep mm0 nw
  replace mm1 := hF3.keep mm1 nw
  have hM := hA4.inS
  have hpl := Pl.puts_length (OO ord) l
  obtain ⟨ta,tc,htv⟩ := hM.len
  subst htv
  refine ⟨trivial,?_⟩
  refine O.asg rfl rfl rfl rfl rfl ?_
  refine Pl.fin [(2,_),(6,_),(7,_)] ⟨rfl,rfl,rfl,trivial⟩ ?_
  refine Go'.seq ?_
  refine Go'.region [(0,0)] rfl ?_
  refine O.asg rfl rfl rfl rfl rfl ?_
  refine Pl.fin [(2,_),(6,_),(7,_),(8,_)] ⟨rfl,rfl,rfl,rfl,trivial⟩ ?_
  refine Go'.seq ?_
  refine Go'.seq ?_
  refine Go'.region [(0,0),(1,0),(2,0)] rfl ?_
  refine O.mv rfl rfl rfl rfl rfl ?_
  refine O.len rfl rfl rfl rfl underlying22 rfl ?_
  refine O.mv rfl rfl rfl rfl rfl ?_
  refine Pl.fin [(6,_),(7,_),(8,_),(15,_),(16,_),(17,_)] ⟨rfl,rfl,rfl,rfl,rfl,rfl,trivial⟩ ?_
  refine Go'.block ?_
  refine Go'.loop ?_
  refine Go'.keep [(6,_),(7,_),(8,_),(15,_),(16,_),(17,_)] ⟨rfl,rfl,rfl,rfl,rfl,rfl,trivial⟩ ?_
  refine Go'.ind (σ := Nat × Value) (fun s => zs.length - s.1) (fun s H' => s.1 ≤ zs.length ∧ Fr nowhere H3 H' ∧ ∃ Zo,Acc EF Zo H' s.2 ((zs.map (ath (Pl.puts (OO ord) l))).take s.1) ∧ ∀ b,Zo b → H3.size ≤ b ∧ b < H'.size)
    (fun s => [(6,.slice none 0 0),(7,.slice ta (Pl.puts (OO ord) l).length tc),(8,s.2),(15,.slice aa zs.length ca),(16,.int .i64 (zs.length : Int)),(17,.int .i64 (s.1 : Int))]) (0,.slice none 0 0) ⟨Nat.zero_le _,Fr.refl _ _,fun _ => False,Acc.nil _ _ _,fun _ h => h.elim⟩ rfl ?_
  rintro ⟨j,sv⟩ H4 ⟨hjl,hF34,Zo,hA,hZ⟩ ih
  simp only at hjl hA
  have hF2 := hF.trans hF34
  have hsz4 := hF34.size
  have hM4 := hM
  replace hM4 := hM4.fr hF34
  refine Go'.seq ?_
  by_cases hlt : j < zs.length
  · skip
    obtain ⟨z,hz⟩ : ∃ z,zs[j]? = some z := ⟨zs[j],List.getElem?_eq_getElem hlt⟩
    obtain ⟨b,o,c',e,hr⟩ := (ha.fr hF2).at hz
    cases e
    have eout : (zs.map (ath (Pl.puts (OO ord) l))).take (j + 1) = (zs.map (ath (Pl.puts (OO ord) l))).take j ++ [ath (Pl.puts (OO ord) l) z] := by rw [List.take_add_one,List.getElem?_map,hz]; rfl
    have hlo : ((zs.map (ath (Pl.puts (OO ord) l))).take j).length = j := by rw [List.length_take,List.length_map]; omega
    refine Go'.region [(0,0)] rfl ?_
    refine O.cmp rfl rfl rfl rfl rfl rfl (lssT (by omega)) ?_
    refine Pl.fin [(6,_),(7,_),(8,_),(15,_),(16,_),(17,_),(18,_)] ⟨rfl,rfl,rfl,rfl,rfl,rfl,rfl,trivial⟩ ?_
    refine Go'.seq ?_
    refine Go'.condT rfl ?_
    refine Go'.skip ?_
    refine Go'.seq ?_
    refine Go'.block ?_
    refine Go'.seq ?_
    refine Go'.region [(0,0),(1,1),(2,0)] rfl ?_
    refine O.ix (j := j) rfl rfl rfl rfl underlying22 sizeOf3 rfl rfl (by omega) hlt ?_
    refine O.ld rfl rfl rfl (fun w => ⟨isAgg3 w,sizeOf3 w⟩) rfl (hr 0 _ rfl) ?_
    refine O.asg rfl rfl rfl rfl rfl ?_
    refine Pl.fin [(6,_),(7,_),(8,_),(10,_),(15,_),(16,_),(17,_),(18,_)] ⟨rfl,rfl,rfl,rfl,rfl,rfl,rfl,rfl,trivial⟩ ?_
    refine Go'.region [(0,0),(1,0),(2,0),(3,2),(4,2),(5,2),(6,0)] rfl ?_
    refine O.mv rfl rfl rfl rfl rfl ?_
    refine O.mv rfl rfl rfl rfl rfl ?_
    refine O.mv rfl rfl rfl rfl rfl ?_
    refine O.call rfl rfl rfl call58 rfl (at_spec z hM4 (by omega)) ?_
    rintro _ H6 ⟨rfl,hF6⟩
    have hshF6 := hF6.size
    replace hM4 := hM4.fr hF6
    replace hA := hA.fr hF6 (fun _ _ _ _ => nw)
    replace hF34 := hF34.trans hF6
    rw [FVe]
    refine ⟨trivial,?_⟩
    refine O.bsl (cs := (fvs (ath (Pl.puts (OO ord) l) z))) rfl rfl rfl ⟨underlying48,sizeOf44,zeroValue44,⟨_,typeInfo44,rfl⟩,rfl,by decide,by decide⟩ rfl (by decide) (by generalize (ath (Pl.puts (OO ord) l) z) = o; cases o <;> kernel_rfl) ?_
    intro H7 M7
    have hs7 := M7.size
    replace hM4 := hM4.fr (M7.fr nowhere)
    replace hA := hA.fr (M7.fr nowhere) (fun _ _ _ _ => nw)
    replace hF34 := hF34.trans (M7.fr nowhere)
    have m5 : Rd H7 H6.size 0 (row EF [(ath (Pl.puts (OO ord) l) z)]) := M7.rd _ [] (by simp [row,EF])
    refine ⟨trivial,?_⟩
    refine O.appA (E := EF) (Y := [(ath (Pl.puts (OO ord) l) z)]) rfl rfl rfl ⟨underlying48,sizeOf44,zeroValue44,⟨_,typeInfo44,rfl⟩,rfl,by decide,by decide⟩ rfl hA rfl ⟨_,_,_,rfl,m5⟩ (Nat.succ_pos _) (by rw [hlo]; exact Nat.le_trans (Nat.mul_le_mul_left _ (Nat.le_of_ble_eq_true (n := _) (m := 4096) rfl)) (by simp only [List.length_cons,List.length_nil]; omega)) (by rw [hlo]; simp only [List.length_cons,List.length_nil]; omega) ?_
    intro v8 H8 hA8 hF8 hs8
    have hs88 := hF8.size
    rw [← eout] at hA8
    refine ⟨trivial,?_⟩
    refine O.asg rfl rfl rfl rfl rfl ?_
    refine Pl.fin [(6,_),(7,_),(8,_),(10,_),(15,_),(16,_),(17,_),(18,_)] ⟨rfl,rfl,rfl,rfl,rfl,rfl,rfl,rfl,trivial⟩ ?_
    refine Go'.inBlock ?_
    refine Go'.region [(0,0),(1,0)] rfl ?_
    refine O.add (((j + 1 : Nat) : Int)) rfl rfl rfl rfl rfl rfl (by omega) (by omega) ?_
    refine O.mv rfl rfl rfl rfl rfl ?_
    refine Pl.fin [(6,_),(7,_),(8,_),(10,_),(15,_),(16,_),(17,_),(18,_)] ⟨rfl,rfl,rfl,rfl,rfl,rfl,rfl,rfl,trivial⟩ ?_
    refine Go'.keep [(6,_),(7,_),(8,_),(15,_),(16,_),(17,_)] ⟨rfl,rfl,rfl,rfl,rfl,rfl,trivial⟩ ?_
    refine Go'.inLoop ?_
    exact ih (j + 1,v8) H8 ⟨hlt,hF34.trans' hF8 (fun _ _ _ h => h) (fun b o hb hz => by have h1 := (hZ b hz).1; omega),fun b => Zo b ∨ (b = H7.size ∧ b < H8.size),hA8,fun b hb => hb.elim (fun h => ⟨(hZ b h).1,by have := (hZ b h).2; omega⟩) (fun h => ⟨by omega,h.2⟩)⟩ (by simp only; omega)
  · skip
    have ejl : j = zs.length := by omega
    have eall : (zs.map (ath (Pl.puts (OO ord) l))).take j = (zs.map (ath (Pl.puts (OO ord) l))) := by rw [ejl]; exact List.take_of_length_le (by rw [List.length_map]; exact Nat.le_refl _)
    rw [eall] at hA
    refine Go'.region [(0,0)] rfl ?_
    refine O.cmp rfl rfl rfl rfl rfl rfl (lssF (by omega)) ?_
    refine Pl.fin [(6,_),(7,_),(8,_),(15,_),(16,_),(17,_),(18,_)] ⟨rfl,rfl,rfl,rfl,rfl,rfl,rfl,trivial⟩ ?_
    refine Go'.seq ?_
    refine Go'.condF rfl ?_
    refine Go'.exit rfl ?_
    refine Go'.seq ?_
    refine Go'.region [(0,0),(1,0)] rfl ?_
    refine O.mv rfl rfl rfl rfl rfl ?_
    refine O.asg rfl rfl rfl rfl rfl ?_
    refine Pl.fin [(6,_)] ⟨rfl,trivial⟩ ?_
    refine Go'.ret (vs := [_]) func34 results34 ⟨rfl,trivial⟩ ?_
    exact ⟨hA.out,hF2⟩

def expl : List Int := [0,2,5,-1,100]
theorem exPlaces_spec {B : World} {H : Mem} : Fn Try.prog B 17 [] H (fun r H' => InS EN H' r expl ∧ Fr nowhere H H') := by
  refine fn_of func17 rfl ntmps17 ?_
  refine (show Go' _ _ _ _ 2 [] [.code _] _ from ?_)
  refine Go'.seq ?_
  refine Go'.region [(0,0)] rfl ?_
  refine O.asg rfl rfl rfl rfl rfl ?_
  refine Pl.fin [(0,_)] ⟨rfl,trivial⟩ ?_
  refine Go'.seq ?_
  refine Go'.region [(0,2),(1,0)] rfl ?_
  refine O.bsl (cs := (row EN expl)) rfl rfl rfl ⟨underlying22,sizeOf3,zeroValue3,⟨_,typeInfo3,rfl⟩,rfl,by decide,by decide⟩ rfl (by decide) (by kernel_rfl) ?_
  intro H1 M1
  refine ⟨trivial,?_⟩
  refine O.asg rfl rfl rfl rfl rfl ?_
  refine Pl.fin [(0,_)] ⟨rfl,trivial⟩ ?_
  refine Go'.ret (vs := [_]) func17 results17 ⟨rfl,trivial⟩ ?_
  exact ⟨.inl ⟨H.size,0,5,rfl,by decide,M1.rd _ [] (by simp)⟩,M1.fr nowhere⟩

theorem lawBGetAtMut_spec {B : World} {H : Mem} {d : Nat} {nl : Bool} {v u : Value} {ord : List Int} {l : List (Int × Int)} {va : Value} {zs : List Int} (hd : d = 0 ∨ 2 ≤ d ∧ d ≤ 128) (ho : InS EN H v ord) (hol : ord.length ≤ 4294967296) (hi : InS EJ H u l) (hll : l.length ≤ 4294967296) (ha : InS EN H va zs) (hal : zs.length ≤ 4294967296) :
    Fn Try.prog B 16 [.agg #[v,.int .i64 (d : Int),.bool nl],u,va] H (fun r H' => r = .bool true ∧ Fr nowhere H H') := by
  obtain ⟨a,c,hu⟩ := hi.len
  subst hu
  obtain ⟨av,mv,cv,hv⟩ := InS.form ho
  subst hv
  have hF : Fr nowhere H H := Fr.refl _ _
  have hP := PD_ok hd
  refine fn_of func16 rfl ntmps16 ?_
  refine (show Go' _ _ _ _ 20 [(0,_),(1,_),(2,_)] [.code _] _ from ?_)
  refine Go'.seq ?_
  refine Go'.region [(0,2),(1,0)] rfl ?_
  refine O.box rfl rfl rfl rfl ?_
  intro B1 MB1
  refine ⟨trivial,?_⟩
  have hsB1 := MB1.size
  replace hF := hF.trans (MB1.fr nowhere)
  have mm : Rd B1 H.size 0 [.slice av mv cv,.int .i64 (d : Int),.bool nl] := MB1.rd _ [] (by simp [Value.cells])
  have mm0 : cl B1 H.size 0 = some (.slice av mv cv) := mm 0 _ rfl
  have mm1 : cl B1 H.size (0 + 1) = some (.int .i64 (d : Int)) := mm 1 _ rfl
  refine O.asg rfl rfl rfl rfl rfl ?_
  refine Pl.fin [(1,_),(2,_),(3,_),(6,_)] ⟨rfl,rfl,rfl,rfl,trivial⟩ ?_
  refine Go'.seq ?_
  refine Go'.region [(0,1),(1,0),(2,0),(3,2),(4,0)] rfl ?_
  refine O.lds rfl rfl rfl (fun w => ⟨isAgg24 w,sizeOf24 w⟩) rfl rfl mm ?_
  refine O.mv rfl rfl rfl rfl rfl ?_
  refine O.mv rfl rfl rfl rfl rfl ?_
  refine O.call rfl rfl rfl call33 rfl (ibgetatmut_spec hd (ho.fr hF) hol (hi.fr hF) hll (ha.fr hF) hal) ?_
  rintro v1 H3 ⟨h1,hF3⟩
  replace hF := hF.trans hF3
  replace mm := hF3.rd mm (fun _ _ => nw)
  replace mm0 := hF3.keep mm0 nw
  replace mm1 := hF3.keep mm1 nw
  refine ⟨trivial,?_⟩
  refine O.asg rfl rfl rfl rfl rfl ?_
  refine Pl.fin [(1,_),(2,_),(3,_),(6,_),(7,_)] ⟨rfl,rfl,rfl,rfl,rfl,trivial⟩ ?_
  refine Go'.seq ?_
  refine Go'.region [(0,1),(1,0),(2,0),(3,2),(4,0)] rfl ?_
  refine O.lds rfl rfl rfl (fun w => ⟨isAgg24 w,sizeOf24 w⟩) rfl rfl mm ?_
  refine O.mv rfl rfl rfl rfl rfl ?_
  refine O.mv rfl rfl rfl rfl rfl ?_
  refine O.call rfl rfl rfl call34 rfl (sggetat_spec (ho.fr hF) hol (hi.fr hF) hll (ha.fr hF) hal) ?_
  rintro v2 H4 ⟨h2,hF4⟩
  replace hF := hF.trans hF4
  replace mm := hF4.rd mm (fun _ _ => nw)
  replace mm0 := hF4.keep mm0 nw
  replace mm1 := hF4.keep mm1 nw
  refine ⟨trivial,?_⟩
  refine O.asg rfl rfl rfl rfl rfl ?_
  refine Pl.fin [(6,_),(7,_),(8,_)] ⟨rfl,rfl,rfl,trivial⟩ ?_
  refine Go'.seq ?_
  refine Go'.region [(0,0),(1,0),(2,2),(3,0)] rfl ?_
  refine O.mv rfl rfl rfl rfl rfl ?_
  refine O.mv rfl rfl rfl rfl rfl ?_
  refine O.callQ rfl rfl rfl call35 rfl (eqFounds_spec (h1.inS.fr hF4) h2.inS (by rw [List.length_map]; exact hal)) trivial ?_
  refine O.asg rfl rfl rfl rfl rfl ?_
  refine Pl.fin [(6,_)] ⟨rfl,trivial⟩ ?_
  refine Go'.ret (vs := [_]) func16 results16 ⟨rfl,trivial⟩ ?_
  exact ⟨rfl,hF⟩

theorem fnExactBGetAtMut {B : World} {H : Mem} {z : Int} {nl : Bool} {v u : Value} {ord : List Int} {l : List (Int × Int)} {va : Value} {zs : List Int} (ho : InS EN H v ord) (hi : InS EJ H u l) (ha : InS EN H va zs) :
    Fn Try.prog B 4 [.agg #[v,.int .i64 z,.bool nl],u,va] H (fun r H' => r = .bool true ∧ Fr nowhere H H') := by
  obtain ⟨a,c,hu⟩ := hi.len
  subst hu
  obtain ⟨av,mv,cv,hv⟩ := InS.form ho
  subst hv
  obtain ⟨aa,ca,ha0⟩ := ha.len
  subst ha0
  have hF : Fr nowhere H H := Fr.refl _ _
  refine fn_of func4 rfl ntmps4 ?_
  refine (show Go' _ _ _ _ 36 [(0,_),(1,_),(2,_)] [.code _] _ from ?_)
  refine Go'.seq ?_
  refine Go'.region [(0,2),(1,0)] rfl ?_
  refine O.box rfl rfl rfl rfl ?_
  intro B1 MB1
  refine ⟨trivial,?_⟩
  have hsB1 := MB1.size
  replace hF := hF.trans (MB1.fr nowhere)
  have mm : Rd B1 H.size 0 [.slice av mv cv,.int .i64 z,.bool nl] := MB1.rd _ [] (by simp [Value.cells])
  have mm0 : cl B1 H.size 0 = some (.slice av mv cv) := mm 0 _ rfl
  have mm1 : cl B1 H.size (0 + 1) = some (.int .i64 z) := mm 1 _ rfl
  refine O.asg rfl rfl rfl rfl rfl ?_
  refine Pl.fin [(1,_),(2,_),(3,_),(6,_)] ⟨rfl,rfl,rfl,rfl,trivial⟩ ?_
  refine Go'.seq ?_
  refine Go'.seq ?_
  cases hoz : decide (ord.length ≤ 2147483647)
  · skip
    refine Go'.region [(0,1),(1,2),(2,0),(3,0),(4,0),(5,0),(6,0),(7,0),(8,0),(9,0),(10,0),(11,0),(12,0)] rfl ?_
    refine O.lds rfl rfl rfl (fun w => ⟨isAgg24 w,sizeOf24 w⟩) rfl rfl mm ?_
    refine O.call rfl rfl rfl call11 rfl (zzFits1_spec (ho.fr hF) hoz) ?_
    rintro _ H1 ⟨rfl,hF1⟩
    replace hF := hF.trans hF1
    replace mm := hF1.rd mm (fun _ _ => nw)
    replace mm0 := hF1.keep mm0 nw
    replace mm1 := hF1.keep mm1 nw
    refine ⟨trivial,?_⟩
    refine O.not rfl rfl rfl rfl rfl ?_
    refine O.mv rfl rfl rfl rfl rfl ?_
    refine Pl.pass rfl rfl rfl rfl ?_
    refine Pl.pass rfl rfl rfl rfl ?_
    refine Pl.pass rfl rfl rfl rfl ?_
    refine O.pick rfl rfl rfl rfl rfl rfl ?_
    refine O.mv rfl rfl rfl rfl rfl ?_
    refine Pl.pass rfl rfl rfl rfl ?_
    refine Pl.pass rfl rfl rfl rfl ?_
    refine Pl.pass rfl rfl rfl rfl ?_
    refine O.pick rfl rfl rfl rfl rfl rfl ?_
    refine Pl.fin [(1,_),(2,_),(3,_),(6,_),(19,_)] ⟨rfl,rfl,rfl,rfl,rfl,trivial⟩ ?_
    refine Go'.condT rfl ?_
    refine Go'.seq ?_
    refine Go'.region [(0,0)] rfl ?_
    refine O.asg rfl rfl rfl rfl rfl ?_
    refine Pl.fin [(1,_),(2,_),(3,_),(6,_)] ⟨rfl,rfl,rfl,rfl,trivial⟩ ?_
    refine Go'.ret (vs := [_]) func4 results4 ⟨rfl,trivial⟩ ?_
    exact ⟨rfl,hF⟩
  · skip
    have hoz2 := of_decide_eq_true hoz
    by_cases hb_lenl : (2147483647 : Int) < (l.length : Int)
    · skip
      refine Go'.region [(0,1),(1,2),(2,0),(3,0),(4,0),(5,0),(6,0),(7,0),(8,0),(9,0),(10,0),(11,0),(12,0)] rfl ?_
      refine O.lds rfl rfl rfl (fun w => ⟨isAgg24 w,sizeOf24 w⟩) rfl rfl mm ?_
      refine O.call rfl rfl rfl call11 rfl (zzFits1_spec (ho.fr hF) hoz) ?_
      rintro _ H1 ⟨rfl,hF1⟩
      replace hF := hF.trans hF1
      replace mm := hF1.rd mm (fun _ _ => nw)
      replace mm0 := hF1.keep mm0 nw
      replace mm1 := hF1.keep mm1 nw
      refine ⟨trivial,?_⟩
      refine O.not rfl rfl rfl rfl rfl ?_
      refine O.mv rfl rfl rfl rfl rfl ?_
      refine O.mv rfl rfl rfl rfl rfl ?_
      refine O.len rfl rfl rfl rfl underlying25 rfl ?_
      refine O.cmp rfl rfl rfl rfl rfl rfl (gtrT (by omega)) ?_
      refine O.pick rfl rfl rfl rfl rfl rfl ?_
      refine O.mv rfl rfl rfl rfl rfl ?_
      refine Pl.pass rfl rfl rfl rfl ?_
      refine Pl.pass rfl rfl rfl rfl ?_
      refine Pl.pass rfl rfl rfl rfl ?_
      refine O.pick rfl rfl rfl rfl rfl rfl ?_
      refine Pl.fin [(1,_),(2,_),(3,_),(6,_),(19,_)] ⟨rfl,rfl,rfl,rfl,rfl,trivial⟩ ?_
      refine Go'.condT rfl ?_
      refine Go'.seq ?_
      refine Go'.region [(0,0)] rfl ?_
      refine O.asg rfl rfl rfl rfl rfl ?_
      refine Pl.fin [(1,_),(2,_),(3,_),(6,_)] ⟨rfl,rfl,rfl,rfl,trivial⟩ ?_
      refine Go'.ret (vs := [_]) func4 results4 ⟨rfl,trivial⟩ ?_
      exact ⟨rfl,hF⟩
    · skip
      by_cases hb_lenat : (2147483647 : Int) < (zs.length : Int)
      · skip
        refine Go'.region [(0,1),(1,2),(2,0),(3,0),(4,0),(5,0),(6,0),(7,0),(8,0),(9,0),(10,0),(11,0),(12,0)] rfl ?_
        refine O.lds rfl rfl rfl (fun w => ⟨isAgg24 w,sizeOf24 w⟩) rfl rfl mm ?_
        refine O.call rfl rfl rfl call11 rfl (zzFits1_spec (ho.fr hF) hoz) ?_
        rintro _ H1 ⟨rfl,hF1⟩
        replace hF := hF.trans hF1
        replace mm := hF1.rd mm (fun _ _ => nw)
        replace mm0 := hF1.keep mm0 nw
        replace mm1 := hF1.keep mm1 nw
        refine ⟨trivial,?_⟩
        refine O.not rfl rfl rfl rfl rfl ?_
        refine O.mv rfl rfl rfl rfl rfl ?_
        refine O.mv rfl rfl rfl rfl rfl ?_
        refine O.len rfl rfl rfl rfl underlying25 rfl ?_
        refine O.cmp rfl rfl rfl rfl rfl rfl (gtrF (by omega)) ?_
        refine O.pick rfl rfl rfl rfl rfl rfl ?_
        refine O.mv rfl rfl rfl rfl rfl ?_
        refine O.mv rfl rfl rfl rfl rfl ?_
        refine O.len rfl rfl rfl rfl underlying22 rfl ?_
        refine O.cmp rfl rfl rfl rfl rfl rfl (gtrT (by omega)) ?_
        refine O.pick rfl rfl rfl rfl rfl rfl ?_
        refine Pl.fin [(1,_),(2,_),(3,_),(6,_),(19,_)] ⟨rfl,rfl,rfl,rfl,rfl,trivial⟩ ?_
        refine Go'.condT rfl ?_
        refine Go'.seq ?_
        refine Go'.region [(0,0)] rfl ?_
        refine O.asg rfl rfl rfl rfl rfl ?_
        refine Pl.fin [(1,_),(2,_),(3,_),(6,_)] ⟨rfl,rfl,rfl,rfl,trivial⟩ ?_
        refine Go'.ret (vs := [_]) func4 results4 ⟨rfl,trivial⟩ ?_
        exact ⟨rfl,hF⟩
      · skip
        refine Go'.region [(0,1),(1,2),(2,0),(3,0),(4,0),(5,0),(6,0),(7,0),(8,0),(9,0),(10,0),(11,0),(12,0)] rfl ?_
        refine O.lds rfl rfl rfl (fun w => ⟨isAgg24 w,sizeOf24 w⟩) rfl rfl mm ?_
        refine O.call rfl rfl rfl call11 rfl (zzFits1_spec (ho.fr hF) hoz) ?_
        rintro _ H1 ⟨rfl,hF1⟩
        replace hF := hF.trans hF1
        replace mm := hF1.rd mm (fun _ _ => nw)
        replace mm0 := hF1.keep mm0 nw
        replace mm1 := hF1.keep mm1 nw
        refine ⟨trivial,?_⟩
        refine O.not rfl rfl rfl rfl rfl ?_
        refine O.mv rfl rfl rfl rfl rfl ?_
        refine O.mv rfl rfl rfl rfl rfl ?_
        refine O.len rfl rfl rfl rfl underlying25 rfl ?_
        refine O.cmp rfl rfl rfl rfl rfl rfl (gtrF (by omega)) ?_
        refine O.pick rfl rfl rfl rfl rfl rfl ?_
        refine O.mv rfl rfl rfl rfl rfl ?_
        refine O.mv rfl rfl rfl rfl rfl ?_
        refine O.len rfl rfl rfl rfl underlying22 rfl ?_
        refine O.cmp rfl rfl rfl rfl rfl rfl (gtrF (by omega)) ?_
        refine O.pick rfl rfl rfl rfl rfl rfl ?_
        refine Pl.fin [(1,_),(2,_),(3,_),(6,_),(19,_)] ⟨rfl,rfl,rfl,rfl,rfl,trivial⟩ ?_
        refine Go'.condF rfl ?_
        refine Go'.skip ?_
        refine Go'.seq ?_
        cases hfz : fitsb z
        · skip
          refine Go'.region [(0,2),(1,2),(2,2),(3,2),(4,0),(5,0),(6,1),(7,2),(8,0),(9,0),(10,1),(11,0),(12,0),(13,2),(14,0),(15,0),(16,0)] rfl ?_
          refine O.call rfl rfl rfl call13 rfl exMake_spec ?_
          rintro _ H2 ⟨rfl,hF2⟩
          replace hF := hF.trans hF2
          replace mm := hF2.rd mm (fun _ _ => nw)
          replace mm0 := hF2.keep mm0 nw
          replace mm1 := hF2.keep mm1 nw
          refine ⟨trivial,?_⟩
          refine O.call rfl rfl rfl call14 rfl exItems_spec ?_
          rintro ev H3 ⟨hev,hF3⟩
          replace hF := hF.trans hF3
          replace mm := hF3.rd mm (fun _ _ => nw)
          replace mm0 := hF3.keep mm0 nw
          replace mm1 := hF3.keep mm1 nw
          refine ⟨trivial,?_⟩
          refine O.call rfl rfl rfl call17 rfl exPlaces_spec ?_
          rintro pv H4 ⟨hpv,hF4⟩
          replace hF := hF.trans hF4
          replace mm := hF4.rd mm (fun _ _ => nw)
          replace mm0 := hF4.keep mm0 nw
          replace mm1 := hF4.keep mm1 nw
          replace hev := hev.fr hF4
          refine ⟨trivial,?_⟩
          refine O.call rfl rfl rfl call16 rfl (lawBGetAtMut_spec (d := 2) (by decide) (InS.nil EN _) (by decide) hev (by decide) hpv (by decide)) ?_
          rintro _ H5 ⟨rfl,hF5⟩
          replace hF := hF.trans hF5
          replace mm := hF5.rd mm (fun _ _ => nw)
          replace mm0 := hF5.keep mm0 nw
          replace mm1 := hF5.keep mm1 nw
          refine ⟨trivial,?_⟩
          refine O.mv rfl rfl rfl rfl rfl ?_
          refine O.fa0 (off := 1) rfl rfl rfl rfl ⟨_,_,_,underlying24,rfl,rfl,sizeOf3⟩ rfl ?_
          refine O.ld rfl rfl rfl (fun w => ⟨isAgg3 w,sizeOf3 w⟩) rfl mm1 ?_
          refine O.callQ rfl rfl rfl call15 rfl (fits_spec' hfz) trivial ?_
          refine O.not rfl rfl rfl rfl rfl ?_
          refine O.mv rfl rfl rfl rfl rfl ?_
          refine Pl.pass rfl rfl rfl rfl ?_
          refine Pl.pass rfl rfl rfl rfl ?_
          refine Pl.pass rfl rfl rfl rfl ?_
          refine Pl.pass2 rfl rfl rfl rfl trivial ?_
          refine O.pick rfl rfl rfl rfl rfl rfl ?_
          refine O.pick rfl rfl rfl rfl rfl rfl ?_
          refine O.asg rfl rfl rfl rfl rfl ?_
          refine Pl.fin [(6,_)] ⟨rfl,trivial⟩ ?_
          refine Go'.ret (vs := [_]) func4 results4 ⟨rfl,trivial⟩ ?_
          exact ⟨rfl,hF⟩
        · skip
          obtain ⟨d,rfl,hd⟩ := fitsb_nat hfz
          refine Go'.region [(0,2),(1,2),(2,2),(3,2),(4,0),(5,0),(6,1),(7,2),(8,0),(9,0),(10,1),(11,0),(12,0),(13,2),(14,0),(15,0),(16,0)] rfl ?_
          refine O.call rfl rfl rfl call13 rfl exMake_spec ?_
          rintro _ H2 ⟨rfl,hF2⟩
          replace hF := hF.trans hF2
          replace mm := hF2.rd mm (fun _ _ => nw)
          replace mm0 := hF2.keep mm0 nw
          replace mm1 := hF2.keep mm1 nw
          refine ⟨trivial,?_⟩
          refine O.call rfl rfl rfl call14 rfl exItems_spec ?_
          rintro ev H3 ⟨hev,hF3⟩
          replace hF := hF.trans hF3
          replace mm := hF3.rd mm (fun _ _ => nw)
          replace mm0 := hF3.keep mm0 nw
          replace mm1 := hF3.keep mm1 nw
          refine ⟨trivial,?_⟩
          refine O.call rfl rfl rfl call17 rfl exPlaces_spec ?_
          rintro pv H4 ⟨hpv,hF4⟩
          replace hF := hF.trans hF4
          replace mm := hF4.rd mm (fun _ _ => nw)
          replace mm0 := hF4.keep mm0 nw
          replace mm1 := hF4.keep mm1 nw
          replace hev := hev.fr hF4
          refine ⟨trivial,?_⟩
          refine O.call rfl rfl rfl call16 rfl (lawBGetAtMut_spec (d := 2) (by decide) (InS.nil EN _) (by decide) hev (by decide) hpv (by decide)) ?_
          rintro _ H5 ⟨rfl,hF5⟩
          replace hF := hF.trans hF5
          replace mm := hF5.rd mm (fun _ _ => nw)
          replace mm0 := hF5.keep mm0 nw
          replace mm1 := hF5.keep mm1 nw
          refine ⟨trivial,?_⟩
          refine O.mv rfl rfl rfl rfl rfl ?_
          refine O.fa0 (off := 1) rfl rfl rfl rfl ⟨_,_,_,underlying24,rfl,rfl,sizeOf3⟩ rfl ?_
          refine O.ld rfl rfl rfl (fun w => ⟨isAgg3 w,sizeOf3 w⟩) rfl mm1 ?_
          refine O.callQ rfl rfl rfl call15 rfl (fits_spec' hfz) trivial ?_
          refine O.not rfl rfl rfl rfl rfl ?_
          refine O.mv rfl rfl rfl rfl rfl ?_
          refine O.lds rfl rfl rfl (fun w => ⟨isAgg24 w,sizeOf24 w⟩) rfl rfl mm ?_
          refine O.mv rfl rfl rfl rfl rfl ?_
          refine O.mv rfl rfl rfl rfl rfl ?_
          refine O.call rfl rfl rfl call16 rfl (lawBGetAtMut_spec hd (ho.fr hF) (by omega) (hi.fr hF) (by omega) (ha.fr hF) (by omega)) ?_
          rintro _ H6 ⟨rfl,hF6⟩
          replace hF := hF.trans hF6
          replace mm := hF6.rd mm (fun _ _ => nw)
          replace mm0 := hF6.keep mm0 nw
          replace mm1 := hF6.keep mm1 nw
          refine ⟨trivial,?_⟩
          refine O.pick rfl rfl rfl rfl rfl rfl ?_
          refine O.pick rfl rfl rfl rfl rfl rfl ?_
          refine O.asg rfl rfl rfl rfl rfl ?_
          refine Pl.fin [(6,_)] ⟨rfl,trivial⟩ ?_
          refine Go'.ret (vs := [_]) func4 results4 ⟨rfl,trivial⟩ ?_
          exact ⟨rfl,hF⟩

end Go.Bt.FB
