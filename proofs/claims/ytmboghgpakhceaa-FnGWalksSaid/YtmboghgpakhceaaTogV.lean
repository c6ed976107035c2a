/- Contracts of functions of the program, proved by walking through their code. Conditions: those that each theorem names. -/
import Derived.Test.YtmboghgpakhceaaToiC
import Derived.Test.YtmboghgpakhceaaTogR
namespace Go.Bt.FG
open Go Go.Proofs Go.Proofs.Try
set_option maxRecDepth 20000
set_option maxHeartbeats 4000000
set_option linter.unusedVariables false
set_option linter.unusedSectionVars false

namespace SI
/-- A list of slices,as it lies in memory. -/
def ESl : Elt (Option Addr × Nat × Nat) := { enc := fun x => [.slice x.1 x.2.1 x.2.2],s := 1,len := fun _ => rfl,one := fun _ => rfl,pos := by decide }
/-- Slices of the lists ls. -/
def InSS {α : Type} (E : Elt α) (H : Mem) : List (Option Addr × Nat × Nat) → List (List α) → Prop
  | [],[] => True
  | u :: us,l :: ls => InS E H (.slice u.1 u.2.1 u.2.2) l ∧ InSS E H us ls
  | _,_ => False
theorem InSS.fr {α : Type} {E : Elt α} {H H' : Mem} (hf : Fr nowhere H H') : ∀ {us : List (Option Addr × Nat × Nat)} {ls : List (List α)},InSS E H us ls → InSS E H' us ls
  | [],[],_ => trivial
  | u :: us,l :: ls,h => ⟨h.1.fr hf,InSS.fr hf h.2⟩
  | [],_ :: _,h => h.elim
  | _ :: _,[],h => h.elim
theorem InSS.len {α : Type} {E : Elt α} {H : Mem} : ∀ {us : List (Option Addr × Nat × Nat)} {ls : List (List α)},InSS E H us ls → us.length = ls.length
  | [],[],_ => rfl
  | u :: us,l :: ls,h => by rw [List.length_cons,List.length_cons,InSS.len h.2]
  | [],_ :: _,h => h.elim
  | _ :: _,[],h => h.elim
theorem InSS.at {α : Type} {E : Elt α} {H : Mem} : ∀ {us : List (Option Addr × Nat × Nat)} {ls : List (List α)} (_ : InSS E H us ls) {i : Nat} {u : Option Addr × Nat × Nat},us[i]? = some u → ∃ l,ls[i]? = some l ∧ InS E H (.slice u.1 u.2.1 u.2.2) l
  | [],[],_,i,u,hu => by simp at hu
  | u :: us,l :: ls,h,0,v,hv => by
    simp only [List.getElem?_cons_zero,Option.some.injEq] at hv
    subst hv
    exact ⟨l,rfl,h.1⟩
  | u :: us,l :: ls,h,i + 1,v,hv => by
    simp only [List.getElem?_cons_succ] at hv ⊢
    exact InSS.at h.2 hv
  | [],_ :: _,h,_,_,_ => h.elim
  | _ :: _,[],h,_,_,_ => h.elim
theorem flat_take {α : Type} (ls : List (List α)) (j : Nat) : (ls.take j).flatten.length ≤ ls.flatten.length := by
  conv => rhs; rw [← List.take_append_drop j ls,List.flatten_append,List.length_append]
  omega
theorem grow_spec {B : World} {H : Mem} {n : Nat} (hn : 0 < n) (hll : n ≤ 4294967296) :
    Fn Try.prog B 93 [.slice none 0 0,.int .i64 (n : Int)] H (fun r H' => AccN EJ (fun b => H.size ≤ b) H' r [] ∧ Fr nowhere H H') := by
  refine fn_of func93 rfl ntmps93 ?_
  refine (show Go' _ _ _ _ 27 [(0,_),(1,_)] [.code _] _ from ?_)
  refine Go'.seq ?_
  refine Go'.region [(0,0)] rfl ?_
  refine O.asg rfl rfl rfl rfl rfl ?_
  refine Pl.fin [(0,_),(1,_),(4,_)] ⟨rfl,rfl,rfl,trivial⟩ ?_
  refine Go'.seq ?_
  refine Go'.seq ?_
  refine Go'.region [(0,0),(1,0)] rfl ?_
  refine O.mv rfl rfl rfl rfl rfl ?_
  refine O.cmp rfl rfl rfl rfl rfl rfl (lssF (by omega)) ?_
  refine Pl.fin [(0,_),(1,_),(4,_),(6,_)] ⟨rfl,rfl,rfl,rfl,trivial⟩ ?_
  refine Go'.condF rfl ?_
  refine Go'.skip ?_
  refine Go'.seq ?_
  refine Go'.seq ?_
  refine Go'.region [(0,0),(1,0),(2,0),(3,0),(4,0),(5,0),(6,0),(7,0)] rfl ?_
  refine O.mv rfl rfl rfl rfl rfl ?_
  refine O.mv rfl rfl rfl rfl rfl ?_
  refine O.cap rfl rfl rfl rfl underlying25 rfl ?_
  refine O.mv rfl rfl rfl rfl rfl ?_
  refine O.len rfl rfl rfl rfl underlying25 rfl ?_
  refine O.sub ((0 : Int)) rfl rfl rfl rfl rfl rfl (by omega) (by omega) ?_
  refine O.sub ((n : Int)) rfl rfl rfl rfl rfl rfl (by omega) (by omega) ?_
  refine O.asg rfl rfl rfl rfl rfl ?_
  refine Pl.fin [(0,_),(1,_),(4,_)] ⟨rfl,rfl,rfl,trivial⟩ ?_
  refine Go'.seq ?_
  refine Go'.region [(0,0),(1,0)] rfl ?_
  refine O.mv rfl rfl rfl rfl rfl ?_
  refine O.cmp rfl rfl rfl rfl rfl rfl (gtrT (by omega)) ?_
  refine Pl.fin [(0,_),(1,_),(4,_),(16,_)] ⟨rfl,rfl,rfl,rfl,trivial⟩ ?_
  refine Go'.condT rfl ?_
  refine Go'.region [(0,0),(1,0),(2,0),(3,0),(4,0),(5,2),(6,0),(7,0),(8,0),(9,0)] rfl ?_
  refine O.mv rfl rfl rfl rfl rfl ?_
  refine O.mv rfl rfl rfl rfl rfl ?_
  refine O.cap rfl rfl rfl rfl underlying25 rfl ?_
  refine O.slc0 rfl rfl rfl rfl underlying25 sizeOf27 rfl ⟨_,by rfl⟩ rfl ?_
  intro a0
  refine O.mv rfl rfl rfl rfl rfl ?_
  refine O.appZ (m := n) rfl rfl rfl ⟨underlying25,sizeOf27,zeroValue27,⟨_,typeInfo27,rfl⟩,rfl,by decide,by decide⟩ underlying3 rfl rfl (Nat.le_trans (Nat.mul_le_mul_left _ (Nat.le_of_ble_eq_true (n := _) (m := 4096) rfl)) (by omega)) (by omega) hn ?_
  intro cap' H1 hc hW hF hs
  refine ⟨trivial,?_⟩
  refine O.mv rfl rfl rfl rfl rfl ?_
  refine O.len rfl rfl rfl rfl underlying25 rfl ?_
  refine O.slc (jl := 0) (jh := 0) (jm := cap') rfl rfl rfl rfl underlying25 sizeOf27 rfl rfl ⟨_,by rfl⟩ rfl (by omega) (by omega) (by omega) (by simp) ?_
  intro o2 ho2
  refine O.asg rfl rfl rfl rfl rfl ?_
  refine Pl.fin [(0,_),(4,_)] ⟨rfl,rfl,trivial⟩ ?_
  refine Go'.seq ?_
  refine Go'.region [(0,0),(1,0)] rfl ?_
  refine O.mv rfl rfl rfl rfl rfl ?_
  refine O.asg rfl rfl rfl rfl rfl ?_
  refine Pl.fin [(4,_)] ⟨rfl,trivial⟩ ?_
  refine Go'.ret (vs := [_]) func93 results93 ⟨rfl,trivial⟩ ?_
  refine ⟨⟨H.size,o2,cap' - 0,rfl,Nat.le_refl _,by omega,?_⟩,hF⟩
  obtain rfl : o2 = 0 := by have := ho2 (by omega); omega
  rw [Nat.sub_zero]
  exact ⟨rfl,Nat.zero_le _,Rd.nil _ _ _,hW⟩

theorem growA_spec {B : World} {H : Mem} {n : Nat} (hll : n ≤ 4294967296) :
    Fn Try.prog B 93 [.slice none 0 0,.int .i64 (n : Int)] H (fun r H' => Acc EJ (fun b => H.size ≤ b) H' r [] ∧ Fr nowhere H H') := by
  rcases Nat.eq_zero_or_pos n with rfl | hn
  rotate_left
  · exact (grow_spec hn hll).mono fun _ _ h => ⟨h.1.acc,h.2⟩
  refine fn_of func93 rfl ntmps93 ?_
  refine (show Go' _ _ _ _ 27 [(0,_),(1,_)] [.code _] _ from ?_)
  refine Go'.seq ?_
  refine Go'.region [(0,0)] rfl ?_
  refine O.asg rfl rfl rfl rfl rfl ?_
  refine Pl.fin [(0,_),(1,_),(4,_)] ⟨rfl,rfl,rfl,trivial⟩ ?_
  refine Go'.seq ?_
  refine Go'.seq ?_
  refine Go'.region [(0,0),(1,0)] rfl ?_
  refine O.mv rfl rfl rfl rfl rfl ?_
  refine O.cmp rfl rfl rfl rfl rfl rfl (lssF (by omega)) ?_
  refine Pl.fin [(0,_),(1,_),(4,_),(6,_)] ⟨rfl,rfl,rfl,rfl,trivial⟩ ?_
  refine Go'.condF rfl ?_
  refine Go'.skip ?_
  refine Go'.seq ?_
  refine Go'.seq ?_
  refine Go'.region [(0,0),(1,0),(2,0),(3,0),(4,0),(5,0),(6,0),(7,0)] rfl ?_
  refine O.mv rfl rfl rfl rfl rfl ?_
  refine O.mv rfl rfl rfl rfl rfl ?_
  refine O.cap rfl rfl rfl rfl underlying25 rfl ?_
  refine O.mv rfl rfl rfl rfl rfl ?_
  refine O.len rfl rfl rfl rfl underlying25 rfl ?_
  refine O.sub ((0 : Int)) rfl rfl rfl rfl rfl rfl (by omega) (by omega) ?_
  refine O.sub ((0 : Int)) rfl rfl rfl rfl rfl rfl (by omega) (by omega) ?_
  refine O.asg rfl rfl rfl rfl rfl ?_
  refine Pl.fin [(0,_),(1,_),(4,_)] ⟨rfl,rfl,rfl,trivial⟩ ?_
  refine Go'.seq ?_
  refine Go'.region [(0,0),(1,0)] rfl ?_
  refine O.mv rfl rfl rfl rfl rfl ?_
  refine O.cmp rfl rfl rfl rfl rfl rfl (gtrF (by omega)) ?_
  refine Pl.fin [(0,_),(1,_),(4,_),(16,_)] ⟨rfl,rfl,rfl,rfl,trivial⟩ ?_
  refine Go'.condF rfl ?_
  refine Go'.skip ?_
  refine Go'.seq ?_
  refine Go'.region [(0,0),(1,0)] rfl ?_
  refine O.mv rfl rfl rfl rfl rfl ?_
  refine O.asg rfl rfl rfl rfl rfl ?_
  refine Pl.fin [(4,_)] ⟨rfl,trivial⟩ ?_
  refine Go'.ret (vs := [_]) func93 results93 ⟨rfl,trivial⟩ ?_
  exact ⟨Acc.nil _ _ _,Fr.refl _ _⟩

theorem concatA_spec {B : World} {H : Mem} {v : Value} {us : List (Option Addr × Nat × Nat)} {ls : List (List (Int × Int))} (hi : InS ESl H v us) (hs : InSS EJ H us ls) (hll : ls.flatten.length ≤ 4294967296) (hul : us.length ≤ 4294967296) :
    Fn Try.prog B 45 [v] H (fun r H' => Acc EJ (fun b => H.size ≤ b) H' r ls.flatten ∧ Fr nowhere H H') := by
  obtain ⟨a,c,hu⟩ := hi.len
  subst hu
  have hlen := hs.len
  have hi00 := hi
  have hs00 := hs
  refine fn_of func45 rfl ntmps45 ?_
  refine (show Go' _ _ _ _ 36 [(0,_)] [.code _] _ from ?_)
  refine Go'.seq ?_
  refine Go'.region [(0,0)] rfl ?_
  refine O.asg rfl rfl rfl rfl rfl ?_
  refine Pl.fin [(0,_),(2,_)] ⟨rfl,rfl,trivial⟩ ?_
  refine Go'.seq ?_
  refine Go'.region [(0,0)] rfl ?_
  refine O.asg rfl rfl rfl rfl rfl ?_
  refine Pl.fin [(0,_),(2,_),(3,_)] ⟨rfl,rfl,rfl,trivial⟩ ?_
  refine Go'.seq ?_
  refine Go'.seq ?_
  refine Go'.region [(0,0),(1,0),(2,0)] rfl ?_
  refine O.mv rfl rfl rfl rfl rfl ?_
  refine O.len rfl rfl rfl rfl underlying55 rfl ?_
  refine O.mv rfl rfl rfl rfl rfl ?_
  refine Pl.fin [(0,_),(2,_),(3,_),(9,_),(10,_),(11,_)] ⟨rfl,rfl,rfl,rfl,rfl,rfl,trivial⟩ ?_
  refine Go'.block ?_
  refine Go'.loop ?_
  refine Go'.keep [(0,_),(3,_),(9,_),(10,_),(11,_)] ⟨rfl,rfl,rfl,rfl,rfl,trivial⟩ ?_
  refine Go'.ind (σ := Nat) (fun j => us.length - j) (fun j H' => H' = H ∧ j ≤ us.length)
    (fun j => [(0,.slice a us.length c),(3,.int .i64 ((ls.take j).flatten.length : Int)),(9,.slice a us.length c),(10,.int .i64 (us.length : Int)),(11,.int .i64 (j : Int))]) 0 ⟨rfl,Nat.zero_le _⟩ rfl ?_
  rintro j H2 ⟨hHH,hjl⟩ ih
  have eH : H = H2 := hHH.symm
  subst eH
  clear hHH
  refine Go'.seq ?_
  by_cases hlt : j < us.length
  · skip
    obtain ⟨u,hu⟩ : ∃ u,us[j]? = some u := ⟨us[j],List.getElem?_eq_getElem hlt⟩
    obtain ⟨b,o,cc,e,hr⟩ := hi.at hu
    cases e
    obtain ⟨l,hl,hul2⟩ := hs.at hu
    obtain ⟨a',c',e⟩ := hul2.len
    have e2 : u.2.1 = l.length := by injection e
    have hx : (ls.take (j + 1)).flatten.length = (ls.take j).flatten.length + l.length := by rw [List.take_add_one,hl,List.flatten_append,List.length_append]; simp
    have hft := flat_take ls (j + 1)
    refine Go'.region [(0,0)] rfl ?_
    refine O.cmp rfl rfl rfl rfl rfl rfl (lssT (by omega)) ?_
    refine Pl.fin [(0,_),(3,_),(9,_),(10,_),(11,_),(12,_)] ⟨rfl,rfl,rfl,rfl,rfl,rfl,trivial⟩ ?_
    refine Go'.seq ?_
    refine Go'.condT rfl ?_
    refine Go'.skip ?_
    refine Go'.seq ?_
    refine Go'.block ?_
    refine Go'.seq ?_
    refine Go'.region [(0,0),(1,1),(2,0)] rfl ?_
    refine O.ix (j := j) rfl rfl rfl rfl underlying55 sizeOf25 rfl rfl (by omega) hlt ?_
    refine O.ld rfl rfl rfl (fun w => ⟨isAgg25 w,sizeOf25 w⟩) rfl (hr 0 _ rfl) ?_
    refine O.asg rfl rfl rfl rfl rfl ?_
    refine Pl.fin [(0,_),(3,_),(5,_),(9,_),(10,_),(11,_),(12,_)] ⟨rfl,rfl,rfl,rfl,rfl,rfl,rfl,trivial⟩ ?_
    refine Go'.seq ?_
    refine Go'.region [(0,0),(1,0),(2,0),(3,0),(4,0)] rfl ?_
    refine O.mv rfl rfl rfl rfl rfl ?_
    refine O.mv rfl rfl rfl rfl rfl ?_
    refine O.len rfl rfl rfl rfl underlying25 rfl ?_
    refine O.add (((ls.take (j + 1)).flatten.length : Int)) rfl rfl rfl rfl rfl rfl (by omega) (by omega) ?_
    refine O.asg rfl rfl rfl rfl rfl ?_
    refine Pl.fin [(0,_),(3,_),(5,_),(9,_),(10,_),(11,_),(12,_)] ⟨rfl,rfl,rfl,rfl,rfl,rfl,rfl,trivial⟩ ?_
    refine Go'.seq ?_
    refine Go'.region [(0,0),(1,0)] rfl ?_
    refine O.mv rfl rfl rfl rfl rfl ?_
    refine O.cmp rfl rfl rfl rfl rfl rfl (lssF (by omega)) ?_
    refine Pl.fin [(0,_),(3,_),(5,_),(9,_),(10,_),(11,_),(12,_),(20,_)] ⟨rfl,rfl,rfl,rfl,rfl,rfl,rfl,rfl,trivial⟩ ?_
    refine Go'.condF rfl ?_
    refine Go'.skip ?_
    refine Go'.inBlock ?_
    refine Go'.region [(0,0),(1,0)] rfl ?_
    refine O.add (((j + 1 : Nat) : Int)) rfl rfl rfl rfl rfl rfl (by omega) (by omega) ?_
    refine O.mv rfl rfl rfl rfl rfl ?_
    refine Pl.fin [(0,_),(3,_),(5,_),(9,_),(10,_),(11,_),(12,_),(20,_)] ⟨rfl,rfl,rfl,rfl,rfl,rfl,rfl,rfl,trivial⟩ ?_
    refine Go'.keep [(0,_),(3,_),(9,_),(10,_),(11,_)] ⟨rfl,rfl,rfl,rfl,rfl,trivial⟩ ?_
    refine Go'.inLoop ?_
    exact ih (j + 1) H ⟨rfl,hlt⟩ (by omega)
  · skip
    have e0 : j = us.length := by omega
    have e1 : ls.take j = ls := by rw [e0,hlen,List.take_length]
    clear ih
    subst e0
    rw [e1]
    refine Go'.region [(0,0)] rfl ?_
    refine O.cmp rfl rfl rfl rfl rfl rfl (lssF (by omega)) ?_
    refine Pl.fin [(0,_),(3,_),(9,_),(10,_),(11,_),(12,_)] ⟨rfl,rfl,rfl,rfl,rfl,rfl,trivial⟩ ?_
    refine Go'.seq ?_
    refine Go'.condF rfl ?_
    refine Go'.exit rfl ?_
    refine Go'.seq ?_
    refine Go'.region [(0,0),(1,2),(2,0)] rfl ?_
    refine O.mv rfl rfl rfl rfl rfl ?_
    refine O.call rfl rfl rfl call93 rfl (growA_spec hll) ?_
    rintro gv H1 ⟨hA0,hF1⟩
    refine ⟨trivial,?_⟩
    refine O.asg rfl rfl rfl rfl rfl ?_
    refine Pl.fin [(0,_),(6,_)] ⟨rfl,rfl,trivial⟩ ?_
    refine Go'.seq ?_
    refine Go'.seq ?_
    refine Go'.region [(0,0),(1,0),(2,0)] rfl ?_
    refine O.mv rfl rfl rfl rfl rfl ?_
    refine O.len rfl rfl rfl rfl underlying55 rfl ?_
    refine O.mv rfl rfl rfl rfl rfl ?_
    refine Pl.fin [(6,_),(25,_),(26,_),(27,_)] ⟨rfl,rfl,rfl,rfl,trivial⟩ ?_
    refine Go'.block ?_
    refine Go'.loop ?_
    refine Go'.keep [(6,_),(25,_),(26,_),(27,_)] ⟨rfl,rfl,rfl,rfl,trivial⟩ ?_
    refine Go'.ind (σ := Nat × Value × (Nat → Prop)) (fun s => us.length - s.1) (fun s H' => s.1 ≤ us.length ∧ Acc EJ s.2.2 H' s.2.1 ((ls.take s.1).flatten) ∧ Fr nowhere H H' ∧ Fr (fun b _ => H.size ≤ b) H1 H' ∧ ∀ b,s.2.2 b → H.size ≤ b)
      (fun s => [(6,s.2.1),(25,.slice a us.length c),(26,.int .i64 (us.length : Int)),(27,.int .i64 (s.1 : Int))]) (0,gv,fun b => H.size ≤ b) ⟨Nat.zero_le _,by rw [List.take_zero]; exact hA0,hF1,Fr.refl _ _,fun b hb => hb⟩ rfl ?_
    clear hA0
    rintro ⟨j,sv,Z1⟩ H2 ⟨hj,hA,hF,hFZ,hZ1⟩ ih
    simp only at hj hA hZ1
    have hsz := hF.size
    refine Go'.seq ?_
    by_cases hlt : j < us.length
    · skip
      obtain ⟨u,hu⟩ : ∃ u,us[j]? = some u := ⟨us[j],List.getElem?_eq_getElem hlt⟩
      have hi2 := hi00.fr hF
      obtain ⟨b,o,cc,e,hr⟩ := hi2.at hu
      cases e
      obtain ⟨l,hl,hul2⟩ := (hs00.fr hF).at hu
      have hx : (ls.take (j + 1)).flatten = (ls.take j).flatten ++ l := by rw [List.take_add_one,hl,List.flatten_append]; simp
      have hft := flat_take ls (j + 1)
      rw [hx,List.length_append] at hft
      refine Go'.region [(0,0)] rfl ?_
      refine O.cmp rfl rfl rfl rfl rfl rfl (lssT (by omega)) ?_
      refine Pl.fin [(6,_),(25,_),(26,_),(27,_),(28,_)] ⟨rfl,rfl,rfl,rfl,rfl,trivial⟩ ?_
      refine Go'.seq ?_
      refine Go'.condT rfl ?_
      refine Go'.skip ?_
      refine Go'.seq ?_
      refine Go'.block ?_
      refine Go'.seq ?_
      refine Go'.region [(0,0),(1,1),(2,0)] rfl ?_
      refine O.ix (j := j) rfl rfl rfl rfl underlying55 sizeOf25 rfl rfl (by omega) hlt ?_
      refine O.ld rfl rfl rfl (fun w => ⟨isAgg25 w,sizeOf25 w⟩) rfl (hr 0 _ rfl) ?_
      refine O.asg rfl rfl rfl rfl rfl ?_
      refine Pl.fin [(6,_),(8,_),(25,_),(26,_),(27,_),(28,_)] ⟨rfl,rfl,rfl,rfl,rfl,rfl,trivial⟩ ?_
      refine Go'.region [(0,0),(1,0),(2,2),(3,0)] rfl ?_
      refine O.mv rfl rfl rfl rfl rfl ?_
      refine O.mv rfl rfl rfl rfl rfl ?_
      refine O.appAI (E := EJ) rfl rfl rfl ⟨underlying25,sizeOf27,zeroValue27,⟨_,typeInfo27,rfl⟩,rfl,by decide,by decide⟩ rfl hA rfl hul2 (Nat.le_trans (Nat.mul_le_mul_left _ (Nat.le_of_ble_eq_true (n := _) (m := 4096) rfl)) (by omega)) (by omega) ?_
      intro v7 H7 hA7 hF7 hs7
      rw [← hx] at hA7
      refine ⟨trivial,?_⟩
      refine O.asg rfl rfl rfl rfl rfl ?_
      refine Pl.fin [(6,_),(8,_),(25,_),(26,_),(27,_),(28,_)] ⟨rfl,rfl,rfl,rfl,rfl,rfl,trivial⟩ ?_
      refine Go'.inBlock ?_
      refine Go'.region [(0,0),(1,0)] rfl ?_
      refine O.add (((j + 1 : Nat) : Int)) rfl rfl rfl rfl rfl rfl (by omega) (by omega) ?_
      refine O.mv rfl rfl rfl rfl rfl ?_
      refine Pl.fin [(6,_),(8,_),(25,_),(26,_),(27,_),(28,_)] ⟨rfl,rfl,rfl,rfl,rfl,rfl,trivial⟩ ?_
      refine Go'.keep [(6,_),(25,_),(26,_),(27,_)] ⟨rfl,rfl,rfl,rfl,trivial⟩ ?_
      refine Go'.inLoop ?_
      exact ih (j + 1,v7,_) H7 ⟨hlt,hA7,hF.trans' hF7 (fun _ _ _ h => h) (fun b o hb hz => by have := hZ1 b hz; omega),hFZ.trans' hF7 (fun _ _ _ h => h) (fun b o hb hz => hZ1 b hz),fun b hb => hb.elim (hZ1 b) (fun h => by omega)⟩ (by simp only; omega)
    · skip
      have e0' : j = us.length := by omega
      have e1' : ls.take j = ls := by rw [e0',hlen,List.take_length]
      rw [e1'] at hA
      refine Go'.region [(0,0)] rfl ?_
      refine O.cmp rfl rfl rfl rfl rfl rfl (lssF (by omega)) ?_
      refine Pl.fin [(6,_),(25,_),(26,_),(27,_),(28,_)] ⟨rfl,rfl,rfl,rfl,rfl,trivial⟩ ?_
      refine Go'.seq ?_
      refine Go'.condF rfl ?_
      refine Go'.exit rfl ?_
      refine Go'.seq ?_
      refine Go'.region [(0,0),(1,0)] rfl ?_
      refine O.mv rfl rfl rfl rfl rfl ?_
      refine O.asg rfl rfl rfl rfl rfl ?_
      refine Pl.fin [(2,_)] ⟨rfl,trivial⟩ ?_
      refine Go'.ret (vs := [_]) func45 results45 ⟨rfl,trivial⟩ ?_
      exact ⟨hA.mono fun b _ hz => hZ1 b hz,hF⟩


end SI
theorem igitems_spec {B : World} {H : Mem} {d : Nat} {nl : Bool} {v u : Value} {ord : List Int} {l : List (Int × Int)} (hd : d = 0 ∨ 2 ≤ d ∧ d ≤ 128) (ho : InS EN H v ord) (hol : ord.length ≤ 4294967296) (hi : InS EJ H u l) (hll : l.length ≤ 4294967296) :
    Fn Try.prog B 43 [.agg #[v,.int .i64 (d : Int),.bool nl],u] H (fun r H' => OutS EJ H' r (Pl.puts (OO ord) l) ∧ Fr nowhere H H') := by
  obtain ⟨a,c,hu⟩ := hi.len
  subst hu
  obtain ⟨av,mv,cv,hv⟩ := InS.form ho
  subst hv
  have hF : Fr nowhere H H := Fr.refl _ _
  have hP := PD_ok hd
  refine fn_of func43 rfl ntmps43 ?_
  refine (show Go' _ _ _ _ 9 [(0,_),(1,_)] [.code _] _ from ?_)
  refine Go'.seq ?_
  refine Go'.region [(0,2),(1,0)] rfl ?_
  refine O.box rfl rfl rfl rfl ?_
  intro B1 MB1
  refine ⟨trivial,?_⟩
  have hsB1 := MB1.size
  replace hF := hF.trans (MB1.fr nowhere)
  have mm : Rd B1 H.size 0 [.slice av mv cv,.int .i64 (d : Int),.bool nl] := MB1.rd _ [] (by simp [Value.cells])
  have mm0 : cl B1 H.size 0 = some (.slice av mv cv) := mm 0 _ rfl
  have mm1 : cl B1 H.size (0 + 1) = some (.int .i64 (d : Int)) := mm 1 _ rfl
  refine O.asg rfl rfl rfl rfl rfl ?_
  refine Pl.fin [(1,_),(2,_),(4,_)] ⟨rfl,rfl,rfl,trivial⟩ ?_
  refine Go'.seq ?_
  refine Go'.region [(0,1),(1,0),(2,2),(3,2),(4,0)] rfl ?_
  refine O.lds rfl rfl rfl (fun w => ⟨isAgg24 w,sizeOf24 w⟩) rfl rfl mm ?_
  refine O.mv rfl rfl rfl rfl rfl ?_
  refine O.call rfl rfl rfl call68 rfl (grow_spec hd (ho.fr hF) hol (hi.fr hF) hll) ?_
  rintro _ H3 ⟨I,hIo,hIw,hIb,tr,S,rfl,hM,hF3,hS⟩
  have hs3 := hF3.size
  replace hF := hF.trans hF3
  replace mm := hF3.rd mm (fun _ _ => nw)
  replace mm0 := hF3.keep mm0 nw
  replace mm1 := hF3.keep mm1 nw
  have hSb : ∀ b,S b ∨ (b < cx.base ∧ cx.own b) → B1.size ≤ b := fun b hb => hb.elim (hS b) (fun h => hIw b h.2)
  have hOO : OO ord = OI := by rw [← hIo]; rfl
  have hpl := Pl.puts_length OI l
  have hSlt := hM.lt
  have hbs := hM.tc.hb
  unfold ptr
  refine ⟨trivial,?_⟩
  refine O.call rfl rfl rfl call73 rfl (Items_spec hP hM (by omega)) ?_
  rintro v4 H4 ⟨h4,hF4⟩
  replace hF := hF.trans hF4
  replace mm := hF4.rd mm (fun _ _ => nw)
  replace mm0 := hF4.keep mm0 nw
  replace mm1 := hF4.keep mm1 nw
  refine ⟨trivial,?_⟩
  refine O.asg rfl rfl rfl rfl rfl ?_
  refine Pl.fin [(4,_)] ⟨rfl,trivial⟩ ?_
  refine Go'.ret (vs := [_]) func43 results43 ⟨rfl,trivial⟩ ?_
  rw [hOO]; exact ⟨h4,hF⟩

theorem alive_spec {B : World} {H : Mem} : Fn Try.prog B 25 [] H (fun r H' => r = .bool true ∧ Fr nowhere H H') := by
  have hal : (Pl.puts (OO []) ((exl.drop 0).take (3 - 0))).length = 3 := by decide
  refine fn_of func25 rfl ntmps25 ?_
  refine (show Go' _ _ _ _ 7 [] [.code _] _ from ?_)
  refine Go'.seq ?_
  refine Go'.region [(0,0)] rfl ?_
  refine O.asg rfl rfl rfl rfl rfl ?_
  refine Pl.fin [(0,_)] ⟨rfl,trivial⟩ ?_
  refine Go'.seq ?_
  refine Go'.region [(0,2),(1,2),(2,0),(3,2),(4,0),(5,0),(6,0)] rfl ?_
  refine O.call rfl rfl rfl call30 rfl exMake_spec ?_
  rintro _ H1 ⟨rfl,hF1⟩
  refine ⟨trivial,?_⟩
  refine O.call rfl rfl rfl call32 rfl exItems_spec ?_
  rintro ev H2 ⟨hev,hF2⟩
  obtain ⟨ea,ec,hee⟩ := hev.len
  subst hee
  refine ⟨trivial,?_⟩
  refine O.slcIn (E := EJ) (jh := 3) rfl rfl rfl rfl underlying25 sizeOf27 rfl hev ⟨_,by rfl⟩ rfl (by decide) (by decide) ?_
  intro sv hsv
  refine O.call rfl rfl rfl call43 rfl (igitems_spec (d := 2) (by decide) (InS.nil EN _) (by decide) hsv (by decide)) ?_
  rintro gv H3 ⟨hg,hF3⟩
  obtain ⟨ga,gc,hge⟩ := hg.inS.len
  subst hge
  refine ⟨trivial,?_⟩
  refine O.len rfl rfl rfl rfl underlying25 rfl ?_
  refine O.cmp rfl rfl rfl rfl rfl rfl (eqlT (by rw [hal]; rfl)) ?_
  refine O.asg rfl rfl rfl rfl rfl ?_
  refine Pl.fin [(0,_)] ⟨rfl,trivial⟩ ?_
  refine Go'.ret (vs := [_]) func25 results25 ⟨rfl,trivial⟩ ?_
  exact ⟨rfl,(hF1.trans hF2).trans hF3⟩

end Go.Bt.FG
namespace Go.Bt.FG
open Go Go.Proofs Go.Proofs.Try
set_option maxRecDepth 20000
set_option maxHeartbeats 4000000
set_option linter.unusedVariables false
set_option linter.unusedSectionVars false

section
variable [Inhabited Cx]
theorem HintM.new {H H' : Mem} {c : Array Value} {e : TypeId} (M : Made H H' c e) (hu : ∀ i,i < 8 → c[i]? = some (.bool false)) (hp : ∀ i,i < 8 → c[8 + i]? = some (.int .u8 0)) (hs : 16 ≤ c.size) (he : e < 1000 := by decide) : HintM H' H.size :=
  ⟨fun i hi => ⟨false,(M.cl i).trans (hu i hi)⟩,fun i hi => ⟨0,by decide,(M.cl (8 + i)).trans (hp i hi)⟩,M.wr 16 hs he⟩
end
end Go.Bt.FG
