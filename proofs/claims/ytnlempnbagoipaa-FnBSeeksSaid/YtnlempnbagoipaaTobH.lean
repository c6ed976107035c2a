/- Contracts of functions of the program, proved by walking through their code. Conditions: those that each theorem names. -/
import Derived.Test.YtnlempnbagoipaaTocT
import Derived.Test.YtnlempnbagoipaaTobF
import Derived.Test.YtnlempnbagoipaaToRb
import Derived.Test.YtnlempnbagoipaaToCc
namespace Go.Bt.FB
open Go Go.Proofs Go.Proofs.Try
set_option maxRecDepth 20000
set_option maxHeartbeats 4000000
set_option linter.unusedVariables false
set_option linter.unusedSectionVars false

section
variable [Inhabited Cx]

theorem iNext_spec {B : World} {H : Mem} {it tr : Nat} {mt sk sa se : Bool} {Z : Nat → Prop} {fr : List (Nat × Int)} {kv : Option (Int × Int)} {P : Ps} {S : Nat → Prop} {l : List (Int × Int)} {r : Option ((h : Nat) × Gt EA h)} (hI : Itr H H it tr mt Z sk sa se Z fr kv) (hT : TreeR H tr P S l r) (hsi : ¬ S it) (hsz : ∀ b,S b → ¬ Z b) {st : Option Nat} (hSt : StI r l sk fr kv st) :
    Fn Try.prog B 119 [.pointer (some ⟨it,0,none⟩)] H (fun v H' => ∃ b st',v = .bool b ∧ ItPost H H' it tr mt Z r l st' ∧ (∀ q,st = some q → b = decide (q + 1 < l.length) ∧ st' = if q + 1 < l.length then some (q + 1) else none) ∧ (l = [] → b = false ∧ st' = none)) := by
  rcases st with _ | q
  rotate_left
  · obtain ⟨rfl,hq,h0,t0,rfl,hS⟩ := hSt
    exact (iNext_gen hI hT hsi hsz hS.gap).mono fun v H' ⟨e,hp⟩ => ⟨_,_,e,hp,fun q' e' => by cases e'; exact ⟨rfl,rfl⟩,fun e' => by subst e'; cases kv <;> simp at hq⟩
  have hSt' : fr = [] := hSt
  subst hSt'
  have hK : ∀ H',Fr (fun b _ => b = it ∨ Z b) H H' → TreeR H' tr P S l r := fun H' hf => hT.keep hf fun b o hs hz => hz.elim (fun e => hsi (e ▸ hs)) (hsz b hs)
  have hll := hT.ll
  have hno : ∀ {b : Bool} {st' : Option Nat} (q : Nat),(none : Option Nat) = some q → b = decide (q + 1 < l.length) ∧ st' = if q + 1 < l.length then some (q + 1) else none := fun q e => by cases e
  obtain ⟨sv,hsv,hA⟩ := hI.st
  obtain ⟨a0,c0,rfl⟩ : ∃ a c,sv = .slice a 0 c := by
    rcases hA with ⟨e,_⟩ | ⟨b,o,c,e,_⟩
    · exact ⟨_,_,e⟩
    · exact ⟨_,_,e⟩
  have hnl : l = [] → r = none := by
    intro e
    have hrt := hT.rt
    rcases r with _ | ⟨h0,t0⟩
    · rfl
    · obtain ⟨hg,hx,hl,_⟩ := hrt
      have := Gt.high hT.mn hg hx
      rw [hl,e] at this
      simp at this
  refine fn_of func119 rfl ntmps119 ?_
  refine (show Go' _ _ _ _ 195 [(0,_)] [.code _] _ from ?_)
  refine Go'.seq ?_
  refine Go'.region [(0,0)] rfl ?_
  refine O.asg rfl rfl rfl rfl rfl ?_
  refine Pl.fin [(0,_),(2,_)] ⟨rfl,rfl,trivial⟩ ?_
  refine Go'.seq ?_
  refine Go'.seq ?_
  refine Go'.region [(0,0),(1,0),(2,0),(3,1),(4,0)] rfl ?_
  refine O.mv rfl rfl rfl rfl rfl ?_
  refine O.nc rfl rfl rfl rfl rfl ?_
  refine O.faz rfl rfl rfl rfl ⟨_,_,_,underlying102,rfl,rfl,sizeOf95⟩ rfl ?_
  refine O.ld rfl rfl rfl (fun w => ⟨isAgg95 w,sizeOf95 w⟩) rfl hI.c0 ?_
  refine O.isNil rfl rfl rfl rfl underlying95 rfl rfl ?_
  refine Pl.fin [(0,_),(2,_),(9,_)] ⟨rfl,rfl,rfl,trivial⟩ ?_
  refine Go'.condF rfl ?_
  refine Go'.skip ?_
  refine Go'.seq ?_
  refine Go'.seq ?_
  rcases sk with _ | _
  · skip
    refine Go'.region [(0,0),(1,0),(2,0),(3,1),(4,0)] rfl ?_
    refine O.mv rfl rfl rfl rfl rfl ?_
    refine O.nc rfl rfl rfl rfl rfl ?_
    refine O.fa0 (off := 3) rfl rfl rfl rfl ⟨_,_,_,underlying102,rfl,rfl,sizeOf4⟩ rfl ?_
    refine O.ld rfl rfl rfl (fun w => ⟨isAgg4 w,sizeOf4 w⟩) rfl hI.c2 ?_
    refine O.not rfl rfl rfl rfl rfl ?_
    refine Pl.fin [(0,_),(2,_),(14,_)] ⟨rfl,rfl,rfl,trivial⟩ ?_
    refine Go'.condT rfl ?_
    refine Go'.seq ?_
    refine Go'.region [(0,0),(1,2),(2,0)] rfl ?_
    refine O.mv rfl rfl rfl rfl rfl ?_
    refine O.call rfl rfl rfl call122 rfl (iFirst_spec hI hT hsi hsz) ?_
    rintro _ H1 ⟨rfl,hp⟩
    refine ⟨trivial,?_⟩
    refine O.asg rfl rfl rfl rfl rfl ?_
    refine Pl.fin [(0,_),(2,_)] ⟨rfl,rfl,trivial⟩ ?_
    refine Go'.ret (vs := [_]) func119 results119 ⟨rfl,trivial⟩ ?_
    exact ⟨_,_,rfl,hp,hno,fun e => by subst e; exact ⟨rfl,rfl⟩⟩
  · skip
    refine Go'.region [(0,0),(1,0),(2,0),(3,1),(4,0)] rfl ?_
    refine O.mv rfl rfl rfl rfl rfl ?_
    refine O.nc rfl rfl rfl rfl rfl ?_
    refine O.fa0 (off := 3) rfl rfl rfl rfl ⟨_,_,_,underlying102,rfl,rfl,sizeOf4⟩ rfl ?_
    refine O.ld rfl rfl rfl (fun w => ⟨isAgg4 w,sizeOf4 w⟩) rfl hI.c2 ?_
    refine O.not rfl rfl rfl rfl rfl ?_
    refine Pl.fin [(0,_),(2,_),(14,_)] ⟨rfl,rfl,rfl,trivial⟩ ?_
    refine Go'.condF rfl ?_
    refine Go'.skip ?_
    refine Go'.seq ?_
    refine Go'.seq ?_
    refine Go'.region [(0,0),(1,0),(2,0),(3,1),(4,0),(5,0)] rfl ?_
    refine O.mv rfl rfl rfl rfl rfl ?_
    refine O.nc rfl rfl rfl rfl rfl ?_
    refine O.fa0 (off := 14) rfl rfl rfl rfl ⟨_,_,_,underlying102,rfl,rfl,sizeOf100⟩ rfl ?_
    refine O.ld rfl rfl rfl (fun w => ⟨isAgg100 w,sizeOf100 w⟩) rfl hsv ?_
    refine O.len rfl rfl rfl rfl underlying100 rfl ?_
    refine O.cmp rfl rfl rfl rfl rfl rfl (eqlT rfl) ?_
    refine Pl.fin [(0,_),(2,_),(22,_)] ⟨rfl,rfl,rfl,trivial⟩ ?_
    refine Go'.condT rfl ?_
    refine Go'.seq ?_
    refine Go'.seq ?_
    rcases sa with _ | _
    · skip
      refine Go'.region [(0,0),(1,0),(2,0),(3,1)] rfl ?_
      refine O.mv rfl rfl rfl rfl rfl ?_
      refine O.nc rfl rfl rfl rfl rfl ?_
      refine O.fa0 (off := 4) rfl rfl rfl rfl ⟨_,_,_,underlying102,rfl,rfl,sizeOf4⟩ rfl ?_
      refine O.ld rfl rfl rfl (fun w => ⟨isAgg4 w,sizeOf4 w⟩) rfl hI.c3 ?_
      refine Pl.fin [(0,_),(2,_),(26,_)] ⟨rfl,rfl,rfl,trivial⟩ ?_
      refine Go'.condF rfl ?_
      refine Go'.skip ?_
      refine Go'.seq ?_
      refine Go'.region [(0,0)] rfl ?_
      refine O.asg rfl rfl rfl rfl rfl ?_
      refine Pl.fin [(0,_),(2,_)] ⟨rfl,rfl,trivial⟩ ?_
      refine Go'.ret (vs := [_]) func119 results119 ⟨rfl,trivial⟩ ?_
      exact ⟨_,none,rfl,⟨_,_,_,_,_,_,hI,rfl⟩,hno,fun _ => ⟨rfl,rfl⟩⟩
    · skip
      refine Go'.region [(0,0),(1,0),(2,0),(3,1)] rfl ?_
      refine O.mv rfl rfl rfl rfl rfl ?_
      refine O.nc rfl rfl rfl rfl rfl ?_
      refine O.fa0 (off := 4) rfl rfl rfl rfl ⟨_,_,_,underlying102,rfl,rfl,sizeOf4⟩ rfl ?_
      refine O.ld rfl rfl rfl (fun w => ⟨isAgg4 w,sizeOf4 w⟩) rfl hI.c3 ?_
      refine Pl.fin [(0,_),(2,_),(26,_)] ⟨rfl,rfl,rfl,trivial⟩ ?_
      refine Go'.condT rfl ?_
      refine Go'.seq ?_
      have hf := iFirst_spec (B := B) hI hT hsi hsz
      by_cases hl0 : 0 < l.length
      · skip
        rw [decide_eq_true hl0,if_pos hl0] at hf
        refine Go'.region [(0,0),(1,2),(2,0),(3,0),(4,2),(5,0),(6,0)] rfl ?_
        refine O.mv rfl rfl rfl rfl rfl ?_
        refine O.call rfl rfl rfl call122 rfl hf ?_
        rintro _ H1 ⟨rfl,hp⟩
        obtain ⟨sk2,sa2,se2,Z2,fr2,kv2,hI2,hst⟩ := hp
        obtain ⟨rfl,hq,h0,t0,rfl,hS⟩ := hst
        have hsz2 : ∀ b,S b → ¬ Z2 b := fun b hs hz => (hI2.zz b hz).elim (hsz b hs) (fun h => by have := hT.lt b hs; omega)
        refine ⟨trivial,?_⟩
        refine O.mv rfl rfl rfl rfl rfl ?_
        refine O.mv rfl rfl rfl rfl rfl ?_
        refine O.call rfl rfl rfl call119 rfl (iNext_gen hI2.re (hK _ hI2.f) hsi hsz2 hS.gap) ?_
        rintro _ H3 ⟨rfl,hp3⟩
        refine ⟨trivial,?_⟩
        refine O.pick rfl rfl rfl rfl rfl rfl ?_
        refine O.asg rfl rfl rfl rfl rfl ?_
        refine Pl.fin [(0,_),(2,_)] ⟨rfl,rfl,trivial⟩ ?_
        refine Go'.ret (vs := [_]) func119 results119 ⟨rfl,trivial⟩ ?_
        exact ⟨_,_,rfl,ItPost.trans (P := P) (S := S) hI2 hp3,hno,fun e => by subst e; simp at hl0⟩
      · skip
        rw [decide_eq_false hl0,if_neg hl0] at hf
        refine Go'.region [(0,0),(1,2),(2,0),(3,0),(4,2),(5,0),(6,0)] rfl ?_
        refine O.mv rfl rfl rfl rfl rfl ?_
        refine O.call rfl rfl rfl call122 rfl hf ?_
        rintro _ H1 ⟨rfl,hp⟩
        refine ⟨trivial,?_⟩
        refine O.mv rfl rfl rfl rfl rfl ?_
        refine Pl.pass rfl rfl rfl rfl ?_
        refine Pl.pass2 rfl rfl rfl rfl trivial ?_
        refine O.pick rfl rfl rfl rfl rfl rfl ?_
        refine O.asg rfl rfl rfl rfl rfl ?_
        refine Pl.fin [(0,_),(2,_)] ⟨rfl,rfl,trivial⟩ ?_
        refine Go'.ret (vs := [_]) func119 results119 ⟨rfl,trivial⟩ ?_
        exact ⟨_,_,rfl,hp,hno,fun _ => ⟨rfl,rfl⟩⟩

theorem iPrev_spec {B : World} {H : Mem} {it tr : Nat} {mt sk sa se : Bool} {Z : Nat → Prop} {fr : List (Nat × Int)} {kv : Option (Int × Int)} {P : Ps} {S : Nat → Prop} {l : List (Int × Int)} {r : Option ((h : Nat) × Gt EA h)} (hI : Itr H H it tr mt Z sk sa se Z fr kv) (hT : TreeR H tr P S l r) (hsi : ¬ S it) (hsz : ∀ b,S b → ¬ Z b) {st : Option Nat} (hSt : StI r l sk fr kv st) :
    Fn Try.prog B 120 [.pointer (some ⟨it,0,none⟩)] H (fun v H' => ∃ b st',v = .bool b ∧ ItPost H H' it tr mt Z r l st' ∧ (∀ q,st = some q → b = decide (0 < q) ∧ st' = if 0 < q then some (q - 1) else none) ∧ (l = [] → b = false ∧ st' = none)) := by
  rcases st with _ | q
  rotate_left
  · obtain ⟨rfl,hq,h0,t0,rfl,hS⟩ := hSt
    exact (iPrev_gen hI hT hsi hsz hS).mono fun v H' ⟨e,hp⟩ => ⟨_,_,e,hp,fun q' e' => by cases e'; exact ⟨rfl,rfl⟩,fun e' => by subst e'; cases kv <;> simp at hq⟩
  have hSt' : fr = [] := hSt
  subst hSt'
  have hK : ∀ H',Fr (fun b _ => b = it ∨ Z b) H H' → TreeR H' tr P S l r := fun H' hf => hT.keep hf fun b o hs hz => hz.elim (fun e => hsi (e ▸ hs)) (hsz b hs)
  have hll := hT.ll
  have hno : ∀ {b : Bool} {st' : Option Nat} (q : Nat),(none : Option Nat) = some q → b = decide (0 < q) ∧ st' = if 0 < q then some (q - 1) else none := fun q e => by cases e
  obtain ⟨sv,hsv,hA⟩ := hI.st
  obtain ⟨a0,c0,rfl⟩ : ∃ a c,sv = .slice a 0 c := by
    rcases hA with ⟨e,_⟩ | ⟨b,o,c,e,_⟩
    · exact ⟨_,_,e⟩
    · exact ⟨_,_,e⟩
  have hnl : l = [] → r = none := by
    intro e
    have hrt := hT.rt
    rcases r with _ | ⟨h0,t0⟩
    · rfl
    · obtain ⟨hg,hx,hl,_⟩ := hrt
      have := Gt.high hT.mn hg hx
      rw [hl,e] at this
      simp at this
  refine fn_of func120 rfl ntmps120 ?_
  refine (show Go' _ _ _ _ 210 [(0,_)] [.code _] _ from ?_)
  refine Go'.seq ?_
  refine Go'.region [(0,0)] rfl ?_
  refine O.asg rfl rfl rfl rfl rfl ?_
  refine Pl.fin [(0,_),(2,_)] ⟨rfl,rfl,trivial⟩ ?_
  refine Go'.seq ?_
  refine Go'.seq ?_
  refine Go'.region [(0,0),(1,0),(2,0),(3,1),(4,0)] rfl ?_
  refine O.mv rfl rfl rfl rfl rfl ?_
  refine O.nc rfl rfl rfl rfl rfl ?_
  refine O.faz rfl rfl rfl rfl ⟨_,_,_,underlying102,rfl,rfl,sizeOf95⟩ rfl ?_
  refine O.ld rfl rfl rfl (fun w => ⟨isAgg95 w,sizeOf95 w⟩) rfl hI.c0 ?_
  refine O.isNil rfl rfl rfl rfl underlying95 rfl rfl ?_
  refine Pl.fin [(0,_),(2,_),(9,_)] ⟨rfl,rfl,rfl,trivial⟩ ?_
  refine Go'.condF rfl ?_
  refine Go'.skip ?_
  refine Go'.seq ?_
  refine Go'.seq ?_
  rcases sk with _ | _
  · skip
    refine Go'.region [(0,0),(1,0),(2,0),(3,1),(4,0)] rfl ?_
    refine O.mv rfl rfl rfl rfl rfl ?_
    refine O.nc rfl rfl rfl rfl rfl ?_
    refine O.fa0 (off := 3) rfl rfl rfl rfl ⟨_,_,_,underlying102,rfl,rfl,sizeOf4⟩ rfl ?_
    refine O.ld rfl rfl rfl (fun w => ⟨isAgg4 w,sizeOf4 w⟩) rfl hI.c2 ?_
    refine O.not rfl rfl rfl rfl rfl ?_
    refine Pl.fin [(0,_),(2,_),(14,_)] ⟨rfl,rfl,rfl,trivial⟩ ?_
    refine Go'.condT rfl ?_
    refine Go'.seq ?_
    refine Go'.region [(0,0)] rfl ?_
    refine O.asg rfl rfl rfl rfl rfl ?_
    refine Pl.fin [(0,_),(2,_)] ⟨rfl,rfl,trivial⟩ ?_
    refine Go'.ret (vs := [_]) func120 results120 ⟨rfl,trivial⟩ ?_
    exact ⟨_,none,rfl,⟨_,_,_,_,_,_,hI,rfl⟩,hno,fun _ => ⟨rfl,rfl⟩⟩
  · skip
    refine Go'.region [(0,0),(1,0),(2,0),(3,1),(4,0)] rfl ?_
    refine O.mv rfl rfl rfl rfl rfl ?_
    refine O.nc rfl rfl rfl rfl rfl ?_
    refine O.fa0 (off := 3) rfl rfl rfl rfl ⟨_,_,_,underlying102,rfl,rfl,sizeOf4⟩ rfl ?_
    refine O.ld rfl rfl rfl (fun w => ⟨isAgg4 w,sizeOf4 w⟩) rfl hI.c2 ?_
    refine O.not rfl rfl rfl rfl rfl ?_
    refine Pl.fin [(0,_),(2,_),(14,_)] ⟨rfl,rfl,rfl,trivial⟩ ?_
    refine Go'.condF rfl ?_
    refine Go'.skip ?_
    refine Go'.seq ?_
    refine Go'.seq ?_
    refine Go'.region [(0,0),(1,0),(2,0),(3,1),(4,0),(5,0)] rfl ?_
    refine O.mv rfl rfl rfl rfl rfl ?_
    refine O.nc rfl rfl rfl rfl rfl ?_
    refine O.fa0 (off := 14) rfl rfl rfl rfl ⟨_,_,_,underlying102,rfl,rfl,sizeOf100⟩ rfl ?_
    refine O.ld rfl rfl rfl (fun w => ⟨isAgg100 w,sizeOf100 w⟩) rfl hsv ?_
    refine O.len rfl rfl rfl rfl underlying100 rfl ?_
    refine O.cmp rfl rfl rfl rfl rfl rfl (eqlT rfl) ?_
    refine Pl.fin [(0,_),(2,_),(20,_)] ⟨rfl,rfl,rfl,trivial⟩ ?_
    refine Go'.condT rfl ?_
    refine Go'.seq ?_
    refine Go'.seq ?_
    rcases se with _ | _
    · skip
      refine Go'.region [(0,0),(1,0),(2,0),(3,1)] rfl ?_
      refine O.mv rfl rfl rfl rfl rfl ?_
      refine O.nc rfl rfl rfl rfl rfl ?_
      refine O.fa0 (off := 5) rfl rfl rfl rfl ⟨_,_,_,underlying102,rfl,rfl,sizeOf4⟩ rfl ?_
      refine O.ld rfl rfl rfl (fun w => ⟨isAgg4 w,sizeOf4 w⟩) rfl hI.c4 ?_
      refine Pl.fin [(0,_),(2,_),(24,_)] ⟨rfl,rfl,rfl,trivial⟩ ?_
      refine Go'.condF rfl ?_
      refine Go'.skip ?_
      refine Go'.seq ?_
      refine Go'.region [(0,0)] rfl ?_
      refine O.asg rfl rfl rfl rfl rfl ?_
      refine Pl.fin [(0,_),(2,_)] ⟨rfl,rfl,trivial⟩ ?_
      refine Go'.ret (vs := [_]) func120 results120 ⟨rfl,trivial⟩ ?_
      exact ⟨_,none,rfl,⟨_,_,_,_,_,_,hI,rfl⟩,hno,fun _ => ⟨rfl,rfl⟩⟩
    · skip
      refine Go'.region [(0,0),(1,0),(2,0),(3,1)] rfl ?_
      refine O.mv rfl rfl rfl rfl rfl ?_
      refine O.nc rfl rfl rfl rfl rfl ?_
      refine O.fa0 (off := 5) rfl rfl rfl rfl ⟨_,_,_,underlying102,rfl,rfl,sizeOf4⟩ rfl ?_
      refine O.ld rfl rfl rfl (fun w => ⟨isAgg4 w,sizeOf4 w⟩) rfl hI.c4 ?_
      refine Pl.fin [(0,_),(2,_),(24,_)] ⟨rfl,rfl,rfl,trivial⟩ ?_
      refine Go'.condT rfl ?_
      refine Go'.seq ?_
      have hf := iLast_spec (B := B) hI hT hsi hsz
      by_cases hl0 : 0 < l.length
      · skip
        rw [decide_eq_true hl0,if_pos hl0] at hf
        refine Go'.region [(0,0),(1,2),(2,0),(3,0),(4,2),(5,0),(6,0)] rfl ?_
        refine O.mv rfl rfl rfl rfl rfl ?_
        refine O.call rfl rfl rfl call118 rfl hf ?_
        rintro _ H1 ⟨rfl,hp⟩
        obtain ⟨sk2,sa2,se2,Z2,fr2,kv2,hI2,hst⟩ := hp
        obtain ⟨rfl,hq,h0,t0,rfl,hS⟩ := hst
        have hsz2 : ∀ b,S b → ¬ Z2 b := fun b hs hz => (hI2.zz b hz).elim (hsz b hs) (fun h => by have := hT.lt b hs; omega)
        refine ⟨trivial,?_⟩
        refine O.mv rfl rfl rfl rfl rfl ?_
        refine O.mv rfl rfl rfl rfl rfl ?_
        refine O.call rfl rfl rfl call120 rfl (iPrev_gen hI2.re (hK _ hI2.f) hsi hsz2 hS) ?_
        rintro _ H3 ⟨rfl,hp3⟩
        refine ⟨trivial,?_⟩
        refine O.pick rfl rfl rfl rfl rfl rfl ?_
        refine O.asg rfl rfl rfl rfl rfl ?_
        refine Pl.fin [(0,_),(2,_)] ⟨rfl,rfl,trivial⟩ ?_
        refine Go'.ret (vs := [_]) func120 results120 ⟨rfl,trivial⟩ ?_
        exact ⟨_,_,rfl,ItPost.trans (P := P) (S := S) hI2 hp3,hno,fun e => by subst e; simp at hl0⟩
      · skip
        rw [decide_eq_false hl0,if_neg hl0] at hf
        refine Go'.region [(0,0),(1,2),(2,0),(3,0),(4,2),(5,0),(6,0)] rfl ?_
        refine O.mv rfl rfl rfl rfl rfl ?_
        refine O.call rfl rfl rfl call118 rfl hf ?_
        rintro _ H1 ⟨rfl,hp⟩
        refine ⟨trivial,?_⟩
        refine O.mv rfl rfl rfl rfl rfl ?_
        refine Pl.pass rfl rfl rfl rfl ?_
        refine Pl.pass2 rfl rfl rfl rfl trivial ?_
        refine O.pick rfl rfl rfl rfl rfl rfl ?_
        refine O.asg rfl rfl rfl rfl rfl ?_
        refine Pl.fin [(0,_),(2,_)] ⟨rfl,rfl,trivial⟩ ?_
        refine Go'.ret (vs := [_]) func120 results120 ⟨rfl,trivial⟩ ?_
        exact ⟨_,_,rfl,hp,hno,fun _ => ⟨rfl,rfl⟩⟩

end
end Go.Bt.FB
namespace Go.Bt.FB
open Go Go.Proofs Go.Proofs.Try
set_option maxRecDepth 20000
set_option maxHeartbeats 4000000
set_option linter.unusedVariables false
set_option linter.unusedSectionVars false

variable [Inhabited Cx]

/-- A path hint in memory. -/
structure HintM (H : Mem) (hb : Nat) : Prop where
  us : ∀ i,i < 8 → ∃ b,cl H hb i = some (.bool b)
  ps : ∀ i,i < 8 → ∃ n : Nat,n < 256 ∧ cl H hb (8 + i) = some (.int .u8 (n : Int))
  wr : Wr H hb 0 16
theorem HintM.fr {H H' : Mem} {hb : Nat} {Z : Nat → Nat → Prop} (h : HintM H hb) (hf : Fr Z H H') (hz : ∀ o,¬ Z hb o) : HintM H' hb where
  us := fun i hi => have ⟨b,hb⟩ := h.us i hi; ⟨b,hf.keep hb (hz _)⟩
  ps := fun i hi => have ⟨n,hn,hb⟩ := h.ps i hi; ⟨n,hn,hf.keep hb (hz _)⟩
  wr := hf.wr h.wr
theorem HintM.setU {H H' : Mem} {hb i : Nat} {b : Bool} (h : HintM H hb) (W : Wrote H H' hb i [.bool b]) (hi : i < 8) : HintM H' hb where
  us := fun j hj => by
    by_cases e : j = i
    · subst e; exact ⟨b,W.at⟩
    · obtain ⟨c,hc⟩ := h.us j hj; exact ⟨c,W.keep1 hc (by omega)⟩
  ps := fun j hj => by obtain ⟨n,hn,hc⟩ := h.ps j hj; exact ⟨n,hn,W.keep1 hc (by omega)⟩
  wr := W.fr.wr h.wr
theorem HintM.setP {H H' : Mem} {hb i n : Nat} (h : HintM H hb) (W : Wrote H H' hb (8 + i) [.int .u8 (n : Int)]) (hi : i < 8) (hn : n < 256) : HintM H' hb where
  us := fun j hj => by obtain ⟨c,hc⟩ := h.us j hj; exact ⟨c,W.keep1 hc (by omega)⟩
  ps := fun j hj => by
    by_cases e : j = i
    · subst e; exact ⟨n,hn,W.at⟩
    · obtain ⟨m,hm,hc⟩ := h.ps j hj; exact ⟨m,hm,W.keep1 hc (by omega)⟩
  wr := W.fr.wr h.wr
/-- The argument hint: nil,or a hint in a block of its own (hz: its block). -/
def HintOk (H : Mem) (v : Value) (hz : Nat → Prop) : Prop := (v = .pointer none ∧ ∀ b,¬ hz b) ∨ ∃ hb,v = .pointer (some ⟨hb,0,none⟩) ∧ (∀ b,hz b ↔ b = hb) ∧ hb < H.size ∧ ¬ (hb < cx.base ∧ cx.own hb) ∧ HintM H hb
theorem HintOk.fr {H H' : Mem} {v : Value} {hz : Nat → Prop} {Z : Nat → Nat → Prop} (h : HintOk H v hz) (hf : Fr Z H H') (hd : ∀ b o,hz b → ¬ Z b o) : HintOk H' v hz :=
  h.imp id fun ⟨hb,h1,h2,h3,h4,h5⟩ => ⟨hb,h1,h2,Nat.lt_of_lt_of_le h3 hf.size,h4,h5.fr hf fun o => hd hb o ((h2 hb).2 rfl)⟩
theorem HintOk.base {H : Mem} {v : Value} {hz : Nat → Prop} (h : HintOk H v hz) : ∀ b,hz b → ¬ (b < cx.base ∧ cx.own b) ∧ b < H.size := fun b hb => by
  rcases h with ⟨_,h⟩ | ⟨h0,_,h2,h3,h4,_⟩
  · exact absurd hb (h b)
  · rw [(h2 b).1 hb]; exact ⟨h4,h3⟩

theorem Less_spec {B : World} {H : Mem} {tr id mx mn : Nat} (tc : TrC H tr id mx mn) (x y : Int × Int) :
    Fn Try.prog B 116 [.pointer (some ⟨tr,0,none⟩),iv x,iv y] H (fun r H' => r = .bool (OI.lt x y) ∧ Fr nowhere H H') := by
  refine fn_of func116 rfl ntmps116 ?_
  refine (show Go' _ _ _ _ 14 [(0,_),(1,_),(2,_)] [.code _] _ from ?_)
  refine Go'.seq ?_
  have M1 := Mk0.mk' H
  have hf1 := M1.fr nowhere
  replace tc := tc.fr hf1 (fun _ _ _ _ => nw)
  have M2 := Mk0.mk' H
  have hf2 := hf1.trans (M2.fr nowhere)
  refine Go'.region [(0,0)] rfl ?_
  refine O.asg rfl rfl rfl rfl rfl ?_
  refine Pl.fin [(0,_),(1,_),(2,_),(6,_)] ⟨rfl,rfl,rfl,rfl,trivial⟩ ?_
  refine Go'.seq ?_
  refine Go'.region [(0,0),(1,0),(2,0),(3,1),(4,0),(5,0),(6,2),(7,0)] rfl ?_
  refine O.mv rfl rfl rfl rfl rfl ?_
  refine O.nc rfl rfl rfl rfl rfl ?_
  refine O.fa0 (off := 6) rfl rfl rfl rfl ⟨_,_,_,underlying138,rfl,rfl,sizeOf109⟩ rfl ?_
  refine O.ld rfl rfl rfl (fun w => ⟨isAgg109 w,sizeOf109 w⟩) rfl tc.le ?_
  refine O.mv rfl rfl rfl rfl rfl ?_
  refine O.mv rfl rfl rfl rfl rfl ?_
  refine O.callC rfl rfl rfl rfl call101 rfl (less_spec tc x y) ?_
  rintro _ H3 ⟨rfl,hF3⟩
  refine ⟨trivial,?_⟩
  refine O.asg rfl rfl rfl rfl rfl ?_
  refine Pl.fin [(6,_)] ⟨rfl,trivial⟩ ?_
  refine Go'.ret (vs := [_]) func116 results116 ⟨rfl,trivial⟩ ?_
  exact ⟨rfl,hf2.trans hF3⟩

end Go.Bt.FB
namespace Go.Bt.FB
open Go Go.Proofs Go.Proofs.Try
set_option maxRecDepth 20000
set_option maxHeartbeats 4000000
set_option linter.unusedVariables false
set_option linter.unusedSectionVars false

variable [Inhabited Cx]

theorem hintsearch_spec {B : World} {H : Mem} {tr id mx mn hb dp : Nat} (tc : TrC H tr id mx mn) {g : Ng} {X : List (Int × Int)} {kp : Option Addr} (x : Int × Int) (hn : NodeM EA H g X (.pointer kp)) (hs : Pl.Srt OI X) (hl : X.length ≤ 255) (h1 : 1 ≤ X.length)
    (hh : HintM H hb) (hbl : hb < H.size) (hbb : ¬ (hb < cx.base ∧ cx.own hb)) (hoff : ∀ o,¬ ncl EA g hb o) (hdp : dp < 4611686018427387904) :
    Fn Try.prog B 142 [.pointer (some ⟨tr,0,none⟩),.pointer (some ⟨g.p,0,none⟩),iv x,.pointer (some ⟨hb,0,none⟩),.int .i64 (dp : Int)] H (fun v H' => v = .tuple #[.int .i64 ((Pl.pos OI x X : Nat) : Int),.bool (Pl.fnd OI x X)] ∧ Fr (fun b _ => b = hb) H H' ∧ HintM H' hb) := by
  have hple := Pl.pos_le OI x X
  refine fn_of func142 rfl ntmps142 ?_
  refine (show Go' _ _ _ _ 200 [(0,_),(1,_),(2,_),(3,_),(4,_)] [.code _] _ from ?_)
  refine Go'.seq ?_
  have M1 := Mk0.mk' H
  have hF1 := M1.fr nowhere
  have hs1 := M1.size
  replace tc := tc.fr hF1 (fun _ _ _ _ => nw)
  replace hn := NodeM.fr EA hn hF1 (fun _ _ _ => nw)
  replace hh := hh.fr hF1 (fun _ => nw)
  refine Go'.region [(0,0),(1,0)] rfl ?_
  refine O.asg rfl rfl rfl rfl rfl ?_
  refine O.asg rfl rfl rfl rfl rfl ?_
  refine Pl.fin [(0,_),(1,_),(2,_),(3,_),(4,_),(10,_),(11,_)] ⟨rfl,rfl,rfl,rfl,rfl,rfl,rfl,trivial⟩ ?_
  refine Go'.scope ?_
  refine Go'.joinL (l := 0) (σ := Nat × Bool) rfl (fun s H' => s = (Pl.pos OI x X,Pl.fnd OI x X) ∧ Fr nowhere H H') (fun s => [(1,.pointer (some ⟨g.p,0,none⟩)),(3,.pointer (some ⟨hb,0,none⟩)),(4,.int .i64 (dp : Int)),(10,.int .i64 (s.1 : Int)),(11,.bool s.2)]) ?_ ?_
  · -- behind the label
    rintro _ H2 ⟨rfl,hF2⟩
    replace hn := NodeM.fr EA hn hF2 (fun _ _ _ => nw)
    replace hh := hh.fr hF2 (fun _ => nw)
    have hF := hF1.trans hF2
    have hsz := hF2.size
    simp only
    refine Go'.seq ?_
    refine Go'.seq ?_
    by_cases hd8 : dp < 8
    rotate_left
    · -- too deep
      refine Go'.region [(0,0),(1,0)] rfl ?_
      refine O.mv rfl rfl rfl rfl rfl ?_
      refine O.cmp rfl rfl rfl rfl rfl rfl (lssF (by omega)) ?_
      refine Pl.fin [(1,_),(3,_),(4,_),(10,_),(11,_),(157,_)] ⟨rfl,rfl,rfl,rfl,rfl,rfl,trivial⟩ ?_
      refine Go'.condF rfl ?_
      refine Go'.skip ?_
      refine Go'.seq ?_
      refine Go'.region [(0,0),(1,0),(2,0),(3,0)] rfl ?_
      refine O.mv rfl rfl rfl rfl rfl ?_
      refine O.mv rfl rfl rfl rfl rfl ?_
      refine O.asg rfl rfl rfl rfl rfl ?_
      refine O.asg rfl rfl rfl rfl rfl ?_
      refine Pl.fin [(1,_),(3,_),(4,_),(10,_),(11,_),(157,_)] ⟨rfl,rfl,rfl,rfl,rfl,rfl,trivial⟩ ?_
      refine Go'.ret (vs := [_,_]) func142 results142 ⟨rfl,rfl,trivial⟩ ?_
      exact ⟨rfl,hF.mono (fun _ _ _ h => h.elim),hh⟩
    · -- kept
      refine Go'.region [(0,0),(1,0)] rfl ?_
      refine O.mv rfl rfl rfl rfl rfl ?_
      refine O.cmp rfl rfl rfl rfl rfl rfl (lssT (by omega)) ?_
      refine Pl.fin [(1,_),(3,_),(4,_),(10,_),(11,_),(157,_)] ⟨rfl,rfl,rfl,rfl,rfl,rfl,trivial⟩ ?_
      refine Go'.condT rfl ?_
      refine Go'.seq ?_
      refine Go'.region [(0,0),(1,0),(2,0),(3,0),(4,0),(5,2)] rfl ?_
      refine O.mv rfl rfl rfl rfl rfl ?_
      refine O.mv rfl rfl rfl rfl rfl ?_
      refine O.nc rfl rfl rfl rfl rfl ?_
      refine O.faz rfl rfl rfl rfl ⟨_,_,_,underlying82,rfl,rfl,sizeOf79⟩ rfl ?_
      refine O.ixr (j := dp) rfl rfl rfl rfl underlying79 sizeOf4 rfl rfl (by omega) hd8 ?_
      refine O.st rfl rfl sizeOf4 rfl rfl rfl rfl rfl (by rw [Nat.zero_add,Nat.mul_one]; exact hh.wr.at0 dp 1 (by omega)) ?_
      intro H3 W3
      have hs3 := W3.size
      rw [Nat.zero_add,Nat.mul_one] at W3
      replace hh := hh.setU W3 hd8
      replace hn := NodeM.fr EA hn W3.fr (fun b o hb => nr (.inl (fun e => hoff o (e ▸ hb))))
      have hG : Fr (fun b _ => b = hb) H H3 := hF.trans' W3.fr (fun _ _ _ h => h.elim) (fun b o _ h => h.1)
      refine ⟨trivial,?_⟩
      refine Pl.fin [(1,_),(3,_),(4,_),(10,_),(11,_),(157,_)] ⟨rfl,rfl,rfl,rfl,rfl,rfl,trivial⟩ ?_
      refine Go'.seq ?_
      refine Go'.region [(0,0)] rfl ?_
      refine O.asg rfl rfl rfl rfl rfl ?_
      refine Pl.fin [(1,_),(3,_),(4,_),(10,_),(11,_),(15,_),(157,_)] ⟨rfl,rfl,rfl,rfl,rfl,rfl,rfl,trivial⟩ ?_
      refine Go'.seq ?_
      refine Go'.seq ?_
      obtain ⟨pn,hpn,hpc⟩ := hh.ps dp hd8
      have hq : ∀ q : Nat,q < 256 → q < 256 := fun _ h => h
      rcases kp with _ | kq
      · skip
        cases hfd : Pl.fnd OI x X
        · skip
          refine Go'.region [(0,0),(1,2),(2,0),(3,0),(4,0)] rfl ?_
          refine O.mv rfl rfl rfl rfl rfl ?_
          refine O.callQ rfl rfl rfl call115 rfl (leaf_spec hn.c3) trivial ?_
          refine O.mv rfl rfl rfl rfl rfl ?_
          refine O.mv rfl rfl rfl rfl rfl ?_
          refine O.pick rfl rfl rfl rfl rfl rfl ?_
          refine Pl.fin [(1,_),(3,_),(4,_),(10,_),(11,_),(15,_),(157,_),(167,_)] ⟨rfl,rfl,rfl,rfl,rfl,rfl,rfl,rfl,trivial⟩ ?_
          refine Go'.condF rfl ?_
          refine Go'.region [(0,0),(1,2),(2,0)] rfl ?_
          refine O.mv rfl rfl rfl rfl rfl ?_
          refine O.cvk .u8 (v := ((Pl.pos OI x X : Nat) : Int)) rfl rfl rfl (by rw [underlying3]; rfl) underlying5 rfl rfl (wrap_id8 (by omega)) trivial ?_
          refine O.asg rfl rfl rfl rfl rfl ?_
          refine Pl.fin [(1,_),(3,_),(4,_),(10,_),(11,_),(15,_),(157,_),(167,_)] ⟨rfl,rfl,rfl,rfl,rfl,rfl,rfl,rfl,trivial⟩ ?_
          refine Go'.seq ?_
          have hpc2 : cl H3 hb (8 + dp * 1) = some (.int .u8 (pn : Int)) := by rw [Nat.mul_one]; exact hpc
          by_cases hqp : Pl.pos OI x X = pn
          · skip
            refine Go'.region [(0,0),(1,0),(2,0),(3,0),(4,0),(5,0),(6,1),(7,0)] rfl ?_
            refine O.mv rfl rfl rfl rfl rfl ?_
            refine O.mv rfl rfl rfl rfl rfl ?_
            refine O.mv rfl rfl rfl rfl rfl ?_
            refine O.nc rfl rfl rfl rfl rfl ?_
            refine O.fa0 (off := 8) rfl rfl rfl rfl ⟨_,_,_,underlying82,rfl,rfl,sizeOf80⟩ rfl ?_
            refine O.ixr (j := dp) rfl rfl rfl rfl underlying80 sizeOf5 rfl rfl (by omega) hd8 ?_
            refine O.ld rfl rfl rfl (fun w => ⟨isAgg5 w,sizeOf5 w⟩) rfl hpc2 ?_
            refine O.cmp rfl rfl rfl rfl rfl rfl (neqF (by omega)) ?_
            refine Pl.fin [(1,_),(3,_),(4,_),(10,_),(11,_),(15,_),(157,_),(167,_),(180,_)] ⟨rfl,rfl,rfl,rfl,rfl,rfl,rfl,rfl,rfl,trivial⟩ ?_
            refine Go'.condF rfl ?_
            refine Go'.skip ?_
            refine Go'.seq ?_
            refine Go'.region [(0,0),(1,0),(2,0),(3,0)] rfl ?_
            refine O.mv rfl rfl rfl rfl rfl ?_
            refine O.mv rfl rfl rfl rfl rfl ?_
            refine O.asg rfl rfl rfl rfl rfl ?_
            refine O.asg rfl rfl rfl rfl rfl ?_
            refine Pl.fin [(1,_),(3,_),(4,_),(10,_),(11,_),(15,_),(157,_),(167,_),(180,_)] ⟨rfl,rfl,rfl,rfl,rfl,rfl,rfl,rfl,rfl,trivial⟩ ?_
            refine Go'.ret (vs := [_,_]) func142 results142 ⟨rfl,rfl,trivial⟩ ?_
            exact ⟨rfl,hG,hh⟩
          · skip
            refine Go'.region [(0,0),(1,0),(2,0),(3,0),(4,0),(5,0),(6,1),(7,0)] rfl ?_
            refine O.mv rfl rfl rfl rfl rfl ?_
            refine O.mv rfl rfl rfl rfl rfl ?_
            refine O.mv rfl rfl rfl rfl rfl ?_
            refine O.nc rfl rfl rfl rfl rfl ?_
            refine O.fa0 (off := 8) rfl rfl rfl rfl ⟨_,_,_,underlying82,rfl,rfl,sizeOf80⟩ rfl ?_
            refine O.ixr (j := dp) rfl rfl rfl rfl underlying80 sizeOf5 rfl rfl (by omega) hd8 ?_
            refine O.ld rfl rfl rfl (fun w => ⟨isAgg5 w,sizeOf5 w⟩) rfl hpc2 ?_
            refine O.cmp rfl rfl rfl rfl rfl rfl (neqT (by omega)) ?_
            refine Pl.fin [(1,_),(3,_),(4,_),(10,_),(11,_),(15,_),(157,_),(167,_),(180,_)] ⟨rfl,rfl,rfl,rfl,rfl,rfl,rfl,rfl,rfl,trivial⟩ ?_
            refine Go'.condT rfl ?_
            refine Go'.seq ?_
            refine Go'.region [(0,0),(1,0),(2,0),(3,0),(4,0),(5,0),(6,2)] rfl ?_
            refine O.mv rfl rfl rfl rfl rfl ?_
            refine O.mv rfl rfl rfl rfl rfl ?_
            refine O.mv rfl rfl rfl rfl rfl ?_
            refine O.nc rfl rfl rfl rfl rfl ?_
            refine O.fa0 (off := 8) rfl rfl rfl rfl ⟨_,_,_,underlying82,rfl,rfl,sizeOf80⟩ rfl ?_
            refine O.ixr (j := dp) rfl rfl rfl rfl underlying80 sizeOf5 rfl rfl (by omega) hd8 ?_
            refine O.st rfl rfl sizeOf5 rfl rfl rfl rfl rfl (by rw [Nat.mul_one]; exact hh.wr.at0 (8 + dp) 1 (by omega)) ?_
            intro H4 W4
            have hs4 := W4.size
            rw [Nat.mul_one] at W4
            replace hh := hh.setP (n := Pl.pos OI x X) W4 hd8 (by omega)
            replace hG : Fr (fun b _ => b = hb) H H4 := hG.trans' W4.fr (fun _ _ _ h => h) (fun b o _ h => h.1)
            refine ⟨trivial,?_⟩
            refine Pl.fin [(1,_),(3,_),(4,_),(10,_),(11,_),(15,_),(157,_),(167,_),(180,_)] ⟨rfl,rfl,rfl,rfl,rfl,rfl,rfl,rfl,rfl,trivial⟩ ?_
            refine Go'.seq ?_
            refine Go'.region [(0,0),(1,0),(2,0)] rfl ?_
            refine O.mv rfl rfl rfl rfl rfl ?_
            refine O.add (((dp + 1 : Nat) : Int)) rfl rfl rfl rfl rfl rfl (by omega) (by omega) ?_
            refine O.asg rfl rfl rfl rfl rfl ?_
            refine Pl.fin [(1,_),(3,_),(4,_),(10,_),(11,_),(15,_),(16,_),(157,_),(167,_),(180,_)] ⟨rfl,rfl,rfl,rfl,rfl,rfl,rfl,rfl,rfl,rfl,trivial⟩ ?_
            refine Go'.block ?_
            refine Go'.loop ?_
            refine Go'.keep [(3,_),(10,_),(11,_),(16,_)] ⟨rfl,rfl,rfl,rfl,trivial⟩ ?_
            refine Go'.ind (σ := Nat) (fun j => 8 - j) (fun j H' => j ≤ 8 ∧ Fr (fun b _ => b = hb) H H' ∧ HintM H' hb)
              (fun j => [(3,.pointer (some ⟨hb,0,none⟩)),(10,.int .i64 ((Pl.pos OI x X : Nat) : Int)),(11,.bool (false)),(16,.int .i64 (j : Int))]) (dp + 1) ⟨hd8,hG,hh⟩ rfl ?_
            rintro j H5 ⟨hj8,hG5,hh5⟩ ih
            refine Go'.seq ?_
            refine Go'.seq ?_
            by_cases hj : j < 8
            · skip
              refine Go'.region [(0,0),(1,0)] rfl ?_
              refine O.mv rfl rfl rfl rfl rfl ?_
              refine O.cmp rfl rfl rfl rfl rfl rfl (lssT (by omega)) ?_
              refine Pl.fin [(3,_),(10,_),(11,_),(16,_),(190,_)] ⟨rfl,rfl,rfl,rfl,rfl,trivial⟩ ?_
              refine Go'.condT rfl ?_
              refine Go'.skip ?_
              refine Go'.seq ?_
              refine Go'.block ?_
              refine Go'.region [(0,0),(1,0),(2,0),(3,0),(4,0),(5,2)] rfl ?_
              refine O.mv rfl rfl rfl rfl rfl ?_
              refine O.mv rfl rfl rfl rfl rfl ?_
              refine O.nc rfl rfl rfl rfl rfl ?_
              refine O.faz rfl rfl rfl rfl ⟨_,_,_,underlying82,rfl,rfl,sizeOf79⟩ rfl ?_
              refine O.ixr (j := j) rfl rfl rfl rfl underlying79 sizeOf4 rfl rfl (by omega) hj ?_
              refine O.st rfl rfl sizeOf4 rfl rfl rfl rfl rfl (by rw [Nat.zero_add,Nat.mul_one]; exact hh5.wr.at0 j 1 (by omega)) ?_
              intro H6 W6
              rw [Nat.zero_add,Nat.mul_one] at W6
              replace hh5 := hh5.setU W6 hj
              replace hG5 : Fr (fun b _ => b = hb) H H6 := hG5.trans' W6.fr (fun _ _ _ h => h) (fun b o _ h => h.1)
              refine ⟨trivial,?_⟩
              refine Pl.fin [(3,_),(10,_),(11,_),(16,_),(190,_)] ⟨rfl,rfl,rfl,rfl,rfl,trivial⟩ ?_
              refine Go'.inBlock ?_
              refine Go'.region [(0,0),(1,0),(2,0)] rfl ?_
              refine O.mv rfl rfl rfl rfl rfl ?_
              refine O.add (((j + 1 : Nat) : Int)) rfl rfl rfl rfl rfl rfl (by omega) (by omega) ?_
              refine O.asg rfl rfl rfl rfl rfl ?_
              refine Pl.fin [(3,_),(10,_),(11,_),(16,_),(190,_)] ⟨rfl,rfl,rfl,rfl,rfl,trivial⟩ ?_
              refine Go'.keep [(3,_),(10,_),(11,_),(16,_)] ⟨rfl,rfl,rfl,rfl,trivial⟩ ?_
              refine Go'.inLoop ?_
              exact ih (j + 1) H6 ⟨hj,hG5,hh5⟩ (by omega)
            · skip
              refine Go'.region [(0,0),(1,0)] rfl ?_
              refine O.mv rfl rfl rfl rfl rfl ?_
              refine O.cmp rfl rfl rfl rfl rfl rfl (lssF (by omega)) ?_
              refine Pl.fin [(3,_),(10,_),(11,_),(16,_),(190,_)] ⟨rfl,rfl,rfl,rfl,rfl,trivial⟩ ?_
              refine Go'.condF rfl ?_
              refine Go'.exit rfl ?_
              refine Go'.seq ?_
              refine Go'.region [(0,0),(1,0),(2,0),(3,0)] rfl ?_
              refine O.mv rfl rfl rfl rfl rfl ?_
              refine O.mv rfl rfl rfl rfl rfl ?_
              refine O.asg rfl rfl rfl rfl rfl ?_
              refine O.asg rfl rfl rfl rfl rfl ?_
              refine Pl.fin [(3,_),(10,_),(11,_),(16,_),(190,_)] ⟨rfl,rfl,rfl,rfl,rfl,trivial⟩ ?_
              refine Go'.ret (vs := [_,_]) func142 results142 ⟨rfl,rfl,trivial⟩ ?_
              exact ⟨rfl,hG5,hh5⟩
        · skip
          have hplt := Pl.fnd_pos_lt OI hfd
          refine Go'.region [(0,0),(1,2),(2,0),(3,0),(4,0)] rfl ?_
          refine O.mv rfl rfl rfl rfl rfl ?_
          refine O.callQ rfl rfl rfl call115 rfl (leaf_spec hn.c3) trivial ?_
          refine O.mv rfl rfl rfl rfl rfl ?_
          refine O.mv rfl rfl rfl rfl rfl ?_
          refine O.pick rfl rfl rfl rfl rfl rfl ?_
          refine Pl.fin [(1,_),(3,_),(4,_),(10,_),(11,_),(15,_),(157,_),(167,_)] ⟨rfl,rfl,rfl,rfl,rfl,rfl,rfl,rfl,trivial⟩ ?_
          refine Go'.condT rfl ?_
          refine Go'.region [(0,0),(1,0),(2,2),(3,0)] rfl ?_
          refine O.mv rfl rfl rfl rfl rfl ?_
          refine O.add ((((Pl.pos OI x X) + 1 : Nat) : Int)) rfl rfl rfl rfl rfl rfl (by omega) (by omega) ?_
          refine O.cvk .u8 (v := ((Pl.pos OI x X + 1 : Nat) : Int)) rfl rfl rfl (by rw [underlying3]; rfl) underlying5 rfl rfl (wrap_id8 (by omega)) trivial ?_
          refine O.asg rfl rfl rfl rfl rfl ?_
          refine Pl.fin [(1,_),(3,_),(4,_),(10,_),(11,_),(15,_),(157,_),(167,_)] ⟨rfl,rfl,rfl,rfl,rfl,rfl,rfl,rfl,trivial⟩ ?_
          refine Go'.seq ?_
          have hpc2 : cl H3 hb (8 + dp * 1) = some (.int .u8 (pn : Int)) := by rw [Nat.mul_one]; exact hpc
          by_cases hqp : Pl.pos OI x X + 1 = pn
          · skip
            refine Go'.region [(0,0),(1,0),(2,0),(3,0),(4,0),(5,0),(6,1),(7,0)] rfl ?_
            refine O.mv rfl rfl rfl rfl rfl ?_
            refine O.mv rfl rfl rfl rfl rfl ?_
            refine O.mv rfl rfl rfl rfl rfl ?_
            refine O.nc rfl rfl rfl rfl rfl ?_
            refine O.fa0 (off := 8) rfl rfl rfl rfl ⟨_,_,_,underlying82,rfl,rfl,sizeOf80⟩ rfl ?_
            refine O.ixr (j := dp) rfl rfl rfl rfl underlying80 sizeOf5 rfl rfl (by omega) hd8 ?_
            refine O.ld rfl rfl rfl (fun w => ⟨isAgg5 w,sizeOf5 w⟩) rfl hpc2 ?_
            refine O.cmp rfl rfl rfl rfl rfl rfl (neqF (by omega)) ?_
            refine Pl.fin [(1,_),(3,_),(4,_),(10,_),(11,_),(15,_),(157,_),(167,_),(180,_)] ⟨rfl,rfl,rfl,rfl,rfl,rfl,rfl,rfl,rfl,trivial⟩ ?_
            refine Go'.condF rfl ?_
            refine Go'.skip ?_
            refine Go'.seq ?_
            refine Go'.region [(0,0),(1,0),(2,0),(3,0)] rfl ?_
            refine O.mv rfl rfl rfl rfl rfl ?_
            refine O.mv rfl rfl rfl rfl rfl ?_
            refine O.asg rfl rfl rfl rfl rfl ?_
            refine O.asg rfl rfl rfl rfl rfl ?_
            refine Pl.fin [(1,_),(3,_),(4,_),(10,_),(11,_),(15,_),(157,_),(167,_),(180,_)] ⟨rfl,rfl,rfl,rfl,rfl,rfl,rfl,rfl,rfl,trivial⟩ ?_
            refine Go'.ret (vs := [_,_]) func142 results142 ⟨rfl,rfl,trivial⟩ ?_
            exact ⟨rfl,hG,hh⟩
          · skip
            refine Go'.region [(0,0),(1,0),(2,0),(3,0),(4,0),(5,0),(6,1),(7,0)] rfl ?_
            refine O.mv rfl rfl rfl rfl rfl ?_
            refine O.mv rfl rfl rfl rfl rfl ?_
            refine O.mv rfl rfl rfl rfl rfl ?_
            refine O.nc rfl rfl rfl rfl rfl ?_
            refine O.fa0 (off := 8) rfl rfl rfl rfl ⟨_,_,_,underlying82,rfl,rfl,sizeOf80⟩ rfl ?_
            refine O.ixr (j := dp) rfl rfl rfl rfl underlying80 sizeOf5 rfl rfl (by omega) hd8 ?_
            refine O.ld rfl rfl rfl (fun w => ⟨isAgg5 w,sizeOf5 w⟩) rfl hpc2 ?_
            refine O.cmp rfl rfl rfl rfl rfl rfl (neqT (by omega)) ?_
            refine Pl.fin [(1,_),(3,_),(4,_),(10,_),(11,_),(15,_),(157,_),(167,_),(180,_)] ⟨rfl,rfl,rfl,rfl,rfl,rfl,rfl,rfl,rfl,trivial⟩ ?_
            refine Go'.condT rfl ?_
            refine Go'.seq ?_
            refine Go'.region [(0,0),(1,0),(2,0),(3,0),(4,0),(5,0),(6,2)] rfl ?_
            refine O.mv rfl rfl rfl rfl rfl ?_
            refine O.mv rfl rfl rfl rfl rfl ?_
            refine O.mv rfl rfl rfl rfl rfl ?_
            refine O.nc rfl rfl rfl rfl rfl ?_
            refine O.fa0 (off := 8) rfl rfl rfl rfl ⟨_,_,_,underlying82,rfl,rfl,sizeOf80⟩ rfl ?_
            refine O.ixr (j := dp) rfl rfl rfl rfl underlying80 sizeOf5 rfl rfl (by omega) hd8 ?_
            refine O.st rfl rfl sizeOf5 rfl rfl rfl rfl rfl (by rw [Nat.mul_one]; exact hh.wr.at0 (8 + dp) 1 (by omega)) ?_
            intro H4 W4
            have hs4 := W4.size
            rw [Nat.mul_one] at W4
            replace hh := hh.setP (n := Pl.pos OI x X + 1) W4 hd8 (by omega)
            replace hG : Fr (fun b _ => b = hb) H H4 := hG.trans' W4.fr (fun _ _ _ h => h) (fun b o _ h => h.1)
            refine ⟨trivial,?_⟩
            refine Pl.fin [(1,_),(3,_),(4,_),(10,_),(11,_),(15,_),(157,_),(167,_),(180,_)] ⟨rfl,rfl,rfl,rfl,rfl,rfl,rfl,rfl,rfl,trivial⟩ ?_
            refine Go'.seq ?_
            refine Go'.region [(0,0),(1,0),(2,0)] rfl ?_
            refine O.mv rfl rfl rfl rfl rfl ?_
            refine O.add (((dp + 1 : Nat) : Int)) rfl rfl rfl rfl rfl rfl (by omega) (by omega) ?_
            refine O.asg rfl rfl rfl rfl rfl ?_
            refine Pl.fin [(1,_),(3,_),(4,_),(10,_),(11,_),(15,_),(16,_),(157,_),(167,_),(180,_)] ⟨rfl,rfl,rfl,rfl,rfl,rfl,rfl,rfl,rfl,rfl,trivial⟩ ?_
            refine Go'.block ?_
            refine Go'.loop ?_
            refine Go'.keep [(3,_),(10,_),(11,_),(16,_)] ⟨rfl,rfl,rfl,rfl,trivial⟩ ?_
            refine Go'.ind (σ := Nat) (fun j => 8 - j) (fun j H' => j ≤ 8 ∧ Fr (fun b _ => b = hb) H H' ∧ HintM H' hb)
              (fun j => [(3,.pointer (some ⟨hb,0,none⟩)),(10,.int .i64 ((Pl.pos OI x X : Nat) : Int)),(11,.bool (true)),(16,.int .i64 (j : Int))]) (dp + 1) ⟨hd8,hG,hh⟩ rfl ?_
            rintro j H5 ⟨hj8,hG5,hh5⟩ ih
            refine Go'.seq ?_
            refine Go'.seq ?_
            by_cases hj : j < 8
            · skip
              refine Go'.region [(0,0),(1,0)] rfl ?_
              refine O.mv rfl rfl rfl rfl rfl ?_
              refine O.cmp rfl rfl rfl rfl rfl rfl (lssT (by omega)) ?_
              refine Pl.fin [(3,_),(10,_),(11,_),(16,_),(190,_)] ⟨rfl,rfl,rfl,rfl,rfl,trivial⟩ ?_
              refine Go'.condT rfl ?_
              refine Go'.skip ?_
              refine Go'.seq ?_
              refine Go'.block ?_
              refine Go'.region [(0,0),(1,0),(2,0),(3,0),(4,0),(5,2)] rfl ?_
              refine O.mv rfl rfl rfl rfl rfl ?_
              refine O.mv rfl rfl rfl rfl rfl ?_
              refine O.nc rfl rfl rfl rfl rfl ?_
              refine O.faz rfl rfl rfl rfl ⟨_,_,_,underlying82,rfl,rfl,sizeOf79⟩ rfl ?_
              refine O.ixr (j := j) rfl rfl rfl rfl underlying79 sizeOf4 rfl rfl (by omega) hj ?_
              refine O.st rfl rfl sizeOf4 rfl rfl rfl rfl rfl (by rw [Nat.zero_add,Nat.mul_one]; exact hh5.wr.at0 j 1 (by omega)) ?_
              intro H6 W6
              rw [Nat.zero_add,Nat.mul_one] at W6
              replace hh5 := hh5.setU W6 hj
              replace hG5 : Fr (fun b _ => b = hb) H H6 := hG5.trans' W6.fr (fun _ _ _ h => h) (fun b o _ h => h.1)
              refine ⟨trivial,?_⟩
              refine Pl.fin [(3,_),(10,_),(11,_),(16,_),(190,_)] ⟨rfl,rfl,rfl,rfl,rfl,trivial⟩ ?_
              refine Go'.inBlock ?_
              refine Go'.region [(0,0),(1,0),(2,0)] rfl ?_
              refine O.mv rfl rfl rfl rfl rfl ?_
              refine O.add (((j + 1 : Nat) : Int)) rfl rfl rfl rfl rfl rfl (by omega) (by omega) ?_
              refine O.asg rfl rfl rfl rfl rfl ?_
              refine Pl.fin [(3,_),(10,_),(11,_),(16,_),(190,_)] ⟨rfl,rfl,rfl,rfl,rfl,trivial⟩ ?_
              refine Go'.keep [(3,_),(10,_),(11,_),(16,_)] ⟨rfl,rfl,rfl,rfl,trivial⟩ ?_
              refine Go'.inLoop ?_
              exact ih (j + 1) H6 ⟨hj,hG5,hh5⟩ (by omega)
            · skip
              refine Go'.region [(0,0),(1,0)] rfl ?_
              refine O.mv rfl rfl rfl rfl rfl ?_
              refine O.cmp rfl rfl rfl rfl rfl rfl (lssF (by omega)) ?_
              refine Pl.fin [(3,_),(10,_),(11,_),(16,_),(190,_)] ⟨rfl,rfl,rfl,rfl,rfl,trivial⟩ ?_
              refine Go'.condF rfl ?_
              refine Go'.exit rfl ?_
              refine Go'.seq ?_
              refine Go'.region [(0,0),(1,0),(2,0),(3,0)] rfl ?_
              refine O.mv rfl rfl rfl rfl rfl ?_
              refine O.mv rfl rfl rfl rfl rfl ?_
              refine O.asg rfl rfl rfl rfl rfl ?_
              refine O.asg rfl rfl rfl rfl rfl ?_
              refine Pl.fin [(3,_),(10,_),(11,_),(16,_),(190,_)] ⟨rfl,rfl,rfl,rfl,rfl,trivial⟩ ?_
              refine Go'.ret (vs := [_,_]) func142 results142 ⟨rfl,rfl,trivial⟩ ?_
              exact ⟨rfl,hG5,hh5⟩
      · skip
        refine Go'.region [(0,0),(1,2),(2,0),(3,0),(4,0)] rfl ?_
        refine O.mv rfl rfl rfl rfl rfl ?_
        refine O.callQ rfl rfl rfl call115 rfl (leaf_spec hn.c3) trivial ?_
        refine O.mv rfl rfl rfl rfl rfl ?_
        refine Pl.pass rfl rfl rfl rfl ?_
        refine O.pick rfl rfl rfl rfl rfl rfl ?_
        refine Pl.fin [(1,_),(3,_),(4,_),(10,_),(11,_),(15,_),(157,_),(167,_)] ⟨rfl,rfl,rfl,rfl,rfl,rfl,rfl,rfl,trivial⟩ ?_
        refine Go'.condF rfl ?_
        refine Go'.region [(0,0),(1,2),(2,0)] rfl ?_
        refine O.mv rfl rfl rfl rfl rfl ?_
        refine O.cvk .u8 (v := ((Pl.pos OI x X : Nat) : Int)) rfl rfl rfl (by rw [underlying3]; rfl) underlying5 rfl rfl (wrap_id8 (by omega)) trivial ?_
        refine O.asg rfl rfl rfl rfl rfl ?_
        refine Pl.fin [(1,_),(3,_),(4,_),(10,_),(11,_),(15,_),(157,_),(167,_)] ⟨rfl,rfl,rfl,rfl,rfl,rfl,rfl,rfl,trivial⟩ ?_
        refine Go'.seq ?_
        have hpc2 : cl H3 hb (8 + dp * 1) = some (.int .u8 (pn : Int)) := by rw [Nat.mul_one]; exact hpc
        by_cases hqp : Pl.pos OI x X = pn
        · skip
          refine Go'.region [(0,0),(1,0),(2,0),(3,0),(4,0),(5,0),(6,1),(7,0)] rfl ?_
          refine O.mv rfl rfl rfl rfl rfl ?_
          refine O.mv rfl rfl rfl rfl rfl ?_
          refine O.mv rfl rfl rfl rfl rfl ?_
          refine O.nc rfl rfl rfl rfl rfl ?_
          refine O.fa0 (off := 8) rfl rfl rfl rfl ⟨_,_,_,underlying82,rfl,rfl,sizeOf80⟩ rfl ?_
          refine O.ixr (j := dp) rfl rfl rfl rfl underlying80 sizeOf5 rfl rfl (by omega) hd8 ?_
          refine O.ld rfl rfl rfl (fun w => ⟨isAgg5 w,sizeOf5 w⟩) rfl hpc2 ?_
          refine O.cmp rfl rfl rfl rfl rfl rfl (neqF (by omega)) ?_
          refine Pl.fin [(1,_),(3,_),(4,_),(10,_),(11,_),(15,_),(157,_),(167,_),(180,_)] ⟨rfl,rfl,rfl,rfl,rfl,rfl,rfl,rfl,rfl,trivial⟩ ?_
          refine Go'.condF rfl ?_
          refine Go'.skip ?_
          refine Go'.seq ?_
          refine Go'.region [(0,0),(1,0),(2,0),(3,0)] rfl ?_
          refine O.mv rfl rfl rfl rfl rfl ?_
          refine O.mv rfl rfl rfl rfl rfl ?_
          refine O.asg rfl rfl rfl rfl rfl ?_
          refine O.asg rfl rfl rfl rfl rfl ?_
          refine Pl.fin [(1,_),(3,_),(4,_),(10,_),(11,_),(15,_),(157,_),(167,_),(180,_)] ⟨rfl,rfl,rfl,rfl,rfl,rfl,rfl,rfl,rfl,trivial⟩ ?_
          refine Go'.ret (vs := [_,_]) func142 results142 ⟨rfl,rfl,trivial⟩ ?_
          exact ⟨rfl,hG,hh⟩
        · skip
          refine Go'.region [(0,0),(1,0),(2,0),(3,0),(4,0),(5,0),(6,1),(7,0)] rfl ?_
          refine O.mv rfl rfl rfl rfl rfl ?_
          refine O.mv rfl rfl rfl rfl rfl ?_
          refine O.mv rfl rfl rfl rfl rfl ?_
          refine O.nc rfl rfl rfl rfl rfl ?_
          refine O.fa0 (off := 8) rfl rfl rfl rfl ⟨_,_,_,underlying82,rfl,rfl,sizeOf80⟩ rfl ?_
          refine O.ixr (j := dp) rfl rfl rfl rfl underlying80 sizeOf5 rfl rfl (by omega) hd8 ?_
          refine O.ld rfl rfl rfl (fun w => ⟨isAgg5 w,sizeOf5 w⟩) rfl hpc2 ?_
          refine O.cmp rfl rfl rfl rfl rfl rfl (neqT (by omega)) ?_
          refine Pl.fin [(1,_),(3,_),(4,_),(10,_),(11,_),(15,_),(157,_),(167,_),(180,_)] ⟨rfl,rfl,rfl,rfl,rfl,rfl,rfl,rfl,rfl,trivial⟩ ?_
          refine Go'.condT rfl ?_
          refine Go'.seq ?_
          refine Go'.region [(0,0),(1,0),(2,0),(3,0),(4,0),(5,0),(6,2)] rfl ?_
          refine O.mv rfl rfl rfl rfl rfl ?_
          refine O.mv rfl rfl rfl rfl rfl ?_
          refine O.mv rfl rfl rfl rfl rfl ?_
          refine O.nc rfl rfl rfl rfl rfl ?_
          refine O.fa0 (off := 8) rfl rfl rfl rfl ⟨_,_,_,underlying82,rfl,rfl,sizeOf80⟩ rfl ?_
          refine O.ixr (j := dp) rfl rfl rfl rfl underlying80 sizeOf5 rfl rfl (by omega) hd8 ?_
          refine O.st rfl rfl sizeOf5 rfl rfl rfl rfl rfl (by rw [Nat.mul_one]; exact hh.wr.at0 (8 + dp) 1 (by omega)) ?_
          intro H4 W4
          have hs4 := W4.size
          rw [Nat.mul_one] at W4
          replace hh := hh.setP (n := Pl.pos OI x X) W4 hd8 (by omega)
          replace hG : Fr (fun b _ => b = hb) H H4 := hG.trans' W4.fr (fun _ _ _ h => h) (fun b o _ h => h.1)
          refine ⟨trivial,?_⟩
          refine Pl.fin [(1,_),(3,_),(4,_),(10,_),(11,_),(15,_),(157,_),(167,_),(180,_)] ⟨rfl,rfl,rfl,rfl,rfl,rfl,rfl,rfl,rfl,trivial⟩ ?_
          refine Go'.seq ?_
          refine Go'.region [(0,0),(1,0),(2,0)] rfl ?_
          refine O.mv rfl rfl rfl rfl rfl ?_
          refine O.add (((dp + 1 : Nat) : Int)) rfl rfl rfl rfl rfl rfl (by omega) (by omega) ?_
          refine O.asg rfl rfl rfl rfl rfl ?_
          refine Pl.fin [(1,_),(3,_),(4,_),(10,_),(11,_),(15,_),(16,_),(157,_),(167,_),(180,_)] ⟨rfl,rfl,rfl,rfl,rfl,rfl,rfl,rfl,rfl,rfl,trivial⟩ ?_
          refine Go'.block ?_
          refine Go'.loop ?_
          refine Go'.keep [(3,_),(10,_),(11,_),(16,_)] ⟨rfl,rfl,rfl,rfl,trivial⟩ ?_
          refine Go'.ind (σ := Nat) (fun j => 8 - j) (fun j H' => j ≤ 8 ∧ Fr (fun b _ => b = hb) H H' ∧ HintM H' hb)
            (fun j => [(3,.pointer (some ⟨hb,0,none⟩)),(10,.int .i64 ((Pl.pos OI x X : Nat) : Int)),(11,.bool (Pl.fnd OI x X)),(16,.int .i64 (j : Int))]) (dp + 1) ⟨hd8,hG,hh⟩ rfl ?_
          rintro j H5 ⟨hj8,hG5,hh5⟩ ih
          refine Go'.seq ?_
          refine Go'.seq ?_
          by_cases hj : j < 8
          · skip
            refine Go'.region [(0,0),(1,0)] rfl ?_
            refine O.mv rfl rfl rfl rfl rfl ?_
            refine O.cmp rfl rfl rfl rfl rfl rfl (lssT (by omega)) ?_
            refine Pl.fin [(3,_),(10,_),(11,_),(16,_),(190,_)] ⟨rfl,rfl,rfl,rfl,rfl,trivial⟩ ?_
            refine Go'.condT rfl ?_
            refine Go'.skip ?_
            refine Go'.seq ?_
            refine Go'.block ?_
            refine Go'.region [(0,0),(1,0),(2,0),(3,0),(4,0),(5,2)] rfl ?_
            refine O.mv rfl rfl rfl rfl rfl ?_
            refine O.mv rfl rfl rfl rfl rfl ?_
            refine O.nc rfl rfl rfl rfl rfl ?_
            refine O.faz rfl rfl rfl rfl ⟨_,_,_,underlying82,rfl,rfl,sizeOf79⟩ rfl ?_
            refine O.ixr (j := j) rfl rfl rfl rfl underlying79 sizeOf4 rfl rfl (by omega) hj ?_
            refine O.st rfl rfl sizeOf4 rfl rfl rfl rfl rfl (by rw [Nat.zero_add,Nat.mul_one]; exact hh5.wr.at0 j 1 (by omega)) ?_
            intro H6 W6
            rw [Nat.zero_add,Nat.mul_one] at W6
            replace hh5 := hh5.setU W6 hj
            replace hG5 : Fr (fun b _ => b = hb) H H6 := hG5.trans' W6.fr (fun _ _ _ h => h) (fun b o _ h => h.1)
            refine ⟨trivial,?_⟩
            refine Pl.fin [(3,_),(10,_),(11,_),(16,_),(190,_)] ⟨rfl,rfl,rfl,rfl,rfl,trivial⟩ ?_
            refine Go'.inBlock ?_
            refine Go'.region [(0,0),(1,0),(2,0)] rfl ?_
            refine O.mv rfl rfl rfl rfl rfl ?_
            refine O.add (((j + 1 : Nat) : Int)) rfl rfl rfl rfl rfl rfl (by omega) (by omega) ?_
            refine O.asg rfl rfl rfl rfl rfl ?_
            refine Pl.fin [(3,_),(10,_),(11,_),(16,_),(190,_)] ⟨rfl,rfl,rfl,rfl,rfl,trivial⟩ ?_
            refine Go'.keep [(3,_),(10,_),(11,_),(16,_)] ⟨rfl,rfl,rfl,rfl,trivial⟩ ?_
            refine Go'.inLoop ?_
            exact ih (j + 1) H6 ⟨hj,hG5,hh5⟩ (by omega)
          · skip
            refine Go'.region [(0,0),(1,0)] rfl ?_
            refine O.mv rfl rfl rfl rfl rfl ?_
            refine O.cmp rfl rfl rfl rfl rfl rfl (lssF (by omega)) ?_
            refine Pl.fin [(3,_),(10,_),(11,_),(16,_),(190,_)] ⟨rfl,rfl,rfl,rfl,rfl,trivial⟩ ?_
            refine Go'.condF rfl ?_
            refine Go'.exit rfl ?_
            refine Go'.seq ?_
            refine Go'.region [(0,0),(1,0),(2,0),(3,0)] rfl ?_
            refine O.mv rfl rfl rfl rfl rfl ?_
            refine O.mv rfl rfl rfl rfl rfl ?_
            refine O.asg rfl rfl rfl rfl rfl ?_
            refine O.asg rfl rfl rfl rfl rfl ?_
            refine Pl.fin [(3,_),(10,_),(11,_),(16,_),(190,_)] ⟨rfl,rfl,rfl,rfl,rfl,trivial⟩ ?_
            refine Go'.ret (vs := [_,_]) func142 results142 ⟨rfl,rfl,trivial⟩ ?_
            exact ⟨rfl,hG5,hh5⟩
  · -- the search
    intro tail
    refine Go'.seq ?_
    refine Go'.region [(0,0)] rfl ?_
    refine O.asg rfl rfl rfl rfl rfl ?_
    refine Pl.fin [(0,_),(1,_),(2,_),(3,_),(4,_),(10,_),(11,_),(12,_)] ⟨rfl,rfl,rfl,rfl,rfl,rfl,rfl,rfl,trivial⟩ ?_
    refine Go'.seq ?_
    refine Go'.region [(0,0),(1,0),(2,0),(3,1),(4,0),(5,0),(6,0)] rfl ?_
    refine O.mv rfl rfl rfl rfl rfl ?_
    refine O.nc rfl rfl rfl rfl rfl ?_
    refine O.fa0 (off := 2) rfl rfl rfl rfl ⟨_,_,_,underlying144,rfl,rfl,sizeOf141⟩ rfl ?_
    refine O.ld rfl rfl rfl (fun w => ⟨isAgg141 w,sizeOf141 w⟩) rfl hn.c2 ?_
    refine O.len rfl rfl rfl rfl underlying141 rfl ?_
    refine O.sub (((X.length : Int) - 1)) rfl rfl rfl rfl rfl rfl (by omega) (by omega) ?_
    refine O.asg rfl rfl rfl rfl rfl ?_
    refine Pl.fin [(0,_),(1,_),(2,_),(3,_),(4,_),(10,_),(11,_),(12,_),(13,_)] ⟨rfl,rfl,rfl,rfl,rfl,rfl,rfl,rfl,rfl,trivial⟩ ?_
    refine Go'.seq ?_
    refine Go'.seq ?_
    have hXi : ∀ {a b : Nat} {y z : Int × Int},X[a]? = some y → X[b]? = some z → a < b → OI.lt y z = true := fun {a b y z} ha hb' hab => by
      have h2 := List.pairwise_iff_getElem.1 hs a b (List.getElem?_eq_some_iff.1 ha).1 (List.getElem?_eq_some_iff.1 hb').1 hab
      rwa [(List.getElem?_eq_some_iff.1 ha).2,(List.getElem?_eq_some_iff.1 hb').2] at h2
    have hge : ∀ {a : Nat} {y : Int × Int},X[a]? = some y → OI.lt x y = true → ∀ j z,X[j]? = some z → a ≤ j → OI.lt x z = true := fun {a y} ha h j z hz haj => by
      rcases Nat.lt_or_ge a j with h' | h'
      · exact OI.trans h (hXi ha hz h')
      · obtain rfl : j = a := by omega
        rw [ha] at hz; cases hz; exact h
    have hle : ∀ {a : Nat} {y : Int × Int},X[a]? = some y → OI.lt x y = false → ∀ j z,X[j]? = some z → j < a + 1 → OI.lt x z = false := fun {a y} ha h j z hz haj => by
      rcases Nat.lt_or_ge j a with h' | h'
      · exact OI.ntr h (OI.asy (hXi hz ha h'))
      · obtain rfl : j = a := by omega
        rw [ha] at hz; cases hz; exact h
    have hat : ∀ i,i < X.length → ∃ y,X[i]? = some y := fun i hi => ⟨X[i],List.getElem?_eq_getElem hi⟩
    have hFs := Fr.refl nowhere H
    refine Go'.share2 (σ := Nat × Nat) (fun s H' => Fr nowhere H H' ∧ s.1 ≤ s.2 ∧ s.2 ≤ X.length ∧ (∀ j y,X[j]? = some y → j < s.1 → OI.lt x y = false) ∧ (∀ j y,X[j]? = some y → s.2 ≤ j → OI.lt x y = true))
      (fun s => [(0,.pointer (some ⟨tr,0,none⟩)),(1,.pointer (some ⟨g.p,0,none⟩)),(3,.pointer (some ⟨hb,0,none⟩)),(4,.int .i64 (dp : Int)),(2,iv x),(12,.int .i64 (s.1 : Int)),(13,.int .i64 ((s.2 : Int) - 1))]) ?_ ?_
    · -- halving
      rintro ⟨lo,hi⟩ H2 ⟨hF2,hlh,hhl,hlo,hhi⟩
      simp only at hlh hhl hlo hhi ⊢
      refine Go'.seq ?_
      refine Go'.block ?_
      refine Go'.loop ?_
      refine Go'.keep [(0,_),(1,_),(3,_),(4,_),(2,_),(12,_),(13,_)] ⟨rfl,rfl,rfl,rfl,rfl,rfl,rfl,trivial⟩ ?_
      refine Go'.ind (σ := Nat × Nat) (fun s => s.2 - s.1) (fun s H' => Fr nowhere H H' ∧ s.1 ≤ s.2 ∧ s.2 ≤ X.length ∧ (∀ j y,X[j]? = some y → j < s.1 → OI.lt x y = false) ∧ (∀ j y,X[j]? = some y → s.2 ≤ j → OI.lt x y = true))
        (fun s => [(0,.pointer (some ⟨tr,0,none⟩)),(1,.pointer (some ⟨g.p,0,none⟩)),(3,.pointer (some ⟨hb,0,none⟩)),(4,.int .i64 (dp : Int)),(2,iv x),(12,.int .i64 (s.1 : Int)),(13,.int .i64 ((s.2 : Int) - 1))]) (lo,hi) ⟨hF2,hlh,hhl,hlo,hhi⟩ rfl ?_
      clear hF2 hlh hhl hlo hhi lo hi H2
      rintro ⟨lo,hi⟩ H2 ⟨hF2,hlh,hhl,hlo,hhi⟩ ih
      simp only at hlh hhl hlo hhi
      replace tc := tc.fr hF2 (fun _ _ _ _ => nw)
      replace hn := NodeM.fr EA hn hF2 (fun _ _ _ => nw)
      replace hh := hh.fr hF2 (fun _ => nw)
      refine Go'.seq ?_
      refine Go'.seq ?_
      by_cases hlt : lo < hi
      · -- a round
        obtain ⟨m,hm⟩ : ∃ m,m = lo + (hi - lo) / 2 := ⟨_,rfl⟩
        obtain ⟨y,hy⟩ := hat m (by omega)
        refine Go'.region [(0,0),(1,0),(2,0)] rfl ?_
        refine O.mv rfl rfl rfl rfl rfl ?_
        refine O.mv rfl rfl rfl rfl rfl ?_
        refine O.cmp rfl rfl rfl rfl rfl rfl (leqT (by omega)) ?_
        refine Pl.fin [(0,_),(1,_),(2,_),(3,_),(4,_),(12,_),(13,_),(114,_)] ⟨rfl,rfl,rfl,rfl,rfl,rfl,rfl,rfl,trivial⟩ ?_
        refine Go'.condT rfl ?_
        refine Go'.skip ?_
        refine Go'.block ?_
        refine Go'.seq ?_
        refine Go'.region [(0,0),(1,0),(2,0),(3,0),(4,0),(5,0),(6,0),(7,0)] rfl ?_
        refine O.mv rfl rfl rfl rfl rfl ?_
        refine O.mv rfl rfl rfl rfl rfl ?_
        refine O.add (((hi : Nat) : Int)) rfl rfl rfl rfl rfl rfl (by omega) (by omega) ?_
        refine O.mv rfl rfl rfl rfl rfl ?_
        refine O.sub (((hi - lo : Nat) : Int)) rfl rfl rfl rfl rfl rfl (by omega) (by omega) ?_
        refine O.quo ((((hi - lo) / 2 : Nat) : Int)) rfl rfl rfl rfl rfl rfl (by decide) (by rw [Int.tdiv_eq_ediv_of_nonneg (by omega)]; omega) (by omega) ?_
        refine O.add (((m : Nat) : Int)) rfl rfl rfl rfl rfl rfl (by omega) (by omega) ?_
        refine O.asg rfl rfl rfl rfl rfl ?_
        refine Pl.fin [(0,_),(1,_),(2,_),(3,_),(4,_),(12,_),(13,_),(14,_),(114,_)] ⟨rfl,rfl,rfl,rfl,rfl,rfl,rfl,rfl,rfl,trivial⟩ ?_
        refine Go'.seq ?_
        refine Go'.region [(0,0),(1,0),(2,0),(3,0),(4,0),(5,1),(6,0),(7,0),(8,1),(9,2),(10,0)] rfl ?_
        refine O.mv rfl rfl rfl rfl rfl ?_
        refine O.mv rfl rfl rfl rfl rfl ?_
        refine O.mv rfl rfl rfl rfl rfl ?_
        refine O.nc rfl rfl rfl rfl rfl ?_
        refine O.fa0 (off := 2) rfl rfl rfl rfl ⟨_,_,_,underlying144,rfl,rfl,sizeOf141⟩ rfl ?_
        refine O.ld rfl rfl rfl (fun w => ⟨isAgg141 w,sizeOf141 w⟩) rfl hn.c2 ?_
        refine O.mv rfl rfl rfl rfl rfl ?_
        refine O.ix (j := m) rfl rfl rfl rfl underlying141 sizeOf20 rfl rfl (by omega) (by omega) ?_
        refine O.ld rfl rfl rfl (fun w => ⟨isAgg20 w,sizeOf20 w⟩) rfl (((hn.sl.item hy)) 0 _ rfl) ?_
        refine O.call rfl rfl rfl call116 rfl (Less_spec tc x y) ?_
        rintro _ H3 ⟨rfl,hF3⟩
        replace tc := tc.fr hF3 (fun _ _ _ _ => nw)
        replace hn := NodeM.fr EA hn hF3 (fun _ _ _ => nw)
        replace hh := hh.fr hF3 (fun _ => nw)
        replace hF2 := hF2.trans hF3
        refine ⟨trivial,?_⟩
        refine O.not rfl rfl rfl rfl rfl ?_
        refine Pl.fin [(0,_),(1,_),(2,_),(3,_),(4,_),(12,_),(13,_),(14,_),(114,_),(132,_)] ⟨rfl,rfl,rfl,rfl,rfl,rfl,rfl,rfl,rfl,rfl,trivial⟩ ?_
        cases hky : OI.lt x y
        · skip
          refine Go'.condT rfl ?_
          refine Go'.region [(0,0),(1,0),(2,0)] rfl ?_
          refine O.mv rfl rfl rfl rfl rfl ?_
          refine O.add (((m + 1 : Nat) : Int)) rfl rfl rfl rfl rfl rfl (by omega) (by omega) ?_
          refine O.asg rfl rfl rfl rfl rfl ?_
          refine Pl.fin [(0,_),(1,_),(2,_),(3,_),(4,_),(12,_),(13,_),(14,_),(114,_),(132,_)] ⟨rfl,rfl,rfl,rfl,rfl,rfl,rfl,rfl,rfl,rfl,trivial⟩ ?_
          refine Go'.inBlock ?_
          refine Go'.keep [(0,_),(1,_),(3,_),(4,_),(2,_),(12,_),(13,_)] ⟨rfl,rfl,rfl,rfl,rfl,rfl,rfl,trivial⟩ ?_
          refine Go'.inLoop ?_
          exact ih (m + 1,hi) H3 ⟨hF2,by simp only; omega,hhl,hle hy hky,hhi⟩ (by simp only; omega)
        · skip
          refine Go'.condF rfl ?_
          refine Go'.region [(0,0),(1,0),(2,0)] rfl ?_
          refine O.mv rfl rfl rfl rfl rfl ?_
          refine O.sub (((m : Int) - 1)) rfl rfl rfl rfl rfl rfl (by omega) (by omega) ?_
          refine O.asg rfl rfl rfl rfl rfl ?_
          refine Pl.fin [(0,_),(1,_),(2,_),(3,_),(4,_),(12,_),(13,_),(14,_),(114,_),(132,_)] ⟨rfl,rfl,rfl,rfl,rfl,rfl,rfl,rfl,rfl,rfl,trivial⟩ ?_
          refine Go'.inBlock ?_
          refine Go'.keep [(0,_),(1,_),(3,_),(4,_),(2,_),(12,_),(13,_)] ⟨rfl,rfl,rfl,rfl,rfl,rfl,rfl,trivial⟩ ?_
          refine Go'.inLoop ?_
          exact ih (lo,m) H3 ⟨hF2,by simp only; omega,by simp only; omega,hlo,hge hy hky⟩ (by simp only; omega)
      · -- the end
        obtain rfl : hi = lo := by omega
        refine Go'.region [(0,0),(1,0),(2,0)] rfl ?_
        refine O.mv rfl rfl rfl rfl rfl ?_
        refine O.mv rfl rfl rfl rfl rfl ?_
        refine O.cmp rfl rfl rfl rfl rfl rfl (leqF (by omega)) ?_
        refine Pl.fin [(0,_),(1,_),(2,_),(3,_),(4,_),(12,_),(13,_),(114,_)] ⟨rfl,rfl,rfl,rfl,rfl,rfl,rfl,rfl,trivial⟩ ?_
        refine Go'.condF rfl ?_
        refine Go'.exit rfl ?_
        refine Go'.seq ?_
        refine Go'.seq ?_
        by_cases h0 : 0 < hi
        · obtain ⟨y,hy⟩ := hat (hi - 1) (by omega)
          have hyk := hlo (hi - 1) y hy (by omega)
          refine Go'.region [(0,0),(1,0),(2,0),(3,0),(4,0),(5,0),(6,0),(7,1),(8,0),(9,0),(10,0),(11,1),(12,0),(13,2),(14,0),(15,0)] rfl ?_
          refine O.mv rfl rfl rfl rfl rfl ?_
          refine O.cmp rfl rfl rfl rfl rfl rfl (gtrT (by omega)) ?_
          refine O.mv rfl rfl rfl rfl rfl ?_
          refine O.mv rfl rfl rfl rfl rfl ?_
          refine O.mv rfl rfl rfl rfl rfl ?_
          refine O.nc rfl rfl rfl rfl rfl ?_
          refine O.fa0 (off := 2) rfl rfl rfl rfl ⟨_,_,_,underlying144,rfl,rfl,sizeOf141⟩ rfl ?_
          refine O.ld rfl rfl rfl (fun w => ⟨isAgg141 w,sizeOf141 w⟩) rfl hn.c2 ?_
          refine O.mv rfl rfl rfl rfl rfl ?_
          refine O.sub (((hi - 1 : Nat) : Int)) rfl rfl rfl rfl rfl rfl (by omega) (by omega) ?_
          refine O.ix (j := hi - 1) rfl rfl rfl rfl underlying141 sizeOf20 rfl rfl (by omega) (by omega) ?_
          refine O.ld rfl rfl rfl (fun w => ⟨isAgg20 w,sizeOf20 w⟩) rfl (((hn.sl.item hy)) 0 _ rfl) ?_
          refine O.mv rfl rfl rfl rfl rfl ?_
          refine O.call rfl rfl rfl call116 rfl (Less_spec tc y x) ?_
          rintro _ H3 ⟨rfl,hF3⟩
          replace tc := tc.fr hF3 (fun _ _ _ _ => nw)
          replace hn := NodeM.fr EA hn hF3 (fun _ _ _ => nw)
          replace hh := hh.fr hF3 (fun _ => nw)
          replace hF2 := hF2.trans hF3
          refine ⟨trivial,?_⟩
          refine O.not rfl rfl rfl rfl rfl ?_
          refine O.pick rfl rfl rfl rfl rfl rfl ?_
          refine Pl.fin [(0,_),(1,_),(2,_),(3,_),(4,_),(12,_),(13,_),(114,_),(152,_)] ⟨rfl,rfl,rfl,rfl,rfl,rfl,rfl,rfl,rfl,trivial⟩ ?_
          cases hky : OI.lt y x
          · skip
            refine Go'.condT rfl ?_
            refine Go'.seq ?_
            refine Go'.region [(0,0),(1,0),(2,0)] rfl ?_
            refine O.mv rfl rfl rfl rfl rfl ?_
            refine O.sub (((hi - 1 : Nat) : Int)) rfl rfl rfl rfl rfl rfl (by omega) (by omega) ?_
            refine O.asg rfl rfl rfl rfl rfl ?_
            refine Pl.fin [(0,_),(1,_),(2,_),(3,_),(4,_),(10,_),(12,_),(13,_),(114,_),(152,_)] ⟨rfl,rfl,rfl,rfl,rfl,rfl,rfl,rfl,rfl,rfl,trivial⟩ ?_
            refine Go'.region [(0,0)] rfl ?_
            refine O.asg rfl rfl rfl rfl rfl ?_
            refine Pl.fin [(0,_),(1,_),(2,_),(3,_),(4,_),(10,_),(11,_),(12,_),(13,_),(114,_),(152,_)] ⟨rfl,rfl,rfl,rfl,rfl,rfl,rfl,rfl,rfl,rfl,rfl,trivial⟩ ?_
            refine Go'.seq ?_
            refine Go'.label ?_
            refine Go'.keep [(1,_),(3,_),(4,_),(10,_),(11,_)] ⟨rfl,rfl,rfl,rfl,rfl,trivial⟩ ?_
            obtain ⟨e1,e2⟩ := Pl.search_found OI (x := x) hs hy hky hyk
            exact tail (hi - 1,true) H3 ⟨by rw [e1,e2],hF2⟩
          · skip
            refine Go'.condF rfl ?_
            refine Go'.seq ?_
            refine Go'.region [(0,0),(1,0)] rfl ?_
            refine O.mv rfl rfl rfl rfl rfl ?_
            refine O.asg rfl rfl rfl rfl rfl ?_
            refine Pl.fin [(0,_),(1,_),(2,_),(3,_),(4,_),(10,_),(12,_),(13,_),(114,_),(152,_)] ⟨rfl,rfl,rfl,rfl,rfl,rfl,rfl,rfl,rfl,rfl,trivial⟩ ?_
            refine Go'.region [(0,0)] rfl ?_
            refine O.asg rfl rfl rfl rfl rfl ?_
            refine Pl.fin [(0,_),(1,_),(2,_),(3,_),(4,_),(10,_),(11,_),(12,_),(13,_),(114,_),(152,_)] ⟨rfl,rfl,rfl,rfl,rfl,rfl,rfl,rfl,rfl,rfl,rfl,trivial⟩ ?_
            refine Go'.seq ?_
            refine Go'.label ?_
            refine Go'.keep [(1,_),(3,_),(4,_),(10,_),(11,_)] ⟨rfl,rfl,rfl,rfl,rfl,trivial⟩ ?_
            obtain ⟨e1,e2⟩ := Pl.search_none OI (x := x) hs hhl (fun z _ hz => by rw [hy] at hz; cases hz; exact hky) (fun z hz => hhi hi z hz (Nat.le_refl _))
            exact tail (hi,false) H3 ⟨by rw [e1,e2],hF2⟩
        · obtain rfl : hi = 0 := by omega
          refine Go'.region [(0,0),(1,0),(2,0),(3,0),(4,0),(5,0),(6,0),(7,1),(8,0),(9,0),(10,0),(11,1),(12,0),(13,2),(14,0),(15,0)] rfl ?_
          refine O.mv rfl rfl rfl rfl rfl ?_
          refine O.cmp rfl rfl rfl rfl rfl rfl (gtrF (by omega)) ?_
          refine O.mv rfl rfl rfl rfl rfl ?_
          refine Pl.pass rfl rfl rfl rfl ?_
          refine Pl.pass rfl rfl rfl rfl ?_
          refine Pl.pass rfl rfl rfl rfl ?_
          refine Pl.pass rfl rfl rfl rfl ?_
          refine Pl.pass rfl rfl rfl rfl ?_
          refine Pl.pass rfl rfl rfl rfl ?_
          refine Pl.pass rfl rfl rfl rfl ?_
          refine Pl.pass rfl rfl rfl rfl ?_
          refine Pl.pass rfl rfl rfl rfl ?_
          refine Pl.pass rfl rfl rfl rfl ?_
          refine Pl.pass2 rfl rfl rfl rfl trivial ?_
          refine Pl.pass rfl rfl rfl rfl ?_
          refine O.pick rfl rfl rfl rfl rfl rfl ?_
          refine Pl.fin [(0,_),(1,_),(2,_),(3,_),(4,_),(12,_),(13,_),(114,_),(152,_)] ⟨rfl,rfl,rfl,rfl,rfl,rfl,rfl,rfl,rfl,trivial⟩ ?_
          refine Go'.condF rfl ?_
          refine Go'.seq ?_
          refine Go'.region [(0,0),(1,0)] rfl ?_
          refine O.mv rfl rfl rfl rfl rfl ?_
          refine O.asg rfl rfl rfl rfl rfl ?_
          refine Pl.fin [(0,_),(1,_),(2,_),(3,_),(4,_),(10,_),(12,_),(13,_),(114,_),(152,_)] ⟨rfl,rfl,rfl,rfl,rfl,rfl,rfl,rfl,rfl,rfl,trivial⟩ ?_
          refine Go'.region [(0,0)] rfl ?_
          refine O.asg rfl rfl rfl rfl rfl ?_
          refine Pl.fin [(0,_),(1,_),(2,_),(3,_),(4,_),(10,_),(11,_),(12,_),(13,_),(114,_),(152,_)] ⟨rfl,rfl,rfl,rfl,rfl,rfl,rfl,rfl,rfl,rfl,rfl,trivial⟩ ?_
          refine Go'.seq ?_
          refine Go'.label ?_
          refine Go'.keep [(1,_),(3,_),(4,_),(10,_),(11,_)] ⟨rfl,rfl,rfl,rfl,rfl,trivial⟩ ?_
          obtain ⟨e1,e2⟩ := Pl.search_none OI (x := x) hs hhl (fun z h _ => absurd rfl h) (fun z hz => hhi 0 z hz (Nat.le_refl _))
          exact tail (0,false) H2 ⟨by rw [e1,e2],hF2⟩
    · -- the hint
      intro bs
      by_cases hd8 : dp < 8
      rotate_left
      · skip
        refine Go'.region [(0,0),(1,0),(2,0),(3,0),(4,0),(5,0),(6,0),(7,0),(8,1),(9,0)] rfl ?_
        refine O.mv rfl rfl rfl rfl rfl ?_
        refine O.cmp rfl rfl rfl rfl rfl rfl (lssF (by omega)) ?_
        refine O.mv rfl rfl rfl rfl rfl ?_
        refine Pl.pass rfl rfl rfl rfl ?_
        refine Pl.pass rfl rfl rfl rfl ?_
        refine Pl.pass rfl rfl rfl rfl ?_
        refine Pl.pass rfl rfl rfl rfl ?_
        refine Pl.pass rfl rfl rfl rfl ?_
        refine Pl.pass rfl rfl rfl rfl ?_
        refine O.pick rfl rfl rfl rfl rfl rfl ?_
        refine Pl.fin [(0,_),(1,_),(2,_),(3,_),(4,_),(10,_),(11,_),(12,_),(13,_),(32,_)] ⟨rfl,rfl,rfl,rfl,rfl,rfl,rfl,rfl,rfl,rfl,trivial⟩ ?_
        refine Go'.condF rfl ?_
        refine Go'.skip ?_
        refine Go'.keep [(0,_),(1,_),(3,_),(4,_),(2,_),(12,_),(13,_)] ⟨rfl,rfl,rfl,rfl,rfl,rfl,rfl,trivial⟩ ?_
        exact bs (0,X.length) H ⟨hFs,Nat.zero_le _,Nat.le_refl _,fun j y _ h => by simp at h,fun j y h1 h2 => by
            have := (List.getElem?_eq_some_iff.1 h1).1; simp only at h2; omega⟩
      · skip
        obtain ⟨ub,hub⟩ := hh.us dp hd8
        obtain ⟨pn,hpn,hpc⟩ := hh.ps dp hd8
        refine Go'.region [(0,0),(1,0),(2,0),(3,0),(4,0),(5,0),(6,0),(7,0),(8,1),(9,0)] rfl ?_
        refine O.mv rfl rfl rfl rfl rfl ?_
        refine O.cmp rfl rfl rfl rfl rfl rfl (lssT (by omega)) ?_
        refine O.mv rfl rfl rfl rfl rfl ?_
        refine O.mv rfl rfl rfl rfl rfl ?_
        refine O.mv rfl rfl rfl rfl rfl ?_
        refine O.nc rfl rfl rfl rfl rfl ?_
        refine O.faz rfl rfl rfl rfl ⟨_,_,_,underlying82,rfl,rfl,sizeOf79⟩ rfl ?_
        refine O.ixr (j := dp) rfl rfl rfl rfl underlying79 sizeOf4 rfl rfl (by omega) hd8 ?_
        refine O.ld rfl rfl rfl (fun w => ⟨isAgg4 w,sizeOf4 w⟩) rfl (show cl _ hb (0 + dp * 1) = _ by rw [Nat.zero_add,Nat.mul_one]; exact hub) ?_
        refine O.pick rfl rfl rfl rfl rfl rfl ?_
        refine Pl.fin [(0,_),(1,_),(2,_),(3,_),(4,_),(10,_),(11,_),(12,_),(13,_),(32,_)] ⟨rfl,rfl,rfl,rfl,rfl,rfl,rfl,rfl,rfl,rfl,trivial⟩ ?_
        cases ub
        · skip
          refine Go'.condF rfl ?_
          refine Go'.skip ?_
          refine Go'.keep [(0,_),(1,_),(3,_),(4,_),(2,_),(12,_),(13,_)] ⟨rfl,rfl,rfl,rfl,rfl,rfl,rfl,trivial⟩ ?_
          exact bs (0,X.length) H ⟨hFs,Nat.zero_le _,Nat.le_refl _,fun j y _ h => by simp at h,fun j y h1 h2 => by
              have := (List.getElem?_eq_some_iff.1 h1).1; simp only at h2; omega⟩
        · skip
          refine Go'.condT rfl ?_
          refine Go'.seq ?_
          refine Go'.region [(0,0),(1,0),(2,0),(3,0),(4,0),(5,1),(6,2),(7,0)] rfl ?_
          refine O.mv rfl rfl rfl rfl rfl ?_
          refine O.mv rfl rfl rfl rfl rfl ?_
          refine O.nc rfl rfl rfl rfl rfl ?_
          refine O.fa0 (off := 8) rfl rfl rfl rfl ⟨_,_,_,underlying82,rfl,rfl,sizeOf80⟩ rfl ?_
          refine O.ixr (j := dp) rfl rfl rfl rfl underlying80 sizeOf5 rfl rfl (by omega) hd8 ?_
          refine O.ld rfl rfl rfl (fun w => ⟨isAgg5 w,sizeOf5 w⟩) rfl (show cl _ hb (8 + dp * 1) = _ by rw [Nat.mul_one]; exact hpc) ?_
          refine O.cvi (v := ((pn : Nat) : Int)) rfl rfl rfl (by rw [underlying5]; rfl) underlying3 rfl rfl (wrap_id (by omega)) trivial ?_
          refine O.asg rfl rfl rfl rfl rfl ?_
          refine Pl.fin [(0,_),(1,_),(2,_),(3,_),(4,_),(10,_),(11,_),(12,_),(13,_),(32,_)] ⟨rfl,rfl,rfl,rfl,rfl,rfl,rfl,rfl,rfl,rfl,trivial⟩ ?_
          refine Go'.seq ?_
          refine Go'.seq ?_
          by_cases hge2 : X.length ≤ pn
          · skip
            refine Go'.region [(0,0),(1,0),(2,0),(3,0),(4,1),(5,0),(6,0)] rfl ?_
            refine O.mv rfl rfl rfl rfl rfl ?_
            refine O.mv rfl rfl rfl rfl rfl ?_
            refine O.nc rfl rfl rfl rfl rfl ?_
            refine O.fa0 (off := 2) rfl rfl rfl rfl ⟨_,_,_,underlying144,rfl,rfl,sizeOf141⟩ rfl ?_
            refine O.ld rfl rfl rfl (fun w => ⟨isAgg141 w,sizeOf141 w⟩) rfl hn.c2 ?_
            refine O.len rfl rfl rfl rfl underlying141 rfl ?_
            refine O.cmp rfl rfl rfl rfl rfl rfl (geqT (by omega)) ?_
            refine Pl.fin [(0,_),(1,_),(2,_),(3,_),(4,_),(10,_),(11,_),(12,_),(13,_),(32,_),(46,_)] ⟨rfl,rfl,rfl,rfl,rfl,rfl,rfl,rfl,rfl,rfl,rfl,trivial⟩ ?_
            refine Go'.condT rfl ?_
            refine Go'.seq ?_
            refine Go'.seq ?_
            obtain ⟨u,hu⟩ := hat (X.length - 1) (by omega)
            refine Go'.draw (fun _ => True) [(0,0),(1,0),(2,0),(3,0),(4,1),(5,0),(6,0),(7,0),(8,1),(9,0),(10,0),(11,0),(12,1),(13,0),(14,2)] (by kernel_rfl) (by kernel_rfl) (trivial) ?_
            refine O.mv rfl rfl rfl rfl rfl ?_
            refine O.mv rfl rfl rfl rfl rfl ?_
            refine O.nc rfl rfl rfl rfl rfl ?_
            refine O.fa0 (off := 2) rfl rfl rfl rfl ⟨_,_,_,underlying144,rfl,rfl,sizeOf141⟩ rfl ?_
            refine O.ld rfl rfl rfl (fun w => ⟨isAgg141 w,sizeOf141 w⟩) rfl hn.c2 ?_
            refine O.mv rfl rfl rfl rfl rfl ?_
            refine O.nc rfl rfl rfl rfl rfl ?_
            refine O.fa0 (off := 2) rfl rfl rfl rfl ⟨_,_,_,underlying144,rfl,rfl,sizeOf141⟩ rfl ?_
            refine O.ld rfl rfl rfl (fun w => ⟨isAgg141 w,sizeOf141 w⟩) rfl hn.c2 ?_
            refine O.len rfl rfl rfl rfl underlying141 rfl ?_
            refine O.sub (((X.length - 1 : Nat) : Int)) rfl rfl rfl rfl rfl rfl (by omega) (by omega) ?_
            refine O.ix (j := X.length - 1) rfl rfl rfl rfl underlying141 sizeOf20 rfl rfl (by omega) (by omega) ?_
            refine O.ld rfl rfl rfl (fun w => ⟨isAgg20 w,sizeOf20 w⟩) rfl (((hn.sl.item hu)) 0 _ rfl) ?_
            refine O.mv rfl rfl rfl rfl rfl ?_
            refine O.call rfl rfl rfl call116 rfl (Less_spec tc u x) ?_
            rintro _ H2 ⟨rfl,hF2⟩
            replace tc := tc.fr hF2 (fun _ _ _ _ => nw)
            replace hn := NodeM.fr EA hn hF2 (fun _ _ _ => nw)
            replace hh := hh.fr hF2 (fun _ => nw)
            replace hFs := hFs.trans hF2
            refine ⟨trivial,?_⟩
            refine Pl.fin [(0,_),(1,_),(2,_),(3,_),(4,_),(10,_),(11,_),(12,_),(13,_),(32,_),(46,_),(61,_)] ⟨rfl,rfl,rfl,rfl,rfl,rfl,rfl,rfl,rfl,rfl,rfl,rfl,trivial⟩ ?_
            cases hux : OI.lt u x
            rotate_left
            · skip
              refine Go'.condT rfl ?_
              refine Go'.seq ?_
              refine Go'.region [(0,0),(1,0),(2,0),(3,1),(4,0),(5,0)] rfl ?_
              refine O.mv rfl rfl rfl rfl rfl ?_
              refine O.nc rfl rfl rfl rfl rfl ?_
              refine O.fa0 (off := 2) rfl rfl rfl rfl ⟨_,_,_,underlying144,rfl,rfl,sizeOf141⟩ rfl ?_
              refine O.ld rfl rfl rfl (fun w => ⟨isAgg141 w,sizeOf141 w⟩) rfl hn.c2 ?_
              refine O.len rfl rfl rfl rfl underlying141 rfl ?_
              refine O.asg rfl rfl rfl rfl rfl ?_
              refine Pl.fin [(0,_),(1,_),(2,_),(3,_),(4,_),(10,_),(11,_),(12,_),(13,_),(32,_),(46,_),(61,_)] ⟨rfl,rfl,rfl,rfl,rfl,rfl,rfl,rfl,rfl,rfl,rfl,rfl,trivial⟩ ?_
              refine Go'.goto rfl ?_
              refine Go'.seq ?_
              refine Go'.skip ?_
              obtain ⟨e1,e2⟩ := Pl.search_none OI (x := x) (i := X.length) hs (Nat.le_refl _) (fun z _ hz => by rw [hu] at hz; cases hz; exact hux) (fun z hz => by have := (List.getElem?_eq_some_iff.1 hz).1; omega)
              refine Go'.keep [(1,_),(3,_),(4,_),(10,_),(11,_)] ⟨rfl,rfl,rfl,rfl,rfl,trivial⟩ ?_
              exact tail (X.length,false) H2 ⟨by rw [e1,e2],hFs⟩
            · skip
              obtain ⟨ix,hix⟩ : ∃ ix,ix = X.length - 1 := ⟨_,rfl⟩
              refine Go'.condF rfl ?_
              refine Go'.skip ?_
              refine Go'.region [(0,0),(1,0),(2,0),(3,1),(4,0),(5,0),(6,0)] rfl ?_
              refine O.mv rfl rfl rfl rfl rfl ?_
              refine O.nc rfl rfl rfl rfl rfl ?_
              refine O.fa0 (off := 2) rfl rfl rfl rfl ⟨_,_,_,underlying144,rfl,rfl,sizeOf141⟩ rfl ?_
              refine O.ld rfl rfl rfl (fun w => ⟨isAgg141 w,sizeOf141 w⟩) rfl hn.c2 ?_
              refine O.len rfl rfl rfl rfl underlying141 rfl ?_
              refine O.sub (((ix : Nat) : Int)) rfl rfl rfl rfl rfl rfl (by omega) (by omega) ?_
              refine O.asg rfl rfl rfl rfl rfl ?_
              refine Pl.fin [(0,_),(1,_),(2,_),(3,_),(4,_),(10,_),(11,_),(12,_),(13,_),(32,_),(46,_),(61,_)] ⟨rfl,rfl,rfl,rfl,rfl,rfl,rfl,rfl,rfl,rfl,rfl,rfl,trivial⟩ ?_
              refine Go'.seq ?_
              obtain ⟨y,hy⟩ := hat ix (by omega)
              refine Go'.region [(0,0),(1,0),(2,0),(3,0),(4,0),(5,1),(6,0),(7,0),(8,1),(9,2)] rfl ?_
              refine O.mv rfl rfl rfl rfl rfl ?_
              refine O.mv rfl rfl rfl rfl rfl ?_
              refine O.mv rfl rfl rfl rfl rfl ?_
              refine O.nc rfl rfl rfl rfl rfl ?_
              refine O.fa0 (off := 2) rfl rfl rfl rfl ⟨_,_,_,underlying144,rfl,rfl,sizeOf141⟩ rfl ?_
              refine O.ld rfl rfl rfl (fun w => ⟨isAgg141 w,sizeOf141 w⟩) rfl hn.c2 ?_
              refine O.mv rfl rfl rfl rfl rfl ?_
              refine O.ix (j := ix) rfl rfl rfl rfl underlying141 sizeOf20 rfl rfl (by omega) (by omega) ?_
              refine O.ld rfl rfl rfl (fun w => ⟨isAgg20 w,sizeOf20 w⟩) rfl (((hn.sl.item hy)) 0 _ rfl) ?_
              refine O.call rfl rfl rfl call116 rfl (Less_spec tc x y) ?_
              rintro _ H3 ⟨rfl,hF3⟩
              replace tc := tc.fr hF3 (fun _ _ _ _ => nw)
              replace hn := NodeM.fr EA hn hF3 (fun _ _ _ => nw)
              replace hh := hh.fr hF3 (fun _ => nw)
              replace hFs := hFs.trans hF3
              refine ⟨trivial,?_⟩
              refine Pl.fin [(0,_),(1,_),(2,_),(3,_),(4,_),(10,_),(11,_),(12,_),(13,_),(32,_),(46,_),(61,_),(82,_)] ⟨rfl,rfl,rfl,rfl,rfl,rfl,rfl,rfl,rfl,rfl,rfl,rfl,rfl,trivial⟩ ?_
              cases hxy : OI.lt x y
              rotate_left
              · -- before it
                refine Go'.condT rfl ?_
                refine Go'.seq ?_
                refine Go'.seq ?_
                by_cases h0 : ix = 0
                · skip
                  refine Go'.region [(0,0),(1,0),(2,0),(3,0),(4,0),(5,0),(6,0),(7,1),(8,0),(9,0),(10,0),(11,1),(12,0),(13,2),(14,0)] rfl ?_
                  refine O.mv rfl rfl rfl rfl rfl ?_
                  refine O.cmp rfl rfl rfl rfl rfl rfl (eqlT (by omega)) ?_
                  refine O.mv rfl rfl rfl rfl rfl ?_
                  refine Pl.pass rfl rfl rfl rfl ?_
                  refine Pl.pass rfl rfl rfl rfl ?_
                  refine Pl.pass rfl rfl rfl rfl ?_
                  refine Pl.pass rfl rfl rfl rfl ?_
                  refine Pl.pass rfl rfl rfl rfl ?_
                  refine Pl.pass rfl rfl rfl rfl ?_
                  refine Pl.pass rfl rfl rfl rfl ?_
                  refine Pl.pass rfl rfl rfl rfl ?_
                  refine Pl.pass rfl rfl rfl rfl ?_
                  refine Pl.pass rfl rfl rfl rfl ?_
                  refine Pl.pass2 rfl rfl rfl rfl trivial ?_
                  refine O.pick rfl rfl rfl rfl rfl rfl ?_
                  refine Pl.fin [(0,_),(1,_),(2,_),(3,_),(4,_),(10,_),(11,_),(12,_),(13,_),(32,_),(46,_),(61,_),(82,_),(97,_)] ⟨rfl,rfl,rfl,rfl,rfl,rfl,rfl,rfl,rfl,rfl,rfl,rfl,rfl,rfl,trivial⟩ ?_
                  refine Go'.condT rfl ?_
                  refine Go'.goto rfl ?_
                  refine Go'.seq ?_
                  refine Go'.skip ?_
                  obtain ⟨e1,e2⟩ := Pl.search_none OI (x := x) (i := ix) hs (by omega) (fun z h _ => absurd h0 h) (fun z hz => by rw [hy] at hz; cases hz; exact hxy)
                  refine Go'.keep [(1,_),(3,_),(4,_),(10,_),(11,_)] ⟨rfl,rfl,rfl,rfl,rfl,trivial⟩ ?_
                  exact tail (ix,false) H3 ⟨by rw [e1,e2],hFs⟩
                · skip
                  obtain ⟨z,hz⟩ := hat (ix - 1) (by omega)
                  refine Go'.region [(0,0),(1,0),(2,0),(3,0),(4,0),(5,0),(6,0),(7,1),(8,0),(9,0),(10,0),(11,1),(12,0),(13,2),(14,0)] rfl ?_
                  refine O.mv rfl rfl rfl rfl rfl ?_
                  refine O.cmp rfl rfl rfl rfl rfl rfl (eqlF (by omega)) ?_
                  refine O.mv rfl rfl rfl rfl rfl ?_
                  refine O.mv rfl rfl rfl rfl rfl ?_
                  refine O.mv rfl rfl rfl rfl rfl ?_
                  refine O.nc rfl rfl rfl rfl rfl ?_
                  refine O.fa0 (off := 2) rfl rfl rfl rfl ⟨_,_,_,underlying144,rfl,rfl,sizeOf141⟩ rfl ?_
                  refine O.ld rfl rfl rfl (fun w => ⟨isAgg141 w,sizeOf141 w⟩) rfl hn.c2 ?_
                  refine O.mv rfl rfl rfl rfl rfl ?_
                  refine O.sub (((ix - 1 : Nat) : Int)) rfl rfl rfl rfl rfl rfl (by omega) (by omega) ?_
                  refine O.ix (j := ix - 1) rfl rfl rfl rfl underlying141 sizeOf20 rfl rfl (by omega) (by omega) ?_
                  refine O.ld rfl rfl rfl (fun w => ⟨isAgg20 w,sizeOf20 w⟩) rfl (((hn.sl.item hz)) 0 _ rfl) ?_
                  refine O.mv rfl rfl rfl rfl rfl ?_
                  refine O.call rfl rfl rfl call116 rfl (Less_spec tc z x) ?_
                  rintro _ H4 ⟨rfl,hF4⟩
                  replace tc := tc.fr hF4 (fun _ _ _ _ => nw)
                  replace hn := NodeM.fr EA hn hF4 (fun _ _ _ => nw)
                  replace hh := hh.fr hF4 (fun _ => nw)
                  replace hFs := hFs.trans hF4
                  refine ⟨trivial,?_⟩
                  refine O.pick rfl rfl rfl rfl rfl rfl ?_
                  refine Pl.fin [(0,_),(1,_),(2,_),(3,_),(4,_),(10,_),(11,_),(12,_),(13,_),(32,_),(46,_),(61,_),(82,_),(97,_)] ⟨rfl,rfl,rfl,rfl,rfl,rfl,rfl,rfl,rfl,rfl,rfl,rfl,rfl,rfl,trivial⟩ ?_
                  cases hzx : OI.lt z x
                  rotate_left
                  · skip
                    refine Go'.condT rfl ?_
                    refine Go'.goto rfl ?_
                    refine Go'.seq ?_
                    refine Go'.skip ?_
                    obtain ⟨e1,e2⟩ := Pl.search_none OI (x := x) (i := ix) hs (by omega) (fun u _ hu => by rw [hz] at hu; cases hu; exact hzx) (fun u hu => by rw [hy] at hu; cases hu; exact hxy)
                    refine Go'.keep [(1,_),(3,_),(4,_),(10,_),(11,_)] ⟨rfl,rfl,rfl,rfl,rfl,trivial⟩ ?_
                    exact tail (ix,false) H4 ⟨by rw [e1,e2],hFs⟩
                  · skip
                    refine Go'.condF rfl ?_
                    refine Go'.skip ?_
                    refine Go'.region [(0,0),(1,0),(2,0)] rfl ?_
                    refine O.mv rfl rfl rfl rfl rfl ?_
                    refine O.sub (((ix : Int) - 1)) rfl rfl rfl rfl rfl rfl (by omega) (by omega) ?_
                    refine O.asg rfl rfl rfl rfl rfl ?_
                    refine Pl.fin [(0,_),(1,_),(2,_),(3,_),(4,_),(10,_),(11,_),(12,_),(13,_),(32,_),(46,_),(61,_),(82,_),(97,_)] ⟨rfl,rfl,rfl,rfl,rfl,rfl,rfl,rfl,rfl,rfl,rfl,rfl,rfl,rfl,trivial⟩ ?_
                    refine Go'.keep [(0,_),(1,_),(3,_),(4,_),(2,_),(12,_),(13,_)] ⟨rfl,rfl,rfl,rfl,rfl,rfl,rfl,trivial⟩ ?_
                    exact bs (0,ix) H4 ⟨hFs,Nat.zero_le _,by simp only; omega,fun j y _ h => by simp at h,hge hy hxy⟩
              · -- not before it
                refine Go'.condF rfl ?_
                refine Go'.seq ?_
                refine Go'.region [(0,0),(1,0),(2,0),(3,0),(4,1),(5,0),(6,0),(7,1),(8,0),(9,2)] rfl ?_
                refine O.mv rfl rfl rfl rfl rfl ?_
                refine O.mv rfl rfl rfl rfl rfl ?_
                refine O.nc rfl rfl rfl rfl rfl ?_
                refine O.fa0 (off := 2) rfl rfl rfl rfl ⟨_,_,_,underlying144,rfl,rfl,sizeOf141⟩ rfl ?_
                refine O.ld rfl rfl rfl (fun w => ⟨isAgg141 w,sizeOf141 w⟩) rfl hn.c2 ?_
                refine O.mv rfl rfl rfl rfl rfl ?_
                refine O.ix (j := ix) rfl rfl rfl rfl underlying141 sizeOf20 rfl rfl (by omega) (by omega) ?_
                refine O.ld rfl rfl rfl (fun w => ⟨isAgg20 w,sizeOf20 w⟩) rfl (((hn.sl.item hy)) 0 _ rfl) ?_
                refine O.mv rfl rfl rfl rfl rfl ?_
                refine O.call rfl rfl rfl call116 rfl (Less_spec tc y x) ?_
                rintro _ H4 ⟨rfl,hF4⟩
                replace tc := tc.fr hF4 (fun _ _ _ _ => nw)
                replace hn := NodeM.fr EA hn hF4 (fun _ _ _ => nw)
                replace hh := hh.fr hF4 (fun _ => nw)
                replace hFs := hFs.trans hF4
                refine ⟨trivial,?_⟩
                refine Pl.fin [(0,_),(1,_),(2,_),(3,_),(4,_),(10,_),(11,_),(12,_),(13,_),(32,_),(46,_),(61,_),(82,_),(109,_)] ⟨rfl,rfl,rfl,rfl,rfl,rfl,rfl,rfl,rfl,rfl,rfl,rfl,rfl,rfl,trivial⟩ ?_
                cases hyx : OI.lt y x
                · skip
                  refine Go'.condF rfl ?_
                  refine Go'.seq ?_
                  refine Go'.region [(0,0)] rfl ?_
                  refine O.asg rfl rfl rfl rfl rfl ?_
                  refine Pl.fin [(0,_),(1,_),(2,_),(3,_),(4,_),(10,_),(11,_),(12,_),(13,_),(32,_),(46,_),(61,_),(82,_),(109,_)] ⟨rfl,rfl,rfl,rfl,rfl,rfl,rfl,rfl,rfl,rfl,rfl,rfl,rfl,rfl,trivial⟩ ?_
                  refine Go'.goto rfl ?_
                  refine Go'.seq ?_
                  refine Go'.skip ?_
                  obtain ⟨e1,e2⟩ := Pl.search_found OI (x := x) hs hy hyx hxy
                  refine Go'.keep [(1,_),(3,_),(4,_),(10,_),(11,_)] ⟨rfl,rfl,rfl,rfl,rfl,trivial⟩ ?_
                  exact tail (ix,true) H4 ⟨by rw [e1,e2],hFs⟩
                · skip
                  refine Go'.condT rfl ?_
                  refine Go'.region [(0,0),(1,0),(2,0)] rfl ?_
                  refine O.mv rfl rfl rfl rfl rfl ?_
                  refine O.add (((ix + 1 : Nat) : Int)) rfl rfl rfl rfl rfl rfl (by omega) (by omega) ?_
                  refine O.asg rfl rfl rfl rfl rfl ?_
                  refine Pl.fin [(0,_),(1,_),(2,_),(3,_),(4,_),(10,_),(11,_),(12,_),(13,_),(32,_),(46,_),(61,_),(82,_),(109,_)] ⟨rfl,rfl,rfl,rfl,rfl,rfl,rfl,rfl,rfl,rfl,rfl,rfl,rfl,rfl,trivial⟩ ?_
                  refine Go'.keep [(0,_),(1,_),(3,_),(4,_),(2,_),(12,_),(13,_)] ⟨rfl,rfl,rfl,rfl,rfl,rfl,rfl,trivial⟩ ?_
                  exact bs (ix + 1,X.length) H4 ⟨hFs,by simp only; omega,Nat.le_refl _,hle hy hxy,fun j y h1 h2 => by
                      have := (List.getElem?_eq_some_iff.1 h1).1; simp only at h2; omega⟩
          · skip
            obtain ⟨ix,hix⟩ : ∃ ix,ix = pn := ⟨_,rfl⟩
            subst hix
            refine Go'.region [(0,0),(1,0),(2,0),(3,0),(4,1),(5,0),(6,0)] rfl ?_
            refine O.mv rfl rfl rfl rfl rfl ?_
            refine O.mv rfl rfl rfl rfl rfl ?_
            refine O.nc rfl rfl rfl rfl rfl ?_
            refine O.fa0 (off := 2) rfl rfl rfl rfl ⟨_,_,_,underlying144,rfl,rfl,sizeOf141⟩ rfl ?_
            refine O.ld rfl rfl rfl (fun w => ⟨isAgg141 w,sizeOf141 w⟩) rfl hn.c2 ?_
            refine O.len rfl rfl rfl rfl underlying141 rfl ?_
            refine O.cmp rfl rfl rfl rfl rfl rfl (geqF (by omega)) ?_
            refine Pl.fin [(0,_),(1,_),(2,_),(3,_),(4,_),(10,_),(11,_),(12,_),(13,_),(32,_),(46,_)] ⟨rfl,rfl,rfl,rfl,rfl,rfl,rfl,rfl,rfl,rfl,rfl,trivial⟩ ?_
            refine Go'.condF rfl ?_
            refine Go'.skip ?_
            refine Go'.seq ?_
            obtain ⟨y,hy⟩ := hat ix (by omega)
            refine Go'.region [(0,0),(1,0),(2,0),(3,0),(4,0),(5,1),(6,0),(7,0),(8,1),(9,2)] rfl ?_
            refine O.mv rfl rfl rfl rfl rfl ?_
            refine O.mv rfl rfl rfl rfl rfl ?_
            refine O.mv rfl rfl rfl rfl rfl ?_
            refine O.nc rfl rfl rfl rfl rfl ?_
            refine O.fa0 (off := 2) rfl rfl rfl rfl ⟨_,_,_,underlying144,rfl,rfl,sizeOf141⟩ rfl ?_
            refine O.ld rfl rfl rfl (fun w => ⟨isAgg141 w,sizeOf141 w⟩) rfl hn.c2 ?_
            refine O.mv rfl rfl rfl rfl rfl ?_
            refine O.ix (j := ix) rfl rfl rfl rfl underlying141 sizeOf20 rfl rfl (by omega) (by omega) ?_
            refine O.ld rfl rfl rfl (fun w => ⟨isAgg20 w,sizeOf20 w⟩) rfl (((hn.sl.item hy)) 0 _ rfl) ?_
            refine O.call rfl rfl rfl call116 rfl (Less_spec tc x y) ?_
            rintro _ H2 ⟨rfl,hF2⟩
            replace tc := tc.fr hF2 (fun _ _ _ _ => nw)
            replace hn := NodeM.fr EA hn hF2 (fun _ _ _ => nw)
            replace hh := hh.fr hF2 (fun _ => nw)
            replace hFs := hFs.trans hF2
            refine ⟨trivial,?_⟩
            refine Pl.fin [(0,_),(1,_),(2,_),(3,_),(4,_),(10,_),(11,_),(12,_),(13,_),(32,_),(46,_),(82,_)] ⟨rfl,rfl,rfl,rfl,rfl,rfl,rfl,rfl,rfl,rfl,rfl,rfl,trivial⟩ ?_
            cases hxy : OI.lt x y
            rotate_left
            · -- before it
              refine Go'.condT rfl ?_
              refine Go'.seq ?_
              refine Go'.seq ?_
              by_cases h0 : ix = 0
              · skip
                refine Go'.region [(0,0),(1,0),(2,0),(3,0),(4,0),(5,0),(6,0),(7,1),(8,0),(9,0),(10,0),(11,1),(12,0),(13,2),(14,0)] rfl ?_
                refine O.mv rfl rfl rfl rfl rfl ?_
                refine O.cmp rfl rfl rfl rfl rfl rfl (eqlT (by omega)) ?_
                refine O.mv rfl rfl rfl rfl rfl ?_
                refine Pl.pass rfl rfl rfl rfl ?_
                refine Pl.pass rfl rfl rfl rfl ?_
                refine Pl.pass rfl rfl rfl rfl ?_
                refine Pl.pass rfl rfl rfl rfl ?_
                refine Pl.pass rfl rfl rfl rfl ?_
                refine Pl.pass rfl rfl rfl rfl ?_
                refine Pl.pass rfl rfl rfl rfl ?_
                refine Pl.pass rfl rfl rfl rfl ?_
                refine Pl.pass rfl rfl rfl rfl ?_
                refine Pl.pass rfl rfl rfl rfl ?_
                refine Pl.pass2 rfl rfl rfl rfl trivial ?_
                refine O.pick rfl rfl rfl rfl rfl rfl ?_
                refine Pl.fin [(0,_),(1,_),(2,_),(3,_),(4,_),(10,_),(11,_),(12,_),(13,_),(32,_),(46,_),(82,_),(97,_)] ⟨rfl,rfl,rfl,rfl,rfl,rfl,rfl,rfl,rfl,rfl,rfl,rfl,rfl,trivial⟩ ?_
                refine Go'.condT rfl ?_
                refine Go'.goto rfl ?_
                refine Go'.seq ?_
                refine Go'.skip ?_
                obtain ⟨e1,e2⟩ := Pl.search_none OI (x := x) (i := ix) hs (by omega) (fun z h _ => absurd h0 h) (fun z hz => by rw [hy] at hz; cases hz; exact hxy)
                refine Go'.keep [(1,_),(3,_),(4,_),(10,_),(11,_)] ⟨rfl,rfl,rfl,rfl,rfl,trivial⟩ ?_
                exact tail (ix,false) H2 ⟨by rw [e1,e2],hFs⟩
              · skip
                obtain ⟨z,hz⟩ := hat (ix - 1) (by omega)
                refine Go'.region [(0,0),(1,0),(2,0),(3,0),(4,0),(5,0),(6,0),(7,1),(8,0),(9,0),(10,0),(11,1),(12,0),(13,2),(14,0)] rfl ?_
                refine O.mv rfl rfl rfl rfl rfl ?_
                refine O.cmp rfl rfl rfl rfl rfl rfl (eqlF (by omega)) ?_
                refine O.mv rfl rfl rfl rfl rfl ?_
                refine O.mv rfl rfl rfl rfl rfl ?_
                refine O.mv rfl rfl rfl rfl rfl ?_
                refine O.nc rfl rfl rfl rfl rfl ?_
                refine O.fa0 (off := 2) rfl rfl rfl rfl ⟨_,_,_,underlying144,rfl,rfl,sizeOf141⟩ rfl ?_
                refine O.ld rfl rfl rfl (fun w => ⟨isAgg141 w,sizeOf141 w⟩) rfl hn.c2 ?_
                refine O.mv rfl rfl rfl rfl rfl ?_
                refine O.sub (((ix - 1 : Nat) : Int)) rfl rfl rfl rfl rfl rfl (by omega) (by omega) ?_
                refine O.ix (j := ix - 1) rfl rfl rfl rfl underlying141 sizeOf20 rfl rfl (by omega) (by omega) ?_
                refine O.ld rfl rfl rfl (fun w => ⟨isAgg20 w,sizeOf20 w⟩) rfl (((hn.sl.item hz)) 0 _ rfl) ?_
                refine O.mv rfl rfl rfl rfl rfl ?_
                refine O.call rfl rfl rfl call116 rfl (Less_spec tc z x) ?_
                rintro _ H3 ⟨rfl,hF3⟩
                replace tc := tc.fr hF3 (fun _ _ _ _ => nw)
                replace hn := NodeM.fr EA hn hF3 (fun _ _ _ => nw)
                replace hh := hh.fr hF3 (fun _ => nw)
                replace hFs := hFs.trans hF3
                refine ⟨trivial,?_⟩
                refine O.pick rfl rfl rfl rfl rfl rfl ?_
                refine Pl.fin [(0,_),(1,_),(2,_),(3,_),(4,_),(10,_),(11,_),(12,_),(13,_),(32,_),(46,_),(82,_),(97,_)] ⟨rfl,rfl,rfl,rfl,rfl,rfl,rfl,rfl,rfl,rfl,rfl,rfl,rfl,trivial⟩ ?_
                cases hzx : OI.lt z x
                rotate_left
                · skip
                  refine Go'.condT rfl ?_
                  refine Go'.goto rfl ?_
                  refine Go'.seq ?_
                  refine Go'.skip ?_
                  obtain ⟨e1,e2⟩ := Pl.search_none OI (x := x) (i := ix) hs (by omega) (fun u _ hu => by rw [hz] at hu; cases hu; exact hzx) (fun u hu => by rw [hy] at hu; cases hu; exact hxy)
                  refine Go'.keep [(1,_),(3,_),(4,_),(10,_),(11,_)] ⟨rfl,rfl,rfl,rfl,rfl,trivial⟩ ?_
                  exact tail (ix,false) H3 ⟨by rw [e1,e2],hFs⟩
                · skip
                  refine Go'.condF rfl ?_
                  refine Go'.skip ?_
                  refine Go'.region [(0,0),(1,0),(2,0)] rfl ?_
                  refine O.mv rfl rfl rfl rfl rfl ?_
                  refine O.sub (((ix : Int) - 1)) rfl rfl rfl rfl rfl rfl (by omega) (by omega) ?_
                  refine O.asg rfl rfl rfl rfl rfl ?_
                  refine Pl.fin [(0,_),(1,_),(2,_),(3,_),(4,_),(10,_),(11,_),(12,_),(13,_),(32,_),(46,_),(82,_),(97,_)] ⟨rfl,rfl,rfl,rfl,rfl,rfl,rfl,rfl,rfl,rfl,rfl,rfl,rfl,trivial⟩ ?_
                  refine Go'.keep [(0,_),(1,_),(3,_),(4,_),(2,_),(12,_),(13,_)] ⟨rfl,rfl,rfl,rfl,rfl,rfl,rfl,trivial⟩ ?_
                  exact bs (0,ix) H3 ⟨hFs,Nat.zero_le _,by simp only; omega,fun j y _ h => by simp at h,hge hy hxy⟩
            · -- not before it
              refine Go'.condF rfl ?_
              refine Go'.seq ?_
              refine Go'.region [(0,0),(1,0),(2,0),(3,0),(4,1),(5,0),(6,0),(7,1),(8,0),(9,2)] rfl ?_
              refine O.mv rfl rfl rfl rfl rfl ?_
              refine O.mv rfl rfl rfl rfl rfl ?_
              refine O.nc rfl rfl rfl rfl rfl ?_
              refine O.fa0 (off := 2) rfl rfl rfl rfl ⟨_,_,_,underlying144,rfl,rfl,sizeOf141⟩ rfl ?_
              refine O.ld rfl rfl rfl (fun w => ⟨isAgg141 w,sizeOf141 w⟩) rfl hn.c2 ?_
              refine O.mv rfl rfl rfl rfl rfl ?_
              refine O.ix (j := ix) rfl rfl rfl rfl underlying141 sizeOf20 rfl rfl (by omega) (by omega) ?_
              refine O.ld rfl rfl rfl (fun w => ⟨isAgg20 w,sizeOf20 w⟩) rfl (((hn.sl.item hy)) 0 _ rfl) ?_
              refine O.mv rfl rfl rfl rfl rfl ?_
              refine O.call rfl rfl rfl call116 rfl (Less_spec tc y x) ?_
              rintro _ H3 ⟨rfl,hF3⟩
              replace tc := tc.fr hF3 (fun _ _ _ _ => nw)
              replace hn := NodeM.fr EA hn hF3 (fun _ _ _ => nw)
              replace hh := hh.fr hF3 (fun _ => nw)
              replace hFs := hFs.trans hF3
              refine ⟨trivial,?_⟩
              refine Pl.fin [(0,_),(1,_),(2,_),(3,_),(4,_),(10,_),(11,_),(12,_),(13,_),(32,_),(46,_),(82,_),(109,_)] ⟨rfl,rfl,rfl,rfl,rfl,rfl,rfl,rfl,rfl,rfl,rfl,rfl,rfl,trivial⟩ ?_
              cases hyx : OI.lt y x
              · skip
                refine Go'.condF rfl ?_
                refine Go'.seq ?_
                refine Go'.region [(0,0)] rfl ?_
                refine O.asg rfl rfl rfl rfl rfl ?_
                refine Pl.fin [(0,_),(1,_),(2,_),(3,_),(4,_),(10,_),(11,_),(12,_),(13,_),(32,_),(46,_),(82,_),(109,_)] ⟨rfl,rfl,rfl,rfl,rfl,rfl,rfl,rfl,rfl,rfl,rfl,rfl,rfl,trivial⟩ ?_
                refine Go'.goto rfl ?_
                refine Go'.seq ?_
                refine Go'.skip ?_
                obtain ⟨e1,e2⟩ := Pl.search_found OI (x := x) hs hy hyx hxy
                refine Go'.keep [(1,_),(3,_),(4,_),(10,_),(11,_)] ⟨rfl,rfl,rfl,rfl,rfl,trivial⟩ ?_
                exact tail (ix,true) H3 ⟨by rw [e1,e2],hFs⟩
              · skip
                refine Go'.condT rfl ?_
                refine Go'.region [(0,0),(1,0),(2,0)] rfl ?_
                refine O.mv rfl rfl rfl rfl rfl ?_
                refine O.add (((ix + 1 : Nat) : Int)) rfl rfl rfl rfl rfl rfl (by omega) (by omega) ?_
                refine O.asg rfl rfl rfl rfl rfl ?_
                refine Pl.fin [(0,_),(1,_),(2,_),(3,_),(4,_),(10,_),(11,_),(12,_),(13,_),(32,_),(46,_),(82,_),(109,_)] ⟨rfl,rfl,rfl,rfl,rfl,rfl,rfl,rfl,rfl,rfl,rfl,rfl,rfl,trivial⟩ ?_
                refine Go'.keep [(0,_),(1,_),(3,_),(4,_),(2,_),(12,_),(13,_)] ⟨rfl,rfl,rfl,rfl,rfl,rfl,rfl,trivial⟩ ?_
                exact bs (ix + 1,X.length) H3 ⟨hFs,by simp only; omega,Nat.le_refl _,hle hy hxy,fun j y h1 h2 => by
                    have := (List.getElem?_eq_some_iff.1 h1).1; simp only at h2; omega⟩

theorem find_spec {B : World} {H : Mem} {tr id mx mn dp : Nat} (tc : TrC H tr id mx mn) {g : Ng} {X : List (Int × Int)} {kp : Option Addr} (x : Int × Int) (hn : NodeM EA H g X (.pointer kp)) (hs : Pl.Srt OI X) (hl : X.length ≤ 255) (h1 : 1 ≤ X.length)
    {hv : Value} {hz : Nat → Prop} (hh : HintOk H hv hz) (hoff : ∀ b o,hz b → ¬ ncl EA g b o) (hdp : dp < 4611686018427387904) :
    Fn Try.prog B 140 [.pointer (some ⟨tr,0,none⟩),.pointer (some ⟨g.p,0,none⟩),iv x,hv,.int .i64 (dp : Int)] H (fun v H' => v = .tuple #[.int .i64 ((Pl.pos OI x X : Nat) : Int),.bool (Pl.fnd OI x X)] ∧ Fr (fun b _ => hz b) H H' ∧ HintOk H' hv hz) := by
  rcases hh with ⟨rfl,hz0⟩ | ⟨hb,rfl,hzb,hbl,hbb,hm⟩
  · skip
    refine fn_of func140 rfl ntmps140 ?_
    refine (show Go' _ _ _ _ 28 [(0,_),(1,_),(2,_),(3,_),(4,_)] [.code _] _ from ?_)
    refine Go'.seq ?_
    have M1 := Mk0.mk' H
    have hF1 := M1.fr nowhere
    have hs1 := M1.size
    replace tc := tc.fr hF1 (fun _ _ _ _ => nw)
    replace hn := NodeM.fr EA hn hF1 (fun _ _ _ => nw)
    refine Go'.region [(0,0),(1,0)] rfl ?_
    refine O.asg rfl rfl rfl rfl rfl ?_
    refine O.asg rfl rfl rfl rfl rfl ?_
    refine Pl.fin [(0,_),(1,_),(2,_),(3,_),(4,_),(10,_),(11,_)] ⟨rfl,rfl,rfl,rfl,rfl,rfl,rfl,trivial⟩ ?_
    refine Go'.seq ?_
    refine Go'.seq ?_
    refine Go'.region [(0,0),(1,0)] rfl ?_
    refine O.mv rfl rfl rfl rfl rfl ?_
    refine O.isNil rfl rfl rfl rfl underlying84 rfl rfl ?_
    refine Pl.fin [(0,_),(1,_),(2,_),(3,_),(4,_),(10,_),(11,_),(13,_)] ⟨rfl,rfl,rfl,rfl,rfl,rfl,rfl,rfl,trivial⟩ ?_
    refine Go'.condT rfl ?_
    refine Go'.seq ?_
    refine Go'.region [(0,0),(1,0),(2,0),(3,2),(4,0),(5,0),(6,0),(7,0)] rfl ?_
    refine O.mv rfl rfl rfl rfl rfl ?_
    refine O.mv rfl rfl rfl rfl rfl ?_
    refine O.mv rfl rfl rfl rfl rfl ?_
    refine O.call rfl rfl rfl call141 rfl (bsearch_spec tc x hn hs hl) ?_
    rintro _ H2 ⟨rfl,hF2⟩
    refine ⟨trivial,?_⟩
    refine O.ext rfl rfl rfl rfl rfl rfl ?_
    refine O.ext rfl rfl rfl rfl rfl rfl ?_
    refine O.asg rfl rfl rfl rfl rfl ?_
    refine O.asg rfl rfl rfl rfl rfl ?_
    refine Pl.fin [(0,_),(1,_),(2,_),(3,_),(4,_),(10,_),(11,_)] ⟨rfl,rfl,rfl,rfl,rfl,rfl,rfl,trivial⟩ ?_
    refine Go'.ret (vs := [_,_]) func140 results140 ⟨rfl,rfl,trivial⟩ ?_
    exact ⟨rfl,(hF1.trans hF2).mono (fun _ _ _ h => h.elim),.inl ⟨rfl,hz0⟩⟩

  · skip
    refine fn_of func140 rfl ntmps140 ?_
    refine (show Go' _ _ _ _ 28 [(0,_),(1,_),(2,_),(3,_),(4,_)] [.code _] _ from ?_)
    refine Go'.seq ?_
    have M1 := Mk0.mk' H
    have hF1 := M1.fr nowhere
    have hs1 := M1.size
    replace tc := tc.fr hF1 (fun _ _ _ _ => nw)
    replace hn := NodeM.fr EA hn hF1 (fun _ _ _ => nw)
    refine Go'.region [(0,0),(1,0)] rfl ?_
    refine O.asg rfl rfl rfl rfl rfl ?_
    refine O.asg rfl rfl rfl rfl rfl ?_
    refine Pl.fin [(0,_),(1,_),(2,_),(3,_),(4,_),(10,_),(11,_)] ⟨rfl,rfl,rfl,rfl,rfl,rfl,rfl,trivial⟩ ?_
    refine Go'.seq ?_
    refine Go'.seq ?_
    replace hm := hm.fr hF1 (fun _ => nw)
    refine Go'.region [(0,0),(1,0)] rfl ?_
    refine O.mv rfl rfl rfl rfl rfl ?_
    refine O.isNil rfl rfl rfl rfl underlying84 rfl rfl ?_
    refine Pl.fin [(0,_),(1,_),(2,_),(3,_),(4,_),(10,_),(11,_),(13,_)] ⟨rfl,rfl,rfl,rfl,rfl,rfl,rfl,rfl,trivial⟩ ?_
    refine Go'.condF rfl ?_
    refine Go'.skip ?_
    refine Go'.seq ?_
    refine Go'.region [(0,0),(1,0),(2,0),(3,0),(4,0),(5,2),(6,0),(7,0),(8,0),(9,0)] rfl ?_
    refine O.mv rfl rfl rfl rfl rfl ?_
    refine O.mv rfl rfl rfl rfl rfl ?_
    refine O.mv rfl rfl rfl rfl rfl ?_
    refine O.mv rfl rfl rfl rfl rfl ?_
    refine O.mv rfl rfl rfl rfl rfl ?_
    refine O.call rfl rfl rfl call142 rfl (hintsearch_spec tc x hn hs hl h1 hm (by omega) hbb (fun o => hoff hb o ((hzb hb).2 rfl)) hdp) ?_
    rintro _ H2 ⟨rfl,hF2,hm2⟩
    refine ⟨trivial,?_⟩
    refine O.ext rfl rfl rfl rfl rfl rfl ?_
    refine O.ext rfl rfl rfl rfl rfl rfl ?_
    refine O.asg rfl rfl rfl rfl rfl ?_
    refine O.asg rfl rfl rfl rfl rfl ?_
    refine Pl.fin [(10,_),(11,_)] ⟨rfl,rfl,trivial⟩ ?_
    refine Go'.ret (vs := [_,_]) func140 results140 ⟨rfl,rfl,trivial⟩ ?_
    exact ⟨rfl,hF1.trans' hF2 (fun _ _ _ h => h.elim) (fun b _ _ h => (hzb b).2 h),.inr ⟨hb,rfl,hzb,Nat.lt_of_lt_of_le (by omega) hF2.size,hbb,hm2⟩⟩

end Go.Bt.FB
