/- Contracts of functions of the program, proved by walking through their code. Conditions: those that each theorem names. -/
import Derived.Test.YtmboghgpakhceaaToiT
import Derived.Test.YtmboghgpakhceaaToiS
import Derived.Test.YtmboghgpakhceaaToSo
namespace Go.Bt.FG
open Go Go.Proofs
set_option maxRecDepth 20000
set_option maxHeartbeats 4000000
set_option linter.unusedVariables false
set_option linter.unusedSectionVars false

section
variable [Inhabited Cx]

theorem iNext_spec {B : World} {H : Mem} {it tr : Nat} {mt sk sa se : Bool} {Z : Nat → Prop} {fr : List (Nat × Int)} {kv : Int × Int} {P : Ps} {S : Nat → Prop} {l : List (Int × Int)} {r : Option ((h : Nat) × Gt EJ h)} (hI : Itr EJ H H it tr mt Z sk sa se Z fr kv) (hT : TreeR H tr P S l r) (hsi : ¬ S it) (hsz : ∀ b, S b → ¬ Z b) {st : Option Nat} (hSt : StI r l sk fr kv st) :
    Fn Try.prog B 159 [.pointer (some ⟨it, 0, none⟩)] H (fun v H' => ∃ b st', v = .bool b ∧ ItPost EJ H H' it tr mt Z r l st' ∧ (∀ q, st = some q → b = decide (q + 1 < l.length) ∧ st' = if q + 1 < l.length then some (q + 1) else none) ∧ (l = [] → b = false ∧ st' = none)) := by
  rcases st with _ | q
  rotate_left
  · obtain ⟨rfl, hq, h0, t0, rfl, hS⟩ := hSt
    exact (iNext_gen hI hT hsi hsz hS.gap).mono fun v H' ⟨e, hp⟩ => ⟨_, _, e, hp, fun q' e' => by cases e'; exact ⟨rfl, rfl⟩, fun e' => by subst e'; simp at hq⟩
  have hSt' : fr = [] := hSt
  subst hSt'
  have hK : ∀ H', Fr (fun b _ => b = it ∨ Z b) H H' → TreeR H' tr P S l r := fun H' hf => hT.keep hf fun b o hs hz => hz.elim (fun e => hsi (e ▸ hs)) (hsz b hs)
  have hll := hT.ll
  have hno : ∀ {b : Bool} {st' : Option Nat} (q : Nat), (none : Option Nat) = some q → b = decide (q + 1 < l.length) ∧ st' = if q + 1 < l.length then some (q + 1) else none := fun q e => by cases e
  obtain ⟨sv, hsv, hA⟩ := hI.st
  obtain ⟨a0, c0, rfl⟩ : ∃ a c, sv = .slice a 0 c := by
    rcases hA with ⟨e, _⟩ | ⟨b, o, c, e, _⟩
    · exact ⟨_, _, e⟩
    · exact ⟨_, _, e⟩
  have hnl : l = [] → r = none := by
    intro e
    have hrt := hT.rt
    rcases r with _ | ⟨h0, t0⟩
    · rfl
    · obtain ⟨hg, hx, hl, _⟩ := hrt
      have := Gt.high hT.mn hg hx
      rw [hl, e] at this
      simp at this
  refine fn_of Try.func159 rfl Try.ntmps159 ?_
  refine (show Go' _ _ _ _ 195 [(0, _)] [.code _] _ from ?_)
  refine Go'.seq ?_
  -- region 0 (btreeg.go:1693)
  refine Go'.region [(0, 0)] rfl ?_
  refine O.asg rfl rfl rfl rfl rfl ?_
  refine Pl.fin [(0, _), (2, _)] ⟨rfl, rfl, trivial⟩ ?_
  refine Go'.seq ?_
  refine Go'.seq ?_
  -- region 1 (btreeg.go:1694)
  refine Go'.region [(0, 0), (1, 0), (2, 0), (3, 1), (4, 0)] rfl ?_
  refine O.mv rfl rfl rfl rfl rfl ?_
  refine O.nc rfl rfl rfl rfl rfl ?_
  refine O.faz rfl rfl rfl rfl ⟨_, _, _, Try.underlying135, rfl, rfl, Try.sizeOf86⟩ rfl ?_
  refine O.ld rfl rfl rfl (fun w => ⟨Try.isAgg86 w, Try.sizeOf86 w⟩) rfl hI.c0 ?_
  refine O.isNil rfl rfl rfl rfl Try.underlying86 rfl rfl ?_
  refine Pl.fin [(0, _), (2, _), (9, _)] ⟨rfl, rfl, rfl, trivial⟩ ?_
  refine Go'.condF rfl ?_
  refine Go'.skip ?_
  refine Go'.seq ?_
  refine Go'.seq ?_
  rcases sk with _ | _
  · skip
    -- region 3 (btreeg.go:1697)
    refine Go'.region [(0, 0), (1, 0), (2, 0), (3, 1), (4, 0)] rfl ?_
    refine O.mv rfl rfl rfl rfl rfl ?_
    refine O.nc rfl rfl rfl rfl rfl ?_
    refine O.fa0 (off := 3) rfl rfl rfl rfl ⟨_, _, _, Try.underlying135, rfl, rfl, Try.sizeOf4⟩ rfl ?_
    refine O.ld rfl rfl rfl (fun w => ⟨Try.isAgg4 w, Try.sizeOf4 w⟩) rfl hI.c2 ?_
    refine O.not rfl rfl rfl rfl rfl ?_
    refine Pl.fin [(0, _), (2, _), (14, _)] ⟨rfl, rfl, rfl, trivial⟩ ?_
    refine Go'.condT rfl ?_
    refine Go'.seq ?_
    -- region 4 (btreeg.go:1698)
    refine Go'.region [(0, 0), (1, 2), (2, 0)] rfl ?_
    refine O.mv rfl rfl rfl rfl rfl ?_
    refine O.call rfl rfl rfl Try.call163 rfl (iFirst_spec hI hT hsi hsz) ?_
    rintro _ H1 ⟨rfl, hp⟩
    refine ⟨trivial, ?_⟩
    refine O.asg rfl rfl rfl rfl rfl ?_
    refine Pl.fin [(0, _), (2, _)] ⟨rfl, rfl, trivial⟩ ?_
    refine Go'.ret (vs := [_]) Try.func159 Try.results159 ⟨rfl, trivial⟩ ?_
    exact ⟨_, _, rfl, hp, hno, fun e => by subst e; exact ⟨rfl, rfl⟩⟩
  · skip
    -- region 3 (btreeg.go:1697)
    refine Go'.region [(0, 0), (1, 0), (2, 0), (3, 1), (4, 0)] rfl ?_
    refine O.mv rfl rfl rfl rfl rfl ?_
    refine O.nc rfl rfl rfl rfl rfl ?_
    refine O.fa0 (off := 3) rfl rfl rfl rfl ⟨_, _, _, Try.underlying135, rfl, rfl, Try.sizeOf4⟩ rfl ?_
    refine O.ld rfl rfl rfl (fun w => ⟨Try.isAgg4 w, Try.sizeOf4 w⟩) rfl hI.c2 ?_
    refine O.not rfl rfl rfl rfl rfl ?_
    refine Pl.fin [(0, _), (2, _), (14, _)] ⟨rfl, rfl, rfl, trivial⟩ ?_
    refine Go'.condF rfl ?_
    refine Go'.skip ?_
    refine Go'.seq ?_
    refine Go'.seq ?_
    -- region 5 (btreeg.go:1700)
    refine Go'.region [(0, 0), (1, 0), (2, 0), (3, 1), (4, 0), (5, 0)] rfl ?_
    refine O.mv rfl rfl rfl rfl rfl ?_
    refine O.nc rfl rfl rfl rfl rfl ?_
    refine O.fa0 (off := 14) rfl rfl rfl rfl ⟨_, _, _, Try.underlying135, rfl, rfl, Try.sizeOf133⟩ rfl ?_
    refine O.ld rfl rfl rfl (fun w => ⟨Try.isAgg133 w, Try.sizeOf133 w⟩) rfl hsv ?_
    refine O.len rfl rfl rfl rfl Try.underlying133 rfl ?_
    refine O.cmp rfl rfl rfl rfl rfl rfl (eqlT rfl) ?_
    refine Pl.fin [(0, _), (2, _), (22, _)] ⟨rfl, rfl, rfl, trivial⟩ ?_
    refine Go'.condT rfl ?_
    refine Go'.seq ?_
    refine Go'.seq ?_
    rcases sa with _ | _
    · skip
      -- region 6 (btreeg.go:1701)
      refine Go'.region [(0, 0), (1, 0), (2, 0), (3, 1)] rfl ?_
      refine O.mv rfl rfl rfl rfl rfl ?_
      refine O.nc rfl rfl rfl rfl rfl ?_
      refine O.fa0 (off := 4) rfl rfl rfl rfl ⟨_, _, _, Try.underlying135, rfl, rfl, Try.sizeOf4⟩ rfl ?_
      refine O.ld rfl rfl rfl (fun w => ⟨Try.isAgg4 w, Try.sizeOf4 w⟩) rfl hI.c3 ?_
      refine Pl.fin [(0, _), (2, _), (26, _)] ⟨rfl, rfl, rfl, trivial⟩ ?_
      refine Go'.condF rfl ?_
      refine Go'.skip ?_
      refine Go'.seq ?_
      -- region 8 (btreeg.go:1704)
      refine Go'.region [(0, 0)] rfl ?_
      refine O.asg rfl rfl rfl rfl rfl ?_
      refine Pl.fin [(0, _), (2, _)] ⟨rfl, rfl, trivial⟩ ?_
      refine Go'.ret (vs := [_]) Try.func159 Try.results159 ⟨rfl, trivial⟩ ?_
      exact ⟨_, none, rfl, ⟨_, _, _, _, _, _, hI, rfl⟩, hno, fun _ => ⟨rfl, rfl⟩⟩
    · skip
      -- region 6 (btreeg.go:1701)
      refine Go'.region [(0, 0), (1, 0), (2, 0), (3, 1)] rfl ?_
      refine O.mv rfl rfl rfl rfl rfl ?_
      refine O.nc rfl rfl rfl rfl rfl ?_
      refine O.fa0 (off := 4) rfl rfl rfl rfl ⟨_, _, _, Try.underlying135, rfl, rfl, Try.sizeOf4⟩ rfl ?_
      refine O.ld rfl rfl rfl (fun w => ⟨Try.isAgg4 w, Try.sizeOf4 w⟩) rfl hI.c3 ?_
      refine Pl.fin [(0, _), (2, _), (26, _)] ⟨rfl, rfl, rfl, trivial⟩ ?_
      refine Go'.condT rfl ?_
      refine Go'.seq ?_
      have hf := iFirst_spec (B := B) hI hT hsi hsz
      by_cases hl0 : 0 < l.length
      · skip
        rw [decide_eq_true hl0, if_pos hl0] at hf
        -- region 7 (btreeg.go:1702)
        refine Go'.region [(0, 0), (1, 2), (2, 0), (3, 0), (4, 2), (5, 0), (6, 0)] rfl ?_
        refine O.mv rfl rfl rfl rfl rfl ?_
        refine O.call rfl rfl rfl Try.call163 rfl hf ?_
        rintro _ H1 ⟨rfl, hp⟩
        obtain ⟨sk2, sa2, se2, Z2, fr2, kv2, hI2, hst⟩ := hp
        obtain ⟨rfl, hq, h0, t0, rfl, hS⟩ := hst
        have hsz2 : ∀ b, S b → ¬ Z2 b := fun b hs hz => (hI2.zz b hz).elim (hsz b hs) (fun h => by have := hT.lt b hs; omega)
        refine ⟨trivial, ?_⟩
        refine O.mv rfl rfl rfl rfl rfl ?_
        refine O.mv rfl rfl rfl rfl rfl ?_
        refine O.call rfl rfl rfl Try.call159 rfl (iNext_gen hI2.re (hK _ hI2.f) hsi hsz2 hS.gap) ?_
        rintro _ H3 ⟨rfl, hp3⟩
        refine ⟨trivial, ?_⟩
        refine O.pick rfl rfl rfl rfl rfl rfl ?_
        refine O.asg rfl rfl rfl rfl rfl ?_
        refine Pl.fin [(0, _), (2, _)] ⟨rfl, rfl, trivial⟩ ?_
        refine Go'.ret (vs := [_]) Try.func159 Try.results159 ⟨rfl, trivial⟩ ?_
        exact ⟨_, _, rfl, ItPost.trans (P := P) (S := S) hI2 hp3, hno, fun e => by subst e; simp at hl0⟩
      · skip
        rw [decide_eq_false hl0, if_neg hl0] at hf
        -- region 7 (btreeg.go:1702)
        refine Go'.region [(0, 0), (1, 2), (2, 0), (3, 0), (4, 2), (5, 0), (6, 0)] rfl ?_
        refine O.mv rfl rfl rfl rfl rfl ?_
        refine O.call rfl rfl rfl Try.call163 rfl hf ?_
        rintro _ H1 ⟨rfl, hp⟩
        refine ⟨trivial, ?_⟩
        refine O.mv rfl rfl rfl rfl rfl ?_
        refine Pl.pass rfl rfl rfl rfl ?_
        refine Pl.pass2 rfl rfl rfl rfl trivial ?_
        refine O.pick rfl rfl rfl rfl rfl rfl ?_
        refine O.asg rfl rfl rfl rfl rfl ?_
        refine Pl.fin [(0, _), (2, _)] ⟨rfl, rfl, trivial⟩ ?_
        refine Go'.ret (vs := [_]) Try.func159 Try.results159 ⟨rfl, trivial⟩ ?_
        exact ⟨_, _, rfl, hp, hno, fun _ => ⟨rfl, rfl⟩⟩

theorem iPrev_spec {B : World} {H : Mem} {it tr : Nat} {mt sk sa se : Bool} {Z : Nat → Prop} {fr : List (Nat × Int)} {kv : Int × Int} {P : Ps} {S : Nat → Prop} {l : List (Int × Int)} {r : Option ((h : Nat) × Gt EJ h)} (hI : Itr EJ H H it tr mt Z sk sa se Z fr kv) (hT : TreeR H tr P S l r) (hsi : ¬ S it) (hsz : ∀ b, S b → ¬ Z b) {st : Option Nat} (hSt : StI r l sk fr kv st) :
    Fn Try.prog B 160 [.pointer (some ⟨it, 0, none⟩)] H (fun v H' => ∃ b st', v = .bool b ∧ ItPost EJ H H' it tr mt Z r l st' ∧ (∀ q, st = some q → b = decide (0 < q) ∧ st' = if 0 < q then some (q - 1) else none) ∧ (l = [] → b = false ∧ st' = none)) := by
  rcases st with _ | q
  rotate_left
  · obtain ⟨rfl, hq, h0, t0, rfl, hS⟩ := hSt
    exact (iPrev_gen hI hT hsi hsz hS).mono fun v H' ⟨e, hp⟩ => ⟨_, _, e, hp, fun q' e' => by cases e'; exact ⟨rfl, rfl⟩, fun e' => by subst e'; simp at hq⟩
  have hSt' : fr = [] := hSt
  subst hSt'
  have hK : ∀ H', Fr (fun b _ => b = it ∨ Z b) H H' → TreeR H' tr P S l r := fun H' hf => hT.keep hf fun b o hs hz => hz.elim (fun e => hsi (e ▸ hs)) (hsz b hs)
  have hll := hT.ll
  have hno : ∀ {b : Bool} {st' : Option Nat} (q : Nat), (none : Option Nat) = some q → b = decide (0 < q) ∧ st' = if 0 < q then some (q - 1) else none := fun q e => by cases e
  obtain ⟨sv, hsv, hA⟩ := hI.st
  obtain ⟨a0, c0, rfl⟩ : ∃ a c, sv = .slice a 0 c := by
    rcases hA with ⟨e, _⟩ | ⟨b, o, c, e, _⟩
    · exact ⟨_, _, e⟩
    · exact ⟨_, _, e⟩
  have hnl : l = [] → r = none := by
    intro e
    have hrt := hT.rt
    rcases r with _ | ⟨h0, t0⟩
    · rfl
    · obtain ⟨hg, hx, hl, _⟩ := hrt
      have := Gt.high hT.mn hg hx
      rw [hl, e] at this
      simp at this
  refine fn_of Try.func160 rfl Try.ntmps160 ?_
  refine (show Go' _ _ _ _ 210 [(0, _)] [.code _] _ from ?_)
  refine Go'.seq ?_
  -- region 0 (btreeg.go:1740)
  refine Go'.region [(0, 0)] rfl ?_
  refine O.asg rfl rfl rfl rfl rfl ?_
  refine Pl.fin [(0, _), (2, _)] ⟨rfl, rfl, trivial⟩ ?_
  refine Go'.seq ?_
  refine Go'.seq ?_
  -- region 1 (btreeg.go:1741)
  refine Go'.region [(0, 0), (1, 0), (2, 0), (3, 1), (4, 0)] rfl ?_
  refine O.mv rfl rfl rfl rfl rfl ?_
  refine O.nc rfl rfl rfl rfl rfl ?_
  refine O.faz rfl rfl rfl rfl ⟨_, _, _, Try.underlying135, rfl, rfl, Try.sizeOf86⟩ rfl ?_
  refine O.ld rfl rfl rfl (fun w => ⟨Try.isAgg86 w, Try.sizeOf86 w⟩) rfl hI.c0 ?_
  refine O.isNil rfl rfl rfl rfl Try.underlying86 rfl rfl ?_
  refine Pl.fin [(0, _), (2, _), (9, _)] ⟨rfl, rfl, rfl, trivial⟩ ?_
  refine Go'.condF rfl ?_
  refine Go'.skip ?_
  refine Go'.seq ?_
  refine Go'.seq ?_
  rcases sk with _ | _
  · skip
    -- region 3 (btreeg.go:1744)
    refine Go'.region [(0, 0), (1, 0), (2, 0), (3, 1), (4, 0)] rfl ?_
    refine O.mv rfl rfl rfl rfl rfl ?_
    refine O.nc rfl rfl rfl rfl rfl ?_
    refine O.fa0 (off := 3) rfl rfl rfl rfl ⟨_, _, _, Try.underlying135, rfl, rfl, Try.sizeOf4⟩ rfl ?_
    refine O.ld rfl rfl rfl (fun w => ⟨Try.isAgg4 w, Try.sizeOf4 w⟩) rfl hI.c2 ?_
    refine O.not rfl rfl rfl rfl rfl ?_
    refine Pl.fin [(0, _), (2, _), (14, _)] ⟨rfl, rfl, rfl, trivial⟩ ?_
    refine Go'.condT rfl ?_
    refine Go'.seq ?_
    -- region 4 (btreeg.go:1745)
    refine Go'.region [(0, 0)] rfl ?_
    refine O.asg rfl rfl rfl rfl rfl ?_
    refine Pl.fin [(0, _), (2, _)] ⟨rfl, rfl, trivial⟩ ?_
    refine Go'.ret (vs := [_]) Try.func160 Try.results160 ⟨rfl, trivial⟩ ?_
    exact ⟨_, none, rfl, ⟨_, _, _, _, _, _, hI, rfl⟩, hno, fun _ => ⟨rfl, rfl⟩⟩
  · skip
    -- region 3 (btreeg.go:1744)
    refine Go'.region [(0, 0), (1, 0), (2, 0), (3, 1), (4, 0)] rfl ?_
    refine O.mv rfl rfl rfl rfl rfl ?_
    refine O.nc rfl rfl rfl rfl rfl ?_
    refine O.fa0 (off := 3) rfl rfl rfl rfl ⟨_, _, _, Try.underlying135, rfl, rfl, Try.sizeOf4⟩ rfl ?_
    refine O.ld rfl rfl rfl (fun w => ⟨Try.isAgg4 w, Try.sizeOf4 w⟩) rfl hI.c2 ?_
    refine O.not rfl rfl rfl rfl rfl ?_
    refine Pl.fin [(0, _), (2, _), (14, _)] ⟨rfl, rfl, rfl, trivial⟩ ?_
    refine Go'.condF rfl ?_
    refine Go'.skip ?_
    refine Go'.seq ?_
    refine Go'.seq ?_
    -- region 5 (btreeg.go:1747)
    refine Go'.region [(0, 0), (1, 0), (2, 0), (3, 1), (4, 0), (5, 0)] rfl ?_
    refine O.mv rfl rfl rfl rfl rfl ?_
    refine O.nc rfl rfl rfl rfl rfl ?_
    refine O.fa0 (off := 14) rfl rfl rfl rfl ⟨_, _, _, Try.underlying135, rfl, rfl, Try.sizeOf133⟩ rfl ?_
    refine O.ld rfl rfl rfl (fun w => ⟨Try.isAgg133 w, Try.sizeOf133 w⟩) rfl hsv ?_
    refine O.len rfl rfl rfl rfl Try.underlying133 rfl ?_
    refine O.cmp rfl rfl rfl rfl rfl rfl (eqlT rfl) ?_
    refine Pl.fin [(0, _), (2, _), (20, _)] ⟨rfl, rfl, rfl, trivial⟩ ?_
    refine Go'.condT rfl ?_
    refine Go'.seq ?_
    refine Go'.seq ?_
    rcases se with _ | _
    · skip
      -- region 6 (btreeg.go:1748)
      refine Go'.region [(0, 0), (1, 0), (2, 0), (3, 1)] rfl ?_
      refine O.mv rfl rfl rfl rfl rfl ?_
      refine O.nc rfl rfl rfl rfl rfl ?_
      refine O.fa0 (off := 5) rfl rfl rfl rfl ⟨_, _, _, Try.underlying135, rfl, rfl, Try.sizeOf4⟩ rfl ?_
      refine O.ld rfl rfl rfl (fun w => ⟨Try.isAgg4 w, Try.sizeOf4 w⟩) rfl hI.c4 ?_
      refine Pl.fin [(0, _), (2, _), (24, _)] ⟨rfl, rfl, rfl, trivial⟩ ?_
      refine Go'.condF rfl ?_
      refine Go'.skip ?_
      refine Go'.seq ?_
      -- region 8 (btreeg.go:1751)
      refine Go'.region [(0, 0)] rfl ?_
      refine O.asg rfl rfl rfl rfl rfl ?_
      refine Pl.fin [(0, _), (2, _)] ⟨rfl, rfl, trivial⟩ ?_
      refine Go'.ret (vs := [_]) Try.func160 Try.results160 ⟨rfl, trivial⟩ ?_
      exact ⟨_, none, rfl, ⟨_, _, _, _, _, _, hI, rfl⟩, hno, fun _ => ⟨rfl, rfl⟩⟩
    · skip
      -- region 6 (btreeg.go:1748)
      refine Go'.region [(0, 0), (1, 0), (2, 0), (3, 1)] rfl ?_
      refine O.mv rfl rfl rfl rfl rfl ?_
      refine O.nc rfl rfl rfl rfl rfl ?_
      refine O.fa0 (off := 5) rfl rfl rfl rfl ⟨_, _, _, Try.underlying135, rfl, rfl, Try.sizeOf4⟩ rfl ?_
      refine O.ld rfl rfl rfl (fun w => ⟨Try.isAgg4 w, Try.sizeOf4 w⟩) rfl hI.c4 ?_
      refine Pl.fin [(0, _), (2, _), (24, _)] ⟨rfl, rfl, rfl, trivial⟩ ?_
      refine Go'.condT rfl ?_
      refine Go'.seq ?_
      have hf := iLast_spec (B := B) hI hT hsi hsz
      by_cases hl0 : 0 < l.length
      · skip
        rw [decide_eq_true hl0, if_pos hl0] at hf
        -- region 7 (btreeg.go:1749)
        refine Go'.region [(0, 0), (1, 2), (2, 0), (3, 0), (4, 2), (5, 0), (6, 0)] rfl ?_
        refine O.mv rfl rfl rfl rfl rfl ?_
        refine O.call rfl rfl rfl Try.call158 rfl hf ?_
        rintro _ H1 ⟨rfl, hp⟩
        obtain ⟨sk2, sa2, se2, Z2, fr2, kv2, hI2, hst⟩ := hp
        obtain ⟨rfl, hq, h0, t0, rfl, hS⟩ := hst
        have hsz2 : ∀ b, S b → ¬ Z2 b := fun b hs hz => (hI2.zz b hz).elim (hsz b hs) (fun h => by have := hT.lt b hs; omega)
        refine ⟨trivial, ?_⟩
        refine O.mv rfl rfl rfl rfl rfl ?_
        refine O.mv rfl rfl rfl rfl rfl ?_
        refine O.call rfl rfl rfl Try.call160 rfl (iPrev_gen hI2.re (hK _ hI2.f) hsi hsz2 hS) ?_
        rintro _ H3 ⟨rfl, hp3⟩
        refine ⟨trivial, ?_⟩
        refine O.pick rfl rfl rfl rfl rfl rfl ?_
        refine O.asg rfl rfl rfl rfl rfl ?_
        refine Pl.fin [(0, _), (2, _)] ⟨rfl, rfl, trivial⟩ ?_
        refine Go'.ret (vs := [_]) Try.func160 Try.results160 ⟨rfl, trivial⟩ ?_
        exact ⟨_, _, rfl, ItPost.trans (P := P) (S := S) hI2 hp3, hno, fun e => by subst e; simp at hl0⟩
      · skip
        rw [decide_eq_false hl0, if_neg hl0] at hf
        -- region 7 (btreeg.go:1749)
        refine Go'.region [(0, 0), (1, 2), (2, 0), (3, 0), (4, 2), (5, 0), (6, 0)] rfl ?_
        refine O.mv rfl rfl rfl rfl rfl ?_
        refine O.call rfl rfl rfl Try.call158 rfl hf ?_
        rintro _ H1 ⟨rfl, hp⟩
        refine ⟨trivial, ?_⟩
        refine O.mv rfl rfl rfl rfl rfl ?_
        refine Pl.pass rfl rfl rfl rfl ?_
        refine Pl.pass2 rfl rfl rfl rfl trivial ?_
        refine O.pick rfl rfl rfl rfl rfl rfl ?_
        refine O.asg rfl rfl rfl rfl rfl ?_
        refine Pl.fin [(0, _), (2, _)] ⟨rfl, rfl, trivial⟩ ?_
        refine Go'.ret (vs := [_]) Try.func160 Try.results160 ⟨rfl, trivial⟩ ?_
        exact ⟨_, _, rfl, hp, hno, fun _ => ⟨rfl, rfl⟩⟩

end
end Go.Bt.FG
namespace Go.Bt.FG
open Go Go.Proofs
set_option maxRecDepth 20000
set_option maxHeartbeats 4000000
set_option linter.unusedVariables false
set_option linter.unusedSectionVars false
variable [Inhabited Cx]

/-- A path hint in memory. -/
structure HintM (H : Mem) (hb : Nat) : Prop where
  us : ∀ i, i < 8 → ∃ b, cl H hb i = some (.bool b)
  ps : ∀ i, i < 8 → ∃ n : Nat, n < 256 ∧ cl H hb (8 + i) = some (.int .u8 (n : Int))
  wr : Wr H hb 0 16
theorem HintM.fr {H H' : Mem} {hb : Nat} {Z : Nat → Nat → Prop} (h : HintM H hb) (hf : Fr Z H H') (hz : ∀ o, ¬ Z hb o) : HintM H' hb where
  us := fun i hi => have ⟨b, hb⟩ := h.us i hi; ⟨b, hf.keep hb (hz _)⟩
  ps := fun i hi => have ⟨n, hn, hb⟩ := h.ps i hi; ⟨n, hn, hf.keep hb (hz _)⟩
  wr := hf.wr h.wr
theorem HintM.setU {H H' : Mem} {hb i : Nat} {b : Bool} (h : HintM H hb) (W : Wrote H H' hb i [.bool b]) (hi : i < 8) : HintM H' hb where
  us := fun j hj => by
    by_cases e : j = i
    · subst e; exact ⟨b, W.at⟩
    · obtain ⟨c, hc⟩ := h.us j hj; exact ⟨c, W.keep1 hc (by omega)⟩
  ps := fun j hj => by obtain ⟨n, hn, hc⟩ := h.ps j hj; exact ⟨n, hn, W.keep1 hc (by omega)⟩
  wr := W.fr.wr h.wr
theorem HintM.setP {H H' : Mem} {hb i n : Nat} (h : HintM H hb) (W : Wrote H H' hb (8 + i) [.int .u8 (n : Int)]) (hi : i < 8) (hn : n < 256) : HintM H' hb where
  us := fun j hj => by obtain ⟨c, hc⟩ := h.us j hj; exact ⟨c, W.keep1 hc (by omega)⟩
  ps := fun j hj => by
    by_cases e : j = i
    · subst e; exact ⟨n, hn, W.at⟩
    · obtain ⟨m, hm, hc⟩ := h.ps j hj; exact ⟨m, hm, W.keep1 hc (by omega)⟩
  wr := W.fr.wr h.wr
/-- The argument hint: nil, or a hint in a block of its own (hz: its block). -/
def HintOk (H : Mem) (v : Value) (hz : Nat → Prop) : Prop := (v = .pointer none ∧ ∀ b, ¬ hz b) ∨ ∃ hb, v = .pointer (some ⟨hb, 0, none⟩) ∧ (∀ b, hz b ↔ b = hb) ∧ hb < H.size ∧ ¬ (hb < cx.base ∧ cx.own hb) ∧ HintM H hb
theorem HintOk.fr {H H' : Mem} {v : Value} {hz : Nat → Prop} {Z : Nat → Nat → Prop} (h : HintOk H v hz) (hf : Fr Z H H') (hd : ∀ b o, hz b → ¬ Z b o) : HintOk H' v hz :=
  h.imp id fun ⟨hb, h1, h2, h3, h4, h5⟩ => ⟨hb, h1, h2, Nat.lt_of_lt_of_le h3 hf.size, h4, h5.fr hf fun o => hd hb o ((h2 hb).2 rfl)⟩
theorem HintOk.base {H : Mem} {v : Value} {hz : Nat → Prop} (h : HintOk H v hz) : ∀ b, hz b → ¬ (b < cx.base ∧ cx.own b) ∧ b < H.size := fun b hb => by
  rcases h with ⟨_, h⟩ | ⟨h0, _, h2, h3, h4, _⟩
  · exact absurd hb (h b)
  · rw [(h2 b).1 hb]; exact ⟨h4, h3⟩

theorem Less_spec {B : World} {H : Mem} {tr id mx mn : Nat} (tc : TrC H tr id mx mn) (x y : Int × Int) :
    Fn Try.prog B 77 [.pointer (some ⟨tr, 0, none⟩), .agg (EJ.enc x).toArray, .agg (EJ.enc y).toArray] H (fun r H' => r = .bool (OI.lt x y) ∧ Fr nowhere H H') := by
  refine fn_of Try.func77 rfl Try.ntmps77 ?_
  refine (show Go' _ _ _ _ 14 [(0, _), (1, _), (2, _)] [.code _] _ from ?_)
  refine Go'.seq ?_
  -- region 0 (btreeg.go:73)
  refine Go'.region [(0, 2), (1, 2), (2, 0)] rfl ?_
  refine O.box rfl rfl rfl rfl ?_
  intro H1 M1
  refine ⟨trivial, ?_⟩
  have hf1 := M1.fr nowhere
  replace tc := tc.fr hf1 (fun _ _ _ _ => nw)
  have mi : Rd H1 H.size 0 (EJ.enc x) := M1.rd _ [] (by simp [Value.cells])
  refine O.box rfl rfl rfl rfl ?_
  intro H2 M2
  refine ⟨trivial, ?_⟩
  have hf2 := hf1.trans (M2.fr nowhere)
  replace tc := tc.fr (M2.fr nowhere) (fun _ _ _ _ => nw)
  replace mi := (M2.fr nowhere).rd mi (fun _ _ => nw)
  have mj : Rd H2 H1.size 0 (EJ.enc y) := M2.rd _ [] (by simp [Value.cells])
  refine O.asg rfl rfl rfl rfl rfl ?_
  refine Pl.fin [(0, _), (4, _), (5, _), (6, _)] ⟨rfl, rfl, rfl, rfl, trivial⟩ ?_
  refine Go'.seq ?_
  -- region 1 (btreeg.go:74)
  refine Go'.draw (fun _ => True) [(0, 0), (1, 0), (2, 0), (3, 1), (4, 1), (5, 1), (6, 2), (7, 0)] (by kernel_rfl) (by kernel_rfl) (trivial) ?_
  refine O.mv rfl rfl rfl rfl rfl ?_
  refine O.nc rfl rfl rfl rfl rfl ?_
  refine O.fa0 (off := 6) rfl rfl rfl rfl ⟨_, _, _, Try.underlying158, rfl, rfl, Try.sizeOf88⟩ rfl ?_
  refine O.ld rfl rfl rfl (fun w => ⟨Try.isAgg88 w, Try.sizeOf88 w⟩) rfl tc.le ?_
  refine O.lds rfl rfl rfl (fun w => ⟨Try.isAgg27 w, Try.sizeOf27 w⟩) rfl rfl mi ?_
  refine O.lds rfl rfl rfl (fun w => ⟨Try.isAgg27 w, Try.sizeOf27 w⟩) rfl rfl mj ?_
  refine O.callC rfl rfl rfl rfl Try.call170 rfl (less_spec tc x y) ?_
  rintro _ H3 ⟨rfl, hF3⟩
  refine ⟨trivial, ?_⟩
  refine O.asg rfl rfl rfl rfl rfl ?_
  refine Pl.fin [(6, _)] ⟨rfl, trivial⟩ ?_
  refine Go'.ret (vs := [_]) Try.func77 Try.results77 ⟨rfl, trivial⟩ ?_
  exact ⟨rfl, hf2.trans hF3⟩

end Go.Bt.FG
