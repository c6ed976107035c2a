/- Contracts of functions of the program, proved by walking through their code. Conditions: those that each theorem names. -/
import Derived.Test.YtknkmaigdgfhlaaProg
import Derived.Test.YtknkmaigdgfhlaaTozK
import Derived.Test.YtknkmaigdgfhlaaToMp
import Derived.Test.YtknkmaigdgfhlaaToSo
namespace Go.Bt.FZ
open Go Go.Proofs
set_option maxRecDepth 20000
set_option maxHeartbeats 4000000
set_option linter.unusedVariables false

theorem iNext_spec {B : World} {H : Mem} {it tr : Nat} {mt sk sa se : Bool} {Z : Nat → Prop} {fr : List (Nat × Int)} {kv : Int} {P : Ps} {S : Nat → Prop} {l : List Int} {r : Option ((h : Nat) × Gt EI h)} (hI : Itr EI H H it tr mt Z sk sa se Z fr kv) (hT : TreeR H tr P S l r) (hsi : ¬ S it) (hsz : ∀ b, S b → ¬ Z b) {st : Option Nat} (hSt : StI r l sk fr kv st) :
    Fn Try.prog B 145 [.pointer (some ⟨it, 0, none⟩)] H (fun v H' => ∃ b st', v = .bool b ∧ ItPost EI H H' it tr mt Z r l st' ∧ (∀ q, st = some q → b = decide (q + 1 < l.length) ∧ st' = if q + 1 < l.length then some (q + 1) else none) ∧ (l = [] → b = false ∧ st' = none)) := by
  rcases st with _ | q
  rotate_left
  · obtain ⟨rfl, hq, h0, t0, rfl, hS⟩ := hSt
    exact (iNext_gen hI hT hsi hsz hS.gap).mono fun v H' ⟨e, hp⟩ => ⟨_, _, e, hp, fun q' e' => by cases e'; exact ⟨rfl, rfl⟩, fun e' => by subst e'; simp at hq⟩
  have hSt' : fr = [] := hSt
  subst hSt'
  have hK : ∀ H', Fr (fun b _ => b = it ∨ Z b) H H' → TreeR H' tr P S l r := fun H' hf => hT.keep hf fun b o hs hz => hz.elim (fun e => hsi (e ▸ hs)) (hsz b hs)
  have hll := hT.ll
  have hno : ∀ {b : Bool} {st' : Option Nat} (q : Nat), (none : Option Nat) = some q → b = decide (q + 1 < l.length) ∧ st' = if q + 1 < l.length then some (q + 1) else none := fun q e => by cases e
  obtain ⟨sv, hsv, hA⟩ := hI.st
  obtain ⟨a0, c0, rfl⟩ : ∃ a c, sv = .slice a 0 c := by
    rcases hA with ⟨e, _⟩ | ⟨b, o, c, e, _⟩
    · exact ⟨_, _, e⟩
    · exact ⟨_, _, e⟩
  have hnl : l = [] → r = none := by
    intro e
    have hrt := hT.rt
    rcases r with _ | ⟨h0, t0⟩
    · rfl
    · obtain ⟨hg, hx, hl, _⟩ := hrt
      have := Gt.high hT.mn hg hx
      rw [hl, e] at this
      simp at this
  refine fn_of Go.Proofs.Try.func145 rfl Go.Proofs.Try.ntmps145 ?_
  refine (show Go' _ _ _ _ 195 [(0, _)] [.code _] _ from ?_)
  refine Go'.seq ?_
  -- region 0 (map.go:1012)
  refine Go'.region [(0, 0)] rfl ?_
  refine O.asg rfl rfl rfl rfl rfl ?_
  refine Pl.fin [(0, _), (2, _)] ⟨rfl, rfl, trivial⟩ ?_
  refine Go'.seq ?_
  refine Go'.seq ?_
  -- region 1 (map.go:1013)
  refine Go'.region [(0, 0), (1, 0), (2, 0), (3, 1), (4, 0)] rfl ?_
  refine O.mv rfl rfl rfl rfl rfl ?_
  refine O.nc rfl rfl rfl rfl rfl ?_
  refine O.faz rfl rfl rfl rfl ⟨_, _, _, Go.Proofs.Try.underlying156, rfl, rfl, Go.Proofs.Try.sizeOf150⟩ rfl ?_
  refine O.ld rfl rfl rfl (fun w => ⟨Go.Proofs.Try.isAgg150 w, Go.Proofs.Try.sizeOf150 w⟩) rfl hI.c0 ?_
  refine O.isNil rfl rfl rfl rfl Go.Proofs.Try.underlying150 rfl rfl ?_
  refine Pl.fin [(0, _), (2, _), (9, _)] ⟨rfl, rfl, rfl, trivial⟩ ?_
  refine Go'.condF rfl ?_
  refine Go'.skip ?_
  refine Go'.seq ?_
  refine Go'.seq ?_
  rcases sk with _ | _
  · skip
    -- region 3 (map.go:1016)
    refine Go'.region [(0, 0), (1, 0), (2, 0), (3, 1), (4, 0)] rfl ?_
    refine O.mv rfl rfl rfl rfl rfl ?_
    refine O.nc rfl rfl rfl rfl rfl ?_
    refine O.fa0 (off := 2) rfl rfl rfl rfl ⟨_, _, _, Go.Proofs.Try.underlying156, rfl, rfl, Go.Proofs.Try.sizeOf4⟩ rfl ?_
    refine O.ld rfl rfl rfl (fun w => ⟨Go.Proofs.Try.isAgg4 w, Go.Proofs.Try.sizeOf4 w⟩) rfl hI.c2 ?_
    refine O.not rfl rfl rfl rfl rfl ?_
    refine Pl.fin [(0, _), (2, _), (14, _)] ⟨rfl, rfl, rfl, trivial⟩ ?_
    refine Go'.condT rfl ?_
    refine Go'.seq ?_
    -- region 4 (map.go:1017)
    refine Go'.region [(0, 0), (1, 2), (2, 0)] rfl ?_
    refine O.mv rfl rfl rfl rfl rfl ?_
    refine O.call rfl rfl rfl Go.Proofs.Try.call148 rfl (iFirst_spec hI hT hsi hsz) ?_
    rintro _ H1 ⟨rfl, hp⟩
    refine ⟨trivial, ?_⟩
    refine O.asg rfl rfl rfl rfl rfl ?_
    refine Pl.fin [(0, _), (2, _)] ⟨rfl, rfl, trivial⟩ ?_
    refine Go'.ret (vs := [_]) Go.Proofs.Try.func145 Go.Proofs.Try.results145 ⟨rfl, trivial⟩ ?_
    exact ⟨_, _, rfl, hp, hno, fun e => by subst e; exact ⟨rfl, rfl⟩⟩
  · skip
    -- region 3 (map.go:1016)
    refine Go'.region [(0, 0), (1, 0), (2, 0), (3, 1), (4, 0)] rfl ?_
    refine O.mv rfl rfl rfl rfl rfl ?_
    refine O.nc rfl rfl rfl rfl rfl ?_
    refine O.fa0 (off := 2) rfl rfl rfl rfl ⟨_, _, _, Go.Proofs.Try.underlying156, rfl, rfl, Go.Proofs.Try.sizeOf4⟩ rfl ?_
    refine O.ld rfl rfl rfl (fun w => ⟨Go.Proofs.Try.isAgg4 w, Go.Proofs.Try.sizeOf4 w⟩) rfl hI.c2 ?_
    refine O.not rfl rfl rfl rfl rfl ?_
    refine Pl.fin [(0, _), (2, _), (14, _)] ⟨rfl, rfl, rfl, trivial⟩ ?_
    refine Go'.condF rfl ?_
    refine Go'.skip ?_
    refine Go'.seq ?_
    refine Go'.seq ?_
    -- region 5 (map.go:1019)
    refine Go'.region [(0, 0), (1, 0), (2, 0), (3, 1), (4, 0), (5, 0)] rfl ?_
    refine O.mv rfl rfl rfl rfl rfl ?_
    refine O.nc rfl rfl rfl rfl rfl ?_
    refine O.fa0 (off := 5) rfl rfl rfl rfl ⟨_, _, _, Go.Proofs.Try.underlying156, rfl, rfl, Go.Proofs.Try.sizeOf154⟩ rfl ?_
    refine O.ld rfl rfl rfl (fun w => ⟨Go.Proofs.Try.isAgg154 w, Go.Proofs.Try.sizeOf154 w⟩) rfl hsv ?_
    refine O.len rfl rfl rfl rfl Go.Proofs.Try.underlying154 rfl ?_
    refine O.cmp rfl rfl rfl rfl rfl rfl (eqlT rfl) ?_
    refine Pl.fin [(0, _), (2, _), (22, _)] ⟨rfl, rfl, rfl, trivial⟩ ?_
    refine Go'.condT rfl ?_
    refine Go'.seq ?_
    refine Go'.seq ?_
    rcases sa with _ | _
    · skip
      -- region 6 (map.go:1020)
      refine Go'.region [(0, 0), (1, 0), (2, 0), (3, 1)] rfl ?_
      refine O.mv rfl rfl rfl rfl rfl ?_
      refine O.nc rfl rfl rfl rfl rfl ?_
      refine O.fa0 (off := 3) rfl rfl rfl rfl ⟨_, _, _, Go.Proofs.Try.underlying156, rfl, rfl, Go.Proofs.Try.sizeOf4⟩ rfl ?_
      refine O.ld rfl rfl rfl (fun w => ⟨Go.Proofs.Try.isAgg4 w, Go.Proofs.Try.sizeOf4 w⟩) rfl hI.c3 ?_
      refine Pl.fin [(0, _), (2, _), (26, _)] ⟨rfl, rfl, rfl, trivial⟩ ?_
      refine Go'.condF rfl ?_
      refine Go'.skip ?_
      refine Go'.seq ?_
      -- region 8 (map.go:1023)
      refine Go'.region [(0, 0)] rfl ?_
      refine O.asg rfl rfl rfl rfl rfl ?_
      refine Pl.fin [(0, _), (2, _)] ⟨rfl, rfl, trivial⟩ ?_
      refine Go'.ret (vs := [_]) Go.Proofs.Try.func145 Go.Proofs.Try.results145 ⟨rfl, trivial⟩ ?_
      exact ⟨_, none, rfl, ⟨_, _, _, _, _, _, hI, rfl⟩, hno, fun _ => ⟨rfl, rfl⟩⟩
    · skip
      -- region 6 (map.go:1020)
      refine Go'.region [(0, 0), (1, 0), (2, 0), (3, 1)] rfl ?_
      refine O.mv rfl rfl rfl rfl rfl ?_
      refine O.nc rfl rfl rfl rfl rfl ?_
      refine O.fa0 (off := 3) rfl rfl rfl rfl ⟨_, _, _, Go.Proofs.Try.underlying156, rfl, rfl, Go.Proofs.Try.sizeOf4⟩ rfl ?_
      refine O.ld rfl rfl rfl (fun w => ⟨Go.Proofs.Try.isAgg4 w, Go.Proofs.Try.sizeOf4 w⟩) rfl hI.c3 ?_
      refine Pl.fin [(0, _), (2, _), (26, _)] ⟨rfl, rfl, rfl, trivial⟩ ?_
      refine Go'.condT rfl ?_
      refine Go'.seq ?_
      have hf := iFirst_spec (B := B) hI hT hsi hsz
      by_cases hl0 : 0 < l.length
      · skip
        rw [decide_eq_true hl0, if_pos hl0] at hf
        -- region 7 (map.go:1021)
        refine Go'.region [(0, 0), (1, 2), (2, 0), (3, 0), (4, 2), (5, 0), (6, 0)] rfl ?_
        refine O.mv rfl rfl rfl rfl rfl ?_
        refine O.call rfl rfl rfl Go.Proofs.Try.call148 rfl hf ?_
        rintro _ H1 ⟨rfl, hp⟩
        obtain ⟨sk2, sa2, se2, Z2, fr2, kv2, hI2, hst⟩ := hp
        obtain ⟨rfl, hq, h0, t0, rfl, hS⟩ := hst
        have hsz2 : ∀ b, S b → ¬ Z2 b := fun b hs hz => (hI2.zz b hz).elim (hsz b hs) (fun h => by have := hT.lt b hs; omega)
        refine ⟨trivial, ?_⟩
        refine O.mv rfl rfl rfl rfl rfl ?_
        refine O.mv rfl rfl rfl rfl rfl ?_
        refine O.call rfl rfl rfl Go.Proofs.Try.call145 rfl (iNext_gen hI2.re (hK _ hI2.f) hsi hsz2 hS.gap) ?_
        rintro _ H3 ⟨rfl, hp3⟩
        refine ⟨trivial, ?_⟩
        refine O.pick rfl rfl rfl rfl rfl rfl ?_
        refine O.asg rfl rfl rfl rfl rfl ?_
        refine Pl.fin [(0, _), (2, _)] ⟨rfl, rfl, trivial⟩ ?_
        refine Go'.ret (vs := [_]) Go.Proofs.Try.func145 Go.Proofs.Try.results145 ⟨rfl, trivial⟩ ?_
        exact ⟨_, _, rfl, ItPost.trans (P := P) (S := S) hI2 hp3, hno, fun e => by subst e; simp at hl0⟩
      · skip
        rw [decide_eq_false hl0, if_neg hl0] at hf
        -- region 7 (map.go:1021)
        refine Go'.region [(0, 0), (1, 2), (2, 0), (3, 0), (4, 2), (5, 0), (6, 0)] rfl ?_
        refine O.mv rfl rfl rfl rfl rfl ?_
        refine O.call rfl rfl rfl Go.Proofs.Try.call148 rfl hf ?_
        rintro _ H1 ⟨rfl, hp⟩
        refine ⟨trivial, ?_⟩
        refine O.mv rfl rfl rfl rfl rfl ?_
        refine Pl.pass rfl rfl rfl rfl ?_
        refine Pl.pass2 rfl rfl rfl rfl trivial ?_
        refine O.pick rfl rfl rfl rfl rfl rfl ?_
        refine O.asg rfl rfl rfl rfl rfl ?_
        refine Pl.fin [(0, _), (2, _)] ⟨rfl, rfl, trivial⟩ ?_
        refine Go'.ret (vs := [_]) Go.Proofs.Try.func145 Go.Proofs.Try.results145 ⟨rfl, trivial⟩ ?_
        exact ⟨_, _, rfl, hp, hno, fun _ => ⟨rfl, rfl⟩⟩

theorem iPrev_spec {B : World} {H : Mem} {it tr : Nat} {mt sk sa se : Bool} {Z : Nat → Prop} {fr : List (Nat × Int)} {kv : Int} {P : Ps} {S : Nat → Prop} {l : List Int} {r : Option ((h : Nat) × Gt EI h)} (hI : Itr EI H H it tr mt Z sk sa se Z fr kv) (hT : TreeR H tr P S l r) (hsi : ¬ S it) (hsz : ∀ b, S b → ¬ Z b) {st : Option Nat} (hSt : StI r l sk fr kv st) :
    Fn Try.prog B 146 [.pointer (some ⟨it, 0, none⟩)] H (fun v H' => ∃ b st', v = .bool b ∧ ItPost EI H H' it tr mt Z r l st' ∧ (∀ q, st = some q → b = decide (0 < q) ∧ st' = if 0 < q then some (q - 1) else none) ∧ (l = [] → b = false ∧ st' = none)) := by
  rcases st with _ | q
  rotate_left
  · obtain ⟨rfl, hq, h0, t0, rfl, hS⟩ := hSt
    exact (iPrev_gen hI hT hsi hsz hS).mono fun v H' ⟨e, hp⟩ => ⟨_, _, e, hp, fun q' e' => by cases e'; exact ⟨rfl, rfl⟩, fun e' => by subst e'; simp at hq⟩
  have hSt' : fr = [] := hSt
  subst hSt'
  have hK : ∀ H', Fr (fun b _ => b = it ∨ Z b) H H' → TreeR H' tr P S l r := fun H' hf => hT.keep hf fun b o hs hz => hz.elim (fun e => hsi (e ▸ hs)) (hsz b hs)
  have hll := hT.ll
  have hno : ∀ {b : Bool} {st' : Option Nat} (q : Nat), (none : Option Nat) = some q → b = decide (0 < q) ∧ st' = if 0 < q then some (q - 1) else none := fun q e => by cases e
  obtain ⟨sv, hsv, hA⟩ := hI.st
  obtain ⟨a0, c0, rfl⟩ : ∃ a c, sv = .slice a 0 c := by
    rcases hA with ⟨e, _⟩ | ⟨b, o, c, e, _⟩
    · exact ⟨_, _, e⟩
    · exact ⟨_, _, e⟩
  have hnl : l = [] → r = none := by
    intro e
    have hrt := hT.rt
    rcases r with _ | ⟨h0, t0⟩
    · rfl
    · obtain ⟨hg, hx, hl, _⟩ := hrt
      have := Gt.high hT.mn hg hx
      rw [hl, e] at this
      simp at this
  refine fn_of Go.Proofs.Try.func146 rfl Go.Proofs.Try.ntmps146 ?_
  refine (show Go' _ _ _ _ 210 [(0, _)] [.code _] _ from ?_)
  refine Go'.seq ?_
  -- region 0 (map.go:1059)
  refine Go'.region [(0, 0)] rfl ?_
  refine O.asg rfl rfl rfl rfl rfl ?_
  refine Pl.fin [(0, _), (2, _)] ⟨rfl, rfl, trivial⟩ ?_
  refine Go'.seq ?_
  refine Go'.seq ?_
  -- region 1 (map.go:1060)
  refine Go'.region [(0, 0), (1, 0), (2, 0), (3, 1), (4, 0)] rfl ?_
  refine O.mv rfl rfl rfl rfl rfl ?_
  refine O.nc rfl rfl rfl rfl rfl ?_
  refine O.faz rfl rfl rfl rfl ⟨_, _, _, Go.Proofs.Try.underlying156, rfl, rfl, Go.Proofs.Try.sizeOf150⟩ rfl ?_
  refine O.ld rfl rfl rfl (fun w => ⟨Go.Proofs.Try.isAgg150 w, Go.Proofs.Try.sizeOf150 w⟩) rfl hI.c0 ?_
  refine O.isNil rfl rfl rfl rfl Go.Proofs.Try.underlying150 rfl rfl ?_
  refine Pl.fin [(0, _), (2, _), (9, _)] ⟨rfl, rfl, rfl, trivial⟩ ?_
  refine Go'.condF rfl ?_
  refine Go'.skip ?_
  refine Go'.seq ?_
  refine Go'.seq ?_
  rcases sk with _ | _
  · skip
    -- region 3 (map.go:1063)
    refine Go'.region [(0, 0), (1, 0), (2, 0), (3, 1), (4, 0)] rfl ?_
    refine O.mv rfl rfl rfl rfl rfl ?_
    refine O.nc rfl rfl rfl rfl rfl ?_
    refine O.fa0 (off := 2) rfl rfl rfl rfl ⟨_, _, _, Go.Proofs.Try.underlying156, rfl, rfl, Go.Proofs.Try.sizeOf4⟩ rfl ?_
    refine O.ld rfl rfl rfl (fun w => ⟨Go.Proofs.Try.isAgg4 w, Go.Proofs.Try.sizeOf4 w⟩) rfl hI.c2 ?_
    refine O.not rfl rfl rfl rfl rfl ?_
    refine Pl.fin [(0, _), (2, _), (14, _)] ⟨rfl, rfl, rfl, trivial⟩ ?_
    refine Go'.condT rfl ?_
    refine Go'.seq ?_
    -- region 4 (map.go:1064)
    refine Go'.region [(0, 0)] rfl ?_
    refine O.asg rfl rfl rfl rfl rfl ?_
    refine Pl.fin [(0, _), (2, _)] ⟨rfl, rfl, trivial⟩ ?_
    refine Go'.ret (vs := [_]) Go.Proofs.Try.func146 Go.Proofs.Try.results146 ⟨rfl, trivial⟩ ?_
    exact ⟨_, none, rfl, ⟨_, _, _, _, _, _, hI, rfl⟩, hno, fun _ => ⟨rfl, rfl⟩⟩
  · skip
    -- region 3 (map.go:1063)
    refine Go'.region [(0, 0), (1, 0), (2, 0), (3, 1), (4, 0)] rfl ?_
    refine O.mv rfl rfl rfl rfl rfl ?_
    refine O.nc rfl rfl rfl rfl rfl ?_
    refine O.fa0 (off := 2) rfl rfl rfl rfl ⟨_, _, _, Go.Proofs.Try.underlying156, rfl, rfl, Go.Proofs.Try.sizeOf4⟩ rfl ?_
    refine O.ld rfl rfl rfl (fun w => ⟨Go.Proofs.Try.isAgg4 w, Go.Proofs.Try.sizeOf4 w⟩) rfl hI.c2 ?_
    refine O.not rfl rfl rfl rfl rfl ?_
    refine Pl.fin [(0, _), (2, _), (14, _)] ⟨rfl, rfl, rfl, trivial⟩ ?_
    refine Go'.condF rfl ?_
    refine Go'.skip ?_
    refine Go'.seq ?_
    refine Go'.seq ?_
    -- region 5 (map.go:1066)
    refine Go'.region [(0, 0), (1, 0), (2, 0), (3, 1), (4, 0), (5, 0)] rfl ?_
    refine O.mv rfl rfl rfl rfl rfl ?_
    refine O.nc rfl rfl rfl rfl rfl ?_
    refine O.fa0 (off := 5) rfl rfl rfl rfl ⟨_, _, _, Go.Proofs.Try.underlying156, rfl, rfl, Go.Proofs.Try.sizeOf154⟩ rfl ?_
    refine O.ld rfl rfl rfl (fun w => ⟨Go.Proofs.Try.isAgg154 w, Go.Proofs.Try.sizeOf154 w⟩) rfl hsv ?_
    refine O.len rfl rfl rfl rfl Go.Proofs.Try.underlying154 rfl ?_
    refine O.cmp rfl rfl rfl rfl rfl rfl (eqlT rfl) ?_
    refine Pl.fin [(0, _), (2, _), (20, _)] ⟨rfl, rfl, rfl, trivial⟩ ?_
    refine Go'.condT rfl ?_
    refine Go'.seq ?_
    refine Go'.seq ?_
    rcases se with _ | _
    · skip
      -- region 6 (map.go:1067)
      refine Go'.region [(0, 0), (1, 0), (2, 0), (3, 1)] rfl ?_
      refine O.mv rfl rfl rfl rfl rfl ?_
      refine O.nc rfl rfl rfl rfl rfl ?_
      refine O.fa0 (off := 4) rfl rfl rfl rfl ⟨_, _, _, Go.Proofs.Try.underlying156, rfl, rfl, Go.Proofs.Try.sizeOf4⟩ rfl ?_
      refine O.ld rfl rfl rfl (fun w => ⟨Go.Proofs.Try.isAgg4 w, Go.Proofs.Try.sizeOf4 w⟩) rfl hI.c4 ?_
      refine Pl.fin [(0, _), (2, _), (24, _)] ⟨rfl, rfl, rfl, trivial⟩ ?_
      refine Go'.condF rfl ?_
      refine Go'.skip ?_
      refine Go'.seq ?_
      -- region 8 (map.go:1070)
      refine Go'.region [(0, 0)] rfl ?_
      refine O.asg rfl rfl rfl rfl rfl ?_
      refine Pl.fin [(0, _), (2, _)] ⟨rfl, rfl, trivial⟩ ?_
      refine Go'.ret (vs := [_]) Go.Proofs.Try.func146 Go.Proofs.Try.results146 ⟨rfl, trivial⟩ ?_
      exact ⟨_, none, rfl, ⟨_, _, _, _, _, _, hI, rfl⟩, hno, fun _ => ⟨rfl, rfl⟩⟩
    · skip
      -- region 6 (map.go:1067)
      refine Go'.region [(0, 0), (1, 0), (2, 0), (3, 1)] rfl ?_
      refine O.mv rfl rfl rfl rfl rfl ?_
      refine O.nc rfl rfl rfl rfl rfl ?_
      refine O.fa0 (off := 4) rfl rfl rfl rfl ⟨_, _, _, Go.Proofs.Try.underlying156, rfl, rfl, Go.Proofs.Try.sizeOf4⟩ rfl ?_
      refine O.ld rfl rfl rfl (fun w => ⟨Go.Proofs.Try.isAgg4 w, Go.Proofs.Try.sizeOf4 w⟩) rfl hI.c4 ?_
      refine Pl.fin [(0, _), (2, _), (24, _)] ⟨rfl, rfl, rfl, trivial⟩ ?_
      refine Go'.condT rfl ?_
      refine Go'.seq ?_
      have hf := iLast_spec (B := B) hI hT hsi hsz
      by_cases hl0 : 0 < l.length
      · skip
        rw [decide_eq_true hl0, if_pos hl0] at hf
        -- region 7 (map.go:1068)
        refine Go'.region [(0, 0), (1, 2), (2, 0), (3, 0), (4, 2), (5, 0), (6, 0)] rfl ?_
        refine O.mv rfl rfl rfl rfl rfl ?_
        refine O.call rfl rfl rfl Go.Proofs.Try.call144 rfl hf ?_
        rintro _ H1 ⟨rfl, hp⟩
        obtain ⟨sk2, sa2, se2, Z2, fr2, kv2, hI2, hst⟩ := hp
        obtain ⟨rfl, hq, h0, t0, rfl, hS⟩ := hst
        have hsz2 : ∀ b, S b → ¬ Z2 b := fun b hs hz => (hI2.zz b hz).elim (hsz b hs) (fun h => by have := hT.lt b hs; omega)
        refine ⟨trivial, ?_⟩
        refine O.mv rfl rfl rfl rfl rfl ?_
        refine O.mv rfl rfl rfl rfl rfl ?_
        refine O.call rfl rfl rfl Go.Proofs.Try.call146 rfl (iPrev_gen hI2.re (hK _ hI2.f) hsi hsz2 hS) ?_
        rintro _ H3 ⟨rfl, hp3⟩
        refine ⟨trivial, ?_⟩
        refine O.pick rfl rfl rfl rfl rfl rfl ?_
        refine O.asg rfl rfl rfl rfl rfl ?_
        refine Pl.fin [(0, _), (2, _)] ⟨rfl, rfl, trivial⟩ ?_
        refine Go'.ret (vs := [_]) Go.Proofs.Try.func146 Go.Proofs.Try.results146 ⟨rfl, trivial⟩ ?_
        exact ⟨_, _, rfl, ItPost.trans (P := P) (S := S) hI2 hp3, hno, fun e => by subst e; simp at hl0⟩
      · skip
        rw [decide_eq_false hl0, if_neg hl0] at hf
        -- region 7 (map.go:1068)
        refine Go'.region [(0, 0), (1, 2), (2, 0), (3, 0), (4, 2), (5, 0), (6, 0)] rfl ?_
        refine O.mv rfl rfl rfl rfl rfl ?_
        refine O.call rfl rfl rfl Go.Proofs.Try.call144 rfl hf ?_
        rintro _ H1 ⟨rfl, hp⟩
        refine ⟨trivial, ?_⟩
        refine O.mv rfl rfl rfl rfl rfl ?_
        refine Pl.pass rfl rfl rfl rfl ?_
        refine Pl.pass2 rfl rfl rfl rfl trivial ?_
        refine O.pick rfl rfl rfl rfl rfl rfl ?_
        refine O.asg rfl rfl rfl rfl rfl ?_
        refine Pl.fin [(0, _), (2, _)] ⟨rfl, rfl, trivial⟩ ?_
        refine Go'.ret (vs := [_]) Go.Proofs.Try.func146 Go.Proofs.Try.results146 ⟨rfl, trivial⟩ ?_
        exact ⟨_, _, rfl, hp, hno, fun _ => ⟨rfl, rfl⟩⟩

theorem iSeek_spec {B : World} {H : Mem} {it tr : Nat} {mt sk sa se : Bool} {Z : Nat → Prop} {fr : List (Nat × Int)} {kv : Int} {P : Ps} {S : Nat → Prop} {l : List Int} {r : Option ((h : Nat) × Gt EI h)} (hI : Itr EI H H it tr mt Z sk sa se Z fr kv) (hT : TreeR H tr P S l r) (hsi : ¬ S it) (hsz : ∀ b, S b → ¬ Z b) (hsrt : Pl.Srt OI l) (hmx : P.mx ≤ 255) (x : Int) :
    Fn Try.prog B 147 [.pointer (some ⟨it, 0, none⟩), .int .i64 x] H (fun v H' => v = .bool (decide (Pl.pos OI x l < l.length)) ∧ ItPost EI H H' it tr mt Z r l (if Pl.pos OI x l < l.length then some (Pl.pos OI x l) else none)) := by
  have hK : ∀ H', Fr (fun b _ => b = it ∨ Z b) H H' → TreeR H' tr P S l r := fun H' hf => hT.keep hf fun b o hs hz => hz.elim (fun e => hsi (e ▸ hs)) (hsz b hs)
  have hll := hT.ll
  refine fn_of Go.Proofs.Try.func147 rfl Go.Proofs.Try.ntmps147 ?_
  refine (show Go' _ _ _ _ 117 [(0, _), (1, _)] [.code _] _ from ?_)
  refine Go'.seq ?_
  -- region 0 (map.go:933)
  refine Go'.region [(0, 0)] rfl ?_
  refine O.asg rfl rfl rfl rfl rfl ?_
  refine Pl.fin [(0, _), (1, _), (4, _)] ⟨rfl, rfl, rfl, trivial⟩ ?_
  refine Go'.seq ?_
  refine Go'.seq ?_
  -- region 1 (map.go:934)
  refine Go'.region [(0, 0), (1, 0), (2, 0), (3, 1), (4, 0)] rfl ?_
  refine O.mv rfl rfl rfl rfl rfl ?_
  refine O.nc rfl rfl rfl rfl rfl ?_
  refine O.faz rfl rfl rfl rfl ⟨_, _, _, Go.Proofs.Try.underlying156, rfl, rfl, Go.Proofs.Try.sizeOf150⟩ rfl ?_
  refine O.ld rfl rfl rfl (fun w => ⟨Go.Proofs.Try.isAgg150 w, Go.Proofs.Try.sizeOf150 w⟩) rfl hI.c0 ?_
  refine O.isNil rfl rfl rfl rfl Go.Proofs.Try.underlying150 rfl rfl ?_
  refine Pl.fin [(0, _), (1, _), (4, _), (12, _)] ⟨rfl, rfl, rfl, rfl, trivial⟩ ?_
  refine Go'.condF rfl ?_
  refine Go'.skip ?_
  refine Go'.seq ?_
  -- region 3 (map.go:937)
  refine Go'.region [(0, 0), (1, 0), (2, 0), (3, 2)] rfl ?_
  refine O.mv rfl rfl rfl rfl rfl ?_
  refine O.nc rfl rfl rfl rfl rfl ?_
  refine O.fa0 (off := 2) rfl rfl rfl rfl ⟨_, _, _, Go.Proofs.Try.underlying156, rfl, rfl, Go.Proofs.Try.sizeOf4⟩ rfl ?_
  refine O.st rfl rfl Go.Proofs.Try.sizeOf4 rfl rfl rfl rfl rfl (hI.w 2 (by decide)) ?_
  intro Hc Wc
  replace hI := hI.set2 Wc
  have hsv0 := hI.st
  obtain ⟨sv, hsv, hA⟩ := hsv0
  refine ⟨trivial, ?_⟩
  refine Pl.fin [(0, _), (1, _), (4, _)] ⟨rfl, rfl, rfl, trivial⟩ ?_
  refine Go'.seq ?_
  -- region 4 (map.go:938)
  refine Go'.region [(0, 0), (1, 0), (2, 0), (3, 0), (4, 1), (5, 0), (6, 0), (7, 0), (8, 2)] rfl ?_
  refine O.mv rfl rfl rfl rfl rfl ?_
  refine O.mv rfl rfl rfl rfl rfl ?_
  refine O.nc rfl rfl rfl rfl rfl ?_
  refine O.fa0 (off := 5) rfl rfl rfl rfl ⟨_, _, _, Go.Proofs.Try.underlying156, rfl, rfl, Go.Proofs.Try.sizeOf154⟩ rfl ?_
  refine O.ld rfl rfl rfl (fun w => ⟨Go.Proofs.Try.isAgg154 w, Go.Proofs.Try.sizeOf154 w⟩) rfl hsv ?_
  refine O.slcA (F := EK) (j := 0) rfl rfl rfl rfl Go.Proofs.Try.underlying154 Go.Proofs.Try.sizeOf231 rfl hA ⟨_, by rfl⟩ (Nat.zero_le _) ?_
  intro v1 hA1
  obtain ⟨a1, m1, c1, rfl⟩ := hA1.form
  refine O.nc rfl rfl rfl rfl rfl ?_
  refine O.fa0 (off := 5) rfl rfl rfl rfl ⟨_, _, _, Go.Proofs.Try.underlying156, rfl, rfl, Go.Proofs.Try.sizeOf154⟩ rfl ?_
  refine O.st rfl rfl Go.Proofs.Try.sizeOf154 rfl rfl rfl rfl rfl (hI.w 5 (by decide)) ?_
  intro Hd Wd
  replace hI := hI.set5 (fr' := []) (by rw [List.take_zero] at hA1; exact hA1) Wd
  refine ⟨trivial, ?_⟩
  refine Pl.fin [(0, _), (1, _), (4, _)] ⟨rfl, rfl, rfl, trivial⟩ ?_
  refine Go'.seq ?_
  refine Go'.seq ?_
  have hR := hK _ hI.f
  rcases r with _ | ⟨h0, t0⟩
  · skip
    obtain ⟨rfl, hroot⟩ := hR.rt
    -- region 5 (map.go:939)
    refine Go'.region [(0, 0), (1, 0), (2, 0), (3, 1), (4, 0), (5, 0), (6, 1), (7, 0)] rfl ?_
    refine O.mv rfl rfl rfl rfl rfl ?_
    refine O.nc rfl rfl rfl rfl rfl ?_
    refine O.faz rfl rfl rfl rfl ⟨_, _, _, Go.Proofs.Try.underlying156, rfl, rfl, Go.Proofs.Try.sizeOf150⟩ rfl ?_
    refine O.ld rfl rfl rfl (fun w => ⟨Go.Proofs.Try.isAgg150 w, Go.Proofs.Try.sizeOf150 w⟩) rfl hI.c0 ?_
    refine O.nc rfl rfl rfl rfl rfl ?_
    refine O.fa0 (off := 2) rfl rfl rfl rfl ⟨_, _, _, Go.Proofs.Try.underlying140, rfl, rfl, Go.Proofs.Try.sizeOf135⟩ rfl ?_
    refine O.ld rfl rfl rfl (fun w => ⟨Go.Proofs.Try.isAgg135 w, Go.Proofs.Try.sizeOf135 w⟩) rfl hroot ?_
    refine O.isNil rfl rfl rfl rfl Go.Proofs.Try.underlying135 rfl rfl ?_
    refine Pl.fin [(0, _), (1, _), (4, _), (31, _)] ⟨rfl, rfl, rfl, rfl, trivial⟩ ?_
    refine Go'.condT rfl ?_
    refine Go'.seq ?_
    -- region 6 (map.go:940)
    refine Go'.region [(0, 0)] rfl ?_
    refine O.asg rfl rfl rfl rfl rfl ?_
    refine Pl.fin [(0, _), (1, _), (4, _)] ⟨rfl, rfl, rfl, trivial⟩ ?_
    refine Go'.ret (vs := [_]) Go.Proofs.Try.func147 Go.Proofs.Try.results147 ⟨rfl, trivial⟩ ?_
    exact ⟨rfl, _, _, _, _, _, _, hI, rfl⟩
  · skip
    obtain ⟨hg, hx, hl, hroot, haf⟩ := hR.rt
    have hptr : cl _ tr 2 = some (.pointer (some ⟨Gt.p h0 t0, 0, none⟩)) := hroot
    obtain ⟨kp, hN⟩ := hg.node
    have hn0 := hN.c0
    rw [hg.isoe] at hn0
    -- region 5 (map.go:939)
    refine Go'.region [(0, 0), (1, 0), (2, 0), (3, 1), (4, 0), (5, 0), (6, 1), (7, 0)] rfl ?_
    refine O.mv rfl rfl rfl rfl rfl ?_
    refine O.nc rfl rfl rfl rfl rfl ?_
    refine O.faz rfl rfl rfl rfl ⟨_, _, _, Go.Proofs.Try.underlying156, rfl, rfl, Go.Proofs.Try.sizeOf150⟩ rfl ?_
    refine O.ld rfl rfl rfl (fun w => ⟨Go.Proofs.Try.isAgg150 w, Go.Proofs.Try.sizeOf150 w⟩) rfl hI.c0 ?_
    refine O.nc rfl rfl rfl rfl rfl ?_
    refine O.fa0 (off := 2) rfl rfl rfl rfl ⟨_, _, _, Go.Proofs.Try.underlying140, rfl, rfl, Go.Proofs.Try.sizeOf135⟩ rfl ?_
    refine O.ld rfl rfl rfl (fun w => ⟨Go.Proofs.Try.isAgg135 w, Go.Proofs.Try.sizeOf135 w⟩) rfl hptr ?_
    refine O.isNil rfl rfl rfl rfl Go.Proofs.Try.underlying135 rfl rfl ?_
    refine Pl.fin [(0, _), (1, _), (4, _), (31, _)] ⟨rfl, rfl, rfl, rfl, trivial⟩ ?_
    refine Go'.condF rfl ?_
    refine Go'.skip ?_
    refine Go'.seq ?_
    -- region 7 (map.go:942)
    refine Go'.draw (fun _ => True) [(0, 0), (1, 0), (2, 0), (3, 1), (4, 0), (5, 0), (6, 0), (7, 1), (8, 0), (9, 0), (10, 0), (11, 0), (12, 0), (13, 1), (14, 2), (15, 0)] (by kernel_rfl) (by kernel_rfl) (trivial) ?_
    refine O.mv rfl rfl rfl rfl rfl ?_
    refine O.nc rfl rfl rfl rfl rfl ?_
    refine O.faz rfl rfl rfl rfl ⟨_, _, _, Go.Proofs.Try.underlying156, rfl, rfl, Go.Proofs.Try.sizeOf150⟩ rfl ?_
    refine O.ld rfl rfl rfl (fun w => ⟨Go.Proofs.Try.isAgg150 w, Go.Proofs.Try.sizeOf150 w⟩) rfl hI.c0 ?_
    refine O.mv rfl rfl rfl rfl rfl ?_
    refine O.nc rfl rfl rfl rfl rfl ?_
    refine O.faz rfl rfl rfl rfl ⟨_, _, _, Go.Proofs.Try.underlying156, rfl, rfl, Go.Proofs.Try.sizeOf150⟩ rfl ?_
    refine O.ld rfl rfl rfl (fun w => ⟨Go.Proofs.Try.isAgg150 w, Go.Proofs.Try.sizeOf150 w⟩) rfl hI.c0 ?_
    refine O.nc rfl rfl rfl rfl rfl ?_
    refine O.fa0 (off := 2) rfl rfl rfl rfl ⟨_, _, _, Go.Proofs.Try.underlying140, rfl, rfl, Go.Proofs.Try.sizeOf135⟩ rfl ?_
    refine O.mv rfl rfl rfl rfl rfl ?_
    refine O.nc rfl rfl rfl rfl rfl ?_
    refine O.fa0 (off := 1) rfl rfl rfl rfl ⟨_, _, _, Go.Proofs.Try.underlying156, rfl, rfl, Go.Proofs.Try.sizeOf4⟩ rfl ?_
    refine O.ld rfl rfl rfl (fun w => ⟨Go.Proofs.Try.isAgg4 w, Go.Proofs.Try.sizeOf4 w⟩) rfl hI.c1 ?_
    refine O.callQ rfl rfl rfl Go.Proofs.Try.call151 rfl (isoLoad_spec mt hroot hn0 hR.iso) trivial ?_
    refine O.asg rfl rfl rfl rfl rfl ?_
    refine Pl.fin [(0, _), (1, _), (4, _), (5, _)] ⟨rfl, rfl, rfl, rfl, trivial⟩ ?_
    refine Go'.block ?_
    unfold ptr
    have hC := Ctx.root t0
    have hQ : Pl.Srt OI (Gt.L h0 t0) ∧ Pl.pos OI x l = 0 + Pl.pos OI x (Gt.L h0 t0) := by rw [hl, Nat.zero_add]; exact ⟨hsrt, rfl⟩
    clear hR hg hx hl hroot haf hptr hN hn0
    refine Go'.loop ?_
    refine Go'.keep [(0, _), (1, _), (5, _)] ⟨rfl, rfl, rfl, trivial⟩ ?_
    refine Go'.ind (σ := ((h : Nat) × Gt EI h) × List (Nat × Int) × (Nat → Prop)) (fun s => s.1.1) (fun s H' => Itr EI H H' it tr mt Z true sa se s.2.2 s.2.1 kv ∧ ∃ a, Ctx t0 s.2.1 s.1.1 s.1.2 a ∧ Pl.Srt OI (Gt.L s.1.1 s.1.2) ∧ Pl.pos OI x l = a + Pl.pos OI x (Gt.L s.1.1 s.1.2))
      (fun s => [(0, .pointer (some ⟨it, 0, none⟩)), (1, .int .i64 x), (5, .pointer (some ⟨Gt.p s.1.1 s.1.2, 0, none⟩))]) (⟨_, _⟩, _, _) ⟨hI, _, hC, hQ⟩ rfl ?_
    clear hI hC hQ
    rintro ⟨⟨h1, s1⟩, fs1, Z1⟩ H2 ⟨hI, a, hC, hs, hQ⟩ ih
    simp only at hI hC ih
    replace hs : Pl.Srt OI (Gt.L h1 s1) := hs
    replace hQ : Pl.pos OI x l = a + Pl.pos OI x (Gt.L h1 s1) := hQ
    have hsv0 := hI.st
    obtain ⟨sv, hsv, hA⟩ := hsv0
    have hR := hK _ hI.f
    obtain ⟨hg, hx, hl, hroot, haf⟩ := hR.rt
    obtain ⟨hgd, hx1, hfl, haf1⟩ := Ctx.good hR.mn hg hx hC
    have hhi := Gt.high hR.mn hg hx
    rw [hl] at hhi
    obtain ⟨kp, hN⟩ := hgd.node
    have hxm := hgd.xmx
    have hsX : Pl.Srt OI (Gt.X h1 s1) := by
      rcases h1 with _ | h1
      · exact hs
      · obtain ⟨g, X, K⟩ := s1
        have hKl : K.length = X.length + 1 := hgd.2.2.2.2.2.1
        have hs' : Pl.Srt OI (Pl.inter X (K.map (Gt.L h1))) := hs
        have hle : X.length < (K.map (Gt.L h1)).length := by rw [List.length_map, hKl]; exact Nat.lt_succ_self _
        exact hs'.sublist (Pl.sublist_inter X _ hle)
    have hple := Pl.pos_le OI x (Gt.X h1 s1)
    have hplt : Pl.fnd OI x (Gt.X h1 s1) = true → Pl.pos OI x (Gt.X h1 s1) < (Gt.X h1 s1).length := Pl.fnd_pos_lt OI
    refine (show Go' _ _ _ _ _ [(0, .pointer (some ⟨it, 0, none⟩)), (1, .int .i64 x), (5, .pointer (some ⟨Gt.p h1 s1, 0, none⟩))] _ _ from ?_)
    refine Go'.block ?_
    refine Go'.seq ?_
    -- region 8 (map.go:944)
    refine Go'.region [(0, 0), (1, 0), (2, 0), (3, 1), (4, 0), (5, 0), (6, 2), (7, 0), (8, 0), (9, 0), (10, 0), (11, 0)] rfl ?_
    refine O.mv rfl rfl rfl rfl rfl ?_
    refine O.nc rfl rfl rfl rfl rfl ?_
    refine O.faz rfl rfl rfl rfl ⟨_, _, _, Go.Proofs.Try.underlying156, rfl, rfl, Go.Proofs.Try.sizeOf150⟩ rfl ?_
    refine O.ld rfl rfl rfl (fun w => ⟨Go.Proofs.Try.isAgg150 w, Go.Proofs.Try.sizeOf150 w⟩) rfl hI.c0 ?_
    refine O.mv rfl rfl rfl rfl rfl ?_
    refine O.mv rfl rfl rfl rfl rfl ?_
    refine O.callQ rfl rfl rfl Go.Proofs.Try.call168 rfl (search_spec x hN hsX (by omega)) trivial ?_
    refine O.mv rfl rfl rfl rfl rfl ?_
    refine O.ext rfl rfl rfl rfl rfl rfl ?_
    refine O.ext rfl rfl rfl rfl rfl rfl ?_
    refine O.asg rfl rfl rfl rfl rfl ?_
    refine O.asg rfl rfl rfl rfl rfl ?_
    refine Pl.fin [(0, _), (1, _), (5, _), (6, _), (7, _)] ⟨rfl, rfl, rfl, rfl, rfl, trivial⟩ ?_
    refine Go'.seq ?_
    -- region 9 (map.go:945)
    refine Go'.region [(0, 0), (1, 0), (2, 0), (3, 0), (4, 1), (5, 0), (6, 0), (7, 0), (8, 2), (9, 2), (10, 0), (11, 0), (12, 2)] rfl ?_
    refine O.mv rfl rfl rfl rfl rfl ?_
    refine O.mv rfl rfl rfl rfl rfl ?_
    refine O.nc rfl rfl rfl rfl rfl ?_
    refine O.fa0 (off := 5) rfl rfl rfl rfl ⟨_, _, _, Go.Proofs.Try.underlying156, rfl, rfl, Go.Proofs.Try.sizeOf154⟩ rfl ?_
    refine O.ld rfl rfl rfl (fun w => ⟨Go.Proofs.Try.isAgg154 w, Go.Proofs.Try.sizeOf154 w⟩) rfl hsv ?_
    refine O.mv rfl rfl rfl rfl rfl ?_
    refine O.mv rfl rfl rfl rfl rfl ?_
    refine O.bld (cs := (EK.enc (Gt.p h1 s1, (((Pl.pos OI x (Gt.X h1 s1) : Nat) : Int) : Int)))) rfl rfl rfl rfl (st231) rfl (by kernel_rfl) ?_
    refine O.bsl (cs := (EK.enc (Gt.p h1 s1, (((Pl.pos OI x (Gt.X h1 s1) : Nat) : Int) : Int)))) rfl rfl rfl ⟨Go.Proofs.Try.underlying154, Go.Proofs.Try.sizeOf231, Go.Proofs.Try.zeroValue231, ⟨_, Go.Proofs.Try.typeInfo231, rfl⟩, rfl, by decide, by decide⟩ rfl (by decide) (by kernel_rfl) ?_
    intro H3 M3
    have hs3 := M3.size
    have hA3 := hA.fr (M3.fr nowhere) (fun _ _ _ _ => nw)
    have m3 : Rd H3 H2.size 0 (row EK [(Gt.p h1 s1, (((Pl.pos OI x (Gt.X h1 s1) : Nat) : Int) : Int))]) := M3.rd _ [] (by simp [row, EK])
    refine ⟨trivial, ?_⟩
    refine O.appA (E := EK) (Y := [(Gt.p h1 s1, (((Pl.pos OI x (Gt.X h1 s1) : Nat) : Int) : Int))]) rfl rfl rfl ⟨Go.Proofs.Try.underlying154, Go.Proofs.Try.sizeOf231, Go.Proofs.Try.zeroValue231, ⟨_, Go.Proofs.Try.typeInfo231, rfl⟩, rfl, by decide, by decide⟩ rfl hA3 rfl ⟨_, _, _, rfl, m3⟩ (Nat.succ_pos _) (Nat.le_trans (Nat.mul_le_mul_left _ (Nat.le_of_ble_eq_true (n := _) (m := 4096) rfl)) (by rw [List.length_reverse]; simp only [List.length_singleton]; omega)) (by rw [List.length_reverse]; simp only [List.length_singleton]; omega) ?_
    intro v4 H4 hA4 hF4 hs4
    obtain ⟨a4, m4, c4, rfl⟩ := hA4.form
    have hw4 : Wr H4 it 5 1 := hF4.wr ((M3.fr nowhere).wr (hI.w 5 (by decide)))
    refine ⟨trivial, ?_⟩
    refine O.nc rfl rfl rfl rfl rfl ?_
    refine O.fa0 (off := 5) rfl rfl rfl rfl ⟨_, _, _, Go.Proofs.Try.underlying156, rfl, rfl, Go.Proofs.Try.sizeOf154⟩ rfl ?_
    refine O.st rfl rfl Go.Proofs.Try.sizeOf154 rfl rfl rfl rfl rfl hw4 ?_
    intro H5 W5
    replace hI := hI.push (M3.fr nowhere) hF4 hA4 W5
    refine ⟨trivial, ?_⟩
    refine Pl.fin [(0, _), (1, _), (5, _), (6, _), (7, _)] ⟨rfl, rfl, rfl, rfl, rfl, trivial⟩ ?_
    refine Go'.seq ?_
    refine Go'.seq ?_
    clear hR hg hx hl hroot haf hgd hx1 hfl haf1 hN kp
    have hR := hK _ hI.f
    obtain ⟨hg, hx, hl, hroot, haf⟩ := hR.rt
    obtain ⟨hgd, hx1, hfl, haf1⟩ := Ctx.good hR.mn hg hx hC
    obtain ⟨kp, hN⟩ := hgd.node
    cases hfd : Pl.fnd OI x (Gt.X h1 s1)
    rotate_left
    · skip
      -- region 10 (map.go:946)
      refine Go'.region [(0, 0)] rfl ?_
      refine O.mv rfl rfl rfl rfl rfl ?_
      refine Pl.fin [(0, _), (1, _), (5, _), (6, _), (7, _), (69, _)] ⟨rfl, rfl, rfl, rfl, rfl, rfl, trivial⟩ ?_
      refine Go'.condT rfl ?_
      refine Go'.seq ?_
      have hlt := hplt hfd
      obtain ⟨y, hy⟩ : ∃ y, (Gt.X h1 s1)[Pl.pos OI x (Gt.X h1 s1)]? = some y := ⟨_, List.getElem?_eq_getElem hlt⟩
      have hS : Stand t0 ((Gt.p h1 s1, ((Pl.pos OI x (Gt.X h1 s1) : Nat) : Int)) :: fs1) (Pl.pos OI x l) ∧ l[Pl.pos OI x l]? = some y := by
        rcases h1 with _ | h1
        · obtain ⟨g, X⟩ := s1
          refine ⟨.inl ⟨fs1, g, X, a, _, rfl, hC, hlt, hQ⟩, ?_⟩
          have := Ctx.item0 hR.mn hg hx hC hy
          rw [hl] at this
          rw [hQ]; exact this
        · obtain ⟨g, X, K⟩ := s1
          have hKl : K.length = X.length + 1 := hgd.2.2.2.2.2.1
          have hlt' : Pl.pos OI x X < X.length := hlt
          obtain ⟨k0, hk0⟩ : ∃ k, K[Pl.pos OI x X]? = some k := ⟨_, List.getElem?_eq_getElem (by omega)⟩
          have hkL : (K.map (Gt.L h1))[Pl.pos OI x X]? = some (Gt.L h1 k0) := by rw [List.getElem?_map, hk0]; rfl
          have hrk : Pl.pos OI x (Pl.inter X (K.map (Gt.L h1))) = Pl.bl (K.map (Gt.L h1)) (Pl.pos OI x X) + (Gt.L h1 k0).length := Pl.inter_rank_found hs (by rw [List.length_map]; exact hKl) hfd hkL
          have hQ' : Pl.pos OI x l = a + Pl.pos OI x (Pl.inter X (K.map (Gt.L h1))) := hQ
          rw [hrk] at hQ'
          refine ⟨.inr ⟨fs1, h1, g, X, K, a, Pl.pos OI x X, rfl, hC, hlt', by rw [Pl.bl_succ hkL]; omega⟩, ?_⟩
          have := Ctx.item1 hR.mn hg hx hC hkL hy
          rw [hl] at this
          rw [hQ']; exact this
      obtain ⟨hS, hq⟩ := hS
      -- region 11 (map.go:947)
      refine Go'.region [(0, 0), (1, 0), (2, 0), (3, 0), (4, 1), (5, 0), (6, 0), (7, 1), (8, 0), (9, 0), (10, 2)] rfl ?_
      refine O.mv rfl rfl rfl rfl rfl ?_
      refine O.mv rfl rfl rfl rfl rfl ?_
      refine O.nc rfl rfl rfl rfl rfl ?_
      refine O.fa0 (off := 2) rfl rfl rfl rfl ⟨_, _, _, Go.Proofs.Try.underlying205, rfl, rfl, Go.Proofs.Try.sizeOf202⟩ rfl ?_
      refine O.ld rfl rfl rfl (fun w => ⟨Go.Proofs.Try.isAgg202 w, Go.Proofs.Try.sizeOf202 w⟩) rfl hN.c2 ?_
      refine O.mv rfl rfl rfl rfl rfl ?_
      refine O.ix (j := Pl.pos OI x (Gt.X h1 s1)) rfl rfl rfl rfl Go.Proofs.Try.underlying202 Go.Proofs.Try.sizeOf138 rfl rfl (by omega) hlt ?_
      refine O.lds rfl rfl rfl (fun w => ⟨Go.Proofs.Try.isAgg138 w, Go.Proofs.Try.sizeOf138 w⟩) rfl rfl (hN.sl.item hy) ?_
      refine O.nc rfl rfl rfl rfl rfl ?_
      refine O.fa0 (off := 6) rfl rfl rfl rfl ⟨_, _, _, Go.Proofs.Try.underlying156, rfl, rfl, Go.Proofs.Try.sizeOf138⟩ rfl ?_
      refine O.st (vs := (EI.enc y)) rfl rfl Go.Proofs.Try.sizeOf138 rfl rfl rfl rfl rfl hI.wk ?_
      intro H9 W9
      have hI9 := hI.set6 W9
      refine ⟨trivial, ?_⟩
      refine Pl.fin [(0, _), (1, _), (5, _), (6, _), (7, _), (69, _)] ⟨rfl, rfl, rfl, rfl, rfl, rfl, trivial⟩ ?_
      refine Go'.seq ?_
      -- region 12 (map.go:948)
      refine Go'.region [(0, 0)] rfl ?_
      refine O.asg rfl rfl rfl rfl rfl ?_
      refine Pl.fin [(0, _), (1, _), (4, _), (5, _), (6, _), (7, _), (69, _)] ⟨rfl, rfl, rfl, rfl, rfl, rfl, rfl, trivial⟩ ?_
      refine Go'.ret (vs := [_]) Go.Proofs.Try.func147 Go.Proofs.Try.results147 ⟨rfl, trivial⟩ ?_
      have hql : Pl.pos OI x l < l.length := (List.getElem?_eq_some_iff.1 hq).1
      exact ⟨congrArg Value.bool (decide_eq_true hql).symm, _, _, _, _, _, _, hI9, by rw [if_pos hql]; exact ⟨rfl, hq, _, _, rfl, hS⟩⟩
    · skip
      -- region 10 (map.go:946)
      refine Go'.region [(0, 0)] rfl ?_
      refine O.mv rfl rfl rfl rfl rfl ?_
      refine Pl.fin [(0, _), (1, _), (5, _), (6, _), (7, _), (69, _)] ⟨rfl, rfl, rfl, rfl, rfl, rfl, trivial⟩ ?_
      refine Go'.condF rfl ?_
      refine Go'.skip ?_
      refine Go'.seq ?_
      refine Go'.seq ?_
      rcases h1 with _ | h1
      · skip
        obtain ⟨g, X⟩ := s1
        have hN : NodeM EI _ g X (.pointer none) := hgd.1
        have hfs : fs1.length ≤ 4294967296 := by omega
        have hple : Pl.pos OI x X ≤ X.length := hple
        have hxl : X.length ≤ P.mx := hxm
        replace hQ : Pl.pos OI x l = a + Pl.pos OI x X := hQ
        replace hI : Itr EI H H5 it tr mt Z true sa se _ ((g.p, ((Pl.pos OI x X : Nat) : Int)) :: fs1) kv := hI
        obtain ⟨b, o, c, hTop⟩ := hI.top
        -- region 13 (map.go:950)
        refine Go'.region [(0, 0), (1, 2)] rfl ?_
        refine O.mv rfl rfl rfl rfl rfl ?_
        refine O.callQ rfl rfl rfl Go.Proofs.Try.call152 rfl (leaf_spec hN.c3) trivial ?_
        refine Pl.fin [(0, _), (1, _), (5, _), (6, _), (7, _), (69, _), (81, _)] ⟨rfl, rfl, rfl, rfl, rfl, rfl, rfl, trivial⟩ ?_
        refine Go'.condT rfl ?_
        refine Go'.seq ?_
        -- region 14 (map.go:951)
        refine Go'.draw (fun _ => True) [(0, 0), (1, 0), (2, 0), (3, 1), (4, 0), (5, 0), (6, 0), (7, 1), (8, 0), (9, 0), (10, 0), (11, 0), (12, 1), (13, 0), (14, 0), (15, 0), (16, 3)] (by kernel_rfl) (by kernel_rfl) (trivial) ?_
        refine O.mv rfl rfl rfl rfl rfl ?_
        refine O.nc rfl rfl rfl rfl rfl ?_
        refine O.fa0 (off := 5) rfl rfl rfl rfl ⟨_, _, _, Go.Proofs.Try.underlying156, rfl, rfl, Go.Proofs.Try.sizeOf154⟩ rfl ?_
        refine O.ld rfl rfl rfl (fun w => ⟨Go.Proofs.Try.isAgg154 w, Go.Proofs.Try.sizeOf154 w⟩) rfl hTop.c5 ?_
        refine O.mv rfl rfl rfl rfl rfl ?_
        refine O.nc rfl rfl rfl rfl rfl ?_
        refine O.fa0 (off := 5) rfl rfl rfl rfl ⟨_, _, _, Go.Proofs.Try.underlying156, rfl, rfl, Go.Proofs.Try.sizeOf154⟩ rfl ?_
        refine O.ld rfl rfl rfl (fun w => ⟨Go.Proofs.Try.isAgg154 w, Go.Proofs.Try.sizeOf154 w⟩) rfl hTop.c5 ?_
        refine O.len rfl rfl rfl rfl Go.Proofs.Try.underlying154 rfl ?_
        refine O.sub (((fs1.length : Nat) : Int)) rfl rfl rfl rfl rfl rfl (by omega) (by omega) ?_
        refine O.ix (j := fs1.length) rfl rfl rfl rfl Go.Proofs.Try.underlying154 Go.Proofs.Try.sizeOf231 rfl rfl (by omega) (by omega) ?_
        refine O.fa (off := 1) rfl rfl rfl rfl ⟨_, _, _, Go.Proofs.Try.underlying231, rfl, rfl, Go.Proofs.Try.sizeOf3⟩ rfl ?_
        refine O.ld rfl rfl rfl (fun w => ⟨Go.Proofs.Try.isAgg3 w, Go.Proofs.Try.sizeOf3 w⟩) rfl hTop.ci ?_
        refine O.sub (((Pl.pos OI x X : Nat) : Int) - 1) rfl rfl rfl rfl rfl rfl (by omega) (by omega) ?_
        refine O.ix (j := fs1.length) rfl rfl rfl rfl Go.Proofs.Try.underlying154 Go.Proofs.Try.sizeOf231 rfl rfl (by omega) (by omega) ?_
        refine O.fa (off := 1) rfl rfl rfl rfl ⟨_, _, _, Go.Proofs.Try.underlying231, rfl, rfl, Go.Proofs.Try.sizeOf3⟩ rfl ?_
        refine O.st3 rfl rfl Go.Proofs.Try.sizeOf3 rfl rfl rfl rfl rfl hTop.wi ?_
        intro H6 W6
        obtain ⟨hI6, hTop6⟩ := hI.sti hTop W6
        have hsz2 : ∀ b, S b → ¬ (fun b => Z1 b ∨ (b = H3.size ∧ b < H4.size)) b := fun b hs hz => (hI.zz b hz).elim (hsz b hs) (fun h => by have := hT.lt b hs; omega)
        have hG : Gap t0 ((g.p, ((Pl.pos OI x X : Nat) : Int) - 1) :: fs1) (Pl.pos OI x l) := .inl ⟨fs1, g, X, a, Pl.pos OI x X, rfl, hC, hple, hQ⟩
        refine Pl.fin [(0, _), (1, _), (5, _), (6, _), (7, _), (69, _), (81, _)] ⟨rfl, rfl, rfl, rfl, rfl, rfl, rfl, trivial⟩ ?_
        refine Go'.seq ?_
        -- region 15 (map.go:952)
        refine Go'.region [(0, 0), (1, 2), (2, 0)] rfl ?_
        refine O.mv rfl rfl rfl rfl rfl ?_
        refine O.call rfl rfl rfl Go.Proofs.Try.call145 rfl (iNext_gen hI6.re (hK _ hI6.f) hsi hsz2 hG) ?_
        rintro _ H7 ⟨rfl, hp7⟩
        refine ⟨trivial, ?_⟩
        refine O.asg rfl rfl rfl rfl rfl ?_
        refine Pl.fin [(0, _), (1, _), (4, _), (5, _), (6, _), (7, _), (69, _), (81, _)] ⟨rfl, rfl, rfl, rfl, rfl, rfl, rfl, rfl, trivial⟩ ?_
        refine Go'.ret (vs := [_]) Go.Proofs.Try.func147 Go.Proofs.Try.results147 ⟨rfl, trivial⟩ ?_
        exact ⟨rfl, ItPost.trans (P := P) (S := S) hI6 hp7⟩
      · skip
        obtain ⟨g, X, K⟩ := s1
        have hin : Inn _ P h1 g X ((Gt.ps h1 K).map some) K := hgd.inn
        have hKl : K.length = X.length + 1 := hgd.2.2.2.2.2.1
        have hol : ((Gt.ps h1 K).map some).length = X.length + 1 := by rw [List.length_map, Gt.ps, List.length_map]; exact hKl
        have hKL : (K.map (Gt.L h1)).length = X.length + 1 := by rw [List.length_map]; exact hKl
        have hple : Pl.pos OI x X ≤ X.length := hple
        obtain ⟨k0, hk0⟩ : ∃ k, K[Pl.pos OI x X]? = some k := ⟨K[Pl.pos OI x X], List.getElem?_eq_getElem (by omega)⟩
        have hk0m : k0 ∈ K := List.mem_of_getElem? hk0
        have hok : ((Gt.ps h1 K).map some)[Pl.pos OI x X]? = some (some (Gt.p h1 k0)) := by rw [Gt.ps, List.map_map, List.getElem?_map, hk0]; rfl
        have hkL : (K.map (Gt.L h1))[Pl.pos OI x X]? = some (Gt.L h1 k0) := by rw [List.getElem?_map, hk0]; rfl
        have hkat := hin.k.at hok
        have hgk := (hin.c.1 k0 hk0m).1
        obtain ⟨kpk, hNk⟩ := hgk.node
        have hk00 := hNk.c0
        rw [hgk.isoe] at hk00
        have hs' : Pl.Srt OI (Pl.inter X (K.map (Gt.L h1))) := hs
        have hrk : Pl.pos OI x (Pl.inter X (K.map (Gt.L h1))) = Pl.bl (K.map (Gt.L h1)) (Pl.pos OI x X) + Pl.pos OI x (Gt.L h1 k0) := Pl.inter_rank_child hs' hKL hfd hkL
        have hsk := Pl.child_srt OI hs' hKL hfd hkL
        have hQ' : Pl.pos OI x l = a + Pl.pos OI x (Pl.inter X (K.map (Gt.L h1))) := hQ
        rw [hrk] at hQ'
        -- region 13 (map.go:950)
        refine Go'.region [(0, 0), (1, 2)] rfl ?_
        refine O.mv rfl rfl rfl rfl rfl ?_
        refine O.callQ rfl rfl rfl Go.Proofs.Try.call152 rfl (leaf_spec hin.n.c3) trivial ?_
        refine Pl.fin [(0, _), (1, _), (5, _), (6, _), (7, _), (69, _), (81, _)] ⟨rfl, rfl, rfl, rfl, rfl, rfl, rfl, trivial⟩ ?_
        refine Go'.condF rfl ?_
        refine Go'.skip ?_
        -- region 16 (map.go:954)
        refine Go'.draw (fun _ => True) [(0, 0), (1, 0), (2, 0), (3, 1), (4, 0), (5, 0), (6, 0), (7, 1), (8, 0), (9, 1), (10, 0), (11, 0), (12, 0), (13, 0), (14, 0), (15, 1), (16, 2), (17, 0)] (by kernel_rfl) (by kernel_rfl) (trivial) ?_
        refine O.mv rfl rfl rfl rfl rfl ?_
        refine O.nc rfl rfl rfl rfl rfl ?_
        refine O.faz rfl rfl rfl rfl ⟨_, _, _, Go.Proofs.Try.underlying156, rfl, rfl, Go.Proofs.Try.sizeOf150⟩ rfl ?_
        refine O.ld rfl rfl rfl (fun w => ⟨Go.Proofs.Try.isAgg150 w, Go.Proofs.Try.sizeOf150 w⟩) rfl hI.c0 ?_
        refine O.mv rfl rfl rfl rfl rfl ?_
        refine O.nc rfl rfl rfl rfl rfl ?_
        refine O.fa0 (off := 3) rfl rfl rfl rfl ⟨_, _, _, Go.Proofs.Try.underlying205, rfl, rfl, Go.Proofs.Try.sizeOf203⟩ rfl ?_
        refine O.ld rfl rfl rfl (fun w => ⟨Go.Proofs.Try.isAgg203 w, Go.Proofs.Try.sizeOf203 w⟩) rfl hin.n.c3 ?_
        refine O.nc rfl rfl rfl rfl rfl ?_
        refine O.ld rfl rfl rfl (fun w => ⟨Go.Proofs.Try.isAgg206 w, Go.Proofs.Try.sizeOf206 w⟩) rfl hin.k.c ?_
        refine O.mv rfl rfl rfl rfl rfl ?_
        refine O.ix (j := Pl.pos OI x (Gt.X (h1 + 1) (g, X, K))) rfl rfl rfl rfl Go.Proofs.Try.underlying206 Go.Proofs.Try.sizeOf135 rfl rfl (by omega) (show Pl.pos OI x X < _ from by omega) ?_
        refine O.mv rfl rfl rfl rfl rfl ?_
        refine O.nc rfl rfl rfl rfl rfl ?_
        refine O.fa0 (off := 1) rfl rfl rfl rfl ⟨_, _, _, Go.Proofs.Try.underlying156, rfl, rfl, Go.Proofs.Try.sizeOf4⟩ rfl ?_
        refine O.ld rfl rfl rfl (fun w => ⟨Go.Proofs.Try.isAgg4 w, Go.Proofs.Try.sizeOf4 w⟩) rfl hI.c1 ?_
        refine O.callQ rfl rfl rfl Go.Proofs.Try.call151 rfl (isoLoad_spec mt hkat hk00 hR.iso) trivial ?_
        refine O.asg rfl rfl rfl rfl rfl ?_
        refine Pl.fin [(0, _), (1, _), (5, _), (6, _), (7, _), (69, _), (81, _)] ⟨rfl, rfl, rfl, rfl, rfl, rfl, rfl, trivial⟩ ?_
        refine Go'.inBlock ?_
        unfold ptr
        refine Go'.keep [(0, _), (1, _), (5, _)] ⟨rfl, rfl, rfl, trivial⟩ ?_
        refine Go'.inLoop ?_
        exact ih (⟨h1, k0⟩, _, _) _ ⟨hI, _, hC.down hk0, hsk, by show Pl.pos OI x l = a + Pl.bl (K.map (Gt.L h1)) (Pl.pos OI x X) + Pl.pos OI x (Gt.L h1 k0); omega⟩ (by simp only; omega)

end Go.Bt.FZ
namespace Go.Bt.FZ
open Go Go.Proofs
set_option maxRecDepth 20000
set_option maxHeartbeats 4000000
set_option linter.unusedVariables false

def kv0 : Int := 0
/-- A new iterator. -/
def itv (tr : Nat) (mt : Bool) : List Value := [.pointer (some ⟨tr, 0, none⟩), .bool mt, .bool false, .bool false, .bool false, .slice none 0 0] ++ EI.enc kv0
theorem itr_new {H H' : Mem} {it tr : Nat} {mt : Bool} (W : Wrote H H' it 0 (itv tr mt)) (hw : Wr H it 0 7) : Itr EI H' H' it tr mt (fun _ => False) false false false (fun _ => False) [] kv0 where
  c0 := W.all 0 _ rfl
  c1 := W.all 1 _ rfl
  c2 := W.all 2 _ rfl
  c3 := W.all 3 _ rfl
  c4 := W.all 4 _ rfl
  st := ⟨.slice none 0 0, W.all 5 _ rfl, Acc.nil _ _ _⟩
  kv := fun j v hv => by
    have h := W.all (6 + j) v (by rw [← hv]; unfold itv; rw [List.getElem?_append_right (by simp)]; simp)
    rwa [Nat.zero_add] at h
  wr := W.fr.wr hw
  nz := id
  f := Fr.refl _ _
  zz := fun _ h => h.elim
theorem MapM.treeR {H : Mem} {tr : Nat} {P : Ps} {S : Nat → Prop} {l : List Int} (hP : PsOk P) (hM : MapM H tr P S l) (hl : l.length ≤ 4294967296) : ∃ r : Option ((h : Nat) × Gt EI h), TreeR H tr P S l r := by
  obtain ⟨tc, srt, cnt, own, lt, hr⟩ := hM
  have hh1 := hP.h1
  rcases hr with ⟨e, k⟩ | ⟨h, t, hg, hx, e, hc, _, hown⟩
  · exact ⟨none, tc.iso, own, lt, hl, hh1, e, k⟩
  · exact ⟨some ⟨h, t⟩, tc.iso, own, lt, hl, hh1, hg, hx, e, hc, hown⟩

theorem iter_spec {B : World} {H : Mem} {tr : Nat} (mt : Bool) : Fn Try.prog B 167 [.pointer (some ⟨tr, 0, none⟩), .bool mt] H (fun r H' => r = .agg (itv tr mt).toArray ∧ Fr nowhere H H') := by
  have hF : Fr nowhere H H := Fr.refl _ _
  refine fn_of Go.Proofs.Try.func167 rfl Go.Proofs.Try.ntmps167 ?_
  refine (show Go' _ _ _ _ 11 [(0, _), (1, _)] [.code _] _ from ?_)
  refine Go'.seq ?_
  -- region 0 (map.go:924)
  refine Go'.region [(0, 2)] rfl ?_
  refine O.alloc rfl rfl rfl Go.Proofs.Try.zeroValue156 ?_
  intro H1 M1
  refine ⟨trivial, ?_⟩
  have hs1 := M1.size
  
  replace hF := hF.trans' (M1.fr nowhere) (fun _ _ _ h => h) (fun _ _ _ h => h.elim)
  have m4 : Wr H1 H.size 0 7 := M1.wr 7 (by decide)
  refine Pl.fin [(0, _), (1, _), (4, _)] ⟨rfl, rfl, rfl, trivial⟩ ?_
  refine Go'.seq ?_
  -- region 1 (map.go:925)
  refine Go'.region [(0, 2)] rfl ?_
  refine O.alloc rfl rfl rfl Go.Proofs.Try.zeroValue156 ?_
  intro H2 M2
  refine ⟨trivial, ?_⟩
  have hs2 := M2.size
  replace m4 := (M2.fr nowhere).wr m4
  replace hF := hF.trans' (M2.fr nowhere) (fun _ _ _ h => h) (fun _ _ _ h => h.elim)
  have m5 : Wr H2 H1.size 0 7 := M2.wr 7 (by decide)
  have hz : Rd H2 H1.size 0 ([.pointer none, .bool false, .bool false, .bool false, .bool false, .slice none 0 0] ++ EI.enc kv0) := M2.rd _ [] rfl
  refine Pl.fin [(0, _), (1, _), (4, _), (5, _)] ⟨rfl, rfl, rfl, rfl, trivial⟩ ?_
  refine Go'.seq ?_
  -- region 2 (map.go:926)
  refine Go'.region [(0, 0), (1, 0), (2, 2)] rfl ?_
  refine O.mv rfl rfl rfl rfl rfl ?_
  refine O.faz rfl rfl rfl rfl ⟨_, _, _, Go.Proofs.Try.underlying156, rfl, rfl, Go.Proofs.Try.sizeOf150⟩ rfl ?_
  refine O.st rfl rfl Go.Proofs.Try.sizeOf150 rfl rfl rfl rfl rfl (m5.at0 0 1 (by decide)) ?_
  intro H3 W3
  replace m4 := W3.fr.wr m4
  replace m5 := W3.fr.wr m5
  replace hF := hF.trans' W3.fr (fun _ _ _ h => h) (fun b o hb hz => by have h1 := hz.1; omega)
  refine ⟨trivial, ?_⟩
  refine Pl.fin [(1, _), (4, _), (5, _)] ⟨rfl, rfl, rfl, trivial⟩ ?_
  refine Go'.seq ?_
  -- region 3 (map.go:927)
  refine Go'.region [(0, 0), (1, 0), (2, 2)] rfl ?_
  refine O.mv rfl rfl rfl rfl rfl ?_
  refine O.fa0 (off := 1) rfl rfl rfl rfl ⟨_, _, _, Go.Proofs.Try.underlying156, rfl, rfl, Go.Proofs.Try.sizeOf4⟩ rfl ?_
  refine O.st rfl rfl Go.Proofs.Try.sizeOf4 rfl rfl rfl rfl rfl (m5.at0 1 1 (by decide)) ?_
  intro H4 W4
  replace m4 := W4.fr.wr m4
  replace m5 := W4.fr.wr m5
  replace hF := hF.trans' W4.fr (fun _ _ _ h => h) (fun b o hb hz => by have h1 := hz.1; omega)
  have r4 : Rd H4 H1.size 0 (itv tr mt) := by
    intro j v hv
    rcases j with _ | _ | j
    · cases hv; exact W4.keep1 W3.at (.inr (by decide))
    · cases hv; exact W4.at
    · exact W4.keep1 (W3.keep1 (hz (j + 2) v hv) (.inr (by omega))) (.inr (by omega))
  refine ⟨trivial, ?_⟩
  refine Pl.fin [(4, _), (5, _)] ⟨rfl, rfl, trivial⟩ ?_
  refine Go'.seq ?_
  -- region 4 (map.go:928)
  refine Go'.region [(0, 1), (1, 2)] rfl ?_
  refine O.lds rfl rfl rfl (fun w => ⟨Go.Proofs.Try.isAgg156 w, Go.Proofs.Try.sizeOf156 w⟩) rfl rfl r4 ?_
  refine O.st rfl rfl Go.Proofs.Try.sizeOf156 rfl rfl rfl rfl rfl m4 ?_
  intro H5 W5
  replace hF := hF.trans' W5.fr (fun _ _ _ h => h) (fun b o hb hz => by have h1 := hz.1; omega)
  refine ⟨trivial, ?_⟩
  refine Pl.fin [(4, _)] ⟨rfl, trivial⟩ ?_
  refine Go'.ret (vs := [_]) Go.Proofs.Try.func167 Go.Proofs.Try.results167 ⟨⟨_, _, rfl, fun _ _ => run_loadVar_agg (fun w => ⟨Go.Proofs.Try.isAgg156 w, Go.Proofs.Try.sizeOf156 w⟩) rfl W5.all⟩, trivial⟩ ?_
  exact ⟨rfl, hF⟩

theorem Iter_spec {B : World} {H : Mem} {tr : Nat} : Fn Try.prog B 143 [.pointer (some ⟨tr, 0, none⟩)] H (fun r H' => r = .agg (itv tr false).toArray ∧ Fr nowhere H H') := by
  have hF : Fr nowhere H H := Fr.refl _ _
  refine fn_of Go.Proofs.Try.func143 rfl Go.Proofs.Try.ntmps143 ?_
  refine (show Go' _ _ _ _ 5 [(0, _)] [.code _] _ from ?_)
  refine Go'.seq ?_
  -- region 0 (map.go:916)
  refine Go'.region [(0, 2)] rfl ?_
  refine O.alloc rfl rfl rfl Go.Proofs.Try.zeroValue156 ?_
  intro H1 M1
  refine ⟨trivial, ?_⟩
  have hs1 := M1.size
  
  replace hF := hF.trans' (M1.fr nowhere) (fun _ _ _ h => h) (fun _ _ _ h => h.elim)
  have m2 : Wr H1 H.size 0 7 := M1.wr 7 (by decide)
  refine Pl.fin [(0, _), (2, _)] ⟨rfl, rfl, trivial⟩ ?_
  refine Go'.seq ?_
  -- region 1 (map.go:917)
  refine Go'.region [(0, 0), (1, 2), (2, 2)] rfl ?_
  refine O.mv rfl rfl rfl rfl rfl ?_
  refine O.call rfl rfl rfl Go.Proofs.Try.call167 rfl (iter_spec false) ?_
  rintro _ H2 ⟨rfl, hF2⟩
  have hs2 := hF2.size
  replace m2 := hF2.wr m2
  replace hF := hF.trans' hF2 (fun _ _ _ h => h) (fun _ _ _ h => h.elim)
  refine ⟨trivial, ?_⟩
  refine O.st (vs := (itv tr false)) rfl rfl Go.Proofs.Try.sizeOf156 rfl rfl rfl rfl rfl m2 ?_
  intro H3 W3
  replace hF := hF.trans' W3.fr (fun _ _ _ h => h) (fun b o hb hz => by have h1 := hz.1; omega)
  refine ⟨trivial, ?_⟩
  refine Pl.fin [(2, _)] ⟨rfl, trivial⟩ ?_
  refine Go'.ret (vs := [_]) Go.Proofs.Try.func143 Go.Proofs.Try.results143 ⟨⟨_, _, rfl, fun _ _ => run_loadVar_agg (fun w => ⟨Go.Proofs.Try.isAgg156 w, Go.Proofs.Try.sizeOf156 w⟩) rfl W3.all⟩, trivial⟩ ?_
  exact ⟨rfl, hF⟩

theorem iKey_spec {B : World} {H : Mem} {it : Nat} {kv : Int} (hk : Rd H it 6 (EI.enc kv)) : Fn Try.prog B 149 [.pointer (some ⟨it, 0, none⟩)] H (fun v H' => v = .int .i64 kv ∧ H' = H) := by
  refine fn_of Go.Proofs.Try.func149 rfl Go.Proofs.Try.ntmps149 ?_
  refine (show Go' _ _ _ _ 8 [(0, _)] [.code _] _ from ?_)
  refine Go'.seq ?_
  -- region 0 (map.go:1107)
  refine Go'.region [(0, 0)] rfl ?_
  refine O.asg rfl rfl rfl rfl rfl ?_
  refine Pl.fin [(0, _), (2, _)] ⟨rfl, rfl, trivial⟩ ?_
  refine Go'.seq ?_
  -- region 1 (map.go:1108)
  refine Go'.region [(0, 0), (1, 0), (2, 0), (3, 0), (4, 1), (5, 0)] rfl ?_
  refine O.mv rfl rfl rfl rfl rfl ?_
  refine O.nc rfl rfl rfl rfl rfl ?_
  refine O.fa0 (off := 6) rfl rfl rfl rfl ⟨_, _, _, Go.Proofs.Try.underlying156, rfl, rfl, Go.Proofs.Try.sizeOf138⟩ rfl ?_
  refine O.faz rfl rfl rfl rfl ⟨_, _, _, Go.Proofs.Try.underlying138, rfl, rfl, Go.Proofs.Try.sizeOf3⟩ rfl ?_
  refine O.ld rfl rfl rfl (fun w => ⟨Go.Proofs.Try.isAgg3 w, Go.Proofs.Try.sizeOf3 w⟩) rfl (hk 0 _ rfl) ?_
  refine O.asg rfl rfl rfl rfl rfl ?_
  refine Pl.fin [(2, _)] ⟨rfl, trivial⟩ ?_
  refine Go'.ret (vs := [_]) Go.Proofs.Try.func149 Go.Proofs.Try.results149 ⟨rfl, trivial⟩ ?_
  exact ⟨rfl, rfl⟩

end Go.Bt.FZ
namespace Go.Bt
open Go Go.Proofs
set_option maxRecDepth 20000
set_option maxHeartbeats 4000000
set_option linter.unusedVariables false

theorem st68 : StT Try.prog 68 [(0, 1), (1, 1)] [.int .i64 0, .int .i64 0] := ⟨⟨_, Try.underlying68, fun w => by simp [Array.mapM_eq_mapM_toList, Try.sizeOf3]⟩, Try.zeroValue68⟩
theorem st70 : StT Try.prog 70 [(0, 2), (2, 1)] [.int .i64 0, .int .i64 0, .bool false] := ⟨⟨_, Try.underlying70, fun w => by simp [Array.mapM_eq_mapM_toList, Try.sizeOf4, Try.sizeOf68]⟩, Try.zeroValue70⟩

theorem rank_spec {B : World} {H : Mem} {v : Value} {ord : List Int} {k : Int} (ho : InS EN H v ord) (hl : ord.length < 4611686018427387904) :
    Fn Try.prog B 155 [v, .int .i64 k] H (fun r H' => r = .int .i64 (rank ord k) ∧ H' = H) := by
  obtain ⟨a, c, rfl⟩ := ho.len
  refine fn_of Go.Proofs.Try.func155 rfl Go.Proofs.Try.ntmps155 ?_
  refine (show Go' _ _ _ _ 21 [(0, _), (1, _)] [.code _] _ from ?_)
  refine Go'.seq ?_
  -- region 0 (list.go:7)
  refine Go'.region [(0, 0)] rfl ?_
  refine O.asg rfl rfl rfl rfl rfl ?_
  refine Pl.fin [(0, _), (1, _), (4, _)] ⟨rfl, rfl, rfl, trivial⟩ ?_
  refine Go'.seq ?_
  -- region 1 (list.go:8)
  refine Go'.region [(0, 0), (1, 0), (2, 0)] rfl ?_
  refine O.mv rfl rfl rfl rfl rfl ?_
  refine O.len rfl rfl rfl rfl Go.Proofs.Try.underlying22 rfl ?_
  refine O.asg rfl rfl rfl rfl rfl ?_
  refine Pl.fin [(0, _), (1, _), (4, _), (5, _)] ⟨rfl, rfl, rfl, rfl, trivial⟩ ?_
  refine Go'.seq ?_
  refine Go'.seq ?_
  by_cases h0 : ord.length = 0
  · skip
    -- region 2 (list.go:9)
    refine Go'.region [(0, 0), (1, 0)] rfl ?_
    refine O.mv rfl rfl rfl rfl rfl ?_
    refine O.cmp rfl rfl rfl rfl rfl rfl (eqlT (by omega)) ?_
    refine Pl.fin [(0, _), (1, _), (4, _), (5, _), (9, _)] ⟨rfl, rfl, rfl, rfl, rfl, trivial⟩ ?_
    refine Go'.condT rfl ?_
    refine Go'.seq ?_
    -- region 3 (list.go:10)
    refine Go'.region [(0, 0), (1, 0)] rfl ?_
    refine O.mv rfl rfl rfl rfl rfl ?_
    refine O.asg rfl rfl rfl rfl rfl ?_
    refine Pl.fin [(0, _), (1, _), (4, _), (5, _)] ⟨rfl, rfl, rfl, rfl, trivial⟩ ?_
    refine Go'.ret (vs := [_]) Go.Proofs.Try.func155 Go.Proofs.Try.results155 ⟨rfl, trivial⟩ ?_
    refine ⟨?_, rfl⟩
    unfold rank; rw [if_pos h0]; rfl
  · skip
    have hp : (0 : Int) < ord.length := by omega
    have b1 := Int.tmod_lt_of_pos k hp
    have b2 : -(ord.length : Int) < k.tmod ord.length := by
      have := Int.lt_tmod_of_pos k hp
      omega
    have b3 := Int.tmod_lt_of_pos (k.tmod ord.length + ord.length) hp
    have b4 : 0 ≤ (k.tmod ord.length + ord.length).tmod ord.length := Int.tmod_nonneg _ (by omega)
    obtain ⟨j, hj⟩ := Int.eq_ofNat_of_zero_le b4
    obtain ⟨z, hz⟩ : ∃ z, ord[j]? = some z := ⟨ord[j]'(by omega), List.getElem?_eq_getElem (by omega)⟩
    obtain ⟨b, o, c', e, hr⟩ := ho.at hz
    cases e
    -- region 2 (list.go:9)
    refine Go'.region [(0, 0), (1, 0)] rfl ?_
    refine O.mv rfl rfl rfl rfl rfl ?_
    refine O.cmp rfl rfl rfl rfl rfl rfl (eqlF (by omega)) ?_
    refine Pl.fin [(0, _), (1, _), (4, _), (5, _), (9, _)] ⟨rfl, rfl, rfl, rfl, rfl, trivial⟩ ?_
    refine Go'.condF rfl ?_
    refine Go'.skip ?_
    refine Go'.seq ?_
    -- region 4 (list.go:12)
    refine Go'.region [(0, 0), (1, 0), (2, 0), (3, 0), (4, 0), (5, 0), (6, 0), (7, 0), (8, 0), (9, 1), (10, 0)] rfl ?_
    refine O.mv rfl rfl rfl rfl rfl ?_
    refine O.mv rfl rfl rfl rfl rfl ?_
    refine O.mv rfl rfl rfl rfl rfl ?_
    refine O.rem (k.tmod ord.length) rfl rfl rfl rfl rfl rfl (by omega) rfl ?_
    refine O.mv rfl rfl rfl rfl rfl ?_
    refine O.add ((k.tmod ord.length + ord.length)) rfl rfl rfl rfl rfl rfl (by omega) (by omega) ?_
    refine O.mv rfl rfl rfl rfl rfl ?_
    refine O.rem ((j : Int)) rfl rfl rfl rfl rfl rfl (by omega) hj ?_
    refine O.ix (j := j) rfl rfl rfl rfl Go.Proofs.Try.underlying22 Go.Proofs.Try.sizeOf3 rfl rfl (by omega) (by omega) ?_
    refine O.ld rfl rfl rfl (fun w => ⟨Go.Proofs.Try.isAgg3 w, Go.Proofs.Try.sizeOf3 w⟩) rfl (hr 0 _ rfl) ?_
    refine O.asg rfl rfl rfl rfl rfl ?_
    refine Pl.fin [(4, _)] ⟨rfl, trivial⟩ ?_
    refine Go'.ret (vs := [_]) Go.Proofs.Try.func155 Go.Proofs.Try.results155 ⟨rfl, trivial⟩ ?_
    refine ⟨?_, rfl⟩
    unfold rank; rw [if_neg h0, hj, Int.toNat_natCast, List.getD_eq_getElem?_getD, hz]; rfl

theorem before_spec {B : World} {H : Mem} {v : Value} {ord : List Int} {x y : Int × Int} (ho : InS EN H v ord) (hl : ord.length < 4611686018427387904) :
    Fn Try.prog B 125 [v, .agg (EJ.enc x).toArray, .agg (EJ.enc y).toArray] H (fun r H' => r = .bool ((OO ord).lt x y) ∧ Fr nowhere H H') := by
  have hF : Fr nowhere H H := Fr.refl _ _
  refine fn_of Go.Proofs.Try.func125 rfl Go.Proofs.Try.ntmps125 ?_
  refine (show Go' _ _ _ _ 16 [(0, _), (1, _), (2, _)] [.code _] _ from ?_)
  refine Go'.seq ?_
  -- region 0 (list.go:16)
  refine Go'.region [(0, 2), (1, 2), (2, 0)] rfl ?_
  refine O.box rfl rfl rfl rfl ?_
  intro H1 M1
  refine ⟨trivial, ?_⟩
  replace ho := ho.fr (M1.fr nowhere)
  replace hF := hF.trans' (M1.fr nowhere) (fun _ _ _ h => h) (fun _ _ _ h => h.elim)
  have mi : Rd H1 H.size 0 (EJ.enc x) := M1.rd _ [] (by simp [Value.cells])
  refine O.box rfl rfl rfl rfl ?_
  intro H2 M2
  refine ⟨trivial, ?_⟩
  replace ho := ho.fr (M2.fr nowhere)
  replace mi := (M2.fr nowhere).rd mi (fun _ _ => nw)
  replace hF := hF.trans' (M2.fr nowhere) (fun _ _ _ h => h) (fun _ _ _ h => h.elim)
  have mj : Rd H2 H1.size 0 (EJ.enc y) := M2.rd _ [] (by simp [Value.cells])
  refine O.asg rfl rfl rfl rfl rfl ?_
  refine Pl.fin [(0, _), (4, _), (5, _), (6, _)] ⟨rfl, rfl, rfl, rfl, trivial⟩ ?_
  refine Go'.seq ?_
  -- region 1 (list.go:16)
  refine Go'.draw (fun H' => Rd H' H.size 0 (EJ.enc x) ∧ Rd H' H1.size 0 (EJ.enc y)) [(0, 0), (1, 0), (2, 1), (4, 0), (5, 0), (6, 0), (3, 2), (7, 2), (8, 0), (9, 0)] (by kernel_rfl) (by kernel_rfl) (⟨mi, mj⟩) ?_
  refine O.mv rfl rfl rfl rfl rfl ?_
  refine O.faz rfl rfl rfl rfl ⟨_, _, _, Go.Proofs.Try.underlying68, rfl, rfl, Go.Proofs.Try.sizeOf3⟩ rfl ?_
  refine O.ld rfl rfl rfl (fun w => ⟨Go.Proofs.Try.isAgg3 w, Go.Proofs.Try.sizeOf3 w⟩) rfl (mi 0 _ rfl) ?_
  refine O.mv rfl rfl rfl rfl rfl ?_
  refine O.faz rfl rfl rfl rfl ⟨_, _, _, Go.Proofs.Try.underlying68, rfl, rfl, Go.Proofs.Try.sizeOf3⟩ rfl ?_
  refine O.ldC rfl rfl rfl (fun w => ⟨Go.Proofs.Try.isAgg3 w, Go.Proofs.Try.sizeOf3 w⟩) rfl (fun _ h => h.2 0 _ rfl) ?_
  refine O.callQ rfl rfl rfl Go.Proofs.Try.call155 rfl (rank_spec ho hl) ⟨mi, mj⟩ ?_
  refine O.callQ rfl rfl rfl Go.Proofs.Try.call155 rfl (rank_spec ho hl) ⟨mi, mj⟩ ?_
  refine O.cmp rfl rfl rfl rfl rfl rfl (show cmpOf .lss _ _ = some ((OO ord).lt x y) from rfl) ?_
  refine O.asg rfl rfl rfl rfl rfl ?_
  refine Pl.fin [(6, _)] ⟨rfl, trivial⟩ ?_
  refine Go'.ret (vs := [_]) Go.Proofs.Try.func125 Go.Proofs.Try.results125 ⟨rfl, trivial⟩ ?_
  exact ⟨rfl, hF⟩

theorem place_spec {B : World} {H : Mem} {v u : Value} {ord : List Int} {l : List (Int × Int)} {x : Int × Int} (ho : InS EN H v ord) (hl : ord.length < 4611686018427387904) (hi : InS EJ H u l) (hs : Pl.Srt (OO ord) l) (hll : l.length < 4611686018427387904) :
    Fn Try.prog B 89 [v, u, .agg (EJ.enc x).toArray] H (fun r H' => r = .tuple #[.int .i64 ((Pl.pos (OO ord) x l : Nat) : Int), .bool (Pl.fnd (OO ord) x l)] ∧ Fr nowhere H H') := by
  have hF : Fr nowhere H H := Fr.refl _ _
  obtain ⟨a, c, hu⟩ := hi.len
  subst hu
  refine fn_of Go.Proofs.Try.func89 rfl Go.Proofs.Try.ntmps89 ?_
  refine (show Go' _ _ _ _ 39 [(0, _), (1, _), (2, _)] [.code _] _ from ?_)
  refine Go'.seq ?_
  -- region 0 (list.go:39)
  refine Go'.region [(0, 2), (1, 0), (2, 0)] rfl ?_
  refine O.box rfl rfl rfl rfl ?_
  intro H1 M1
  refine ⟨trivial, ?_⟩
  replace ho := ho.fr (M1.fr nowhere)
  replace hi := hi.fr (M1.fr nowhere)
  replace hF := hF.trans' (M1.fr nowhere) (fun _ _ _ h => h) (fun _ _ _ h => h.elim)
  have mi : Rd H1 H.size 0 (EJ.enc x) := M1.rd _ [] (by simp [Value.cells])
  refine O.asg rfl rfl rfl rfl rfl ?_
  refine O.asg rfl rfl rfl rfl rfl ?_
  refine Pl.fin [(0, _), (1, _), (5, _), (6, _), (7, _)] ⟨rfl, rfl, rfl, rfl, rfl, trivial⟩ ?_
  refine Go'.seq ?_
  -- region 1 (list.go:40)
  refine Go'.region [(0, 0)] rfl ?_
  refine O.asg rfl rfl rfl rfl rfl ?_
  refine Pl.fin [(0, _), (1, _), (5, _), (6, _), (7, _), (8, _)] ⟨rfl, rfl, rfl, rfl, rfl, rfl, trivial⟩ ?_
  refine Go'.seq ?_
  refine Go'.block ?_
  refine Go'.loop ?_
  refine Go'.keep [(0, _), (1, _), (5, _), (8, _)] ⟨rfl, rfl, rfl, rfl, trivial⟩ ?_
  refine Go'.ind (σ := Nat) (fun j => l.length - j) (fun j H' => Fr nowhere H1 H' ∧ j ≤ l.length ∧ ∀ i y, l[i]? = some y → i < j → (OO ord).lt y x = true)
    (fun j => [(0, v), (1, .slice a l.length c), (5, .pointer (some ⟨H.size, 0, none⟩)), (8, .int .i64 (j : Int))]) 0 ⟨Fr.refl _ _, Nat.zero_le _, fun i y _ h => by omega⟩ rfl ?_
  rintro j H2 ⟨hF2, hjl, hlo⟩ ih
  replace ho := ho.fr hF2
  replace hi := hi.fr hF2
  replace mi := hF2.rd mi (fun _ _ => nw)
  replace hF := hF.trans hF2
  refine Go'.seq ?_
  refine Go'.seq ?_
  by_cases hlt : j < l.length
  · skip
    obtain ⟨y, hy⟩ : ∃ y, l[j]? = some y := ⟨l[j], List.getElem?_eq_getElem hlt⟩
    obtain ⟨b, o, c', e, hr⟩ := hi.at hy
    cases e
    -- region 2 (list.go:41)
    refine Go'.draw (fun _ => True) [(0, 0), (1, 0), (2, 0), (3, 0), (4, 0), (5, 0), (6, 0), (7, 0), (8, 0), (9, 1), (10, 1), (11, 2), (12, 0)] (by kernel_rfl) (by kernel_rfl) (trivial) ?_
    refine O.mv rfl rfl rfl rfl rfl ?_
    refine O.mv rfl rfl rfl rfl rfl ?_
    refine O.len rfl rfl rfl rfl Go.Proofs.Try.underlying74 rfl ?_
    refine O.cmp rfl rfl rfl rfl rfl rfl (lssT (by omega)) ?_
    refine O.mv rfl rfl rfl rfl rfl ?_
    refine O.mv rfl rfl rfl rfl rfl ?_
    refine O.mv rfl rfl rfl rfl rfl ?_
    refine O.mv rfl rfl rfl rfl rfl ?_
    refine O.ix (j := j) rfl rfl rfl rfl Go.Proofs.Try.underlying74 Go.Proofs.Try.sizeOf68 rfl rfl (by omega) hlt ?_
    refine O.lds rfl rfl rfl (fun w => ⟨Go.Proofs.Try.isAgg68 w, Go.Proofs.Try.sizeOf68 w⟩) rfl rfl hr ?_
    refine O.lds rfl rfl rfl (fun w => ⟨Go.Proofs.Try.isAgg68 w, Go.Proofs.Try.sizeOf68 w⟩) rfl rfl mi ?_
    refine O.call rfl rfl rfl Go.Proofs.Try.call125 rfl (before_spec ho hl) ?_
    rintro _ H3 ⟨rfl, hF3⟩
    refine ⟨trivial, ?_⟩
    refine O.pick rfl rfl rfl rfl rfl rfl ?_
    refine Pl.fin [(0, _), (1, _), (5, _), (8, _), (21, _)] ⟨rfl, rfl, rfl, rfl, rfl, trivial⟩ ?_
    cases hyx : (OO ord).lt y x
    · -- the place
      refine Go'.condF rfl ?_
      refine Go'.exit rfl ?_
      refine Go'.seq ?_
      replace ho := ho.fr hF3
      replace hr := hF3.rd hr (fun _ _ => nw)
      replace mi := hF3.rd mi (fun _ _ => nw)
      replace hF := hF.trans hF3
      have hpos : Pl.pos (OO ord) x l = j := by
        have e : l = l.take j ++ y :: l.drop (j + 1) := Bt.split_item hy
        have h2 := Pl.pos_eq (OO ord) (x := x) (a := l.take j) (b := y :: l.drop (j + 1)) (fun z hz => by
          obtain ⟨i, hi2, rfl⟩ := List.mem_iff_getElem.1 hz
          rw [List.length_take] at hi2
          exact hlo i _ (by rw [List.getElem?_eq_getElem (by omega), List.getElem_take]) (by omega)) (fun z hz => by simp only [List.head?_cons, Option.some.injEq] at hz; subst hz; exact hyx)
        rw [← e, List.length_take] at h2
        omega
      have hfnd : Pl.fnd (OO ord) x l = !(OO ord).lt x y := by unfold Pl.fnd; rw [hpos, hy]
      -- region 4 (list.go:44)
      refine Go'.draw (fun _ => True) [(0, 0), (1, 0), (2, 0), (3, 0), (4, 0), (5, 0), (6, 0), (7, 1), (8, 0), (9, 0), (10, 0), (11, 1), (12, 2), (13, 0), (14, 0), (15, 0), (16, 0)] (by kernel_rfl) (by kernel_rfl) (trivial) ?_
      refine O.mv rfl rfl rfl rfl rfl ?_
      refine O.mv rfl rfl rfl rfl rfl ?_
      refine O.mv rfl rfl rfl rfl rfl ?_
      refine O.len rfl rfl rfl rfl Go.Proofs.Try.underlying74 rfl ?_
      refine O.cmp rfl rfl rfl rfl rfl rfl (lssT (by omega)) ?_
      refine O.mv rfl rfl rfl rfl rfl ?_
      refine O.mv rfl rfl rfl rfl rfl ?_
      refine O.lds rfl rfl rfl (fun w => ⟨Go.Proofs.Try.isAgg68 w, Go.Proofs.Try.sizeOf68 w⟩) rfl rfl mi ?_
      refine O.mv rfl rfl rfl rfl rfl ?_
      refine O.mv rfl rfl rfl rfl rfl ?_
      refine O.ix (j := j) rfl rfl rfl rfl Go.Proofs.Try.underlying74 Go.Proofs.Try.sizeOf68 rfl rfl (by omega) hlt ?_
      refine O.lds rfl rfl rfl (fun w => ⟨Go.Proofs.Try.isAgg68 w, Go.Proofs.Try.sizeOf68 w⟩) rfl rfl hr ?_
      refine O.call rfl rfl rfl Go.Proofs.Try.call125 rfl (before_spec ho hl) ?_
      rintro _ H4 ⟨rfl, hF4⟩
      refine ⟨trivial, ?_⟩
      refine O.not rfl rfl rfl rfl rfl ?_
      refine O.pick rfl rfl rfl rfl rfl rfl ?_
      refine O.asg rfl rfl rfl rfl rfl ?_
      refine O.asg rfl rfl rfl rfl rfl ?_
      refine Pl.fin [(6, _), (7, _)] ⟨rfl, rfl, trivial⟩ ?_
      refine Go'.ret (vs := [_, _]) Go.Proofs.Try.func89 Go.Proofs.Try.results89 ⟨rfl, rfl, trivial⟩ ?_
      exact ⟨by rw [hpos, hfnd]; rfl, hF.trans hF4⟩
    · -- on
      refine Go'.condT rfl ?_
      refine Go'.skip ?_
      refine Go'.block ?_
      -- region 3 (list.go:42)
      refine Go'.region [(0, 0), (1, 0), (2, 0)] rfl ?_
      refine O.mv rfl rfl rfl rfl rfl ?_
      refine O.add (((j + 1 : Nat) : Int)) rfl rfl rfl rfl rfl rfl (by omega) (by omega) ?_
      refine O.asg rfl rfl rfl rfl rfl ?_
      refine Pl.fin [(0, _), (1, _), (5, _), (8, _), (21, _)] ⟨rfl, rfl, rfl, rfl, rfl, trivial⟩ ?_
      refine Go'.inBlock ?_
      refine Go'.keep [(0, _), (1, _), (5, _), (8, _)] ⟨rfl, rfl, rfl, rfl, trivial⟩ ?_
      refine Go'.inLoop ?_
      exact ih (j + 1) H3 ⟨hF2.trans hF3, hlt, fun i z hz hij => by
        rcases Nat.lt_or_ge i j with h | h
        · exact hlo i z hz h
        · obtain rfl : i = j := by omega
          rw [hy] at hz; cases hz; exact hyx⟩ (by omega)
  · -- behind all
    obtain rfl : j = l.length := by omega
    have hpos : Pl.pos (OO ord) x l = l.length := by
      have h2 := Pl.pos_eq (OO ord) (x := x) (a := l) (b := []) (fun z hz => by
        obtain ⟨i, hi2, rfl⟩ := List.mem_iff_getElem.1 hz
        exact hlo i _ (List.getElem?_eq_getElem hi2) hi2) (fun z hz => by simp at hz)
      rw [List.append_nil] at h2
      exact h2
    have hfnd : Pl.fnd (OO ord) x l = false := by unfold Pl.fnd; rw [hpos, List.getElem?_eq_none (Nat.le_refl _)]
    -- region 2 (list.go:41)
    refine Go'.draw (fun _ => True) [(0, 0), (1, 0), (2, 0), (3, 0), (4, 0), (5, 0), (6, 0), (7, 0), (8, 0), (9, 1), (10, 1), (11, 2), (12, 0)] (by kernel_rfl) (by kernel_rfl) (trivial) ?_
    refine O.mv rfl rfl rfl rfl rfl ?_
    refine O.mv rfl rfl rfl rfl rfl ?_
    refine O.len rfl rfl rfl rfl Go.Proofs.Try.underlying74 rfl ?_
    refine O.cmp rfl rfl rfl rfl rfl rfl (lssF (by omega)) ?_
    refine O.mv rfl rfl rfl rfl rfl ?_
    refine Pl.pass rfl rfl rfl rfl ?_
    refine Pl.pass rfl rfl rfl rfl ?_
    refine Pl.pass rfl rfl rfl rfl ?_
    refine Pl.pass rfl rfl rfl rfl ?_
    refine Pl.pass rfl rfl rfl rfl ?_
    refine Pl.pass rfl rfl rfl rfl ?_
    refine Pl.pass2 rfl rfl rfl rfl trivial ?_
    refine O.pick rfl rfl rfl rfl rfl rfl ?_
    refine Pl.fin [(0, _), (1, _), (5, _), (8, _), (21, _)] ⟨rfl, rfl, rfl, rfl, rfl, trivial⟩ ?_
    refine Go'.condF rfl ?_
    refine Go'.exit rfl ?_
    refine Go'.seq ?_
    -- region 4 (list.go:44)
    refine Go'.draw (fun _ => True) [(0, 0), (1, 0), (2, 0), (3, 0), (4, 0), (5, 0), (6, 0), (7, 1), (8, 0), (9, 0), (10, 0), (11, 1), (12, 2), (13, 0), (14, 0), (15, 0), (16, 0)] (by kernel_rfl) (by kernel_rfl) (trivial) ?_
    refine O.mv rfl rfl rfl rfl rfl ?_
    refine O.mv rfl rfl rfl rfl rfl ?_
    refine O.mv rfl rfl rfl rfl rfl ?_
    refine O.len rfl rfl rfl rfl Go.Proofs.Try.underlying74 rfl ?_
    refine O.cmp rfl rfl rfl rfl rfl rfl (lssF (by omega)) ?_
    refine O.mv rfl rfl rfl rfl rfl ?_
    refine Pl.pass rfl rfl rfl rfl ?_
    refine Pl.pass rfl rfl rfl rfl ?_
    refine Pl.pass rfl rfl rfl rfl ?_
    refine Pl.pass rfl rfl rfl rfl ?_
    refine Pl.pass rfl rfl rfl rfl ?_
    refine Pl.pass rfl rfl rfl rfl ?_
    refine Pl.pass2 rfl rfl rfl rfl trivial ?_
    refine Pl.pass rfl rfl rfl rfl ?_
    refine O.pick rfl rfl rfl rfl rfl rfl ?_
    refine O.asg rfl rfl rfl rfl rfl ?_
    refine O.asg rfl rfl rfl rfl rfl ?_
    refine Pl.fin [(6, _), (7, _)] ⟨rfl, rfl, trivial⟩ ?_
    refine Go'.ret (vs := [_, _]) Go.Proofs.Try.func89 Go.Proofs.Try.results89 ⟨rfl, rfl, trivial⟩ ?_
    exact ⟨by rw [hpos, hfnd]; rfl, hF⟩

end Go.Bt
namespace Go.Bt
open Go Go.Proofs
set_option maxRecDepth 20000
set_option maxHeartbeats 4000000
set_option linter.unusedVariables false

theorem put_specA {B : World} {H : Mem} {v u : Value} {ord : List Int} {l : List (Int × Int)} {x : Int × Int} (ho : InS EN H v ord) (hl : ord.length < 4611686018427387904) (hi : InS EJ H u l) (hs : Pl.Srt (OO ord) l) (hll : l.length ≤ 4294967296) :
    Fn Try.prog B 112 [v, u, .agg (EJ.enc x).toArray] H (fun r H' => ∃ sv, r = .tuple #[sv, FV (Pl.got (OO ord) x l)] ∧ Acc EJ (fun b => H.size ≤ b) H' sv (Pl.put (OO ord) x l) ∧ Fr nowhere H H') := by
  have hF : Fr nowhere H H := Fr.refl _ _
  have hple := Pl.pos_le (OO ord) x l
  have hi0 := hi
  refine fn_of Go.Proofs.Try.func112 rfl Go.Proofs.Try.ntmps112 ?_
  refine (show Go' _ _ _ _ 45 [(0, _), (1, _), (2, _)] [.code _] _ from ?_)
  refine Go'.seq ?_
  -- region 0 (list.go:48)
  refine Go'.region [(0, 2), (1, 0), (2, 2)] rfl ?_
  refine O.box rfl rfl rfl rfl ?_
  intro H1 M1
  refine ⟨trivial, ?_⟩
  have hs1 := M1.size
  replace ho := ho.fr (M1.fr nowhere)
  replace hi := hi.fr (M1.fr nowhere)
  replace hF := hF.trans' (M1.fr nowhere) (fun _ _ _ h => h) (fun _ _ _ h => h.elim)
  have mi : Rd H1 H.size 0 (EJ.enc x) := M1.rd _ [] (by simp [Value.cells])
  refine O.asg rfl rfl rfl rfl rfl ?_
  refine O.alloc rfl rfl rfl Go.Proofs.Try.zeroValue70 ?_
  intro H2 M2
  refine ⟨trivial, ?_⟩
  have hs2 := M2.size
  replace ho := ho.fr (M2.fr nowhere)
  replace hi := hi.fr (M2.fr nowhere)
  replace mi := (M2.fr nowhere).rd mi (fun _ _ => nw)
  replace hF := hF.trans' (M2.fr nowhere) (fun _ _ _ h => h) (fun _ _ _ h => h.elim)
  have m7 : Wr H2 H1.size 0 3 := M2.wr 3 (by decide)
  refine Pl.fin [(0, _), (1, _), (5, _), (6, _), (7, _)] ⟨rfl, rfl, rfl, rfl, rfl, trivial⟩ ?_
  refine Go'.seq ?_
  -- region 1 (list.go:49)
  refine Go'.region [(0, 0), (1, 0), (2, 1), (3, 2), (4, 0), (5, 0), (6, 0), (7, 0), (8, 0)] rfl ?_
  refine O.mv rfl rfl rfl rfl rfl ?_
  refine O.mv rfl rfl rfl rfl rfl ?_
  refine O.lds rfl rfl rfl (fun w => ⟨Go.Proofs.Try.isAgg68 w, Go.Proofs.Try.sizeOf68 w⟩) rfl rfl mi ?_
  refine O.call rfl rfl rfl Go.Proofs.Try.call89 rfl (place_spec ho hl hi hs (by omega)) ?_
  rintro _ H3 ⟨rfl, hF3⟩
  have hs3 := hF3.size
  replace ho := ho.fr hF3
  replace hi := hi.fr hF3
  replace mi := hF3.rd mi (fun _ _ => nw)
  replace m7 := hF3.wr m7
  replace hF := hF.trans' hF3 (fun _ _ _ h => h) (fun _ _ _ h => h.elim)
  refine ⟨trivial, ?_⟩
  refine O.mv rfl rfl rfl rfl rfl ?_
  refine O.ext rfl rfl rfl rfl rfl rfl ?_
  refine O.ext rfl rfl rfl rfl rfl rfl ?_
  refine O.asg rfl rfl rfl rfl rfl ?_
  refine O.asg rfl rfl rfl rfl rfl ?_
  refine Pl.fin [(1, _), (5, _), (6, _), (7, _), (8, _), (9, _)] ⟨rfl, rfl, rfl, rfl, rfl, rfl, trivial⟩ ?_
  refine Go'.seq ?_
  generalize hpi : Pl.pos (OO ord) x l = i at *
  -- region 2 (list.go:50)
  refine Go'.region [(0, 2), (1, 0), (2, 0), (3, 0), (4, 2), (5, 0)] rfl ?_
  refine O.bsl (cs := []) rfl rfl rfl ⟨Go.Proofs.Try.underlying74, Go.Proofs.Try.sizeOf68, Go.Proofs.Try.zeroValue68, ⟨_, Go.Proofs.Try.typeInfo68, rfl⟩, rfl, by decide, by decide⟩ rfl (by decide) (by kernel_rfl) ?_
  intro H4 M4
  have hs4 := M4.size
  replace ho := ho.fr (M4.fr nowhere)
  replace hi := hi.fr (M4.fr nowhere)
  replace mi := (M4.fr nowhere).rd mi (fun _ _ => nw)
  replace m7 := (M4.fr nowhere).wr m7
  replace hF := hF.trans' (M4.fr nowhere) (fun _ _ _ h => h) (fun _ _ _ h => h.elim)
  refine ⟨trivial, ?_⟩
  refine O.mv rfl rfl rfl rfl rfl ?_
  refine O.mv rfl rfl rfl rfl rfl ?_
  refine O.slcIn (E := EJ) (jl := 0) (jh := i) rfl rfl rfl rfl Go.Proofs.Try.underlying74 Go.Proofs.Try.sizeOf68 rfl hi ⟨_, by rfl⟩ rfl (by omega) (by omega) ?_
  intro v1 hv1
  rw [List.drop_zero, Nat.sub_zero] at hv1
  have hl1 : (l.take i).length = i := by rw [List.length_take]; omega
  refine O.app (m := (l.take i).length) (news := (row EJ (l.take i))) rfl rfl rfl ⟨Go.Proofs.Try.underlying74, Go.Proofs.Try.sizeOf68, Go.Proofs.Try.zeroValue68, ⟨_, Go.Proofs.Try.typeInfo68, rfl⟩, rfl, by decide, by decide⟩ rfl (Sl.none _ _ _ _) rfl hv1.src (row_len EJ _) (row_ones EJ _) (Nat.le_trans (Nat.mul_le_mul_left _ (Nat.le_of_ble_eq_true (n := _) (m := 4096) rfl)) (by omega)) (by omega) ?_
  intro b1 o1 c1 H5 ha
  have hsz5 := ha.fr.size
  have hsl1 : SlE EJ H5 b1 o1 c1 (l.take i) := SlE.of ha.sl (by rw [List.nil_append]) (Nat.zero_add _)
  have hb1 : H.size + 2 ≤ b1 := by rcases ha.place with ⟨r, _⟩ | ⟨r, _⟩ <;> omega
  replace ho := ho.fr ha.quiet
  replace hi := hi.fr ha.quiet
  replace mi := ha.quiet.rd mi (fun _ _ => nw)
  replace m7 := ha.quiet.wr m7
  replace hF := hF.trans' ha.quiet (fun _ _ _ h => h) (fun _ _ _ h => h.elim)
  refine ⟨trivial, ?_⟩
  refine O.asg rfl rfl rfl rfl rfl ?_
  refine Pl.fin [(1, _), (5, _), (6, _), (7, _), (8, _), (9, _), (10, _)] ⟨rfl, rfl, rfl, rfl, rfl, rfl, rfl, trivial⟩ ?_
  refine Go'.seq ?_
  rw [Nat.zero_add]
  -- region 3 (list.go:51)
  refine Go'.region [(0, 0), (1, 1), (2, 2), (3, 2), (4, 0)] rfl ?_
  refine O.mv rfl rfl rfl rfl rfl ?_
  refine O.lds rfl rfl rfl (fun w => ⟨Go.Proofs.Try.isAgg68 w, Go.Proofs.Try.sizeOf68 w⟩) rfl rfl mi ?_
  refine O.bsl (cs := (EJ.enc x)) rfl rfl rfl ⟨Go.Proofs.Try.underlying74, Go.Proofs.Try.sizeOf68, Go.Proofs.Try.zeroValue68, ⟨_, Go.Proofs.Try.typeInfo68, rfl⟩, rfl, by decide, by decide⟩ rfl (by decide) (by kernel_rfl) ?_
  intro H6 M6
  have hs6 := M6.size
  replace ho := ho.fr (M6.fr nowhere)
  replace hi := hi.fr (M6.fr nowhere)
  replace mi := (M6.fr nowhere).rd mi (fun _ _ => nw)
  replace m7 := (M6.fr nowhere).wr m7
  replace hF := hF.trans' (M6.fr nowhere) (fun _ _ _ h => h) (fun _ _ _ h => h.elim)
  replace hsl1 := hsl1.fr (M6.fr nowhere) (fun _ _ _ => nw)
  have m6 : Rd H6 H5.size 0 (EJ.enc x) := M6.rd _ [] (by simp)
  refine ⟨trivial, ?_⟩
  refine O.app (m := 1) (news := (EJ.enc x)) rfl rfl rfl ⟨Go.Proofs.Try.underlying74, Go.Proofs.Try.sizeOf68, Go.Proofs.Try.zeroValue68, ⟨_, Go.Proofs.Try.typeInfo68, rfl⟩, rfl, by decide, by decide⟩ rfl hsl1 rfl (.inl ⟨_, _, _, rfl, m6⟩) rfl rfl (Nat.le_trans (Nat.mul_le_mul_left _ (Nat.le_of_ble_eq_true (n := _) (m := 4096) rfl)) (by omega)) (by omega) ?_
  intro b2 o2 c2 H7 ha2
  have hsz7 := ha2.fr.size
  have hsl2 : Sl H7 b2 o2 ((l.take i).length + 1) c2 2 (row EJ (l.take i ++ [x])) := by rw [row_append, row_one]; exact ha2.sl
  have hb2 : H.size + 2 ≤ b2 := by rcases ha2.place with ⟨r, _⟩ | ⟨r, _⟩ <;> omega
  replace m7 := ha2.fr.wr m7
  replace hF := hF.trans' ha2.fr (fun _ _ _ h => h) (fun b o hb hz => by have h1 := hz.1; omega)
  replace hi := hi0.fr hF
  refine ⟨trivial, ?_⟩
  refine O.asg rfl rfl rfl rfl rfl ?_
  refine Pl.fin [(1, _), (6, _), (7, _), (8, _), (9, _), (10, _)] ⟨rfl, rfl, rfl, rfl, rfl, rfl, trivial⟩ ?_
  refine Go'.seq ?_
  refine Go'.seq ?_
  -- region 4 (list.go:52)
  refine Go'.region [(0, 0)] rfl ?_
  refine O.mv rfl rfl rfl rfl rfl ?_
  refine Pl.fin [(1, _), (6, _), (7, _), (8, _), (10, _), (27, _)] ⟨rfl, rfl, rfl, rfl, rfl, rfl, trivial⟩ ?_
  cases hfd : Pl.fnd (OO ord) x l
  · -- new
    refine Go'.condF rfl ?_
    refine Go'.skip ?_
    refine Go'.seq ?_
    -- region 6 (list.go:55)
    refine Go'.region [(0, 0), (1, 0), (2, 0), (3, 0), (4, 2), (5, 0), (6, 0), (7, 2)] rfl ?_
    refine O.mv rfl rfl rfl rfl rfl ?_
    refine O.mv rfl rfl rfl rfl rfl ?_
    refine O.mv rfl rfl rfl rfl rfl ?_
    refine O.slcIn (E := EJ) (jl := i) (jh := l.length) rfl rfl rfl rfl Go.Proofs.Try.underlying74 Go.Proofs.Try.sizeOf68 rfl hi rfl ⟨_, by rfl⟩ (by omega) (by omega) ?_
    intro v2 hv2
    rw [List.take_of_length_le (by rw [List.length_drop]; omega)] at hv2
    refine O.app (m := (l.drop i).length) (news := (row EJ (l.drop i))) rfl rfl rfl ⟨Go.Proofs.Try.underlying74, Go.Proofs.Try.sizeOf68, Go.Proofs.Try.zeroValue68, ⟨_, Go.Proofs.Try.typeInfo68, rfl⟩, rfl, by decide, by decide⟩ rfl hsl2 rfl hv2.src (row_len EJ _) (row_ones EJ _) (Nat.le_trans (Nat.mul_le_mul_left _ (Nat.le_of_ble_eq_true (n := _) (m := 4096) rfl)) (by rw [List.length_drop]; omega)) (by rw [List.length_drop]; omega) ?_
    intro b3 o3 c3 H8 ha3
    have hsz8 := ha3.fr.size
    have hsl3 : SlE EJ H8 b3 o3 c3 (l.take i ++ [x] ++ l.drop i) := SlE.of ha3.sl (by rw [← row_append]) (by rw [List.length_append, List.length_append]; rfl)
    have hb3 : H.size + 2 ≤ b3 := by rcases ha3.place with ⟨r, _⟩ | ⟨r, _⟩ <;> omega
    replace m7 := ha3.fr.wr m7
    replace hF := hF.trans' ha3.fr (fun _ _ _ h => h) (fun b o hb hz => by have h1 := hz.1; omega)
    refine ⟨trivial, ?_⟩
    refine O.bld (cs := (fvs none)) rfl rfl rfl rfl (st70) rfl (by kernel_rfl) ?_
    refine O.asg rfl rfl rfl rfl rfl ?_
    refine O.st rfl rfl Go.Proofs.Try.sizeOf70 rfl rfl rfl rfl rfl m7 ?_
    intro H9 W9
    replace hsl3 := hsl3.fr W9.fr (fun _ _ _ => nr (.inl (by omega)))
    replace hF := hF.trans' W9.fr (fun _ _ _ h => h) (fun b o hb hz => by have h1 := hz.1; omega)
    have hfin : Pl.put (OO ord) x l = l.take i ++ [x] ++ l.drop (i + (Pl.fnd (OO ord) x l).toNat) := by unfold Pl.put; rw [hpi]; simp
    refine ⟨trivial, ?_⟩
    refine Pl.fin [(6, _), (7, _)] ⟨rfl, rfl, trivial⟩ ?_
    refine Go'.ret (vs := [_, _]) Go.Proofs.Try.func112 Go.Proofs.Try.results112 ⟨rfl, ⟨_, _, rfl, fun _ _ => run_loadVar_agg (fun w => ⟨Go.Proofs.Try.isAgg70 w, Go.Proofs.Try.sizeOf70 w⟩) rfl W9.all⟩, trivial⟩ ?_
    refine ⟨_, by rw [Pl.got_none _ hfd]; rfl, .inr ⟨b3, o3, c3, ?_, by omega, hsl3.lt (by have h1 := hsl3.hle; simp only [List.length_append, List.length_cons, List.length_nil] at h1; show 0 < c3 * 2; omega), ?_⟩, hF⟩
    · rw [hfin, hfd]; simp only [Bool.toNat_false, Nat.add_zero, List.length_append]; rfl
    · rw [hfin, hfd]; exact hsl3
  · -- there is one
    refine Go'.condT rfl ?_
    refine Go'.seq ?_
    obtain ⟨y, hy, _, _⟩ := Pl.fnd_at (OO ord) hs hfd
    rw [hpi] at hy
    have hil : i < l.length := (List.getElem?_eq_some_iff.1 hy).1
    obtain ⟨bl, ol, cl', hue, hir⟩ := hi.at hy
    have hbl : bl < H.size := by
      obtain ⟨b0, o0, c0, hue0, hir0⟩ := hi0.at hy
      rw [hue] at hue0
      cases hue0
      exact cl_lt (hir0 0 _ rfl)
    subst hue
    -- region 5 (list.go:53)
    refine Go'.draw (fun H' => Rd H' bl (ol + i * 2) (EJ.enc y)) [(0, 0), (1, 0), (2, 0), (3, 0), (4, 0), (6, 0), (7, 0), (8, 0), (9, 0), (10, 0), (5, 2), (11, 0), (12, 3)] (by kernel_rfl) (by kernel_rfl) (hir) ?_
    refine O.mv rfl rfl rfl rfl rfl ?_
    refine O.mv rfl rfl rfl rfl rfl ?_
    refine O.mv rfl rfl rfl rfl rfl ?_
    refine O.add (((i + 1 : Nat) : Int)) rfl rfl rfl rfl rfl rfl (by omega) (by omega) ?_
    refine O.slcIn (E := EJ) (jl := i + 1) (jh := l.length) rfl rfl rfl rfl Go.Proofs.Try.underlying74 Go.Proofs.Try.sizeOf68 rfl hi rfl ⟨_, by rfl⟩ (by omega) (by omega) ?_
    intro v2 hv2
    rw [List.take_of_length_le (by rw [List.length_drop]; omega)] at hv2
    refine O.mv rfl rfl rfl rfl rfl ?_
    refine O.mv rfl rfl rfl rfl rfl ?_
    refine O.ix (j := i) rfl rfl rfl rfl Go.Proofs.Try.underlying74 Go.Proofs.Try.sizeOf68 rfl rfl (by omega) (by omega) ?_
    refine O.ldsC rfl rfl rfl (fun w => ⟨Go.Proofs.Try.isAgg68 w, Go.Proofs.Try.sizeOf68 w⟩) rfl rfl (fun _ h => h) ?_
    refine O.bld (cs := (fvs (some y))) rfl rfl rfl rfl (st70) rfl (by kernel_rfl) ?_
    refine O.app (m := (l.drop (i + 1)).length) (news := (row EJ (l.drop (i + 1)))) rfl rfl rfl ⟨Go.Proofs.Try.underlying74, Go.Proofs.Try.sizeOf68, Go.Proofs.Try.zeroValue68, ⟨_, Go.Proofs.Try.typeInfo68, rfl⟩, rfl, by decide, by decide⟩ rfl hsl2 rfl hv2.src (row_len EJ _) (row_ones EJ _) (Nat.le_trans (Nat.mul_le_mul_left _ (Nat.le_of_ble_eq_true (n := _) (m := 4096) rfl)) (by rw [List.length_drop]; omega)) (by rw [List.length_drop]; omega) ?_
    intro b3 o3 c3 H8 ha3
    have hsz8 := ha3.fr.size
    have hsl3 : SlE EJ H8 b3 o3 c3 (l.take i ++ [x] ++ l.drop (i + 1)) := SlE.of ha3.sl (by rw [← row_append]) (by rw [List.length_append, List.length_append]; rfl)
    have hb3 : H.size + 2 ≤ b3 := by rcases ha3.place with ⟨r, _⟩ | ⟨r, _⟩ <;> omega
    replace m7 := ha3.fr.wr m7
    replace hF := hF.trans' ha3.fr (fun _ _ _ h => h) (fun b o hb hz => by have h1 := hz.1; omega)
    replace hir := ha3.fr.rd hir (fun _ _ => nr (.inl (by omega)))
    refine ⟨hir, ?_⟩
    refine O.asg rfl rfl rfl rfl rfl ?_
    refine O.st3 rfl rfl Go.Proofs.Try.sizeOf70 rfl rfl rfl rfl rfl m7 ?_
    intro H9 W9
    replace hsl3 := hsl3.fr W9.fr (fun _ _ _ => nr (.inl (by omega)))
    replace hF := hF.trans' W9.fr (fun _ _ _ h => h) (fun b o hb hz => by have h1 := hz.1; omega)
    have hfin : Pl.put (OO ord) x l = l.take i ++ [x] ++ l.drop (i + (Pl.fnd (OO ord) x l).toNat) := by unfold Pl.put; rw [hpi]; simp
    refine Pl.fin [(1, _), (6, _), (7, _), (8, _), (10, _)] ⟨rfl, rfl, rfl, rfl, rfl, trivial⟩ ?_
    refine Go'.ret (vs := [_, _]) Go.Proofs.Try.func112 Go.Proofs.Try.results112 ⟨rfl, ⟨_, _, rfl, fun _ _ => run_loadVar_agg (fun w => ⟨Go.Proofs.Try.isAgg70 w, Go.Proofs.Try.sizeOf70 w⟩) rfl W9.all⟩, trivial⟩ ?_
    refine ⟨_, by rw [Pl.got_some _ hfd, hpi, hy]; rfl, .inr ⟨b3, o3, c3, ?_, by omega, hsl3.lt (by have h1 := hsl3.hle; simp only [List.length_append, List.length_cons, List.length_nil] at h1; show 0 < c3 * 2; omega), ?_⟩, hF⟩
    · rw [hfin, hfd]; simp only [Bool.toNat_true, List.length_append]; rfl
    · rw [hfin, hfd]; exact hsl3

theorem put_spec {B : World} {H : Mem} {v u : Value} {ord : List Int} {l : List (Int × Int)} {x : Int × Int} (ho : InS EN H v ord) (hl : ord.length < 4611686018427387904) (hi : InS EJ H u l) (hs : Pl.Srt (OO ord) l) (hll : l.length ≤ 4294967296) :
    Fn Try.prog B 112 [v, u, .agg (EJ.enc x).toArray] H (fun r H' => ∃ sv, r = .tuple #[sv, FV (Pl.got (OO ord) x l)] ∧ OutS EJ H' sv (Pl.put (OO ord) x l) ∧ Fr nowhere H H') :=
  (put_specA ho hl hi hs hll).mono fun _ _ ⟨sv, e, h, k⟩ => ⟨sv, e, h.out, k⟩

end Go.Bt
namespace Go.Bt
open Go Go.Proofs
set_option maxRecDepth 20000
set_option maxHeartbeats 4000000
set_option linter.unusedVariables false

def ath (l : List (Int × Int)) (z : Int) : Option (Int × Int) := if z < 0 then none else l[z.toNat]?
theorem ath_nat (l : List (Int × Int)) (i : Nat) : ath l (i : Int) = l[i]? := by unfold ath; rw [if_neg (by omega)]; rfl
def cutl (l : List (Int × Int)) (z : Int) : List (Int × Int) := if z < 0 then l else l.take z.toNat ++ l.drop (z.toNat + 1)

theorem cut_spec {B : World} {H : Mem} {u : Value} {l : List (Int × Int)} (z : Int) (hi : InS EJ H u l) (hll : l.length ≤ 4294967296) :
    Fn Try.prog B 123 [u, .int .i64 z] H (fun r H' => ∃ sv, r = .tuple #[sv, FV (ath l z)] ∧ ((ath l z = none ∧ sv = u) ∨ OutS EJ H' sv (cutl l z)) ∧ Fr nowhere H H') := by
  have hF : Fr nowhere H H := Fr.refl _ _
  obtain ⟨a, c, hu⟩ := hi.len
  subst hu
  have hi0 := hi
  refine fn_of Go.Proofs.Try.func123 rfl Go.Proofs.Try.ntmps123 ?_
  refine (show Go' _ _ _ _ 31 [(0, _), (1, _)] [.code _] _ from ?_)
  refine Go'.seq ?_
  -- region 0 (list.go:59)
  refine Go'.region [(0, 0), (1, 2)] rfl ?_
  refine O.asg rfl rfl rfl rfl rfl ?_
  refine O.alloc rfl rfl rfl Go.Proofs.Try.zeroValue70 ?_
  intro H1 M1
  refine ⟨trivial, ?_⟩
  have hs1 := M1.size
  replace hi := hi.fr (M1.fr nowhere)
  replace hF := hF.trans' (M1.fr nowhere) (fun _ _ _ h => h) (fun _ _ _ h => h.elim)
  have m5 : Wr H1 H.size 0 3 := M1.wr 3 (by decide)
  refine Pl.fin [(0, _), (1, _), (4, _), (5, _)] ⟨rfl, rfl, rfl, rfl, trivial⟩ ?_
  refine Go'.seq ?_
  refine Go'.seq ?_
  by_cases hz : z < 0
  · -- below
    have ha0 : ath l z = none := by unfold ath; rw [if_pos hz]
    -- region 1 (list.go:60)
    refine Go'.region [(0, 0), (1, 0), (2, 0), (3, 0), (4, 0), (5, 0), (6, 0), (7, 0)] rfl ?_
    refine O.mv rfl rfl rfl rfl rfl ?_
    refine O.cmp rfl rfl rfl rfl rfl rfl (lssT (by omega)) ?_
    refine O.mv rfl rfl rfl rfl rfl ?_
    refine Pl.pass rfl rfl rfl rfl ?_
    refine Pl.pass rfl rfl rfl rfl ?_
    refine Pl.pass rfl rfl rfl rfl ?_
    refine Pl.pass rfl rfl rfl rfl ?_
    refine O.pick rfl rfl rfl rfl rfl rfl ?_
    refine Pl.fin [(0, _), (1, _), (4, _), (5, _), (13, _)] ⟨rfl, rfl, rfl, rfl, rfl, trivial⟩ ?_
    refine Go'.condT rfl ?_
    refine Go'.seq ?_
    -- region 2 (list.go:61)
    refine Go'.region [(0, 0), (1, 0), (2, 0), (3, 2)] rfl ?_
    refine O.mv rfl rfl rfl rfl rfl ?_
    refine O.bld (cs := (fvs none)) rfl rfl rfl rfl (st70) rfl (by kernel_rfl) ?_
    refine O.asg rfl rfl rfl rfl rfl ?_
    refine O.st rfl rfl Go.Proofs.Try.sizeOf70 rfl rfl rfl rfl rfl m5 ?_
    intro H2 W2
    replace hF := hF.trans' W2.fr (fun _ _ _ h => h) (fun b o hb hz => by have h1 := hz.1; omega)
    refine ⟨trivial, ?_⟩
    refine Pl.fin [(0, _), (1, _), (4, _), (5, _)] ⟨rfl, rfl, rfl, rfl, trivial⟩ ?_
    refine Go'.ret (vs := [_, _]) Go.Proofs.Try.func123 Go.Proofs.Try.results123 ⟨rfl, ⟨_, _, rfl, fun _ _ => run_loadVar_agg (fun w => ⟨Go.Proofs.Try.isAgg70 w, Go.Proofs.Try.sizeOf70 w⟩) rfl W2.all⟩, trivial⟩ ?_
    exact ⟨_, by rw [ha0]; rfl, .inl ⟨ha0, rfl⟩, hF⟩
  obtain ⟨i, rfl⟩ := Int.eq_ofNat_of_zero_le (by omega : 0 ≤ z)
  by_cases hil : l.length ≤ i
  · -- above
    have ha0 : ath l (i : Int) = none := by rw [ath_nat, List.getElem?_eq_none hil]
    -- region 1 (list.go:60)
    refine Go'.region [(0, 0), (1, 0), (2, 0), (3, 0), (4, 0), (5, 0), (6, 0), (7, 0)] rfl ?_
    refine O.mv rfl rfl rfl rfl rfl ?_
    refine O.cmp rfl rfl rfl rfl rfl rfl (lssF (by omega)) ?_
    refine O.mv rfl rfl rfl rfl rfl ?_
    refine O.mv rfl rfl rfl rfl rfl ?_
    refine O.mv rfl rfl rfl rfl rfl ?_
    refine O.len rfl rfl rfl rfl Go.Proofs.Try.underlying74 rfl ?_
    refine O.cmp rfl rfl rfl rfl rfl rfl (geqT (by omega)) ?_
    refine O.pick rfl rfl rfl rfl rfl rfl ?_
    refine Pl.fin [(0, _), (1, _), (4, _), (5, _), (13, _)] ⟨rfl, rfl, rfl, rfl, rfl, trivial⟩ ?_
    refine Go'.condT rfl ?_
    refine Go'.seq ?_
    -- region 2 (list.go:61)
    refine Go'.region [(0, 0), (1, 0), (2, 0), (3, 2)] rfl ?_
    refine O.mv rfl rfl rfl rfl rfl ?_
    refine O.bld (cs := (fvs none)) rfl rfl rfl rfl (st70) rfl (by kernel_rfl) ?_
    refine O.asg rfl rfl rfl rfl rfl ?_
    refine O.st rfl rfl Go.Proofs.Try.sizeOf70 rfl rfl rfl rfl rfl m5 ?_
    intro H2 W2
    replace hF := hF.trans' W2.fr (fun _ _ _ h => h) (fun b o hb hz => by have h1 := hz.1; omega)
    refine ⟨trivial, ?_⟩
    refine Pl.fin [(0, _), (1, _), (4, _), (5, _)] ⟨rfl, rfl, rfl, rfl, trivial⟩ ?_
    refine Go'.ret (vs := [_, _]) Go.Proofs.Try.func123 Go.Proofs.Try.results123 ⟨rfl, ⟨_, _, rfl, fun _ _ => run_loadVar_agg (fun w => ⟨Go.Proofs.Try.isAgg70 w, Go.Proofs.Try.sizeOf70 w⟩) rfl W2.all⟩, trivial⟩ ?_
    exact ⟨_, by rw [ha0]; rfl, .inl ⟨ha0, rfl⟩, hF⟩
  replace hil : i < l.length := by omega
  obtain ⟨y, hy⟩ : ∃ y, l[i]? = some y := ⟨l[i], List.getElem?_eq_getElem hil⟩
  obtain ⟨bl, ol, cc, hue, hir⟩ := hi.at hy
  have hbl : bl < H.size := by
    obtain ⟨b0, o0, c0, hue0, hir0⟩ := hi0.at hy
    rw [hue] at hue0
    cases hue0
    exact cl_lt (hir0 0 _ rfl)
  cases hue
  have hl1 : (l.take i).length = i := by rw [List.length_take]; omega
  -- region 1 (list.go:60)
  refine Go'.region [(0, 0), (1, 0), (2, 0), (3, 0), (4, 0), (5, 0), (6, 0), (7, 0)] rfl ?_
  refine O.mv rfl rfl rfl rfl rfl ?_
  refine O.cmp rfl rfl rfl rfl rfl rfl (lssF (by omega)) ?_
  refine O.mv rfl rfl rfl rfl rfl ?_
  refine O.mv rfl rfl rfl rfl rfl ?_
  refine O.mv rfl rfl rfl rfl rfl ?_
  refine O.len rfl rfl rfl rfl Go.Proofs.Try.underlying74 rfl ?_
  refine O.cmp rfl rfl rfl rfl rfl rfl (geqF (by omega)) ?_
  refine O.pick rfl rfl rfl rfl rfl rfl ?_
  refine Pl.fin [(0, _), (1, _), (4, _), (5, _), (13, _)] ⟨rfl, rfl, rfl, rfl, rfl, trivial⟩ ?_
  refine Go'.condF rfl ?_
  refine Go'.skip ?_
  refine Go'.seq ?_
  -- region 3 (list.go:63)
  refine Go'.draw (fun H' => Rd H' bl (ol + i * 2) (EJ.enc y)) [(1, 0), (2, 0), (3, 0), (5, 0), (6, 0), (7, 0), (8, 0), (10, 0), (11, 0), (12, 0), (13, 0), (14, 0), (0, 2), (4, 2), (9, 2), (15, 0), (16, 3)] (by kernel_rfl) (by kernel_rfl) (hir) ?_
  refine O.mv rfl rfl rfl rfl rfl ?_
  refine O.mv rfl rfl rfl rfl rfl ?_
  refine O.slcIn (E := EJ) (jl := 0) (jh := i) rfl rfl rfl rfl Go.Proofs.Try.underlying74 Go.Proofs.Try.sizeOf68 rfl hi ⟨_, by rfl⟩ rfl (by omega) (by omega) ?_
  intro v1 hv1
  rw [List.drop_zero, Nat.sub_zero] at hv1
  refine O.mv rfl rfl rfl rfl rfl ?_
  refine O.mv rfl rfl rfl rfl rfl ?_
  refine O.add (((i + 1 : Nat) : Int)) rfl rfl rfl rfl rfl rfl (by omega) (by omega) ?_
  refine O.slcIn (E := EJ) (jl := i + 1) (jh := l.length) rfl rfl rfl rfl Go.Proofs.Try.underlying74 Go.Proofs.Try.sizeOf68 rfl hi rfl ⟨_, by rfl⟩ (by omega) (by omega) ?_
  intro v2 hv2
  rw [List.take_of_length_le (by rw [List.length_drop]; omega)] at hv2
  refine O.mv rfl rfl rfl rfl rfl ?_
  refine O.mv rfl rfl rfl rfl rfl ?_
  refine O.ix (j := i) rfl rfl rfl rfl Go.Proofs.Try.underlying74 Go.Proofs.Try.sizeOf68 rfl rfl (by omega) hil ?_
  refine O.ldsC rfl rfl rfl (fun w => ⟨Go.Proofs.Try.isAgg68 w, Go.Proofs.Try.sizeOf68 w⟩) rfl rfl (fun _ h => h) ?_
  refine O.bld (cs := (fvs (some y))) rfl rfl rfl rfl (st70) rfl (by kernel_rfl) ?_
  refine O.bsl (cs := []) rfl rfl rfl ⟨Go.Proofs.Try.underlying74, Go.Proofs.Try.sizeOf68, Go.Proofs.Try.zeroValue68, ⟨_, Go.Proofs.Try.typeInfo68, rfl⟩, rfl, by decide, by decide⟩ rfl (by decide) (by kernel_rfl) ?_
  intro H4 M4
  have hs4 := M4.size
  replace hi := hi.fr (M4.fr nowhere)
  replace m5 := (M4.fr nowhere).wr m5
  replace hir := (M4.fr nowhere).rd hir (fun _ _ => nw)
  replace hv1 := hv1.fr (M4.fr nowhere)
  replace hv2 := hv2.fr (M4.fr nowhere)
  replace hF := hF.trans' (M4.fr nowhere) (fun _ _ _ h => h) (fun _ _ _ h => h.elim)
  refine ⟨hir, ?_⟩
  refine O.app (m := (l.take i).length) (news := (row EJ (l.take i))) rfl rfl rfl ⟨Go.Proofs.Try.underlying74, Go.Proofs.Try.sizeOf68, Go.Proofs.Try.zeroValue68, ⟨_, Go.Proofs.Try.typeInfo68, rfl⟩, rfl, by decide, by decide⟩ rfl (Sl.none _ _ _ _) rfl hv1.src (row_len EJ _) (row_ones EJ _) (Nat.le_trans (Nat.mul_le_mul_left _ (Nat.le_of_ble_eq_true (n := _) (m := 4096) rfl)) (by omega)) (by omega) ?_
  intro b1 o1 c1 H5 ha
  have hsz5 := ha.fr.size
  have hsl1 : Sl H5 b1 o1 (0 + (l.take i).length) c1 2 (row EJ (l.take i)) := ha.sl
  have hb1 : H.size + 1 ≤ b1 := by rcases ha.place with ⟨r, _⟩ | ⟨r, _⟩ <;> omega
  replace hi := hi.fr ha.quiet
  replace m5 := ha.quiet.wr m5
  replace hir := ha.quiet.rd hir (fun _ _ => nw)
  replace hv2 := hv2.fr ha.quiet
  replace hF := hF.trans' ha.quiet (fun _ _ _ h => h) (fun _ _ _ h => h.elim)
  refine ⟨hir, ?_⟩
  refine O.app (m := (l.drop (i + 1)).length) (news := (row EJ (l.drop (i + 1)))) rfl rfl rfl ⟨Go.Proofs.Try.underlying74, Go.Proofs.Try.sizeOf68, Go.Proofs.Try.zeroValue68, ⟨_, Go.Proofs.Try.typeInfo68, rfl⟩, rfl, by decide, by decide⟩ rfl hsl1 rfl hv2.src (row_len EJ _) (row_ones EJ _) (Nat.le_trans (Nat.mul_le_mul_left _ (Nat.le_of_ble_eq_true (n := _) (m := 4096) rfl)) (by rw [List.length_drop]; omega)) (by rw [List.length_drop]; omega) ?_
  intro b3 o3 c3 H8 ha3
  have hsz8 := ha3.fr.size
  have hsl3 : SlE EJ H8 b3 o3 c3 (l.take i ++ l.drop (i + 1)) := SlE.of ha3.sl (by rw [← row_append]) (by rw [List.length_append, Nat.zero_add])
  have hb3 : H.size + 1 ≤ b3 := by rcases ha3.place with ⟨r, _⟩ | ⟨r, _⟩ <;> omega
  replace m5 := ha3.fr.wr m5
  replace hir := ha3.fr.rd hir (fun _ _ => nr (.inl (by omega)))
  replace hF := hF.trans' ha3.fr (fun _ _ _ h => h) (fun b o hb hz => by have h1 := hz.1; omega)
  refine ⟨hir, ?_⟩
  refine O.asg rfl rfl rfl rfl rfl ?_
  refine O.st3 rfl rfl Go.Proofs.Try.sizeOf70 rfl rfl rfl rfl rfl m5 ?_
  intro H9 W9
  replace hsl3 := hsl3.fr W9.fr (fun _ _ _ => nr (.inl (by omega)))
  replace hF := hF.trans' W9.fr (fun _ _ _ h => h) (fun b o hb hz => by have h1 := hz.1; omega)
  refine Pl.fin [(4, _), (5, _)] ⟨rfl, rfl, trivial⟩ ?_
  refine Go'.ret (vs := [_, _]) Go.Proofs.Try.func123 Go.Proofs.Try.results123 ⟨rfl, ⟨_, _, rfl, fun _ _ => run_loadVar_agg (fun w => ⟨Go.Proofs.Try.isAgg70 w, Go.Proofs.Try.sizeOf70 w⟩) rfl W9.all⟩, trivial⟩ ?_
  have hc : cutl l (i : Int) = l.take i ++ l.drop (i + 1) := by unfold cutl; rw [if_neg (by omega)]; rfl
  refine ⟨_, by rw [ath_nat, hy]; rfl, .inr ?_, hF⟩
  rw [hc]
  exact .inr ⟨b3, o3, c3, by rw [List.length_append, Nat.zero_add], hsl3⟩

theorem at_spec {B : World} {H : Mem} {u : Value} {l : List (Int × Int)} (z : Int) (hi : InS EJ H u l) (hll : l.length ≤ 4294967296) :
    Fn Try.prog B 87 [u, .int .i64 z] H (fun r H' => r = FV (ath l z) ∧ Fr nowhere H H') := by
  have hF : Fr nowhere H H := Fr.refl _ _
  refine fn_of Go.Proofs.Try.func87 rfl Go.Proofs.Try.ntmps87 ?_
  refine (show Go' _ _ _ _ 14 [(0, _), (1, _)] [.code _] _ from ?_)
  refine Go'.seq ?_
  -- region 0 (list.go:76)
  refine Go'.region [(0, 2)] rfl ?_
  refine O.alloc rfl rfl rfl Go.Proofs.Try.zeroValue70 ?_
  intro H1 M1
  refine ⟨trivial, ?_⟩
  have hs1 := M1.size
  replace hi := hi.fr (M1.fr nowhere)
  replace hF := hF.trans' (M1.fr nowhere) (fun _ _ _ h => h) (fun _ _ _ h => h.elim)
  have m4 : Wr H1 H.size 0 3 := M1.wr 3 (by decide)
  refine Pl.fin [(0, _), (1, _), (4, _)] ⟨rfl, rfl, rfl, trivial⟩ ?_
  refine Go'.seq ?_
  -- region 1 (list.go:77)
  refine Go'.region [(0, 0), (1, 0), (2, 2), (3, 0), (4, 0), (5, 0), (6, 2), (7, 0), (8, 2)] rfl ?_
  refine O.mv rfl rfl rfl rfl rfl ?_
  refine O.mv rfl rfl rfl rfl rfl ?_
  refine O.call rfl rfl rfl Go.Proofs.Try.call123 rfl (cut_spec z hi hll) ?_
  rintro _ H2 ⟨sv, rfl, _, hF2⟩
  have hs2 := hF2.size
  replace m4 := hF2.wr m4
  replace hF := hF.trans' hF2 (fun _ _ _ h => h) (fun _ _ _ h => h.elim)
  refine ⟨trivial, ?_⟩
  refine O.mv rfl rfl rfl rfl rfl ?_
  refine O.ext rfl rfl rfl rfl rfl rfl ?_
  refine O.ext rfl rfl rfl rfl rfl rfl ?_
  refine O.alloc rfl rfl rfl Go.Proofs.Try.zeroValue70 ?_
  intro H3 M3
  refine ⟨trivial, ?_⟩
  have hs3 := M3.size
  replace m4 := (M3.fr nowhere).wr m4
  replace hF := hF.trans' (M3.fr nowhere) (fun _ _ _ h => h) (fun _ _ _ h => h.elim)
  have m6 : Wr H3 H2.size 0 3 := M3.wr 3 (by decide)
  rw [FV_eq (ath l z)]
  refine O.asg rfl rfl rfl rfl rfl ?_
  refine O.st (vs := (fvs (ath l z))) rfl rfl Go.Proofs.Try.sizeOf70 rfl rfl rfl (by cases ath l z <;> rfl) (by cases ath l z <;> rfl) m6 ?_
  intro H4 W4
  have hs4 := W4.size
  replace m4 := W4.fr.wr m4
  replace hF := hF.trans' W4.fr (fun _ _ _ h => h) (fun b o hb hz => by have h1 := hz.1; omega)
  refine ⟨trivial, ?_⟩
  refine Pl.fin [(4, _), (6, _)] ⟨rfl, rfl, trivial⟩ ?_
  refine Go'.seq ?_
  -- region 2 (list.go:78)
  refine Go'.region [(0, 1), (1, 2)] rfl ?_
  refine O.lds rfl rfl rfl (fun w => ⟨Go.Proofs.Try.isAgg70 w, Go.Proofs.Try.sizeOf70 w⟩) rfl (by cases ath l z <;> rfl) W4.all ?_
  refine O.st (vs := (fvs (ath l z))) rfl rfl Go.Proofs.Try.sizeOf70 rfl rfl rfl (by cases ath l z <;> rfl) (by cases ath l z <;> rfl) m4 ?_
  intro H5 W5
  replace hF := hF.trans' W5.fr (fun _ _ _ h => h) (fun b o hb hz => by have h1 := hz.1; omega)
  refine ⟨trivial, ?_⟩
  refine Pl.fin [(4, _)] ⟨rfl, trivial⟩ ?_
  refine Go'.ret (vs := [_]) Go.Proofs.Try.func87 Go.Proofs.Try.results87 ⟨⟨_, _, rfl, fun _ _ => run_loadVar_agg (fun w => ⟨Go.Proofs.Try.isAgg70 w, Go.Proofs.Try.sizeOf70 w⟩) (by cases ath l z <;> rfl) W5.all⟩, trivial⟩ ?_
  exact ⟨rfl, hF⟩

theorem tree_spec {B : World} {H : Mem} {v u : Value} {ord : List Int} {l : List (Int × Int)} (ho : InS EN H v ord) (hl : ord.length < 4611686018427387904) (hi : InS EJ H u l) (hll : l.length ≤ 4294967296) :
    Fn Try.prog B 69 [v, u] H (fun r H' => OutS EJ H' r (Pl.puts (OO ord) l) ∧ Fr nowhere H H') := by
  obtain ⟨a, c, hu⟩ := hi.len
  subst hu
  refine fn_of Go.Proofs.Try.func69 rfl Go.Proofs.Try.ntmps69 ?_
  refine (show Go' _ _ _ _ 23 [(0, _), (1, _)] [.code _] _ from ?_)
  refine Go'.seq ?_
  -- region 0 (list.go:82)
  refine Go'.region [(0, 0)] rfl ?_
  refine O.asg rfl rfl rfl rfl rfl ?_
  refine Pl.fin [(0, _), (1, _), (4, _)] ⟨rfl, rfl, rfl, trivial⟩ ?_
  refine Go'.seq ?_
  -- region 1 (list.go:83)
  refine Go'.region [(0, 0)] rfl ?_
  refine O.asg rfl rfl rfl rfl rfl ?_
  refine Pl.fin [(0, _), (1, _), (4, _), (5, _)] ⟨rfl, rfl, rfl, rfl, trivial⟩ ?_
  refine Go'.seq ?_
  refine Go'.seq ?_
  -- region 2 (list.go:84)
  refine Go'.region [(0, 0), (1, 0), (2, 0)] rfl ?_
  refine O.mv rfl rfl rfl rfl rfl ?_
  refine O.len rfl rfl rfl rfl Go.Proofs.Try.underlying74 rfl ?_
  refine O.mv rfl rfl rfl rfl rfl ?_
  refine Pl.fin [(0, _), (4, _), (5, _), (8, _), (9, _), (10, _)] ⟨rfl, rfl, rfl, rfl, rfl, rfl, trivial⟩ ?_
  refine Go'.block ?_
  refine Go'.loop ?_
  refine Go'.keep [(0, _), (5, _), (8, _), (9, _), (10, _)] ⟨rfl, rfl, rfl, rfl, rfl, trivial⟩ ?_
  refine Go'.ind (σ := Nat × Value) (fun s => l.length - s.1) (fun s H' => Fr nowhere H H' ∧ s.1 ≤ l.length ∧ OutS EJ H' s.2 (Pl.puts (OO ord) (l.take s.1)))
    (fun s => [(0, v), (5, s.2), (8, .slice a l.length c), (9, .int .i64 (l.length : Int)), (10, .int .i64 (s.1 : Int))]) (0, .slice none 0 0) ⟨Fr.refl _ _, Nat.zero_le _, .inl ⟨rfl, rfl⟩⟩ rfl ?_
  rintro ⟨j, sv⟩ H2 ⟨hF, hjl, hsv⟩ ih
  simp only at hjl hsv
  have ho2 := ho.fr hF
  have hi2 := hi.fr hF
  refine Go'.seq ?_
  by_cases hlt : j < l.length
  · skip
    obtain ⟨y, hy⟩ : ∃ y, l[j]? = some y := ⟨l[j], List.getElem?_eq_getElem hlt⟩
    obtain ⟨b, o, c', e, hr⟩ := hi2.at hy
    cases e
    have hpl := Pl.puts_length (OO ord) (l.take j)
    rw [List.length_take] at hpl
    -- region 3 (list.go:84)
    refine Go'.region [(0, 0)] rfl ?_
    refine O.cmp rfl rfl rfl rfl rfl rfl (lssT (by omega)) ?_
    refine Pl.fin [(0, _), (5, _), (8, _), (9, _), (10, _), (11, _)] ⟨rfl, rfl, rfl, rfl, rfl, rfl, trivial⟩ ?_
    refine Go'.seq ?_
    refine Go'.condT rfl ?_
    refine Go'.skip ?_
    refine Go'.seq ?_
    refine Go'.block ?_
    refine Go'.seq ?_
    -- region 4 (list.go:84)
    refine Go'.region [(0, 0), (1, 1), (2, 2), (3, 2)] rfl ?_
    refine O.ix (j := j) rfl rfl rfl rfl Go.Proofs.Try.underlying74 Go.Proofs.Try.sizeOf68 rfl rfl (by omega) hlt ?_
    refine O.lds rfl rfl rfl (fun w => ⟨Go.Proofs.Try.isAgg68 w, Go.Proofs.Try.sizeOf68 w⟩) rfl rfl hr ?_
    refine O.alloc rfl rfl rfl Go.Proofs.Try.zeroValue68 ?_
    intro H3 M3
    refine ⟨trivial, ?_⟩
    have hs3 := M3.size
    replace ho2 := ho2.fr (M3.fr nowhere)
    have m7 : Wr H3 H2.size 0 2 := M3.wr 2 (by decide)
    refine O.st rfl rfl Go.Proofs.Try.sizeOf68 rfl rfl rfl rfl rfl m7 ?_
    intro H4 W4
    have hs4 := W4.size
    have hf4 : Fr nowhere H2 H4 := (M3.fr nowhere).trans' W4.fr (fun _ _ _ h => h) (fun b o hb hz => by have h1 := hz.1; omega)
    have ho4 := (ho.fr hF).fr hf4
    have hsv4 := hsv.inS.fr hf4
    refine ⟨trivial, ?_⟩
    refine Pl.fin [(0, _), (5, _), (7, _), (8, _), (9, _), (10, _), (11, _)] ⟨rfl, rfl, rfl, rfl, rfl, rfl, rfl, trivial⟩ ?_
    -- region 5 (list.go:85)
    refine Go'.region [(0, 0), (1, 0), (2, 1), (3, 2), (4, 0), (5, 0), (6, 0), (7, 0)] rfl ?_
    refine O.mv rfl rfl rfl rfl rfl ?_
    refine O.mv rfl rfl rfl rfl rfl ?_
    refine O.lds rfl rfl rfl (fun w => ⟨Go.Proofs.Try.isAgg68 w, Go.Proofs.Try.sizeOf68 w⟩) rfl rfl W4.all ?_
    refine O.call rfl rfl rfl Go.Proofs.Try.call112 rfl (put_spec ho4 hl hsv4 (Pl.puts_srt _ _) (by omega)) ?_
    rintro _ H5 ⟨sv2, rfl, hsv2, hF5⟩
    refine ⟨trivial, ?_⟩
    refine O.mv rfl rfl rfl rfl rfl ?_
    refine O.ext rfl rfl rfl rfl rfl rfl ?_
    refine O.ext rfl rfl rfl rfl rfl rfl ?_
    refine O.asg rfl rfl rfl rfl rfl ?_
    refine Pl.fin [(0, _), (5, _), (7, _), (8, _), (9, _), (10, _), (11, _)] ⟨rfl, rfl, rfl, rfl, rfl, rfl, rfl, trivial⟩ ?_
    refine Go'.inBlock ?_
    -- region 6 (list.go:84)
    refine Go'.region [(0, 0), (1, 0)] rfl ?_
    refine O.add (((j + 1 : Nat) : Int)) rfl rfl rfl rfl rfl rfl (by omega) (by omega) ?_
    refine O.mv rfl rfl rfl rfl rfl ?_
    refine Pl.fin [(0, _), (5, _), (7, _), (8, _), (9, _), (10, _), (11, _)] ⟨rfl, rfl, rfl, rfl, rfl, rfl, rfl, trivial⟩ ?_
    refine Go'.keep [(0, _), (5, _), (8, _), (9, _), (10, _)] ⟨rfl, rfl, rfl, rfl, rfl, trivial⟩ ?_
    refine Go'.inLoop ?_
    exact ih (j + 1, sv2) H5 ⟨(hF.trans hf4).trans hF5, hlt, by
      rw [List.take_add_one, hy]
      rw [← Pl.puts_snoc] at hsv2
      exact hsv2⟩ (by simp only; omega)
  · skip
    obtain rfl : j = l.length := by omega
    -- region 3 (list.go:84)
    refine Go'.region [(0, 0)] rfl ?_
    refine O.cmp rfl rfl rfl rfl rfl rfl (lssF (by omega)) ?_
    refine Pl.fin [(0, _), (5, _), (8, _), (9, _), (10, _), (11, _)] ⟨rfl, rfl, rfl, rfl, rfl, rfl, trivial⟩ ?_
    refine Go'.seq ?_
    refine Go'.condF rfl ?_
    refine Go'.exit rfl ?_
    refine Go'.seq ?_
    -- region 7 (list.go:87)
    refine Go'.region [(0, 0), (1, 0)] rfl ?_
    refine O.mv rfl rfl rfl rfl rfl ?_
    refine O.asg rfl rfl rfl rfl rfl ?_
    refine Pl.fin [(4, _)] ⟨rfl, trivial⟩ ?_
    refine Go'.ret (vs := [_]) Go.Proofs.Try.func69 Go.Proofs.Try.results69 ⟨rfl, trivial⟩ ?_
    rw [List.take_length] at hsv
    exact ⟨hsv, hF⟩

theorem gmin_spec {B : World} {H : Mem} {v u dg nl : Value} {ord : List Int} {l : List (Int × Int)} (ho : InS EN H v ord) (hl : ord.length < 4611686018427387904) (hi : InS EJ H u l) (hll : l.length ≤ 4294967296) :
    Fn Try.prog B 42 [.agg #[v, dg, nl], u] H (fun r H' => r = FV (Pl.puts (OO ord) l)[0]? ∧ Fr nowhere H H') := by
  have hF : Fr nowhere H H := Fr.refl _ _
  have hpl := Pl.puts_length (OO ord) l
  refine fn_of Go.Proofs.Try.func42 rfl Go.Proofs.Try.ntmps42 ?_
  refine (show Go' _ _ _ _ 10 [(0, _), (1, _)] [.code _] _ from ?_)
  refine Go'.seq ?_
  -- region 0 (tree.go:66)
  refine Go'.region [(0, 2), (1, 2)] rfl ?_
  refine O.box rfl rfl rfl rfl ?_
  intro H1 M1
  refine ⟨trivial, ?_⟩
  have hs1 := M1.size
  replace ho := ho.fr (M1.fr nowhere)
  replace hi := hi.fr (M1.fr nowhere)
  replace hF := hF.trans' (M1.fr nowhere) (fun _ _ _ h => h) (fun _ _ _ h => h.elim)
  have mi : cl H1 H.size 0 = some v := (M1.cl 0).trans rfl
  refine O.alloc rfl rfl rfl Go.Proofs.Try.zeroValue70 ?_
  intro H2 M2
  refine ⟨trivial, ?_⟩
  have hs2 := M2.size
  replace ho := ho.fr (M2.fr nowhere)
  replace hi := hi.fr (M2.fr nowhere)
  replace mi := (M2.fr nowhere).keep mi nw
  replace hF := hF.trans' (M2.fr nowhere) (fun _ _ _ h => h) (fun _ _ _ h => h.elim)
  have m4 : Wr H2 H1.size 0 3 := M2.wr 3 (by decide)
  refine Pl.fin [(1, _), (2, _), (4, _)] ⟨rfl, rfl, rfl, trivial⟩ ?_
  refine Go'.seq ?_
  -- region 1 (tree.go:66)
  refine Go'.region [(0, 0), (1, 1), (2, 0), (3, 2), (4, 2), (5, 2)] rfl ?_
  refine O.faz rfl rfl rfl rfl ⟨_, _, _, Go.Proofs.Try.underlying73, rfl, rfl, Go.Proofs.Try.sizeOf22⟩ rfl ?_
  refine O.ld rfl rfl rfl (fun w => ⟨Go.Proofs.Try.isAgg22 w, Go.Proofs.Try.sizeOf22 w⟩) rfl mi ?_
  refine O.mv rfl rfl rfl rfl rfl ?_
  refine O.call rfl rfl rfl Go.Proofs.Try.call69 rfl (tree_spec ho hl hi hll) ?_
  rintro sv H3 ⟨hsv, hF3⟩
  have hs3 := hF3.size
  replace m4 := hF3.wr m4
  replace hF := hF.trans' hF3 (fun _ _ _ h => h) (fun _ _ _ h => h.elim)
  refine ⟨trivial, ?_⟩
  refine O.call rfl rfl rfl Go.Proofs.Try.call87 rfl (at_spec 0 hsv.inS (by omega)) ?_
  rintro _ H4 ⟨rfl, hF4⟩
  have hs4 := hF4.size
  replace m4 := hF4.wr m4
  replace hF := hF.trans' hF4 (fun _ _ _ h => h) (fun _ _ _ h => h.elim)
  have e0 : ath (Pl.puts (OO ord) l) 0 = (Pl.puts (OO ord) l)[0]? := ath_nat _ 0
  rw [e0, FV_eq (Pl.puts (OO ord) l)[0]?]
  refine ⟨trivial, ?_⟩
  refine O.st (vs := (fvs (Pl.puts (OO ord) l)[0]?)) rfl rfl Go.Proofs.Try.sizeOf70 rfl rfl rfl (by cases (Pl.puts (OO ord) l)[0]? <;> rfl) (by cases (Pl.puts (OO ord) l)[0]? <;> rfl) m4 ?_
  intro H5 W5
  replace hF := hF.trans' W5.fr (fun _ _ _ h => h) (fun b o hb hz => by have h1 := hz.1; omega)
  refine ⟨trivial, ?_⟩
  refine Pl.fin [(4, _)] ⟨rfl, trivial⟩ ?_
  refine Go'.ret (vs := [_]) Go.Proofs.Try.func42 Go.Proofs.Try.results42 ⟨⟨_, _, rfl, fun _ _ => run_loadVar_agg (fun w => ⟨Go.Proofs.Try.isAgg70 w, Go.Proofs.Try.sizeOf70 w⟩) (by cases (Pl.puts (OO ord) l)[0]? <;> rfl) W5.all⟩, trivial⟩ ?_
  exact ⟨rfl, hF⟩

end Go.Bt
