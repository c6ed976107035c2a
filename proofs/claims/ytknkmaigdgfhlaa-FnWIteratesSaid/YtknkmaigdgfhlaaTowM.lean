/- Contracts of functions of the program, proved by walking through their code. Conditions: those that each theorem names. -/
import Derived.Test.YtknkmaigdgfhlaaTowK
import Derived.Test.YtknkmaigdgfhlaaToMv
namespace Go.Bt.FW
open Go Go.Proofs
set_option maxRecDepth 20000
set_option maxHeartbeats 4000000
set_option linter.unusedVariables false

theorem iNext_spec {B : World} {H : Mem} {it tr : Nat} {mt sk sa se : Bool} {Z : Nat → Prop} {fr : List (Nat × Int)} {kv : Wk × Int} {P : Ps} {S : Nat → Prop} {l : List (Wk × Int)} {r : Option ((h : Nat) × Gt EI h)} (hI : Itr EI H H it tr mt Z sk sa se Z fr kv) (hT : TreeR H tr P S l r) (hsi : ¬ S it) (hsz : ∀ b, S b → ¬ Z b) {st : Option Nat} (hSt : StI r l sk fr kv st) :
    Fn Try.prog B 75 [.pointer (some ⟨it, 0, none⟩)] H (fun v H' => ∃ b st', v = .bool b ∧ ItPost EI H H' it tr mt Z r l st' ∧ (∀ q, st = some q → b = decide (q + 1 < l.length) ∧ st' = if q + 1 < l.length then some (q + 1) else none) ∧ (l = [] → b = false ∧ st' = none)) := by
  rcases st with _ | q
  rotate_left
  · obtain ⟨rfl, hq, h0, t0, rfl, hS⟩ := hSt
    exact (iNext_gen hI hT hsi hsz hS.gap).mono fun v H' ⟨e, hp⟩ => ⟨_, _, e, hp, fun q' e' => by cases e'; exact ⟨rfl, rfl⟩, fun e' => by subst e'; simp at hq⟩
  have hSt' : fr = [] := hSt
  subst hSt'
  have hK : ∀ H', Fr (fun b _ => b = it ∨ Z b) H H' → TreeR H' tr P S l r := fun H' hf => hT.keep hf fun b o hs hz => hz.elim (fun e => hsi (e ▸ hs)) (hsz b hs)
  have hll := hT.ll
  have hno : ∀ {b : Bool} {st' : Option Nat} (q : Nat), (none : Option Nat) = some q → b = decide (q + 1 < l.length) ∧ st' = if q + 1 < l.length then some (q + 1) else none := fun q e => by cases e
  obtain ⟨sv, hsv, hA⟩ := hI.st
  obtain ⟨a0, c0, rfl⟩ : ∃ a c, sv = .slice a 0 c := by
    rcases hA with ⟨e, _⟩ | ⟨b, o, c, e, _⟩
    · exact ⟨_, _, e⟩
    · exact ⟨_, _, e⟩
  have hnl : l = [] → r = none := by
    intro e
    have hrt := hT.rt
    rcases r with _ | ⟨h0, t0⟩
    · rfl
    · obtain ⟨hg, hx, hl, _⟩ := hrt
      have := Gt.high hT.mn hg hx
      rw [hl, e] at this
      simp at this
  refine fn_of Go.Proofs.Try.func75 rfl Go.Proofs.Try.ntmps75 ?_
  refine (show Go' _ _ _ _ 195 [(0, _)] [.code _] _ from ?_)
  refine Go'.seq ?_
  -- region 0 (map.go:1012)
  refine Go'.region [(0, 0)] rfl ?_
  refine O.asg rfl rfl rfl rfl rfl ?_
  refine Pl.fin [(0, _), (2, _)] ⟨rfl, rfl, trivial⟩ ?_
  refine Go'.seq ?_
  refine Go'.seq ?_
  -- region 1 (map.go:1013)
  refine Go'.region [(0, 0), (1, 0), (2, 0), (3, 1), (4, 0)] rfl ?_
  refine O.mv rfl rfl rfl rfl rfl ?_
  refine O.nc rfl rfl rfl rfl rfl ?_
  refine O.faz rfl rfl rfl rfl ⟨_, _, _, Go.Proofs.Try.underlying115, rfl, rfl, Go.Proofs.Try.sizeOf108⟩ rfl ?_
  refine O.ld rfl rfl rfl (fun w => ⟨Go.Proofs.Try.isAgg108 w, Go.Proofs.Try.sizeOf108 w⟩) rfl hI.c0 ?_
  refine O.isNil rfl rfl rfl rfl Go.Proofs.Try.underlying108 rfl rfl ?_
  refine Pl.fin [(0, _), (2, _), (9, _)] ⟨rfl, rfl, rfl, trivial⟩ ?_
  refine Go'.condF rfl ?_
  refine Go'.skip ?_
  refine Go'.seq ?_
  refine Go'.seq ?_
  rcases sk with _ | _
  · skip
    -- region 3 (map.go:1016)
    refine Go'.region [(0, 0), (1, 0), (2, 0), (3, 1), (4, 0)] rfl ?_
    refine O.mv rfl rfl rfl rfl rfl ?_
    refine O.nc rfl rfl rfl rfl rfl ?_
    refine O.fa0 (off := 2) rfl rfl rfl rfl ⟨_, _, _, Go.Proofs.Try.underlying115, rfl, rfl, Go.Proofs.Try.sizeOf4⟩ rfl ?_
    refine O.ld rfl rfl rfl (fun w => ⟨Go.Proofs.Try.isAgg4 w, Go.Proofs.Try.sizeOf4 w⟩) rfl hI.c2 ?_
    refine O.not rfl rfl rfl rfl rfl ?_
    refine Pl.fin [(0, _), (2, _), (14, _)] ⟨rfl, rfl, rfl, trivial⟩ ?_
    refine Go'.condT rfl ?_
    refine Go'.seq ?_
    -- region 4 (map.go:1017)
    refine Go'.region [(0, 0), (1, 2), (2, 0)] rfl ?_
    refine O.mv rfl rfl rfl rfl rfl ?_
    refine O.call rfl rfl rfl Go.Proofs.Try.call78 rfl (iFirst_spec hI hT hsi hsz) ?_
    rintro _ H1 ⟨rfl, hp⟩
    refine ⟨trivial, ?_⟩
    refine O.asg rfl rfl rfl rfl rfl ?_
    refine Pl.fin [(0, _), (2, _)] ⟨rfl, rfl, trivial⟩ ?_
    refine Go'.ret (vs := [_]) Go.Proofs.Try.func75 Go.Proofs.Try.results75 ⟨rfl, trivial⟩ ?_
    exact ⟨_, _, rfl, hp, hno, fun e => by subst e; exact ⟨rfl, rfl⟩⟩
  · skip
    -- region 3 (map.go:1016)
    refine Go'.region [(0, 0), (1, 0), (2, 0), (3, 1), (4, 0)] rfl ?_
    refine O.mv rfl rfl rfl rfl rfl ?_
    refine O.nc rfl rfl rfl rfl rfl ?_
    refine O.fa0 (off := 2) rfl rfl rfl rfl ⟨_, _, _, Go.Proofs.Try.underlying115, rfl, rfl, Go.Proofs.Try.sizeOf4⟩ rfl ?_
    refine O.ld rfl rfl rfl (fun w => ⟨Go.Proofs.Try.isAgg4 w, Go.Proofs.Try.sizeOf4 w⟩) rfl hI.c2 ?_
    refine O.not rfl rfl rfl rfl rfl ?_
    refine Pl.fin [(0, _), (2, _), (14, _)] ⟨rfl, rfl, rfl, trivial⟩ ?_
    refine Go'.condF rfl ?_
    refine Go'.skip ?_
    refine Go'.seq ?_
    refine Go'.seq ?_
    -- region 5 (map.go:1019)
    refine Go'.region [(0, 0), (1, 0), (2, 0), (3, 1), (4, 0), (5, 0)] rfl ?_
    refine O.mv rfl rfl rfl rfl rfl ?_
    refine O.nc rfl rfl rfl rfl rfl ?_
    refine O.fa0 (off := 5) rfl rfl rfl rfl ⟨_, _, _, Go.Proofs.Try.underlying115, rfl, rfl, Go.Proofs.Try.sizeOf111⟩ rfl ?_
    refine O.ld rfl rfl rfl (fun w => ⟨Go.Proofs.Try.isAgg111 w, Go.Proofs.Try.sizeOf111 w⟩) rfl hsv ?_
    refine O.len rfl rfl rfl rfl Go.Proofs.Try.underlying111 rfl ?_
    refine O.cmp rfl rfl rfl rfl rfl rfl (eqlT rfl) ?_
    refine Pl.fin [(0, _), (2, _), (22, _)] ⟨rfl, rfl, rfl, trivial⟩ ?_
    refine Go'.condT rfl ?_
    refine Go'.seq ?_
    refine Go'.seq ?_
    rcases sa with _ | _
    · skip
      -- region 6 (map.go:1020)
      refine Go'.region [(0, 0), (1, 0), (2, 0), (3, 1)] rfl ?_
      refine O.mv rfl rfl rfl rfl rfl ?_
      refine O.nc rfl rfl rfl rfl rfl ?_
      refine O.fa0 (off := 3) rfl rfl rfl rfl ⟨_, _, _, Go.Proofs.Try.underlying115, rfl, rfl, Go.Proofs.Try.sizeOf4⟩ rfl ?_
      refine O.ld rfl rfl rfl (fun w => ⟨Go.Proofs.Try.isAgg4 w, Go.Proofs.Try.sizeOf4 w⟩) rfl hI.c3 ?_
      refine Pl.fin [(0, _), (2, _), (26, _)] ⟨rfl, rfl, rfl, trivial⟩ ?_
      refine Go'.condF rfl ?_
      refine Go'.skip ?_
      refine Go'.seq ?_
      -- region 8 (map.go:1023)
      refine Go'.region [(0, 0)] rfl ?_
      refine O.asg rfl rfl rfl rfl rfl ?_
      refine Pl.fin [(0, _), (2, _)] ⟨rfl, rfl, trivial⟩ ?_
      refine Go'.ret (vs := [_]) Go.Proofs.Try.func75 Go.Proofs.Try.results75 ⟨rfl, trivial⟩ ?_
      exact ⟨_, none, rfl, ⟨_, _, _, _, _, _, hI, rfl⟩, hno, fun _ => ⟨rfl, rfl⟩⟩
    · skip
      -- region 6 (map.go:1020)
      refine Go'.region [(0, 0), (1, 0), (2, 0), (3, 1)] rfl ?_
      refine O.mv rfl rfl rfl rfl rfl ?_
      refine O.nc rfl rfl rfl rfl rfl ?_
      refine O.fa0 (off := 3) rfl rfl rfl rfl ⟨_, _, _, Go.Proofs.Try.underlying115, rfl, rfl, Go.Proofs.Try.sizeOf4⟩ rfl ?_
      refine O.ld rfl rfl rfl (fun w => ⟨Go.Proofs.Try.isAgg4 w, Go.Proofs.Try.sizeOf4 w⟩) rfl hI.c3 ?_
      refine Pl.fin [(0, _), (2, _), (26, _)] ⟨rfl, rfl, rfl, trivial⟩ ?_
      refine Go'.condT rfl ?_
      refine Go'.seq ?_
      have hf := iFirst_spec (B := B) hI hT hsi hsz
      by_cases hl0 : 0 < l.length
      · skip
        rw [decide_eq_true hl0, if_pos hl0] at hf
        -- region 7 (map.go:1021)
        refine Go'.region [(0, 0), (1, 2), (2, 0), (3, 0), (4, 2), (5, 0), (6, 0)] rfl ?_
        refine O.mv rfl rfl rfl rfl rfl ?_
        refine O.call rfl rfl rfl Go.Proofs.Try.call78 rfl hf ?_
        rintro _ H1 ⟨rfl, hp⟩
        obtain ⟨sk2, sa2, se2, Z2, fr2, kv2, hI2, hst⟩ := hp
        obtain ⟨rfl, hq, h0, t0, rfl, hS⟩ := hst
        have hsz2 : ∀ b, S b → ¬ Z2 b := fun b hs hz => (hI2.zz b hz).elim (hsz b hs) (fun h => by have := hT.lt b hs; omega)
        refine ⟨trivial, ?_⟩
        refine O.mv rfl rfl rfl rfl rfl ?_
        refine O.mv rfl rfl rfl rfl rfl ?_
        refine O.call rfl rfl rfl Go.Proofs.Try.call75 rfl (iNext_gen hI2.re (hK _ hI2.f) hsi hsz2 hS.gap) ?_
        rintro _ H3 ⟨rfl, hp3⟩
        refine ⟨trivial, ?_⟩
        refine O.pick rfl rfl rfl rfl rfl rfl ?_
        refine O.asg rfl rfl rfl rfl rfl ?_
        refine Pl.fin [(0, _), (2, _)] ⟨rfl, rfl, trivial⟩ ?_
        refine Go'.ret (vs := [_]) Go.Proofs.Try.func75 Go.Proofs.Try.results75 ⟨rfl, trivial⟩ ?_
        exact ⟨_, _, rfl, ItPost.trans (P := P) (S := S) hI2 hp3, hno, fun e => by subst e; simp at hl0⟩
      · skip
        rw [decide_eq_false hl0, if_neg hl0] at hf
        -- region 7 (map.go:1021)
        refine Go'.region [(0, 0), (1, 2), (2, 0), (3, 0), (4, 2), (5, 0), (6, 0)] rfl ?_
        refine O.mv rfl rfl rfl rfl rfl ?_
        refine O.call rfl rfl rfl Go.Proofs.Try.call78 rfl hf ?_
        rintro _ H1 ⟨rfl, hp⟩
        refine ⟨trivial, ?_⟩
        refine O.mv rfl rfl rfl rfl rfl ?_
        refine Pl.pass rfl rfl rfl rfl ?_
        refine Pl.pass2 rfl rfl rfl rfl trivial ?_
        refine O.pick rfl rfl rfl rfl rfl rfl ?_
        refine O.asg rfl rfl rfl rfl rfl ?_
        refine Pl.fin [(0, _), (2, _)] ⟨rfl, rfl, trivial⟩ ?_
        refine Go'.ret (vs := [_]) Go.Proofs.Try.func75 Go.Proofs.Try.results75 ⟨rfl, trivial⟩ ?_
        exact ⟨_, _, rfl, hp, hno, fun _ => ⟨rfl, rfl⟩⟩

theorem iPrev_spec {B : World} {H : Mem} {it tr : Nat} {mt sk sa se : Bool} {Z : Nat → Prop} {fr : List (Nat × Int)} {kv : Wk × Int} {P : Ps} {S : Nat → Prop} {l : List (Wk × Int)} {r : Option ((h : Nat) × Gt EI h)} (hI : Itr EI H H it tr mt Z sk sa se Z fr kv) (hT : TreeR H tr P S l r) (hsi : ¬ S it) (hsz : ∀ b, S b → ¬ Z b) {st : Option Nat} (hSt : StI r l sk fr kv st) :
    Fn Try.prog B 76 [.pointer (some ⟨it, 0, none⟩)] H (fun v H' => ∃ b st', v = .bool b ∧ ItPost EI H H' it tr mt Z r l st' ∧ (∀ q, st = some q → b = decide (0 < q) ∧ st' = if 0 < q then some (q - 1) else none) ∧ (l = [] → b = false ∧ st' = none)) := by
  rcases st with _ | q
  rotate_left
  · obtain ⟨rfl, hq, h0, t0, rfl, hS⟩ := hSt
    exact (iPrev_gen hI hT hsi hsz hS).mono fun v H' ⟨e, hp⟩ => ⟨_, _, e, hp, fun q' e' => by cases e'; exact ⟨rfl, rfl⟩, fun e' => by subst e'; simp at hq⟩
  have hSt' : fr = [] := hSt
  subst hSt'
  have hK : ∀ H', Fr (fun b _ => b = it ∨ Z b) H H' → TreeR H' tr P S l r := fun H' hf => hT.keep hf fun b o hs hz => hz.elim (fun e => hsi (e ▸ hs)) (hsz b hs)
  have hll := hT.ll
  have hno : ∀ {b : Bool} {st' : Option Nat} (q : Nat), (none : Option Nat) = some q → b = decide (0 < q) ∧ st' = if 0 < q then some (q - 1) else none := fun q e => by cases e
  obtain ⟨sv, hsv, hA⟩ := hI.st
  obtain ⟨a0, c0, rfl⟩ : ∃ a c, sv = .slice a 0 c := by
    rcases hA with ⟨e, _⟩ | ⟨b, o, c, e, _⟩
    · exact ⟨_, _, e⟩
    · exact ⟨_, _, e⟩
  have hnl : l = [] → r = none := by
    intro e
    have hrt := hT.rt
    rcases r with _ | ⟨h0, t0⟩
    · rfl
    · obtain ⟨hg, hx, hl, _⟩ := hrt
      have := Gt.high hT.mn hg hx
      rw [hl, e] at this
      simp at this
  refine fn_of Go.Proofs.Try.func76 rfl Go.Proofs.Try.ntmps76 ?_
  refine (show Go' _ _ _ _ 210 [(0, _)] [.code _] _ from ?_)
  refine Go'.seq ?_
  -- region 0 (map.go:1059)
  refine Go'.region [(0, 0)] rfl ?_
  refine O.asg rfl rfl rfl rfl rfl ?_
  refine Pl.fin [(0, _), (2, _)] ⟨rfl, rfl, trivial⟩ ?_
  refine Go'.seq ?_
  refine Go'.seq ?_
  -- region 1 (map.go:1060)
  refine Go'.region [(0, 0), (1, 0), (2, 0), (3, 1), (4, 0)] rfl ?_
  refine O.mv rfl rfl rfl rfl rfl ?_
  refine O.nc rfl rfl rfl rfl rfl ?_
  refine O.faz rfl rfl rfl rfl ⟨_, _, _, Go.Proofs.Try.underlying115, rfl, rfl, Go.Proofs.Try.sizeOf108⟩ rfl ?_
  refine O.ld rfl rfl rfl (fun w => ⟨Go.Proofs.Try.isAgg108 w, Go.Proofs.Try.sizeOf108 w⟩) rfl hI.c0 ?_
  refine O.isNil rfl rfl rfl rfl Go.Proofs.Try.underlying108 rfl rfl ?_
  refine Pl.fin [(0, _), (2, _), (9, _)] ⟨rfl, rfl, rfl, trivial⟩ ?_
  refine Go'.condF rfl ?_
  refine Go'.skip ?_
  refine Go'.seq ?_
  refine Go'.seq ?_
  rcases sk with _ | _
  · skip
    -- region 3 (map.go:1063)
    refine Go'.region [(0, 0), (1, 0), (2, 0), (3, 1), (4, 0)] rfl ?_
    refine O.mv rfl rfl rfl rfl rfl ?_
    refine O.nc rfl rfl rfl rfl rfl ?_
    refine O.fa0 (off := 2) rfl rfl rfl rfl ⟨_, _, _, Go.Proofs.Try.underlying115, rfl, rfl, Go.Proofs.Try.sizeOf4⟩ rfl ?_
    refine O.ld rfl rfl rfl (fun w => ⟨Go.Proofs.Try.isAgg4 w, Go.Proofs.Try.sizeOf4 w⟩) rfl hI.c2 ?_
    refine O.not rfl rfl rfl rfl rfl ?_
    refine Pl.fin [(0, _), (2, _), (14, _)] ⟨rfl, rfl, rfl, trivial⟩ ?_
    refine Go'.condT rfl ?_
    refine Go'.seq ?_
    -- region 4 (map.go:1064)
    refine Go'.region [(0, 0)] rfl ?_
    refine O.asg rfl rfl rfl rfl rfl ?_
    refine Pl.fin [(0, _), (2, _)] ⟨rfl, rfl, trivial⟩ ?_
    refine Go'.ret (vs := [_]) Go.Proofs.Try.func76 Go.Proofs.Try.results76 ⟨rfl, trivial⟩ ?_
    exact ⟨_, none, rfl, ⟨_, _, _, _, _, _, hI, rfl⟩, hno, fun _ => ⟨rfl, rfl⟩⟩
  · skip
    -- region 3 (map.go:1063)
    refine Go'.region [(0, 0), (1, 0), (2, 0), (3, 1), (4, 0)] rfl ?_
    refine O.mv rfl rfl rfl rfl rfl ?_
    refine O.nc rfl rfl rfl rfl rfl ?_
    refine O.fa0 (off := 2) rfl rfl rfl rfl ⟨_, _, _, Go.Proofs.Try.underlying115, rfl, rfl, Go.Proofs.Try.sizeOf4⟩ rfl ?_
    refine O.ld rfl rfl rfl (fun w => ⟨Go.Proofs.Try.isAgg4 w, Go.Proofs.Try.sizeOf4 w⟩) rfl hI.c2 ?_
    refine O.not rfl rfl rfl rfl rfl ?_
    refine Pl.fin [(0, _), (2, _), (14, _)] ⟨rfl, rfl, rfl, trivial⟩ ?_
    refine Go'.condF rfl ?_
    refine Go'.skip ?_
    refine Go'.seq ?_
    refine Go'.seq ?_
    -- region 5 (map.go:1066)
    refine Go'.region [(0, 0), (1, 0), (2, 0), (3, 1), (4, 0), (5, 0)] rfl ?_
    refine O.mv rfl rfl rfl rfl rfl ?_
    refine O.nc rfl rfl rfl rfl rfl ?_
    refine O.fa0 (off := 5) rfl rfl rfl rfl ⟨_, _, _, Go.Proofs.Try.underlying115, rfl, rfl, Go.Proofs.Try.sizeOf111⟩ rfl ?_
    refine O.ld rfl rfl rfl (fun w => ⟨Go.Proofs.Try.isAgg111 w, Go.Proofs.Try.sizeOf111 w⟩) rfl hsv ?_
    refine O.len rfl rfl rfl rfl Go.Proofs.Try.underlying111 rfl ?_
    refine O.cmp rfl rfl rfl rfl rfl rfl (eqlT rfl) ?_
    refine Pl.fin [(0, _), (2, _), (20, _)] ⟨rfl, rfl, rfl, trivial⟩ ?_
    refine Go'.condT rfl ?_
    refine Go'.seq ?_
    refine Go'.seq ?_
    rcases se with _ | _
    · skip
      -- region 6 (map.go:1067)
      refine Go'.region [(0, 0), (1, 0), (2, 0), (3, 1)] rfl ?_
      refine O.mv rfl rfl rfl rfl rfl ?_
      refine O.nc rfl rfl rfl rfl rfl ?_
      refine O.fa0 (off := 4) rfl rfl rfl rfl ⟨_, _, _, Go.Proofs.Try.underlying115, rfl, rfl, Go.Proofs.Try.sizeOf4⟩ rfl ?_
      refine O.ld rfl rfl rfl (fun w => ⟨Go.Proofs.Try.isAgg4 w, Go.Proofs.Try.sizeOf4 w⟩) rfl hI.c4 ?_
      refine Pl.fin [(0, _), (2, _), (24, _)] ⟨rfl, rfl, rfl, trivial⟩ ?_
      refine Go'.condF rfl ?_
      refine Go'.skip ?_
      refine Go'.seq ?_
      -- region 8 (map.go:1070)
      refine Go'.region [(0, 0)] rfl ?_
      refine O.asg rfl rfl rfl rfl rfl ?_
      refine Pl.fin [(0, _), (2, _)] ⟨rfl, rfl, trivial⟩ ?_
      refine Go'.ret (vs := [_]) Go.Proofs.Try.func76 Go.Proofs.Try.results76 ⟨rfl, trivial⟩ ?_
      exact ⟨_, none, rfl, ⟨_, _, _, _, _, _, hI, rfl⟩, hno, fun _ => ⟨rfl, rfl⟩⟩
    · skip
      -- region 6 (map.go:1067)
      refine Go'.region [(0, 0), (1, 0), (2, 0), (3, 1)] rfl ?_
      refine O.mv rfl rfl rfl rfl rfl ?_
      refine O.nc rfl rfl rfl rfl rfl ?_
      refine O.fa0 (off := 4) rfl rfl rfl rfl ⟨_, _, _, Go.Proofs.Try.underlying115, rfl, rfl, Go.Proofs.Try.sizeOf4⟩ rfl ?_
      refine O.ld rfl rfl rfl (fun w => ⟨Go.Proofs.Try.isAgg4 w, Go.Proofs.Try.sizeOf4 w⟩) rfl hI.c4 ?_
      refine Pl.fin [(0, _), (2, _), (24, _)] ⟨rfl, rfl, rfl, trivial⟩ ?_
      refine Go'.condT rfl ?_
      refine Go'.seq ?_
      have hf := iLast_spec (B := B) hI hT hsi hsz
      by_cases hl0 : 0 < l.length
      · skip
        rw [decide_eq_true hl0, if_pos hl0] at hf
        -- region 7 (map.go:1068)
        refine Go'.region [(0, 0), (1, 2), (2, 0), (3, 0), (4, 2), (5, 0), (6, 0)] rfl ?_
        refine O.mv rfl rfl rfl rfl rfl ?_
        refine O.call rfl rfl rfl Go.Proofs.Try.call74 rfl hf ?_
        rintro _ H1 ⟨rfl, hp⟩
        obtain ⟨sk2, sa2, se2, Z2, fr2, kv2, hI2, hst⟩ := hp
        obtain ⟨rfl, hq, h0, t0, rfl, hS⟩ := hst
        have hsz2 : ∀ b, S b → ¬ Z2 b := fun b hs hz => (hI2.zz b hz).elim (hsz b hs) (fun h => by have := hT.lt b hs; omega)
        refine ⟨trivial, ?_⟩
        refine O.mv rfl rfl rfl rfl rfl ?_
        refine O.mv rfl rfl rfl rfl rfl ?_
        refine O.call rfl rfl rfl Go.Proofs.Try.call76 rfl (iPrev_gen hI2.re (hK _ hI2.f) hsi hsz2 hS) ?_
        rintro _ H3 ⟨rfl, hp3⟩
        refine ⟨trivial, ?_⟩
        refine O.pick rfl rfl rfl rfl rfl rfl ?_
        refine O.asg rfl rfl rfl rfl rfl ?_
        refine Pl.fin [(0, _), (2, _)] ⟨rfl, rfl, trivial⟩ ?_
        refine Go'.ret (vs := [_]) Go.Proofs.Try.func76 Go.Proofs.Try.results76 ⟨rfl, trivial⟩ ?_
        exact ⟨_, _, rfl, ItPost.trans (P := P) (S := S) hI2 hp3, hno, fun e => by subst e; simp at hl0⟩
      · skip
        rw [decide_eq_false hl0, if_neg hl0] at hf
        -- region 7 (map.go:1068)
        refine Go'.region [(0, 0), (1, 2), (2, 0), (3, 0), (4, 2), (5, 0), (6, 0)] rfl ?_
        refine O.mv rfl rfl rfl rfl rfl ?_
        refine O.call rfl rfl rfl Go.Proofs.Try.call74 rfl hf ?_
        rintro _ H1 ⟨rfl, hp⟩
        refine ⟨trivial, ?_⟩
        refine O.mv rfl rfl rfl rfl rfl ?_
        refine Pl.pass rfl rfl rfl rfl ?_
        refine Pl.pass2 rfl rfl rfl rfl trivial ?_
        refine O.pick rfl rfl rfl rfl rfl rfl ?_
        refine O.asg rfl rfl rfl rfl rfl ?_
        refine Pl.fin [(0, _), (2, _)] ⟨rfl, rfl, trivial⟩ ?_
        refine Go'.ret (vs := [_]) Go.Proofs.Try.func76 Go.Proofs.Try.results76 ⟨rfl, trivial⟩ ?_
        exact ⟨_, _, rfl, hp, hno, fun _ => ⟨rfl, rfl⟩⟩

theorem iSeek_spec {B : World} {H : Mem} {it tr : Nat} {mt sk sa se : Bool} {Z : Nat → Prop} {fr : List (Nat × Int)} {kv : Wk × Int} {P : Ps} {S : Nat → Prop} {l : List (Wk × Int)} {r : Option ((h : Nat) × Gt EI h)} (hI : Itr EI H H it tr mt Z sk sa se Z fr kv) (hT : TreeR H tr P S l r) (hsi : ¬ S it) (hsz : ∀ b, S b → ¬ Z b) (hsrt : Pl.Srt OI l) (hmx : P.mx ≤ 255) (x : Wk × Int) :
    Fn Try.prog B 77 [.pointer (some ⟨it, 0, none⟩), .string x.1] H (fun v H' => v = .bool (decide (Pl.pos OI x l < l.length)) ∧ ItPost EI H H' it tr mt Z r l (if Pl.pos OI x l < l.length then some (Pl.pos OI x l) else none)) := by
  have hK : ∀ H', Fr (fun b _ => b = it ∨ Z b) H H' → TreeR H' tr P S l r := fun H' hf => hT.keep hf fun b o hs hz => hz.elim (fun e => hsi (e ▸ hs)) (hsz b hs)
  have hll := hT.ll
  refine fn_of Go.Proofs.Try.func77 rfl Go.Proofs.Try.ntmps77 ?_
  refine (show Go' _ _ _ _ 117 [(0, _), (1, _)] [.code _] _ from ?_)
  refine Go'.seq ?_
  -- region 0 (map.go:933)
  refine Go'.region [(0, 0)] rfl ?_
  refine O.asg rfl rfl rfl rfl rfl ?_
  refine Pl.fin [(0, _), (1, _), (4, _)] ⟨rfl, rfl, rfl, trivial⟩ ?_
  refine Go'.seq ?_
  refine Go'.seq ?_
  -- region 1 (map.go:934)
  refine Go'.region [(0, 0), (1, 0), (2, 0), (3, 1), (4, 0)] rfl ?_
  refine O.mv rfl rfl rfl rfl rfl ?_
  refine O.nc rfl rfl rfl rfl rfl ?_
  refine O.faz rfl rfl rfl rfl ⟨_, _, _, Go.Proofs.Try.underlying115, rfl, rfl, Go.Proofs.Try.sizeOf108⟩ rfl ?_
  refine O.ld rfl rfl rfl (fun w => ⟨Go.Proofs.Try.isAgg108 w, Go.Proofs.Try.sizeOf108 w⟩) rfl hI.c0 ?_
  refine O.isNil rfl rfl rfl rfl Go.Proofs.Try.underlying108 rfl rfl ?_
  refine Pl.fin [(0, _), (1, _), (4, _), (12, _)] ⟨rfl, rfl, rfl, rfl, trivial⟩ ?_
  refine Go'.condF rfl ?_
  refine Go'.skip ?_
  refine Go'.seq ?_
  -- region 3 (map.go:937)
  refine Go'.region [(0, 0), (1, 0), (2, 0), (3, 2)] rfl ?_
  refine O.mv rfl rfl rfl rfl rfl ?_
  refine O.nc rfl rfl rfl rfl rfl ?_
  refine O.fa0 (off := 2) rfl rfl rfl rfl ⟨_, _, _, Go.Proofs.Try.underlying115, rfl, rfl, Go.Proofs.Try.sizeOf4⟩ rfl ?_
  refine O.st rfl rfl Go.Proofs.Try.sizeOf4 rfl rfl rfl rfl rfl (hI.w 2 (by decide)) ?_
  intro Hc Wc
  replace hI := hI.set2 Wc
  have hsv0 := hI.st
  obtain ⟨sv, hsv, hA⟩ := hsv0
  refine ⟨trivial, ?_⟩
  refine Pl.fin [(0, _), (1, _), (4, _)] ⟨rfl, rfl, rfl, trivial⟩ ?_
  refine Go'.seq ?_
  -- region 4 (map.go:938)
  refine Go'.region [(0, 0), (1, 0), (2, 0), (3, 0), (4, 1), (5, 0), (6, 0), (7, 0), (8, 2)] rfl ?_
  refine O.mv rfl rfl rfl rfl rfl ?_
  refine O.mv rfl rfl rfl rfl rfl ?_
  refine O.nc rfl rfl rfl rfl rfl ?_
  refine O.fa0 (off := 5) rfl rfl rfl rfl ⟨_, _, _, Go.Proofs.Try.underlying115, rfl, rfl, Go.Proofs.Try.sizeOf111⟩ rfl ?_
  refine O.ld rfl rfl rfl (fun w => ⟨Go.Proofs.Try.isAgg111 w, Go.Proofs.Try.sizeOf111 w⟩) rfl hsv ?_
  refine O.slcA (F := EK) (j := 0) rfl rfl rfl rfl Go.Proofs.Try.underlying111 Go.Proofs.Try.sizeOf175 rfl hA ⟨_, by rfl⟩ (Nat.zero_le _) ?_
  intro v1 hA1
  obtain ⟨a1, m1, c1, rfl⟩ := hA1.form
  refine O.nc rfl rfl rfl rfl rfl ?_
  refine O.fa0 (off := 5) rfl rfl rfl rfl ⟨_, _, _, Go.Proofs.Try.underlying115, rfl, rfl, Go.Proofs.Try.sizeOf111⟩ rfl ?_
  refine O.st rfl rfl Go.Proofs.Try.sizeOf111 rfl rfl rfl rfl rfl (hI.w 5 (by decide)) ?_
  intro Hd Wd
  replace hI := hI.set5 (fr' := []) (by rw [List.take_zero] at hA1; exact hA1) Wd
  refine ⟨trivial, ?_⟩
  refine Pl.fin [(0, _), (1, _), (4, _)] ⟨rfl, rfl, rfl, trivial⟩ ?_
  refine Go'.seq ?_
  refine Go'.seq ?_
  have hR := hK _ hI.f
  rcases r with _ | ⟨h0, t0⟩
  · skip
    obtain ⟨rfl, hroot⟩ := hR.rt
    -- region 5 (map.go:939)
    refine Go'.region [(0, 0), (1, 0), (2, 0), (3, 1), (4, 0), (5, 0), (6, 1), (7, 0)] rfl ?_
    refine O.mv rfl rfl rfl rfl rfl ?_
    refine O.nc rfl rfl rfl rfl rfl ?_
    refine O.faz rfl rfl rfl rfl ⟨_, _, _, Go.Proofs.Try.underlying115, rfl, rfl, Go.Proofs.Try.sizeOf108⟩ rfl ?_
    refine O.ld rfl rfl rfl (fun w => ⟨Go.Proofs.Try.isAgg108 w, Go.Proofs.Try.sizeOf108 w⟩) rfl hI.c0 ?_
    refine O.nc rfl rfl rfl rfl rfl ?_
    refine O.fa0 (off := 2) rfl rfl rfl rfl ⟨_, _, _, Go.Proofs.Try.underlying165, rfl, rfl, Go.Proofs.Try.sizeOf163⟩ rfl ?_
    refine O.ld rfl rfl rfl (fun w => ⟨Go.Proofs.Try.isAgg163 w, Go.Proofs.Try.sizeOf163 w⟩) rfl hroot ?_
    refine O.isNil rfl rfl rfl rfl Go.Proofs.Try.underlying163 rfl rfl ?_
    refine Pl.fin [(0, _), (1, _), (4, _), (31, _)] ⟨rfl, rfl, rfl, rfl, trivial⟩ ?_
    refine Go'.condT rfl ?_
    refine Go'.seq ?_
    -- region 6 (map.go:940)
    refine Go'.region [(0, 0)] rfl ?_
    refine O.asg rfl rfl rfl rfl rfl ?_
    refine Pl.fin [(0, _), (1, _), (4, _)] ⟨rfl, rfl, rfl, trivial⟩ ?_
    refine Go'.ret (vs := [_]) Go.Proofs.Try.func77 Go.Proofs.Try.results77 ⟨rfl, trivial⟩ ?_
    exact ⟨rfl, _, _, _, _, _, _, hI, rfl⟩
  · skip
    obtain ⟨hg, hx, hl, hroot, haf⟩ := hR.rt
    have hptr : cl _ tr 2 = some (.pointer (some ⟨Gt.p h0 t0, 0, none⟩)) := hroot
    obtain ⟨kp, hN⟩ := hg.node
    have hn0 := hN.c0
    rw [hg.isoe] at hn0
    -- region 5 (map.go:939)
    refine Go'.region [(0, 0), (1, 0), (2, 0), (3, 1), (4, 0), (5, 0), (6, 1), (7, 0)] rfl ?_
    refine O.mv rfl rfl rfl rfl rfl ?_
    refine O.nc rfl rfl rfl rfl rfl ?_
    refine O.faz rfl rfl rfl rfl ⟨_, _, _, Go.Proofs.Try.underlying115, rfl, rfl, Go.Proofs.Try.sizeOf108⟩ rfl ?_
    refine O.ld rfl rfl rfl (fun w => ⟨Go.Proofs.Try.isAgg108 w, Go.Proofs.Try.sizeOf108 w⟩) rfl hI.c0 ?_
    refine O.nc rfl rfl rfl rfl rfl ?_
    refine O.fa0 (off := 2) rfl rfl rfl rfl ⟨_, _, _, Go.Proofs.Try.underlying165, rfl, rfl, Go.Proofs.Try.sizeOf163⟩ rfl ?_
    refine O.ld rfl rfl rfl (fun w => ⟨Go.Proofs.Try.isAgg163 w, Go.Proofs.Try.sizeOf163 w⟩) rfl hptr ?_
    refine O.isNil rfl rfl rfl rfl Go.Proofs.Try.underlying163 rfl rfl ?_
    refine Pl.fin [(0, _), (1, _), (4, _), (31, _)] ⟨rfl, rfl, rfl, rfl, trivial⟩ ?_
    refine Go'.condF rfl ?_
    refine Go'.skip ?_
    refine Go'.seq ?_
    -- region 7 (map.go:942)
    refine Go'.draw (fun _ => True) [(0, 0), (1, 0), (2, 0), (3, 1), (4, 0), (5, 0), (6, 0), (7, 1), (8, 0), (9, 0), (10, 0), (11, 0), (12, 0), (13, 1), (14, 2), (15, 0)] (by kernel_rfl) (by kernel_rfl) (trivial) ?_
    refine O.mv rfl rfl rfl rfl rfl ?_
    refine O.nc rfl rfl rfl rfl rfl ?_
    refine O.faz rfl rfl rfl rfl ⟨_, _, _, Go.Proofs.Try.underlying115, rfl, rfl, Go.Proofs.Try.sizeOf108⟩ rfl ?_
    refine O.ld rfl rfl rfl (fun w => ⟨Go.Proofs.Try.isAgg108 w, Go.Proofs.Try.sizeOf108 w⟩) rfl hI.c0 ?_
    refine O.mv rfl rfl rfl rfl rfl ?_
    refine O.nc rfl rfl rfl rfl rfl ?_
    refine O.faz rfl rfl rfl rfl ⟨_, _, _, Go.Proofs.Try.underlying115, rfl, rfl, Go.Proofs.Try.sizeOf108⟩ rfl ?_
    refine O.ld rfl rfl rfl (fun w => ⟨Go.Proofs.Try.isAgg108 w, Go.Proofs.Try.sizeOf108 w⟩) rfl hI.c0 ?_
    refine O.nc rfl rfl rfl rfl rfl ?_
    refine O.fa0 (off := 2) rfl rfl rfl rfl ⟨_, _, _, Go.Proofs.Try.underlying165, rfl, rfl, Go.Proofs.Try.sizeOf163⟩ rfl ?_
    refine O.mv rfl rfl rfl rfl rfl ?_
    refine O.nc rfl rfl rfl rfl rfl ?_
    refine O.fa0 (off := 1) rfl rfl rfl rfl ⟨_, _, _, Go.Proofs.Try.underlying115, rfl, rfl, Go.Proofs.Try.sizeOf4⟩ rfl ?_
    refine O.ld rfl rfl rfl (fun w => ⟨Go.Proofs.Try.isAgg4 w, Go.Proofs.Try.sizeOf4 w⟩) rfl hI.c1 ?_
    refine O.callQ rfl rfl rfl Go.Proofs.Try.call117 rfl (isoLoad_spec mt hroot hn0 hR.iso) trivial ?_
    refine O.asg rfl rfl rfl rfl rfl ?_
    refine Pl.fin [(0, _), (1, _), (4, _), (5, _)] ⟨rfl, rfl, rfl, rfl, trivial⟩ ?_
    refine Go'.block ?_
    unfold ptr
    have hC := Ctx.root t0
    have hQ : Pl.Srt OI (Gt.L h0 t0) ∧ Pl.pos OI x l = 0 + Pl.pos OI x (Gt.L h0 t0) := by rw [hl, Nat.zero_add]; exact ⟨hsrt, rfl⟩
    clear hR hg hx hl hroot haf hptr hN hn0
    refine Go'.loop ?_
    refine Go'.keep [(0, _), (1, _), (5, _)] ⟨rfl, rfl, rfl, trivial⟩ ?_
    refine Go'.ind (σ := ((h : Nat) × Gt EI h) × List (Nat × Int) × (Nat → Prop)) (fun s => s.1.1) (fun s H' => Itr EI H H' it tr mt Z true sa se s.2.2 s.2.1 kv ∧ ∃ a, Ctx t0 s.2.1 s.1.1 s.1.2 a ∧ Pl.Srt OI (Gt.L s.1.1 s.1.2) ∧ Pl.pos OI x l = a + Pl.pos OI x (Gt.L s.1.1 s.1.2))
      (fun s => [(0, .pointer (some ⟨it, 0, none⟩)), (1, .string x.1), (5, .pointer (some ⟨Gt.p s.1.1 s.1.2, 0, none⟩))]) (⟨_, _⟩, _, _) ⟨hI, _, hC, hQ⟩ rfl ?_
    clear hI hC hQ
    rintro ⟨⟨h1, s1⟩, fs1, Z1⟩ H2 ⟨hI, a, hC, hs, hQ⟩ ih
    simp only at hI hC ih
    replace hs : Pl.Srt OI (Gt.L h1 s1) := hs
    replace hQ : Pl.pos OI x l = a + Pl.pos OI x (Gt.L h1 s1) := hQ
    have hsv0 := hI.st
    obtain ⟨sv, hsv, hA⟩ := hsv0
    have hR := hK _ hI.f
    obtain ⟨hg, hx, hl, hroot, haf⟩ := hR.rt
    obtain ⟨hgd, hx1, hfl, haf1⟩ := Ctx.good hR.mn hg hx hC
    have hhi := Gt.high hR.mn hg hx
    rw [hl] at hhi
    obtain ⟨kp, hN⟩ := hgd.node
    have hxm := hgd.xmx
    have hsX : Pl.Srt OI (Gt.X h1 s1) := by
      rcases h1 with _ | h1
      · exact hs
      · obtain ⟨g, X, K⟩ := s1
        have hKl : K.length = X.length + 1 := hgd.2.2.2.2.2.1
        have hs' : Pl.Srt OI (Pl.inter X (K.map (Gt.L h1))) := hs
        have hle : X.length < (K.map (Gt.L h1)).length := by rw [List.length_map, hKl]; exact Nat.lt_succ_self _
        exact hs'.sublist (Pl.sublist_inter X _ hle)
    have hple := Pl.pos_le OI x (Gt.X h1 s1)
    have hplt : Pl.fnd OI x (Gt.X h1 s1) = true → Pl.pos OI x (Gt.X h1 s1) < (Gt.X h1 s1).length := Pl.fnd_pos_lt OI
    refine (show Go' _ _ _ _ _ [(0, .pointer (some ⟨it, 0, none⟩)), (1, .string x.1), (5, .pointer (some ⟨Gt.p h1 s1, 0, none⟩))] _ _ from ?_)
    refine Go'.block ?_
    refine Go'.seq ?_
    -- region 8 (map.go:944)
    refine Go'.region [(0, 0), (1, 0), (2, 0), (3, 1), (4, 0), (5, 0), (6, 2), (7, 0), (8, 0), (9, 0), (10, 0), (11, 0)] rfl ?_
    refine O.mv rfl rfl rfl rfl rfl ?_
    refine O.nc rfl rfl rfl rfl rfl ?_
    refine O.faz rfl rfl rfl rfl ⟨_, _, _, Go.Proofs.Try.underlying115, rfl, rfl, Go.Proofs.Try.sizeOf108⟩ rfl ?_
    refine O.ld rfl rfl rfl (fun w => ⟨Go.Proofs.Try.isAgg108 w, Go.Proofs.Try.sizeOf108 w⟩) rfl hI.c0 ?_
    refine O.mv rfl rfl rfl rfl rfl ?_
    refine O.mv rfl rfl rfl rfl rfl ?_
    refine O.callQ rfl rfl rfl Go.Proofs.Try.call119 rfl (search_spec x hN hsX (by omega)) trivial ?_
    refine O.mv rfl rfl rfl rfl rfl ?_
    refine O.ext rfl rfl rfl rfl rfl rfl ?_
    refine O.ext rfl rfl rfl rfl rfl rfl ?_
    refine O.asg rfl rfl rfl rfl rfl ?_
    refine O.asg rfl rfl rfl rfl rfl ?_
    refine Pl.fin [(0, _), (1, _), (5, _), (6, _), (7, _)] ⟨rfl, rfl, rfl, rfl, rfl, trivial⟩ ?_
    refine Go'.seq ?_
    -- region 9 (map.go:945)
    refine Go'.region [(0, 0), (1, 0), (2, 0), (3, 0), (4, 1), (5, 0), (6, 0), (7, 0), (8, 2), (9, 2), (10, 0), (11, 0), (12, 2)] rfl ?_
    refine O.mv rfl rfl rfl rfl rfl ?_
    refine O.mv rfl rfl rfl rfl rfl ?_
    refine O.nc rfl rfl rfl rfl rfl ?_
    refine O.fa0 (off := 5) rfl rfl rfl rfl ⟨_, _, _, Go.Proofs.Try.underlying115, rfl, rfl, Go.Proofs.Try.sizeOf111⟩ rfl ?_
    refine O.ld rfl rfl rfl (fun w => ⟨Go.Proofs.Try.isAgg111 w, Go.Proofs.Try.sizeOf111 w⟩) rfl hsv ?_
    refine O.mv rfl rfl rfl rfl rfl ?_
    refine O.mv rfl rfl rfl rfl rfl ?_
    refine O.bld (cs := (EK.enc (Gt.p h1 s1, (((Pl.pos OI x (Gt.X h1 s1) : Nat) : Int) : Int)))) rfl rfl rfl rfl (st175) rfl (by kernel_rfl) ?_
    refine O.bsl (cs := (EK.enc (Gt.p h1 s1, (((Pl.pos OI x (Gt.X h1 s1) : Nat) : Int) : Int)))) rfl rfl rfl ⟨Go.Proofs.Try.underlying111, Go.Proofs.Try.sizeOf175, Go.Proofs.Try.zeroValue175, ⟨_, Go.Proofs.Try.typeInfo175, rfl⟩, rfl, by decide, by decide⟩ rfl (by decide) (by kernel_rfl) ?_
    intro H3 M3
    have hs3 := M3.size
    have hA3 := hA.fr (M3.fr nowhere) (fun _ _ _ _ => nw)
    have m3 : Rd H3 H2.size 0 (row EK [(Gt.p h1 s1, (((Pl.pos OI x (Gt.X h1 s1) : Nat) : Int) : Int))]) := M3.rd _ [] (by simp [row, EK])
    refine ⟨trivial, ?_⟩
    refine O.appA (E := EK) (Y := [(Gt.p h1 s1, (((Pl.pos OI x (Gt.X h1 s1) : Nat) : Int) : Int))]) rfl rfl rfl ⟨Go.Proofs.Try.underlying111, Go.Proofs.Try.sizeOf175, Go.Proofs.Try.zeroValue175, ⟨_, Go.Proofs.Try.typeInfo175, rfl⟩, rfl, by decide, by decide⟩ rfl hA3 rfl ⟨_, _, _, rfl, m3⟩ (Nat.succ_pos _) (Nat.le_trans (Nat.mul_le_mul_left _ (Nat.le_of_ble_eq_true (n := _) (m := 4096) rfl)) (by rw [List.length_reverse]; simp only [List.length_singleton]; omega)) (by rw [List.length_reverse]; simp only [List.length_singleton]; omega) ?_
    intro v4 H4 hA4 hF4 hs4
    obtain ⟨a4, m4, c4, rfl⟩ := hA4.form
    have hw4 : Wr H4 it 5 1 := hF4.wr ((M3.fr nowhere).wr (hI.w 5 (by decide)))
    refine ⟨trivial, ?_⟩
    refine O.nc rfl rfl rfl rfl rfl ?_
    refine O.fa0 (off := 5) rfl rfl rfl rfl ⟨_, _, _, Go.Proofs.Try.underlying115, rfl, rfl, Go.Proofs.Try.sizeOf111⟩ rfl ?_
    refine O.st rfl rfl Go.Proofs.Try.sizeOf111 rfl rfl rfl rfl rfl hw4 ?_
    intro H5 W5
    replace hI := hI.push (M3.fr nowhere) hF4 hA4 W5
    refine ⟨trivial, ?_⟩
    refine Pl.fin [(0, _), (1, _), (5, _), (6, _), (7, _)] ⟨rfl, rfl, rfl, rfl, rfl, trivial⟩ ?_
    refine Go'.seq ?_
    refine Go'.seq ?_
    clear hR hg hx hl hroot haf hgd hx1 hfl haf1 hN kp
    have hR := hK _ hI.f
    obtain ⟨hg, hx, hl, hroot, haf⟩ := hR.rt
    obtain ⟨hgd, hx1, hfl, haf1⟩ := Ctx.good hR.mn hg hx hC
    obtain ⟨kp, hN⟩ := hgd.node
    cases hfd : Pl.fnd OI x (Gt.X h1 s1)
    rotate_left
    · skip
      -- region 10 (map.go:946)
      refine Go'.region [(0, 0)] rfl ?_
      refine O.mv rfl rfl rfl rfl rfl ?_
      refine Pl.fin [(0, _), (1, _), (5, _), (6, _), (7, _), (69, _)] ⟨rfl, rfl, rfl, rfl, rfl, rfl, trivial⟩ ?_
      refine Go'.condT rfl ?_
      refine Go'.seq ?_
      have hlt := hplt hfd
      obtain ⟨y, hy⟩ : ∃ y, (Gt.X h1 s1)[Pl.pos OI x (Gt.X h1 s1)]? = some y := ⟨_, List.getElem?_eq_getElem hlt⟩
      have hS : Stand t0 ((Gt.p h1 s1, ((Pl.pos OI x (Gt.X h1 s1) : Nat) : Int)) :: fs1) (Pl.pos OI x l) ∧ l[Pl.pos OI x l]? = some y := by
        rcases h1 with _ | h1
        · obtain ⟨g, X⟩ := s1
          refine ⟨.inl ⟨fs1, g, X, a, _, rfl, hC, hlt, hQ⟩, ?_⟩
          have := Ctx.item0 hR.mn hg hx hC hy
          rw [hl] at this
          rw [hQ]; exact this
        · obtain ⟨g, X, K⟩ := s1
          have hKl : K.length = X.length + 1 := hgd.2.2.2.2.2.1
          have hlt' : Pl.pos OI x X < X.length := hlt
          obtain ⟨k0, hk0⟩ : ∃ k, K[Pl.pos OI x X]? = some k := ⟨_, List.getElem?_eq_getElem (by omega)⟩
          have hkL : (K.map (Gt.L h1))[Pl.pos OI x X]? = some (Gt.L h1 k0) := by rw [List.getElem?_map, hk0]; rfl
          have hrk : Pl.pos OI x (Pl.inter X (K.map (Gt.L h1))) = Pl.bl (K.map (Gt.L h1)) (Pl.pos OI x X) + (Gt.L h1 k0).length := Pl.inter_rank_found hs (by rw [List.length_map]; exact hKl) hfd hkL
          have hQ' : Pl.pos OI x l = a + Pl.pos OI x (Pl.inter X (K.map (Gt.L h1))) := hQ
          rw [hrk] at hQ'
          refine ⟨.inr ⟨fs1, h1, g, X, K, a, Pl.pos OI x X, rfl, hC, hlt', by rw [Pl.bl_succ hkL]; omega⟩, ?_⟩
          have := Ctx.item1 hR.mn hg hx hC hkL hy
          rw [hl] at this
          rw [hQ']; exact this
      obtain ⟨hS, hq⟩ := hS
      -- region 11 (map.go:947)
      refine Go'.region [(0, 0), (1, 0), (2, 0), (3, 0), (4, 1), (5, 0), (6, 0), (7, 1), (8, 0), (9, 0), (10, 2)] rfl ?_
      refine O.mv rfl rfl rfl rfl rfl ?_
      refine O.mv rfl rfl rfl rfl rfl ?_
      refine O.nc rfl rfl rfl rfl rfl ?_
      refine O.fa0 (off := 2) rfl rfl rfl rfl ⟨_, _, _, Go.Proofs.Try.underlying173, rfl, rfl, Go.Proofs.Try.sizeOf170⟩ rfl ?_
      refine O.ld rfl rfl rfl (fun w => ⟨Go.Proofs.Try.isAgg170 w, Go.Proofs.Try.sizeOf170 w⟩) rfl hN.c2 ?_
      refine O.mv rfl rfl rfl rfl rfl ?_
      refine O.ix (j := Pl.pos OI x (Gt.X h1 s1)) rfl rfl rfl rfl Go.Proofs.Try.underlying170 Go.Proofs.Try.sizeOf113 rfl rfl (by omega) hlt ?_
      refine O.lds rfl rfl rfl (fun w => ⟨Go.Proofs.Try.isAgg113 w, Go.Proofs.Try.sizeOf113 w⟩) rfl rfl (hN.sl.item hy) ?_
      refine O.nc rfl rfl rfl rfl rfl ?_
      refine O.fa0 (off := 6) rfl rfl rfl rfl ⟨_, _, _, Go.Proofs.Try.underlying115, rfl, rfl, Go.Proofs.Try.sizeOf113⟩ rfl ?_
      refine O.st (vs := (EI.enc y)) rfl rfl Go.Proofs.Try.sizeOf113 rfl rfl rfl rfl rfl hI.wk ?_
      intro H9 W9
      have hI9 := hI.set6 W9
      refine ⟨trivial, ?_⟩
      refine Pl.fin [(0, _), (1, _), (5, _), (6, _), (7, _), (69, _)] ⟨rfl, rfl, rfl, rfl, rfl, rfl, trivial⟩ ?_
      refine Go'.seq ?_
      -- region 12 (map.go:948)
      refine Go'.region [(0, 0)] rfl ?_
      refine O.asg rfl rfl rfl rfl rfl ?_
      refine Pl.fin [(0, _), (1, _), (4, _), (5, _), (6, _), (7, _), (69, _)] ⟨rfl, rfl, rfl, rfl, rfl, rfl, rfl, trivial⟩ ?_
      refine Go'.ret (vs := [_]) Go.Proofs.Try.func77 Go.Proofs.Try.results77 ⟨rfl, trivial⟩ ?_
      have hql : Pl.pos OI x l < l.length := (List.getElem?_eq_some_iff.1 hq).1
      exact ⟨congrArg Value.bool (decide_eq_true hql).symm, _, _, _, _, _, _, hI9, by rw [if_pos hql]; exact ⟨rfl, hq, _, _, rfl, hS⟩⟩
    · skip
      -- region 10 (map.go:946)
      refine Go'.region [(0, 0)] rfl ?_
      refine O.mv rfl rfl rfl rfl rfl ?_
      refine Pl.fin [(0, _), (1, _), (5, _), (6, _), (7, _), (69, _)] ⟨rfl, rfl, rfl, rfl, rfl, rfl, trivial⟩ ?_
      refine Go'.condF rfl ?_
      refine Go'.skip ?_
      refine Go'.seq ?_
      refine Go'.seq ?_
      rcases h1 with _ | h1
      · skip
        obtain ⟨g, X⟩ := s1
        have hN : NodeM EI _ g X (.pointer none) := hgd.1
        have hfs : fs1.length ≤ 4294967296 := by omega
        have hple : Pl.pos OI x X ≤ X.length := hple
        have hxl : X.length ≤ P.mx := hxm
        replace hQ : Pl.pos OI x l = a + Pl.pos OI x X := hQ
        replace hI : Itr EI H H5 it tr mt Z true sa se _ ((g.p, ((Pl.pos OI x X : Nat) : Int)) :: fs1) kv := hI
        obtain ⟨b, o, c, hTop⟩ := hI.top
        -- region 13 (map.go:950)
        refine Go'.region [(0, 0), (1, 2)] rfl ?_
        refine O.mv rfl rfl rfl rfl rfl ?_
        refine O.callQ rfl rfl rfl Go.Proofs.Try.call118 rfl (leaf_spec hN.c3) trivial ?_
        refine Pl.fin [(0, _), (1, _), (5, _), (6, _), (7, _), (69, _), (81, _)] ⟨rfl, rfl, rfl, rfl, rfl, rfl, rfl, trivial⟩ ?_
        refine Go'.condT rfl ?_
        refine Go'.seq ?_
        -- region 14 (map.go:951)
        refine Go'.draw (fun _ => True) [(0, 0), (1, 0), (2, 0), (3, 1), (4, 0), (5, 0), (6, 0), (7, 1), (8, 0), (9, 0), (10, 0), (11, 0), (12, 1), (13, 0), (14, 0), (15, 0), (16, 3)] (by kernel_rfl) (by kernel_rfl) (trivial) ?_
        refine O.mv rfl rfl rfl rfl rfl ?_
        refine O.nc rfl rfl rfl rfl rfl ?_
        refine O.fa0 (off := 5) rfl rfl rfl rfl ⟨_, _, _, Go.Proofs.Try.underlying115, rfl, rfl, Go.Proofs.Try.sizeOf111⟩ rfl ?_
        refine O.ld rfl rfl rfl (fun w => ⟨Go.Proofs.Try.isAgg111 w, Go.Proofs.Try.sizeOf111 w⟩) rfl hTop.c5 ?_
        refine O.mv rfl rfl rfl rfl rfl ?_
        refine O.nc rfl rfl rfl rfl rfl ?_
        refine O.fa0 (off := 5) rfl rfl rfl rfl ⟨_, _, _, Go.Proofs.Try.underlying115, rfl, rfl, Go.Proofs.Try.sizeOf111⟩ rfl ?_
        refine O.ld rfl rfl rfl (fun w => ⟨Go.Proofs.Try.isAgg111 w, Go.Proofs.Try.sizeOf111 w⟩) rfl hTop.c5 ?_
        refine O.len rfl rfl rfl rfl Go.Proofs.Try.underlying111 rfl ?_
        refine O.sub (((fs1.length : Nat) : Int)) rfl rfl rfl rfl rfl rfl (by omega) (by omega) ?_
        refine O.ix (j := fs1.length) rfl rfl rfl rfl Go.Proofs.Try.underlying111 Go.Proofs.Try.sizeOf175 rfl rfl (by omega) (by omega) ?_
        refine O.fa (off := 1) rfl rfl rfl rfl ⟨_, _, _, Go.Proofs.Try.underlying175, rfl, rfl, Go.Proofs.Try.sizeOf3⟩ rfl ?_
        refine O.ld rfl rfl rfl (fun w => ⟨Go.Proofs.Try.isAgg3 w, Go.Proofs.Try.sizeOf3 w⟩) rfl hTop.ci ?_
        refine O.sub (((Pl.pos OI x X : Nat) : Int) - 1) rfl rfl rfl rfl rfl rfl (by omega) (by omega) ?_
        refine O.ix (j := fs1.length) rfl rfl rfl rfl Go.Proofs.Try.underlying111 Go.Proofs.Try.sizeOf175 rfl rfl (by omega) (by omega) ?_
        refine O.fa (off := 1) rfl rfl rfl rfl ⟨_, _, _, Go.Proofs.Try.underlying175, rfl, rfl, Go.Proofs.Try.sizeOf3⟩ rfl ?_
        refine O.st3 rfl rfl Go.Proofs.Try.sizeOf3 rfl rfl rfl rfl rfl hTop.wi ?_
        intro H6 W6
        obtain ⟨hI6, hTop6⟩ := hI.sti hTop W6
        have hsz2 : ∀ b, S b → ¬ (fun b => Z1 b ∨ (b = H3.size ∧ b < H4.size)) b := fun b hs hz => (hI.zz b hz).elim (hsz b hs) (fun h => by have := hT.lt b hs; omega)
        have hG : Gap t0 ((g.p, ((Pl.pos OI x X : Nat) : Int) - 1) :: fs1) (Pl.pos OI x l) := .inl ⟨fs1, g, X, a, Pl.pos OI x X, rfl, hC, hple, hQ⟩
        refine Pl.fin [(0, _), (1, _), (5, _), (6, _), (7, _), (69, _), (81, _)] ⟨rfl, rfl, rfl, rfl, rfl, rfl, rfl, trivial⟩ ?_
        refine Go'.seq ?_
        -- region 15 (map.go:952)
        refine Go'.region [(0, 0), (1, 2), (2, 0)] rfl ?_
        refine O.mv rfl rfl rfl rfl rfl ?_
        refine O.call rfl rfl rfl Go.Proofs.Try.call75 rfl (iNext_gen hI6.re (hK _ hI6.f) hsi hsz2 hG) ?_
        rintro _ H7 ⟨rfl, hp7⟩
        refine ⟨trivial, ?_⟩
        refine O.asg rfl rfl rfl rfl rfl ?_
        refine Pl.fin [(0, _), (1, _), (4, _), (5, _), (6, _), (7, _), (69, _), (81, _)] ⟨rfl, rfl, rfl, rfl, rfl, rfl, rfl, rfl, trivial⟩ ?_
        refine Go'.ret (vs := [_]) Go.Proofs.Try.func77 Go.Proofs.Try.results77 ⟨rfl, trivial⟩ ?_
        exact ⟨rfl, ItPost.trans (P := P) (S := S) hI6 hp7⟩
      · skip
        obtain ⟨g, X, K⟩ := s1
        have hin : Inn _ P h1 g X ((Gt.ps h1 K).map some) K := hgd.inn
        have hKl : K.length = X.length + 1 := hgd.2.2.2.2.2.1
        have hol : ((Gt.ps h1 K).map some).length = X.length + 1 := by rw [List.length_map, Gt.ps, List.length_map]; exact hKl
        have hKL : (K.map (Gt.L h1)).length = X.length + 1 := by rw [List.length_map]; exact hKl
        have hple : Pl.pos OI x X ≤ X.length := hple
        obtain ⟨k0, hk0⟩ : ∃ k, K[Pl.pos OI x X]? = some k := ⟨K[Pl.pos OI x X], List.getElem?_eq_getElem (by omega)⟩
        have hk0m : k0 ∈ K := List.mem_of_getElem? hk0
        have hok : ((Gt.ps h1 K).map some)[Pl.pos OI x X]? = some (some (Gt.p h1 k0)) := by rw [Gt.ps, List.map_map, List.getElem?_map, hk0]; rfl
        have hkL : (K.map (Gt.L h1))[Pl.pos OI x X]? = some (Gt.L h1 k0) := by rw [List.getElem?_map, hk0]; rfl
        have hkat := hin.k.at hok
        have hgk := (hin.c.1 k0 hk0m).1
        obtain ⟨kpk, hNk⟩ := hgk.node
        have hk00 := hNk.c0
        rw [hgk.isoe] at hk00
        have hs' : Pl.Srt OI (Pl.inter X (K.map (Gt.L h1))) := hs
        have hrk : Pl.pos OI x (Pl.inter X (K.map (Gt.L h1))) = Pl.bl (K.map (Gt.L h1)) (Pl.pos OI x X) + Pl.pos OI x (Gt.L h1 k0) := Pl.inter_rank_child hs' hKL hfd hkL
        have hsk := Pl.child_srt OI hs' hKL hfd hkL
        have hQ' : Pl.pos OI x l = a + Pl.pos OI x (Pl.inter X (K.map (Gt.L h1))) := hQ
        rw [hrk] at hQ'
        -- region 13 (map.go:950)
        refine Go'.region [(0, 0), (1, 2)] rfl ?_
        refine O.mv rfl rfl rfl rfl rfl ?_
        refine O.callQ rfl rfl rfl Go.Proofs.Try.call118 rfl (leaf_spec hin.n.c3) trivial ?_
        refine Pl.fin [(0, _), (1, _), (5, _), (6, _), (7, _), (69, _), (81, _)] ⟨rfl, rfl, rfl, rfl, rfl, rfl, rfl, trivial⟩ ?_
        refine Go'.condF rfl ?_
        refine Go'.skip ?_
        -- region 16 (map.go:954)
        refine Go'.draw (fun _ => True) [(0, 0), (1, 0), (2, 0), (3, 1), (4, 0), (5, 0), (6, 0), (7, 1), (8, 0), (9, 1), (10, 0), (11, 0), (12, 0), (13, 0), (14, 0), (15, 1), (16, 2), (17, 0)] (by kernel_rfl) (by kernel_rfl) (trivial) ?_
        refine O.mv rfl rfl rfl rfl rfl ?_
        refine O.nc rfl rfl rfl rfl rfl ?_
        refine O.faz rfl rfl rfl rfl ⟨_, _, _, Go.Proofs.Try.underlying115, rfl, rfl, Go.Proofs.Try.sizeOf108⟩ rfl ?_
        refine O.ld rfl rfl rfl (fun w => ⟨Go.Proofs.Try.isAgg108 w, Go.Proofs.Try.sizeOf108 w⟩) rfl hI.c0 ?_
        refine O.mv rfl rfl rfl rfl rfl ?_
        refine O.nc rfl rfl rfl rfl rfl ?_
        refine O.fa0 (off := 3) rfl rfl rfl rfl ⟨_, _, _, Go.Proofs.Try.underlying173, rfl, rfl, Go.Proofs.Try.sizeOf171⟩ rfl ?_
        refine O.ld rfl rfl rfl (fun w => ⟨Go.Proofs.Try.isAgg171 w, Go.Proofs.Try.sizeOf171 w⟩) rfl hin.n.c3 ?_
        refine O.nc rfl rfl rfl rfl rfl ?_
        refine O.ld rfl rfl rfl (fun w => ⟨Go.Proofs.Try.isAgg176 w, Go.Proofs.Try.sizeOf176 w⟩) rfl hin.k.c ?_
        refine O.mv rfl rfl rfl rfl rfl ?_
        refine O.ix (j := Pl.pos OI x (Gt.X (h1 + 1) (g, X, K))) rfl rfl rfl rfl Go.Proofs.Try.underlying176 Go.Proofs.Try.sizeOf163 rfl rfl (by omega) (show Pl.pos OI x X < _ from by omega) ?_
        refine O.mv rfl rfl rfl rfl rfl ?_
        refine O.nc rfl rfl rfl rfl rfl ?_
        refine O.fa0 (off := 1) rfl rfl rfl rfl ⟨_, _, _, Go.Proofs.Try.underlying115, rfl, rfl, Go.Proofs.Try.sizeOf4⟩ rfl ?_
        refine O.ld rfl rfl rfl (fun w => ⟨Go.Proofs.Try.isAgg4 w, Go.Proofs.Try.sizeOf4 w⟩) rfl hI.c1 ?_
        refine O.callQ rfl rfl rfl Go.Proofs.Try.call117 rfl (isoLoad_spec mt hkat hk00 hR.iso) trivial ?_
        refine O.asg rfl rfl rfl rfl rfl ?_
        refine Pl.fin [(0, _), (1, _), (5, _), (6, _), (7, _), (69, _), (81, _)] ⟨rfl, rfl, rfl, rfl, rfl, rfl, rfl, trivial⟩ ?_
        refine Go'.inBlock ?_
        unfold ptr
        refine Go'.keep [(0, _), (1, _), (5, _)] ⟨rfl, rfl, rfl, trivial⟩ ?_
        refine Go'.inLoop ?_
        exact ih (⟨h1, k0⟩, _, _) _ ⟨hI, _, hC.down hk0, hsk, by show Pl.pos OI x l = a + Pl.bl (K.map (Gt.L h1)) (Pl.pos OI x X) + Pl.pos OI x (Gt.L h1 k0); omega⟩ (by simp only; omega)

end Go.Bt.FW
namespace Go.Bt.FW
open Go Go.Proofs
set_option maxRecDepth 20000
set_option maxHeartbeats 4000000
set_option linter.unusedVariables false

def kv0 : Wk × Int := (⟨#[]⟩, 0)
/-- A new iterator. -/
def itv (tr : Nat) (mt : Bool) : List Value := [.pointer (some ⟨tr, 0, none⟩), .bool mt, .bool false, .bool false, .bool false, .slice none 0 0] ++ EI.enc kv0
theorem itr_new {H H' : Mem} {it tr : Nat} {mt : Bool} (W : Wrote H H' it 0 (itv tr mt)) (hw : Wr H it 0 8) : Itr EI H' H' it tr mt (fun _ => False) false false false (fun _ => False) [] kv0 where
  c0 := W.all 0 _ rfl
  c1 := W.all 1 _ rfl
  c2 := W.all 2 _ rfl
  c3 := W.all 3 _ rfl
  c4 := W.all 4 _ rfl
  st := ⟨.slice none 0 0, W.all 5 _ rfl, Acc.nil _ _ _⟩
  kv := fun j v hv => by
    have h := W.all (6 + j) v (by rw [← hv]; unfold itv; rw [List.getElem?_append_right (by simp)]; simp)
    rwa [Nat.zero_add] at h
  wr := W.fr.wr hw
  nz := id
  f := Fr.refl _ _
  zz := fun _ h => h.elim
theorem MapM.treeR {H : Mem} {tr : Nat} {P : Ps} {S : Nat → Prop} {l : List (Wk × Int)} (hP : PsOk P) (hM : MapM H tr P S l) (hl : l.length ≤ 4294967296) : ∃ r : Option ((h : Nat) × Gt EI h), TreeR H tr P S l r := by
  obtain ⟨tc, srt, cnt, own, lt, hr⟩ := hM
  have hh1 := hP.h1
  rcases hr with ⟨e, k⟩ | ⟨h, t, hg, hx, e, hc, _, hown⟩
  · exact ⟨none, tc.iso, own, lt, hl, hh1, e, k⟩
  · exact ⟨some ⟨h, t⟩, tc.iso, own, lt, hl, hh1, hg, hx, e, hc, hown⟩

theorem iter_spec {B : World} {H : Mem} {tr : Nat} (mt : Bool) : Fn Try.prog B 116 [.pointer (some ⟨tr, 0, none⟩), .bool mt] H (fun r H' => r = .agg (itv tr mt).toArray ∧ Fr nowhere H H') := by
  have hF : Fr nowhere H H := Fr.refl _ _
  refine fn_of Go.Proofs.Try.func116 rfl Go.Proofs.Try.ntmps116 ?_
  refine (show Go' _ _ _ _ 11 [(0, _), (1, _)] [.code _] _ from ?_)
  refine Go'.seq ?_
  -- region 0 (map.go:924)
  refine Go'.region [(0, 2)] rfl ?_
  refine O.alloc rfl rfl rfl Go.Proofs.Try.zeroValue115 ?_
  intro H1 M1
  refine ⟨trivial, ?_⟩
  have hs1 := M1.size
  
  replace hF := hF.trans' (M1.fr nowhere) (fun _ _ _ h => h) (fun _ _ _ h => h.elim)
  have m4 : Wr H1 H.size 0 8 := M1.wr 8 (by decide)
  refine Pl.fin [(0, _), (1, _), (4, _)] ⟨rfl, rfl, rfl, trivial⟩ ?_
  refine Go'.seq ?_
  -- region 1 (map.go:925)
  refine Go'.region [(0, 2)] rfl ?_
  refine O.alloc rfl rfl rfl Go.Proofs.Try.zeroValue115 ?_
  intro H2 M2
  refine ⟨trivial, ?_⟩
  have hs2 := M2.size
  replace m4 := (M2.fr nowhere).wr m4
  replace hF := hF.trans' (M2.fr nowhere) (fun _ _ _ h => h) (fun _ _ _ h => h.elim)
  have m5 : Wr H2 H1.size 0 8 := M2.wr 8 (by decide)
  have hz : Rd H2 H1.size 0 ([.pointer none, .bool false, .bool false, .bool false, .bool false, .slice none 0 0] ++ EI.enc kv0) := M2.rd _ [] rfl
  refine Pl.fin [(0, _), (1, _), (4, _), (5, _)] ⟨rfl, rfl, rfl, rfl, trivial⟩ ?_
  refine Go'.seq ?_
  -- region 2 (map.go:926)
  refine Go'.region [(0, 0), (1, 0), (2, 2)] rfl ?_
  refine O.mv rfl rfl rfl rfl rfl ?_
  refine O.faz rfl rfl rfl rfl ⟨_, _, _, Go.Proofs.Try.underlying115, rfl, rfl, Go.Proofs.Try.sizeOf108⟩ rfl ?_
  refine O.st rfl rfl Go.Proofs.Try.sizeOf108 rfl rfl rfl rfl rfl (m5.at0 0 1 (by decide)) ?_
  intro H3 W3
  replace m4 := W3.fr.wr m4
  replace m5 := W3.fr.wr m5
  replace hF := hF.trans' W3.fr (fun _ _ _ h => h) (fun b o hb hz => by have h1 := hz.1; omega)
  refine ⟨trivial, ?_⟩
  refine Pl.fin [(1, _), (4, _), (5, _)] ⟨rfl, rfl, rfl, trivial⟩ ?_
  refine Go'.seq ?_
  -- region 3 (map.go:927)
  refine Go'.region [(0, 0), (1, 0), (2, 2)] rfl ?_
  refine O.mv rfl rfl rfl rfl rfl ?_
  refine O.fa0 (off := 1) rfl rfl rfl rfl ⟨_, _, _, Go.Proofs.Try.underlying115, rfl, rfl, Go.Proofs.Try.sizeOf4⟩ rfl ?_
  refine O.st rfl rfl Go.Proofs.Try.sizeOf4 rfl rfl rfl rfl rfl (m5.at0 1 1 (by decide)) ?_
  intro H4 W4
  replace m4 := W4.fr.wr m4
  replace m5 := W4.fr.wr m5
  replace hF := hF.trans' W4.fr (fun _ _ _ h => h) (fun b o hb hz => by have h1 := hz.1; omega)
  have r4 : Rd H4 H1.size 0 (itv tr mt) := by
    intro j v hv
    rcases j with _ | _ | j
    · cases hv; exact W4.keep1 W3.at (.inr (by decide))
    · cases hv; exact W4.at
    · exact W4.keep1 (W3.keep1 (hz (j + 2) v hv) (.inr (by omega))) (.inr (by omega))
  refine ⟨trivial, ?_⟩
  refine Pl.fin [(4, _), (5, _)] ⟨rfl, rfl, trivial⟩ ?_
  refine Go'.seq ?_
  -- region 4 (map.go:928)
  refine Go'.region [(0, 1), (1, 2)] rfl ?_
  refine O.lds rfl rfl rfl (fun w => ⟨Go.Proofs.Try.isAgg115 w, Go.Proofs.Try.sizeOf115 w⟩) rfl rfl r4 ?_
  refine O.st rfl rfl Go.Proofs.Try.sizeOf115 rfl rfl rfl rfl rfl m4 ?_
  intro H5 W5
  replace hF := hF.trans' W5.fr (fun _ _ _ h => h) (fun b o hb hz => by have h1 := hz.1; omega)
  refine ⟨trivial, ?_⟩
  refine Pl.fin [(4, _)] ⟨rfl, trivial⟩ ?_
  refine Go'.ret (vs := [_]) Go.Proofs.Try.func116 Go.Proofs.Try.results116 ⟨⟨_, _, rfl, fun _ _ => run_loadVar_agg (fun w => ⟨Go.Proofs.Try.isAgg115 w, Go.Proofs.Try.sizeOf115 w⟩) rfl W5.all⟩, trivial⟩ ?_
  exact ⟨rfl, hF⟩

theorem Iter_spec {B : World} {H : Mem} {tr : Nat} : Fn Try.prog B 73 [.pointer (some ⟨tr, 0, none⟩)] H (fun r H' => r = .agg (itv tr false).toArray ∧ Fr nowhere H H') := by
  have hF : Fr nowhere H H := Fr.refl _ _
  refine fn_of Go.Proofs.Try.func73 rfl Go.Proofs.Try.ntmps73 ?_
  refine (show Go' _ _ _ _ 5 [(0, _)] [.code _] _ from ?_)
  refine Go'.seq ?_
  -- region 0 (map.go:916)
  refine Go'.region [(0, 2)] rfl ?_
  refine O.alloc rfl rfl rfl Go.Proofs.Try.zeroValue115 ?_
  intro H1 M1
  refine ⟨trivial, ?_⟩
  have hs1 := M1.size
  
  replace hF := hF.trans' (M1.fr nowhere) (fun _ _ _ h => h) (fun _ _ _ h => h.elim)
  have m2 : Wr H1 H.size 0 8 := M1.wr 8 (by decide)
  refine Pl.fin [(0, _), (2, _)] ⟨rfl, rfl, trivial⟩ ?_
  refine Go'.seq ?_
  -- region 1 (map.go:917)
  refine Go'.region [(0, 0), (1, 2), (2, 2)] rfl ?_
  refine O.mv rfl rfl rfl rfl rfl ?_
  refine O.call rfl rfl rfl Go.Proofs.Try.call116 rfl (iter_spec false) ?_
  rintro _ H2 ⟨rfl, hF2⟩
  have hs2 := hF2.size
  replace m2 := hF2.wr m2
  replace hF := hF.trans' hF2 (fun _ _ _ h => h) (fun _ _ _ h => h.elim)
  refine ⟨trivial, ?_⟩
  refine O.st (vs := (itv tr false)) rfl rfl Go.Proofs.Try.sizeOf115 rfl rfl rfl rfl rfl m2 ?_
  intro H3 W3
  replace hF := hF.trans' W3.fr (fun _ _ _ h => h) (fun b o hb hz => by have h1 := hz.1; omega)
  refine ⟨trivial, ?_⟩
  refine Pl.fin [(2, _)] ⟨rfl, trivial⟩ ?_
  refine Go'.ret (vs := [_]) Go.Proofs.Try.func73 Go.Proofs.Try.results73 ⟨⟨_, _, rfl, fun _ _ => run_loadVar_agg (fun w => ⟨Go.Proofs.Try.isAgg115 w, Go.Proofs.Try.sizeOf115 w⟩) rfl W3.all⟩, trivial⟩ ?_
  exact ⟨rfl, hF⟩

theorem iKey_spec {B : World} {H : Mem} {it : Nat} {kv : Wk × Int} (hk : Rd H it 6 (EI.enc kv)) : Fn Try.prog B 79 [.pointer (some ⟨it, 0, none⟩)] H (fun v H' => v = .string kv.1 ∧ H' = H) := by
  refine fn_of Go.Proofs.Try.func79 rfl Go.Proofs.Try.ntmps79 ?_
  refine (show Go' _ _ _ _ 8 [(0, _)] [.code _] _ from ?_)
  refine Go'.seq ?_
  -- region 0 (map.go:1107)
  refine Go'.region [(0, 0)] rfl ?_
  refine O.asg rfl rfl rfl rfl rfl ?_
  refine Pl.fin [(0, _), (2, _)] ⟨rfl, rfl, trivial⟩ ?_
  refine Go'.seq ?_
  -- region 1 (map.go:1108)
  refine Go'.region [(0, 0), (1, 0), (2, 0), (3, 0), (4, 1), (5, 0)] rfl ?_
  refine O.mv rfl rfl rfl rfl rfl ?_
  refine O.nc rfl rfl rfl rfl rfl ?_
  refine O.fa0 (off := 6) rfl rfl rfl rfl ⟨_, _, _, Go.Proofs.Try.underlying115, rfl, rfl, Go.Proofs.Try.sizeOf113⟩ rfl ?_
  refine O.fa (off := 1) rfl rfl rfl rfl ⟨_, _, _, Go.Proofs.Try.underlying113, rfl, rfl, Go.Proofs.Try.sizeOf9⟩ rfl ?_
  refine O.ld rfl rfl rfl (fun w => ⟨Go.Proofs.Try.isAgg9 w, Go.Proofs.Try.sizeOf9 w⟩) rfl (hk 1 _ rfl) ?_
  refine O.asg rfl rfl rfl rfl rfl ?_
  refine Pl.fin [(2, _)] ⟨rfl, trivial⟩ ?_
  refine Go'.ret (vs := [_]) Go.Proofs.Try.func79 Go.Proofs.Try.results79 ⟨rfl, trivial⟩ ?_
  exact ⟨rfl, rfl⟩

theorem iValue_spec {B : World} {H : Mem} {it : Nat} {kv : Wk × Int} (hk : Rd H it 6 (EI.enc kv)) : Fn Try.prog B 80 [.pointer (some ⟨it, 0, none⟩)] H (fun v H' => v = .int .i64 kv.2 ∧ H' = H) := by
  refine fn_of Go.Proofs.Try.func80 rfl Go.Proofs.Try.ntmps80 ?_
  refine (show Go' _ _ _ _ 8 [(0, _)] [.code _] _ from ?_)
  refine Go'.seq ?_
  -- region 0 (map.go:1112)
  refine Go'.region [(0, 0)] rfl ?_
  refine O.asg rfl rfl rfl rfl rfl ?_
  refine Pl.fin [(0, _), (2, _)] ⟨rfl, rfl, trivial⟩ ?_
  refine Go'.seq ?_
  -- region 1 (map.go:1113)
  refine Go'.region [(0, 0), (1, 0), (2, 0), (3, 0), (4, 1), (5, 0)] rfl ?_
  refine O.mv rfl rfl rfl rfl rfl ?_
  refine O.nc rfl rfl rfl rfl rfl ?_
  refine O.fa0 (off := 6) rfl rfl rfl rfl ⟨_, _, _, Go.Proofs.Try.underlying115, rfl, rfl, Go.Proofs.Try.sizeOf113⟩ rfl ?_
  refine O.faz rfl rfl rfl rfl ⟨_, _, _, Go.Proofs.Try.underlying113, rfl, rfl, Go.Proofs.Try.sizeOf3⟩ rfl ?_
  refine O.ld rfl rfl rfl (fun w => ⟨Go.Proofs.Try.isAgg3 w, Go.Proofs.Try.sizeOf3 w⟩) rfl (hk 0 _ rfl) ?_
  refine O.asg rfl rfl rfl rfl rfl ?_
  refine Pl.fin [(2, _)] ⟨rfl, trivial⟩ ?_
  refine Go'.ret (vs := [_]) Go.Proofs.Try.func80 Go.Proofs.Try.results80 ⟨rfl, trivial⟩ ?_
  exact ⟨rfl, rfl⟩

end Go.Bt.FW
