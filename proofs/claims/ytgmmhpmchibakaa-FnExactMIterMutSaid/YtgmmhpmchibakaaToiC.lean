/- Contracts of functions of the program, proved by walking through their code. Conditions: those that each theorem names. -/
import Derived.Test.YtgmmhpmchibakaaToiA
import Derived.Test.YtgmmhpmchibakaaToMv
namespace Go.Bt
open Go Go.Proofs
set_option maxRecDepth 20000
set_option maxHeartbeats 4000000
set_option linter.unusedVariables false

theorem iNext_spec {B : World} {H : Mem} {it tr : Nat} {mt sk sa se : Bool} {Z : Nat → Prop} {fr : List (Nat × Int)} {kv : Int × Int} {P : Ps} {S : Nat → Prop} {l : List (Int × Int)} {r : Option ((h : Nat) × Gt EI h)} (hI : Itr EI H H it tr mt Z sk sa se Z fr kv) (hT : TreeR H tr P S l r) (hsi : ¬ S it) (hsz : ∀ b, S b → ¬ Z b) {st : Option Nat} (hSt : StI r l sk fr kv st) :
    Fn Try.prog B 122 [.pointer (some ⟨it, 0, none⟩)] H (fun v H' => ∃ b st', v = .bool b ∧ ItPost EI H H' it tr mt Z r l st' ∧ (∀ q, st = some q → b = decide (q + 1 < l.length) ∧ st' = if q + 1 < l.length then some (q + 1) else none) ∧ (l = [] → b = false ∧ st' = none)) := by
  rcases st with _ | q
  rotate_left
  · obtain ⟨rfl, hq, h0, t0, rfl, hS⟩ := hSt
    exact (iNext_gen hI hT hsi hsz hS.gap).mono fun v H' ⟨e, hp⟩ => ⟨_, _, e, hp, fun q' e' => by cases e'; exact ⟨rfl, rfl⟩, fun e' => by subst e'; simp at hq⟩
  have hSt' : fr = [] := hSt
  subst hSt'
  have hK : ∀ H', Fr (fun b _ => b = it ∨ Z b) H H' → TreeR H' tr P S l r := fun H' hf => hT.keep hf fun b o hs hz => hz.elim (fun e => hsi (e ▸ hs)) (hsz b hs)
  have hll := hT.ll
  have hno : ∀ {b : Bool} {st' : Option Nat} (q : Nat), (none : Option Nat) = some q → b = decide (q + 1 < l.length) ∧ st' = if q + 1 < l.length then some (q + 1) else none := fun q e => by cases e
  obtain ⟨sv, hsv, hA⟩ := hI.st
  obtain ⟨a0, c0, rfl⟩ : ∃ a c, sv = .slice a 0 c := by
    rcases hA with ⟨e, _⟩ | ⟨b, o, c, e, _⟩
    · exact ⟨_, _, e⟩
    · exact ⟨_, _, e⟩
  have hnl : l = [] → r = none := by
    intro e
    have hrt := hT.rt
    rcases r with _ | ⟨h0, t0⟩
    · rfl
    · obtain ⟨hg, hx, hl, _⟩ := hrt
      have := Gt.high hT.mn hg hx
      rw [hl, e] at this
      simp at this
  refine fn_of Go.Proofs.Try.func122 rfl Go.Proofs.Try.ntmps122 ?_
  refine (show Go' _ _ _ _ 195 [(0, _)] [.code _] _ from ?_)
  refine Go'.seq ?_
  -- region 0 (map.go:1012)
  refine Go'.region [(0, 0)] rfl ?_
  refine O.asg rfl rfl rfl rfl rfl ?_
  refine Pl.fin [(0, _), (2, _)] ⟨rfl, rfl, trivial⟩ ?_
  refine Go'.seq ?_
  refine Go'.seq ?_
  -- region 1 (map.go:1013)
  refine Go'.region [(0, 0), (1, 0), (2, 0), (3, 1), (4, 0)] rfl ?_
  refine O.mv rfl rfl rfl rfl rfl ?_
  refine O.nc rfl rfl rfl rfl rfl ?_
  refine O.faz rfl rfl rfl rfl ⟨_, _, _, Go.Proofs.Try.underlying129, rfl, rfl, Go.Proofs.Try.sizeOf64⟩ rfl ?_
  refine O.ld rfl rfl rfl (fun w => ⟨Go.Proofs.Try.isAgg64 w, Go.Proofs.Try.sizeOf64 w⟩) rfl hI.c0 ?_
  refine O.isNil rfl rfl rfl rfl Go.Proofs.Try.underlying64 rfl rfl ?_
  refine Pl.fin [(0, _), (2, _), (9, _)] ⟨rfl, rfl, rfl, trivial⟩ ?_
  refine Go'.condF rfl ?_
  refine Go'.skip ?_
  refine Go'.seq ?_
  refine Go'.seq ?_
  rcases sk with _ | _
  · skip
    -- region 3 (map.go:1016)
    refine Go'.region [(0, 0), (1, 0), (2, 0), (3, 1), (4, 0)] rfl ?_
    refine O.mv rfl rfl rfl rfl rfl ?_
    refine O.nc rfl rfl rfl rfl rfl ?_
    refine O.fa0 (off := 2) rfl rfl rfl rfl ⟨_, _, _, Go.Proofs.Try.underlying129, rfl, rfl, Go.Proofs.Try.sizeOf4⟩ rfl ?_
    refine O.ld rfl rfl rfl (fun w => ⟨Go.Proofs.Try.isAgg4 w, Go.Proofs.Try.sizeOf4 w⟩) rfl hI.c2 ?_
    refine O.not rfl rfl rfl rfl rfl ?_
    refine Pl.fin [(0, _), (2, _), (14, _)] ⟨rfl, rfl, rfl, trivial⟩ ?_
    refine Go'.condT rfl ?_
    refine Go'.seq ?_
    -- region 4 (map.go:1017)
    refine Go'.region [(0, 0), (1, 2), (2, 0)] rfl ?_
    refine O.mv rfl rfl rfl rfl rfl ?_
    refine O.call rfl rfl rfl Go.Proofs.Try.call125 rfl (iFirst_spec hI hT hsi hsz) ?_
    rintro _ H1 ⟨rfl, hp⟩
    refine ⟨trivial, ?_⟩
    refine O.asg rfl rfl rfl rfl rfl ?_
    refine Pl.fin [(0, _), (2, _)] ⟨rfl, rfl, trivial⟩ ?_
    refine Go'.ret (vs := [_]) Go.Proofs.Try.func122 Go.Proofs.Try.results122 ⟨rfl, trivial⟩ ?_
    exact ⟨_, _, rfl, hp, hno, fun e => by subst e; exact ⟨rfl, rfl⟩⟩
  · skip
    -- region 3 (map.go:1016)
    refine Go'.region [(0, 0), (1, 0), (2, 0), (3, 1), (4, 0)] rfl ?_
    refine O.mv rfl rfl rfl rfl rfl ?_
    refine O.nc rfl rfl rfl rfl rfl ?_
    refine O.fa0 (off := 2) rfl rfl rfl rfl ⟨_, _, _, Go.Proofs.Try.underlying129, rfl, rfl, Go.Proofs.Try.sizeOf4⟩ rfl ?_
    refine O.ld rfl rfl rfl (fun w => ⟨Go.Proofs.Try.isAgg4 w, Go.Proofs.Try.sizeOf4 w⟩) rfl hI.c2 ?_
    refine O.not rfl rfl rfl rfl rfl ?_
    refine Pl.fin [(0, _), (2, _), (14, _)] ⟨rfl, rfl, rfl, trivial⟩ ?_
    refine Go'.condF rfl ?_
    refine Go'.skip ?_
    refine Go'.seq ?_
    refine Go'.seq ?_
    -- region 5 (map.go:1019)
    refine Go'.region [(0, 0), (1, 0), (2, 0), (3, 1), (4, 0), (5, 0)] rfl ?_
    refine O.mv rfl rfl rfl rfl rfl ?_
    refine O.nc rfl rfl rfl rfl rfl ?_
    refine O.fa0 (off := 5) rfl rfl rfl rfl ⟨_, _, _, Go.Proofs.Try.underlying129, rfl, rfl, Go.Proofs.Try.sizeOf127⟩ rfl ?_
    refine O.ld rfl rfl rfl (fun w => ⟨Go.Proofs.Try.isAgg127 w, Go.Proofs.Try.sizeOf127 w⟩) rfl hsv ?_
    refine O.len rfl rfl rfl rfl Go.Proofs.Try.underlying127 rfl ?_
    refine O.cmp rfl rfl rfl rfl rfl rfl (eqlT rfl) ?_
    refine Pl.fin [(0, _), (2, _), (22, _)] ⟨rfl, rfl, rfl, trivial⟩ ?_
    refine Go'.condT rfl ?_
    refine Go'.seq ?_
    refine Go'.seq ?_
    rcases sa with _ | _
    · skip
      -- region 6 (map.go:1020)
      refine Go'.region [(0, 0), (1, 0), (2, 0), (3, 1)] rfl ?_
      refine O.mv rfl rfl rfl rfl rfl ?_
      refine O.nc rfl rfl rfl rfl rfl ?_
      refine O.fa0 (off := 3) rfl rfl rfl rfl ⟨_, _, _, Go.Proofs.Try.underlying129, rfl, rfl, Go.Proofs.Try.sizeOf4⟩ rfl ?_
      refine O.ld rfl rfl rfl (fun w => ⟨Go.Proofs.Try.isAgg4 w, Go.Proofs.Try.sizeOf4 w⟩) rfl hI.c3 ?_
      refine Pl.fin [(0, _), (2, _), (26, _)] ⟨rfl, rfl, rfl, trivial⟩ ?_
      refine Go'.condF rfl ?_
      refine Go'.skip ?_
      refine Go'.seq ?_
      -- region 8 (map.go:1023)
      refine Go'.region [(0, 0)] rfl ?_
      refine O.asg rfl rfl rfl rfl rfl ?_
      refine Pl.fin [(0, _), (2, _)] ⟨rfl, rfl, trivial⟩ ?_
      refine Go'.ret (vs := [_]) Go.Proofs.Try.func122 Go.Proofs.Try.results122 ⟨rfl, trivial⟩ ?_
      exact ⟨_, none, rfl, ⟨_, _, _, _, _, _, hI, rfl⟩, hno, fun _ => ⟨rfl, rfl⟩⟩
    · skip
      -- region 6 (map.go:1020)
      refine Go'.region [(0, 0), (1, 0), (2, 0), (3, 1)] rfl ?_
      refine O.mv rfl rfl rfl rfl rfl ?_
      refine O.nc rfl rfl rfl rfl rfl ?_
      refine O.fa0 (off := 3) rfl rfl rfl rfl ⟨_, _, _, Go.Proofs.Try.underlying129, rfl, rfl, Go.Proofs.Try.sizeOf4⟩ rfl ?_
      refine O.ld rfl rfl rfl (fun w => ⟨Go.Proofs.Try.isAgg4 w, Go.Proofs.Try.sizeOf4 w⟩) rfl hI.c3 ?_
      refine Pl.fin [(0, _), (2, _), (26, _)] ⟨rfl, rfl, rfl, trivial⟩ ?_
      refine Go'.condT rfl ?_
      refine Go'.seq ?_
      have hf := iFirst_spec (B := B) hI hT hsi hsz
      by_cases hl0 : 0 < l.length
      · skip
        rw [decide_eq_true hl0, if_pos hl0] at hf
        -- region 7 (map.go:1021)
        refine Go'.region [(0, 0), (1, 2), (2, 0), (3, 0), (4, 2), (5, 0), (6, 0)] rfl ?_
        refine O.mv rfl rfl rfl rfl rfl ?_
        refine O.call rfl rfl rfl Go.Proofs.Try.call125 rfl hf ?_
        rintro _ H1 ⟨rfl, hp⟩
        obtain ⟨sk2, sa2, se2, Z2, fr2, kv2, hI2, hst⟩ := hp
        obtain ⟨rfl, hq, h0, t0, rfl, hS⟩ := hst
        have hsz2 : ∀ b, S b → ¬ Z2 b := fun b hs hz => (hI2.zz b hz).elim (hsz b hs) (fun h => by have := hT.lt b hs; omega)
        refine ⟨trivial, ?_⟩
        refine O.mv rfl rfl rfl rfl rfl ?_
        refine O.mv rfl rfl rfl rfl rfl ?_
        refine O.call rfl rfl rfl Go.Proofs.Try.call122 rfl (iNext_gen hI2.re (hK _ hI2.f) hsi hsz2 hS.gap) ?_
        rintro _ H3 ⟨rfl, hp3⟩
        refine ⟨trivial, ?_⟩
        refine O.pick rfl rfl rfl rfl rfl rfl ?_
        refine O.asg rfl rfl rfl rfl rfl ?_
        refine Pl.fin [(0, _), (2, _)] ⟨rfl, rfl, trivial⟩ ?_
        refine Go'.ret (vs := [_]) Go.Proofs.Try.func122 Go.Proofs.Try.results122 ⟨rfl, trivial⟩ ?_
        exact ⟨_, _, rfl, ItPost.trans (P := P) (S := S) hI2 hp3, hno, fun e => by subst e; simp at hl0⟩
      · skip
        rw [decide_eq_false hl0, if_neg hl0] at hf
        -- region 7 (map.go:1021)
        refine Go'.region [(0, 0), (1, 2), (2, 0), (3, 0), (4, 2), (5, 0), (6, 0)] rfl ?_
        refine O.mv rfl rfl rfl rfl rfl ?_
        refine O.call rfl rfl rfl Go.Proofs.Try.call125 rfl hf ?_
        rintro _ H1 ⟨rfl, hp⟩
        refine ⟨trivial, ?_⟩
        refine O.mv rfl rfl rfl rfl rfl ?_
        refine Pl.pass rfl rfl rfl rfl ?_
        refine Pl.pass2 rfl rfl rfl rfl trivial ?_
        refine O.pick rfl rfl rfl rfl rfl rfl ?_
        refine O.asg rfl rfl rfl rfl rfl ?_
        refine Pl.fin [(0, _), (2, _)] ⟨rfl, rfl, trivial⟩ ?_
        refine Go'.ret (vs := [_]) Go.Proofs.Try.func122 Go.Proofs.Try.results122 ⟨rfl, trivial⟩ ?_
        exact ⟨_, _, rfl, hp, hno, fun _ => ⟨rfl, rfl⟩⟩

theorem iPrev_spec {B : World} {H : Mem} {it tr : Nat} {mt sk sa se : Bool} {Z : Nat → Prop} {fr : List (Nat × Int)} {kv : Int × Int} {P : Ps} {S : Nat → Prop} {l : List (Int × Int)} {r : Option ((h : Nat) × Gt EI h)} (hI : Itr EI H H it tr mt Z sk sa se Z fr kv) (hT : TreeR H tr P S l r) (hsi : ¬ S it) (hsz : ∀ b, S b → ¬ Z b) {st : Option Nat} (hSt : StI r l sk fr kv st) :
    Fn Try.prog B 123 [.pointer (some ⟨it, 0, none⟩)] H (fun v H' => ∃ b st', v = .bool b ∧ ItPost EI H H' it tr mt Z r l st' ∧ (∀ q, st = some q → b = decide (0 < q) ∧ st' = if 0 < q then some (q - 1) else none) ∧ (l = [] → b = false ∧ st' = none)) := by
  rcases st with _ | q
  rotate_left
  · obtain ⟨rfl, hq, h0, t0, rfl, hS⟩ := hSt
    exact (iPrev_gen hI hT hsi hsz hS).mono fun v H' ⟨e, hp⟩ => ⟨_, _, e, hp, fun q' e' => by cases e'; exact ⟨rfl, rfl⟩, fun e' => by subst e'; simp at hq⟩
  have hSt' : fr = [] := hSt
  subst hSt'
  have hK : ∀ H', Fr (fun b _ => b = it ∨ Z b) H H' → TreeR H' tr P S l r := fun H' hf => hT.keep hf fun b o hs hz => hz.elim (fun e => hsi (e ▸ hs)) (hsz b hs)
  have hll := hT.ll
  have hno : ∀ {b : Bool} {st' : Option Nat} (q : Nat), (none : Option Nat) = some q → b = decide (0 < q) ∧ st' = if 0 < q then some (q - 1) else none := fun q e => by cases e
  obtain ⟨sv, hsv, hA⟩ := hI.st
  obtain ⟨a0, c0, rfl⟩ : ∃ a c, sv = .slice a 0 c := by
    rcases hA with ⟨e, _⟩ | ⟨b, o, c, e, _⟩
    · exact ⟨_, _, e⟩
    · exact ⟨_, _, e⟩
  have hnl : l = [] → r = none := by
    intro e
    have hrt := hT.rt
    rcases r with _ | ⟨h0, t0⟩
    · rfl
    · obtain ⟨hg, hx, hl, _⟩ := hrt
      have := Gt.high hT.mn hg hx
      rw [hl, e] at this
      simp at this
  refine fn_of Go.Proofs.Try.func123 rfl Go.Proofs.Try.ntmps123 ?_
  refine (show Go' _ _ _ _ 210 [(0, _)] [.code _] _ from ?_)
  refine Go'.seq ?_
  -- region 0 (map.go:1059)
  refine Go'.region [(0, 0)] rfl ?_
  refine O.asg rfl rfl rfl rfl rfl ?_
  refine Pl.fin [(0, _), (2, _)] ⟨rfl, rfl, trivial⟩ ?_
  refine Go'.seq ?_
  refine Go'.seq ?_
  -- region 1 (map.go:1060)
  refine Go'.region [(0, 0), (1, 0), (2, 0), (3, 1), (4, 0)] rfl ?_
  refine O.mv rfl rfl rfl rfl rfl ?_
  refine O.nc rfl rfl rfl rfl rfl ?_
  refine O.faz rfl rfl rfl rfl ⟨_, _, _, Go.Proofs.Try.underlying129, rfl, rfl, Go.Proofs.Try.sizeOf64⟩ rfl ?_
  refine O.ld rfl rfl rfl (fun w => ⟨Go.Proofs.Try.isAgg64 w, Go.Proofs.Try.sizeOf64 w⟩) rfl hI.c0 ?_
  refine O.isNil rfl rfl rfl rfl Go.Proofs.Try.underlying64 rfl rfl ?_
  refine Pl.fin [(0, _), (2, _), (9, _)] ⟨rfl, rfl, rfl, trivial⟩ ?_
  refine Go'.condF rfl ?_
  refine Go'.skip ?_
  refine Go'.seq ?_
  refine Go'.seq ?_
  rcases sk with _ | _
  · skip
    -- region 3 (map.go:1063)
    refine Go'.region [(0, 0), (1, 0), (2, 0), (3, 1), (4, 0)] rfl ?_
    refine O.mv rfl rfl rfl rfl rfl ?_
    refine O.nc rfl rfl rfl rfl rfl ?_
    refine O.fa0 (off := 2) rfl rfl rfl rfl ⟨_, _, _, Go.Proofs.Try.underlying129, rfl, rfl, Go.Proofs.Try.sizeOf4⟩ rfl ?_
    refine O.ld rfl rfl rfl (fun w => ⟨Go.Proofs.Try.isAgg4 w, Go.Proofs.Try.sizeOf4 w⟩) rfl hI.c2 ?_
    refine O.not rfl rfl rfl rfl rfl ?_
    refine Pl.fin [(0, _), (2, _), (14, _)] ⟨rfl, rfl, rfl, trivial⟩ ?_
    refine Go'.condT rfl ?_
    refine Go'.seq ?_
    -- region 4 (map.go:1064)
    refine Go'.region [(0, 0)] rfl ?_
    refine O.asg rfl rfl rfl rfl rfl ?_
    refine Pl.fin [(0, _), (2, _)] ⟨rfl, rfl, trivial⟩ ?_
    refine Go'.ret (vs := [_]) Go.Proofs.Try.func123 Go.Proofs.Try.results123 ⟨rfl, trivial⟩ ?_
    exact ⟨_, none, rfl, ⟨_, _, _, _, _, _, hI, rfl⟩, hno, fun _ => ⟨rfl, rfl⟩⟩
  · skip
    -- region 3 (map.go:1063)
    refine Go'.region [(0, 0), (1, 0), (2, 0), (3, 1), (4, 0)] rfl ?_
    refine O.mv rfl rfl rfl rfl rfl ?_
    refine O.nc rfl rfl rfl rfl rfl ?_
    refine O.fa0 (off := 2) rfl rfl rfl rfl ⟨_, _, _, Go.Proofs.Try.underlying129, rfl, rfl, Go.Proofs.Try.sizeOf4⟩ rfl ?_
    refine O.ld rfl rfl rfl (fun w => ⟨Go.Proofs.Try.isAgg4 w, Go.Proofs.Try.sizeOf4 w⟩) rfl hI.c2 ?_
    refine O.not rfl rfl rfl rfl rfl ?_
    refine Pl.fin [(0, _), (2, _), (14, _)] ⟨rfl, rfl, rfl, trivial⟩ ?_
    refine Go'.condF rfl ?_
    refine Go'.skip ?_
    refine Go'.seq ?_
    refine Go'.seq ?_
    -- region 5 (map.go:1066)
    refine Go'.region [(0, 0), (1, 0), (2, 0), (3, 1), (4, 0), (5, 0)] rfl ?_
    refine O.mv rfl rfl rfl rfl rfl ?_
    refine O.nc rfl rfl rfl rfl rfl ?_
    refine O.fa0 (off := 5) rfl rfl rfl rfl ⟨_, _, _, Go.Proofs.Try.underlying129, rfl, rfl, Go.Proofs.Try.sizeOf127⟩ rfl ?_
    refine O.ld rfl rfl rfl (fun w => ⟨Go.Proofs.Try.isAgg127 w, Go.Proofs.Try.sizeOf127 w⟩) rfl hsv ?_
    refine O.len rfl rfl rfl rfl Go.Proofs.Try.underlying127 rfl ?_
    refine O.cmp rfl rfl rfl rfl rfl rfl (eqlT rfl) ?_
    refine Pl.fin [(0, _), (2, _), (20, _)] ⟨rfl, rfl, rfl, trivial⟩ ?_
    refine Go'.condT rfl ?_
    refine Go'.seq ?_
    refine Go'.seq ?_
    rcases se with _ | _
    · skip
      -- region 6 (map.go:1067)
      refine Go'.region [(0, 0), (1, 0), (2, 0), (3, 1)] rfl ?_
      refine O.mv rfl rfl rfl rfl rfl ?_
      refine O.nc rfl rfl rfl rfl rfl ?_
      refine O.fa0 (off := 4) rfl rfl rfl rfl ⟨_, _, _, Go.Proofs.Try.underlying129, rfl, rfl, Go.Proofs.Try.sizeOf4⟩ rfl ?_
      refine O.ld rfl rfl rfl (fun w => ⟨Go.Proofs.Try.isAgg4 w, Go.Proofs.Try.sizeOf4 w⟩) rfl hI.c4 ?_
      refine Pl.fin [(0, _), (2, _), (24, _)] ⟨rfl, rfl, rfl, trivial⟩ ?_
      refine Go'.condF rfl ?_
      refine Go'.skip ?_
      refine Go'.seq ?_
      -- region 8 (map.go:1070)
      refine Go'.region [(0, 0)] rfl ?_
      refine O.asg rfl rfl rfl rfl rfl ?_
      refine Pl.fin [(0, _), (2, _)] ⟨rfl, rfl, trivial⟩ ?_
      refine Go'.ret (vs := [_]) Go.Proofs.Try.func123 Go.Proofs.Try.results123 ⟨rfl, trivial⟩ ?_
      exact ⟨_, none, rfl, ⟨_, _, _, _, _, _, hI, rfl⟩, hno, fun _ => ⟨rfl, rfl⟩⟩
    · skip
      -- region 6 (map.go:1067)
      refine Go'.region [(0, 0), (1, 0), (2, 0), (3, 1)] rfl ?_
      refine O.mv rfl rfl rfl rfl rfl ?_
      refine O.nc rfl rfl rfl rfl rfl ?_
      refine O.fa0 (off := 4) rfl rfl rfl rfl ⟨_, _, _, Go.Proofs.Try.underlying129, rfl, rfl, Go.Proofs.Try.sizeOf4⟩ rfl ?_
      refine O.ld rfl rfl rfl (fun w => ⟨Go.Proofs.Try.isAgg4 w, Go.Proofs.Try.sizeOf4 w⟩) rfl hI.c4 ?_
      refine Pl.fin [(0, _), (2, _), (24, _)] ⟨rfl, rfl, rfl, trivial⟩ ?_
      refine Go'.condT rfl ?_
      refine Go'.seq ?_
      have hf := iLast_spec (B := B) hI hT hsi hsz
      by_cases hl0 : 0 < l.length
      · skip
        rw [decide_eq_true hl0, if_pos hl0] at hf
        -- region 7 (map.go:1068)
        refine Go'.region [(0, 0), (1, 2), (2, 0), (3, 0), (4, 2), (5, 0), (6, 0)] rfl ?_
        refine O.mv rfl rfl rfl rfl rfl ?_
        refine O.call rfl rfl rfl Go.Proofs.Try.call121 rfl hf ?_
        rintro _ H1 ⟨rfl, hp⟩
        obtain ⟨sk2, sa2, se2, Z2, fr2, kv2, hI2, hst⟩ := hp
        obtain ⟨rfl, hq, h0, t0, rfl, hS⟩ := hst
        have hsz2 : ∀ b, S b → ¬ Z2 b := fun b hs hz => (hI2.zz b hz).elim (hsz b hs) (fun h => by have := hT.lt b hs; omega)
        refine ⟨trivial, ?_⟩
        refine O.mv rfl rfl rfl rfl rfl ?_
        refine O.mv rfl rfl rfl rfl rfl ?_
        refine O.call rfl rfl rfl Go.Proofs.Try.call123 rfl (iPrev_gen hI2.re (hK _ hI2.f) hsi hsz2 hS) ?_
        rintro _ H3 ⟨rfl, hp3⟩
        refine ⟨trivial, ?_⟩
        refine O.pick rfl rfl rfl rfl rfl rfl ?_
        refine O.asg rfl rfl rfl rfl rfl ?_
        refine Pl.fin [(0, _), (2, _)] ⟨rfl, rfl, trivial⟩ ?_
        refine Go'.ret (vs := [_]) Go.Proofs.Try.func123 Go.Proofs.Try.results123 ⟨rfl, trivial⟩ ?_
        exact ⟨_, _, rfl, ItPost.trans (P := P) (S := S) hI2 hp3, hno, fun e => by subst e; simp at hl0⟩
      · skip
        rw [decide_eq_false hl0, if_neg hl0] at hf
        -- region 7 (map.go:1068)
        refine Go'.region [(0, 0), (1, 2), (2, 0), (3, 0), (4, 2), (5, 0), (6, 0)] rfl ?_
        refine O.mv rfl rfl rfl rfl rfl ?_
        refine O.call rfl rfl rfl Go.Proofs.Try.call121 rfl hf ?_
        rintro _ H1 ⟨rfl, hp⟩
        refine ⟨trivial, ?_⟩
        refine O.mv rfl rfl rfl rfl rfl ?_
        refine Pl.pass rfl rfl rfl rfl ?_
        refine Pl.pass2 rfl rfl rfl rfl trivial ?_
        refine O.pick rfl rfl rfl rfl rfl rfl ?_
        refine O.asg rfl rfl rfl rfl rfl ?_
        refine Pl.fin [(0, _), (2, _)] ⟨rfl, rfl, trivial⟩ ?_
        refine Go'.ret (vs := [_]) Go.Proofs.Try.func123 Go.Proofs.Try.results123 ⟨rfl, trivial⟩ ?_
        exact ⟨_, _, rfl, hp, hno, fun _ => ⟨rfl, rfl⟩⟩

theorem iSeek_spec {B : World} {H : Mem} {it tr : Nat} {mt sk sa se : Bool} {Z : Nat → Prop} {fr : List (Nat × Int)} {kv : Int × Int} {P : Ps} {S : Nat → Prop} {l : List (Int × Int)} {r : Option ((h : Nat) × Gt EI h)} (hI : Itr EI H H it tr mt Z sk sa se Z fr kv) (hT : TreeR H tr P S l r) (hsi : ¬ S it) (hsz : ∀ b, S b → ¬ Z b) (hsrt : Pl.Srt OI l) (hmx : P.mx ≤ 255) (x : Int × Int) :
    Fn Try.prog B 124 [.pointer (some ⟨it, 0, none⟩), .int .i64 x.1] H (fun v H' => v = .bool (decide (Pl.pos OI x l < l.length)) ∧ ItPost EI H H' it tr mt Z r l (if Pl.pos OI x l < l.length then some (Pl.pos OI x l) else none)) := by
  have hK : ∀ H', Fr (fun b _ => b = it ∨ Z b) H H' → TreeR H' tr P S l r := fun H' hf => hT.keep hf fun b o hs hz => hz.elim (fun e => hsi (e ▸ hs)) (hsz b hs)
  have hll := hT.ll
  refine fn_of Go.Proofs.Try.func124 rfl Go.Proofs.Try.ntmps124 ?_
  refine (show Go' _ _ _ _ 117 [(0, _), (1, _)] [.code _] _ from ?_)
  refine Go'.seq ?_
  -- region 0 (map.go:933)
  refine Go'.region [(0, 0)] rfl ?_
  refine O.asg rfl rfl rfl rfl rfl ?_
  refine Pl.fin [(0, _), (1, _), (4, _)] ⟨rfl, rfl, rfl, trivial⟩ ?_
  refine Go'.seq ?_
  refine Go'.seq ?_
  -- region 1 (map.go:934)
  refine Go'.region [(0, 0), (1, 0), (2, 0), (3, 1), (4, 0)] rfl ?_
  refine O.mv rfl rfl rfl rfl rfl ?_
  refine O.nc rfl rfl rfl rfl rfl ?_
  refine O.faz rfl rfl rfl rfl ⟨_, _, _, Go.Proofs.Try.underlying129, rfl, rfl, Go.Proofs.Try.sizeOf64⟩ rfl ?_
  refine O.ld rfl rfl rfl (fun w => ⟨Go.Proofs.Try.isAgg64 w, Go.Proofs.Try.sizeOf64 w⟩) rfl hI.c0 ?_
  refine O.isNil rfl rfl rfl rfl Go.Proofs.Try.underlying64 rfl rfl ?_
  refine Pl.fin [(0, _), (1, _), (4, _), (12, _)] ⟨rfl, rfl, rfl, rfl, trivial⟩ ?_
  refine Go'.condF rfl ?_
  refine Go'.skip ?_
  refine Go'.seq ?_
  -- region 3 (map.go:937)
  refine Go'.region [(0, 0), (1, 0), (2, 0), (3, 2)] rfl ?_
  refine O.mv rfl rfl rfl rfl rfl ?_
  refine O.nc rfl rfl rfl rfl rfl ?_
  refine O.fa0 (off := 2) rfl rfl rfl rfl ⟨_, _, _, Go.Proofs.Try.underlying129, rfl, rfl, Go.Proofs.Try.sizeOf4⟩ rfl ?_
  refine O.st rfl rfl Go.Proofs.Try.sizeOf4 rfl rfl rfl rfl rfl (hI.w 2 (by decide)) ?_
  intro Hc Wc
  replace hI := hI.set2 Wc
  have hsv0 := hI.st
  obtain ⟨sv, hsv, hA⟩ := hsv0
  refine ⟨trivial, ?_⟩
  refine Pl.fin [(0, _), (1, _), (4, _)] ⟨rfl, rfl, rfl, trivial⟩ ?_
  refine Go'.seq ?_
  -- region 4 (map.go:938)
  refine Go'.region [(0, 0), (1, 0), (2, 0), (3, 0), (4, 1), (5, 0), (6, 0), (7, 0), (8, 2)] rfl ?_
  refine O.mv rfl rfl rfl rfl rfl ?_
  refine O.mv rfl rfl rfl rfl rfl ?_
  refine O.nc rfl rfl rfl rfl rfl ?_
  refine O.fa0 (off := 5) rfl rfl rfl rfl ⟨_, _, _, Go.Proofs.Try.underlying129, rfl, rfl, Go.Proofs.Try.sizeOf127⟩ rfl ?_
  refine O.ld rfl rfl rfl (fun w => ⟨Go.Proofs.Try.isAgg127 w, Go.Proofs.Try.sizeOf127 w⟩) rfl hsv ?_
  refine O.slcA (F := EK) (j := 0) rfl rfl rfl rfl Go.Proofs.Try.underlying127 Go.Proofs.Try.sizeOf156 rfl hA ⟨_, by rfl⟩ (Nat.zero_le _) ?_
  intro v1 hA1
  obtain ⟨a1, m1, c1, rfl⟩ := hA1.form
  refine O.nc rfl rfl rfl rfl rfl ?_
  refine O.fa0 (off := 5) rfl rfl rfl rfl ⟨_, _, _, Go.Proofs.Try.underlying129, rfl, rfl, Go.Proofs.Try.sizeOf127⟩ rfl ?_
  refine O.st rfl rfl Go.Proofs.Try.sizeOf127 rfl rfl rfl rfl rfl (hI.w 5 (by decide)) ?_
  intro Hd Wd
  replace hI := hI.set5 (fr' := []) (by rw [List.take_zero] at hA1; exact hA1) Wd
  refine ⟨trivial, ?_⟩
  refine Pl.fin [(0, _), (1, _), (4, _)] ⟨rfl, rfl, rfl, trivial⟩ ?_
  refine Go'.seq ?_
  refine Go'.seq ?_
  have hR := hK _ hI.f
  rcases r with _ | ⟨h0, t0⟩
  · skip
    obtain ⟨rfl, hroot⟩ := hR.rt
    -- region 5 (map.go:939)
    refine Go'.region [(0, 0), (1, 0), (2, 0), (3, 1), (4, 0), (5, 0), (6, 1), (7, 0)] rfl ?_
    refine O.mv rfl rfl rfl rfl rfl ?_
    refine O.nc rfl rfl rfl rfl rfl ?_
    refine O.faz rfl rfl rfl rfl ⟨_, _, _, Go.Proofs.Try.underlying129, rfl, rfl, Go.Proofs.Try.sizeOf64⟩ rfl ?_
    refine O.ld rfl rfl rfl (fun w => ⟨Go.Proofs.Try.isAgg64 w, Go.Proofs.Try.sizeOf64 w⟩) rfl hI.c0 ?_
    refine O.nc rfl rfl rfl rfl rfl ?_
    refine O.fa0 (off := 2) rfl rfl rfl rfl ⟨_, _, _, Go.Proofs.Try.underlying105, rfl, rfl, Go.Proofs.Try.sizeOf103⟩ rfl ?_
    refine O.ld rfl rfl rfl (fun w => ⟨Go.Proofs.Try.isAgg103 w, Go.Proofs.Try.sizeOf103 w⟩) rfl hroot ?_
    refine O.isNil rfl rfl rfl rfl Go.Proofs.Try.underlying103 rfl rfl ?_
    refine Pl.fin [(0, _), (1, _), (4, _), (31, _)] ⟨rfl, rfl, rfl, rfl, trivial⟩ ?_
    refine Go'.condT rfl ?_
    refine Go'.seq ?_
    -- region 6 (map.go:940)
    refine Go'.region [(0, 0)] rfl ?_
    refine O.asg rfl rfl rfl rfl rfl ?_
    refine Pl.fin [(0, _), (1, _), (4, _)] ⟨rfl, rfl, rfl, trivial⟩ ?_
    refine Go'.ret (vs := [_]) Go.Proofs.Try.func124 Go.Proofs.Try.results124 ⟨rfl, trivial⟩ ?_
    exact ⟨rfl, _, _, _, _, _, _, hI, rfl⟩
  · skip
    obtain ⟨hg, hx, hl, hroot, haf⟩ := hR.rt
    have hptr : cl _ tr 2 = some (.pointer (some ⟨Gt.p h0 t0, 0, none⟩)) := hroot
    obtain ⟨kp, hN⟩ := hg.node
    have hn0 := hN.c0
    rw [hg.isoe] at hn0
    -- region 5 (map.go:939)
    refine Go'.region [(0, 0), (1, 0), (2, 0), (3, 1), (4, 0), (5, 0), (6, 1), (7, 0)] rfl ?_
    refine O.mv rfl rfl rfl rfl rfl ?_
    refine O.nc rfl rfl rfl rfl rfl ?_
    refine O.faz rfl rfl rfl rfl ⟨_, _, _, Go.Proofs.Try.underlying129, rfl, rfl, Go.Proofs.Try.sizeOf64⟩ rfl ?_
    refine O.ld rfl rfl rfl (fun w => ⟨Go.Proofs.Try.isAgg64 w, Go.Proofs.Try.sizeOf64 w⟩) rfl hI.c0 ?_
    refine O.nc rfl rfl rfl rfl rfl ?_
    refine O.fa0 (off := 2) rfl rfl rfl rfl ⟨_, _, _, Go.Proofs.Try.underlying105, rfl, rfl, Go.Proofs.Try.sizeOf103⟩ rfl ?_
    refine O.ld rfl rfl rfl (fun w => ⟨Go.Proofs.Try.isAgg103 w, Go.Proofs.Try.sizeOf103 w⟩) rfl hptr ?_
    refine O.isNil rfl rfl rfl rfl Go.Proofs.Try.underlying103 rfl rfl ?_
    refine Pl.fin [(0, _), (1, _), (4, _), (31, _)] ⟨rfl, rfl, rfl, rfl, trivial⟩ ?_
    refine Go'.condF rfl ?_
    refine Go'.skip ?_
    refine Go'.seq ?_
    -- region 7 (map.go:942)
    refine Go'.draw (fun _ => True) [(0, 0), (1, 0), (2, 0), (3, 1), (4, 0), (5, 0), (6, 0), (7, 1), (8, 0), (9, 0), (10, 0), (11, 0), (12, 0), (13, 1), (14, 2), (15, 0)] (by kernel_rfl) (by kernel_rfl) (trivial) ?_
    refine O.mv rfl rfl rfl rfl rfl ?_
    refine O.nc rfl rfl rfl rfl rfl ?_
    refine O.faz rfl rfl rfl rfl ⟨_, _, _, Go.Proofs.Try.underlying129, rfl, rfl, Go.Proofs.Try.sizeOf64⟩ rfl ?_
    refine O.ld rfl rfl rfl (fun w => ⟨Go.Proofs.Try.isAgg64 w, Go.Proofs.Try.sizeOf64 w⟩) rfl hI.c0 ?_
    refine O.mv rfl rfl rfl rfl rfl ?_
    refine O.nc rfl rfl rfl rfl rfl ?_
    refine O.faz rfl rfl rfl rfl ⟨_, _, _, Go.Proofs.Try.underlying129, rfl, rfl, Go.Proofs.Try.sizeOf64⟩ rfl ?_
    refine O.ld rfl rfl rfl (fun w => ⟨Go.Proofs.Try.isAgg64 w, Go.Proofs.Try.sizeOf64 w⟩) rfl hI.c0 ?_
    refine O.nc rfl rfl rfl rfl rfl ?_
    refine O.fa0 (off := 2) rfl rfl rfl rfl ⟨_, _, _, Go.Proofs.Try.underlying105, rfl, rfl, Go.Proofs.Try.sizeOf103⟩ rfl ?_
    refine O.mv rfl rfl rfl rfl rfl ?_
    refine O.nc rfl rfl rfl rfl rfl ?_
    refine O.fa0 (off := 1) rfl rfl rfl rfl ⟨_, _, _, Go.Proofs.Try.underlying129, rfl, rfl, Go.Proofs.Try.sizeOf4⟩ rfl ?_
    refine O.ld rfl rfl rfl (fun w => ⟨Go.Proofs.Try.isAgg4 w, Go.Proofs.Try.sizeOf4 w⟩) rfl hI.c1 ?_
    refine O.callQ rfl rfl rfl Go.Proofs.Try.call85 rfl (isoLoad_spec mt hroot hn0 hR.iso) trivial ?_
    refine O.asg rfl rfl rfl rfl rfl ?_
    refine Pl.fin [(0, _), (1, _), (4, _), (5, _)] ⟨rfl, rfl, rfl, rfl, trivial⟩ ?_
    refine Go'.block ?_
    unfold ptr
    have hC := Ctx.root t0
    have hQ : Pl.Srt OI (Gt.L h0 t0) ∧ Pl.pos OI x l = 0 + Pl.pos OI x (Gt.L h0 t0) := by rw [hl, Nat.zero_add]; exact ⟨hsrt, rfl⟩
    clear hR hg hx hl hroot haf hptr hN hn0
    refine Go'.loop ?_
    refine Go'.keep [(0, _), (1, _), (5, _)] ⟨rfl, rfl, rfl, trivial⟩ ?_
    refine Go'.ind (σ := ((h : Nat) × Gt EI h) × List (Nat × Int) × (Nat → Prop)) (fun s => s.1.1) (fun s H' => Itr EI H H' it tr mt Z true sa se s.2.2 s.2.1 kv ∧ ∃ a, Ctx t0 s.2.1 s.1.1 s.1.2 a ∧ Pl.Srt OI (Gt.L s.1.1 s.1.2) ∧ Pl.pos OI x l = a + Pl.pos OI x (Gt.L s.1.1 s.1.2))
      (fun s => [(0, .pointer (some ⟨it, 0, none⟩)), (1, .int .i64 x.1), (5, .pointer (some ⟨Gt.p s.1.1 s.1.2, 0, none⟩))]) (⟨_, _⟩, _, _) ⟨hI, _, hC, hQ⟩ rfl ?_
    clear hI hC hQ
    rintro ⟨⟨h1, s1⟩, fs1, Z1⟩ H2 ⟨hI, a, hC, hs, hQ⟩ ih
    simp only at hI hC ih
    replace hs : Pl.Srt OI (Gt.L h1 s1) := hs
    replace hQ : Pl.pos OI x l = a + Pl.pos OI x (Gt.L h1 s1) := hQ
    have hsv0 := hI.st
    obtain ⟨sv, hsv, hA⟩ := hsv0
    have hR := hK _ hI.f
    obtain ⟨hg, hx, hl, hroot, haf⟩ := hR.rt
    obtain ⟨hgd, hx1, hfl, haf1⟩ := Ctx.good hR.mn hg hx hC
    have hhi := Gt.high hR.mn hg hx
    rw [hl] at hhi
    obtain ⟨kp, hN⟩ := hgd.node
    have hxm := hgd.xmx
    have hsX : Pl.Srt OI (Gt.X h1 s1) := by
      rcases h1 with _ | h1
      · exact hs
      · obtain ⟨g, X, K⟩ := s1
        have hKl : K.length = X.length + 1 := hgd.2.2.2.2.2.1
        have hs' : Pl.Srt OI (Pl.inter X (K.map (Gt.L h1))) := hs
        have hle : X.length < (K.map (Gt.L h1)).length := by rw [List.length_map, hKl]; exact Nat.lt_succ_self _
        exact hs'.sublist (Pl.sublist_inter X _ hle)
    have hple := Pl.pos_le OI x (Gt.X h1 s1)
    have hplt : Pl.fnd OI x (Gt.X h1 s1) = true → Pl.pos OI x (Gt.X h1 s1) < (Gt.X h1 s1).length := Pl.fnd_pos_lt OI
    refine (show Go' _ _ _ _ _ [(0, .pointer (some ⟨it, 0, none⟩)), (1, .int .i64 x.1), (5, .pointer (some ⟨Gt.p h1 s1, 0, none⟩))] _ _ from ?_)
    refine Go'.block ?_
    refine Go'.seq ?_
    -- region 8 (map.go:944)
    refine Go'.region [(0, 0), (1, 0), (2, 0), (3, 1), (4, 0), (5, 0), (6, 2), (7, 0), (8, 0), (9, 0), (10, 0), (11, 0)] rfl ?_
    refine O.mv rfl rfl rfl rfl rfl ?_
    refine O.nc rfl rfl rfl rfl rfl ?_
    refine O.faz rfl rfl rfl rfl ⟨_, _, _, Go.Proofs.Try.underlying129, rfl, rfl, Go.Proofs.Try.sizeOf64⟩ rfl ?_
    refine O.ld rfl rfl rfl (fun w => ⟨Go.Proofs.Try.isAgg64 w, Go.Proofs.Try.sizeOf64 w⟩) rfl hI.c0 ?_
    refine O.mv rfl rfl rfl rfl rfl ?_
    refine O.mv rfl rfl rfl rfl rfl ?_
    refine O.callQ rfl rfl rfl Go.Proofs.Try.call114 rfl (search_spec x hN hsX (by omega)) trivial ?_
    refine O.mv rfl rfl rfl rfl rfl ?_
    refine O.ext rfl rfl rfl rfl rfl rfl ?_
    refine O.ext rfl rfl rfl rfl rfl rfl ?_
    refine O.asg rfl rfl rfl rfl rfl ?_
    refine O.asg rfl rfl rfl rfl rfl ?_
    refine Pl.fin [(0, _), (1, _), (5, _), (6, _), (7, _)] ⟨rfl, rfl, rfl, rfl, rfl, trivial⟩ ?_
    refine Go'.seq ?_
    -- region 9 (map.go:945)
    refine Go'.region [(0, 0), (1, 0), (2, 0), (3, 0), (4, 1), (5, 0), (6, 0), (7, 0), (8, 2), (9, 2), (10, 0), (11, 0), (12, 2)] rfl ?_
    refine O.mv rfl rfl rfl rfl rfl ?_
    refine O.mv rfl rfl rfl rfl rfl ?_
    refine O.nc rfl rfl rfl rfl rfl ?_
    refine O.fa0 (off := 5) rfl rfl rfl rfl ⟨_, _, _, Go.Proofs.Try.underlying129, rfl, rfl, Go.Proofs.Try.sizeOf127⟩ rfl ?_
    refine O.ld rfl rfl rfl (fun w => ⟨Go.Proofs.Try.isAgg127 w, Go.Proofs.Try.sizeOf127 w⟩) rfl hsv ?_
    refine O.mv rfl rfl rfl rfl rfl ?_
    refine O.mv rfl rfl rfl rfl rfl ?_
    refine O.bld (cs := (EK.enc (Gt.p h1 s1, (((Pl.pos OI x (Gt.X h1 s1) : Nat) : Int) : Int)))) rfl rfl rfl rfl (st156) rfl (by kernel_rfl) ?_
    refine O.bsl (cs := (EK.enc (Gt.p h1 s1, (((Pl.pos OI x (Gt.X h1 s1) : Nat) : Int) : Int)))) rfl rfl rfl ⟨Go.Proofs.Try.underlying127, Go.Proofs.Try.sizeOf156, Go.Proofs.Try.zeroValue156, ⟨_, Go.Proofs.Try.typeInfo156, rfl⟩, rfl, by decide, by decide⟩ rfl (by decide) (by kernel_rfl) ?_
    intro H3 M3
    have hs3 := M3.size
    have hA3 := hA.fr (M3.fr nowhere) (fun _ _ _ _ => nw)
    have m3 : Rd H3 H2.size 0 (row EK [(Gt.p h1 s1, (((Pl.pos OI x (Gt.X h1 s1) : Nat) : Int) : Int))]) := M3.rd _ [] (by simp [row, EK])
    refine ⟨trivial, ?_⟩
    refine O.appA (E := EK) (Y := [(Gt.p h1 s1, (((Pl.pos OI x (Gt.X h1 s1) : Nat) : Int) : Int))]) rfl rfl rfl ⟨Go.Proofs.Try.underlying127, Go.Proofs.Try.sizeOf156, Go.Proofs.Try.zeroValue156, ⟨_, Go.Proofs.Try.typeInfo156, rfl⟩, rfl, by decide, by decide⟩ rfl hA3 rfl ⟨_, _, _, rfl, m3⟩ (Nat.succ_pos _) (Nat.le_trans (Nat.mul_le_mul_left _ (Nat.le_of_ble_eq_true (n := _) (m := 4096) rfl)) (by rw [List.length_reverse]; simp only [List.length_singleton]; omega)) (by rw [List.length_reverse]; simp only [List.length_singleton]; omega) ?_
    intro v4 H4 hA4 hF4 hs4
    obtain ⟨a4, m4, c4, rfl⟩ := hA4.form
    have hw4 : Wr H4 it 5 1 := hF4.wr ((M3.fr nowhere).wr (hI.w 5 (by decide)))
    refine ⟨trivial, ?_⟩
    refine O.nc rfl rfl rfl rfl rfl ?_
    refine O.fa0 (off := 5) rfl rfl rfl rfl ⟨_, _, _, Go.Proofs.Try.underlying129, rfl, rfl, Go.Proofs.Try.sizeOf127⟩ rfl ?_
    refine O.st rfl rfl Go.Proofs.Try.sizeOf127 rfl rfl rfl rfl rfl hw4 ?_
    intro H5 W5
    replace hI := hI.push (M3.fr nowhere) hF4 hA4 W5
    refine ⟨trivial, ?_⟩
    refine Pl.fin [(0, _), (1, _), (5, _), (6, _), (7, _)] ⟨rfl, rfl, rfl, rfl, rfl, trivial⟩ ?_
    refine Go'.seq ?_
    refine Go'.seq ?_
    clear hR hg hx hl hroot haf hgd hx1 hfl haf1 hN kp
    have hR := hK _ hI.f
    obtain ⟨hg, hx, hl, hroot, haf⟩ := hR.rt
    obtain ⟨hgd, hx1, hfl, haf1⟩ := Ctx.good hR.mn hg hx hC
    obtain ⟨kp, hN⟩ := hgd.node
    cases hfd : Pl.fnd OI x (Gt.X h1 s1)
    rotate_left
    · skip
      -- region 10 (map.go:946)
      refine Go'.region [(0, 0)] rfl ?_
      refine O.mv rfl rfl rfl rfl rfl ?_
      refine Pl.fin [(0, _), (1, _), (5, _), (6, _), (7, _), (69, _)] ⟨rfl, rfl, rfl, rfl, rfl, rfl, trivial⟩ ?_
      refine Go'.condT rfl ?_
      refine Go'.seq ?_
      have hlt := hplt hfd
      obtain ⟨y, hy⟩ : ∃ y, (Gt.X h1 s1)[Pl.pos OI x (Gt.X h1 s1)]? = some y := ⟨_, List.getElem?_eq_getElem hlt⟩
      have hS : Stand t0 ((Gt.p h1 s1, ((Pl.pos OI x (Gt.X h1 s1) : Nat) : Int)) :: fs1) (Pl.pos OI x l) ∧ l[Pl.pos OI x l]? = some y := by
        rcases h1 with _ | h1
        · obtain ⟨g, X⟩ := s1
          refine ⟨.inl ⟨fs1, g, X, a, _, rfl, hC, hlt, hQ⟩, ?_⟩
          have := Ctx.item0 hR.mn hg hx hC hy
          rw [hl] at this
          rw [hQ]; exact this
        · obtain ⟨g, X, K⟩ := s1
          have hKl : K.length = X.length + 1 := hgd.2.2.2.2.2.1
          have hlt' : Pl.pos OI x X < X.length := hlt
          obtain ⟨k0, hk0⟩ : ∃ k, K[Pl.pos OI x X]? = some k := ⟨_, List.getElem?_eq_getElem (by omega)⟩
          have hkL : (K.map (Gt.L h1))[Pl.pos OI x X]? = some (Gt.L h1 k0) := by rw [List.getElem?_map, hk0]; rfl
          have hrk : Pl.pos OI x (Pl.inter X (K.map (Gt.L h1))) = Pl.bl (K.map (Gt.L h1)) (Pl.pos OI x X) + (Gt.L h1 k0).length := Pl.inter_rank_found hs (by rw [List.length_map]; exact hKl) hfd hkL
          have hQ' : Pl.pos OI x l = a + Pl.pos OI x (Pl.inter X (K.map (Gt.L h1))) := hQ
          rw [hrk] at hQ'
          refine ⟨.inr ⟨fs1, h1, g, X, K, a, Pl.pos OI x X, rfl, hC, hlt', by rw [Pl.bl_succ hkL]; omega⟩, ?_⟩
          have := Ctx.item1 hR.mn hg hx hC hkL hy
          rw [hl] at this
          rw [hQ']; exact this
      obtain ⟨hS, hq⟩ := hS
      -- region 11 (map.go:947)
      refine Go'.region [(0, 0), (1, 0), (2, 0), (3, 0), (4, 1), (5, 0), (6, 0), (7, 1), (8, 0), (9, 0), (10, 2)] rfl ?_
      refine O.mv rfl rfl rfl rfl rfl ?_
      refine O.mv rfl rfl rfl rfl rfl ?_
      refine O.nc rfl rfl rfl rfl rfl ?_
      refine O.fa0 (off := 2) rfl rfl rfl rfl ⟨_, _, _, Go.Proofs.Try.underlying111, rfl, rfl, Go.Proofs.Try.sizeOf108⟩ rfl ?_
      refine O.ld rfl rfl rfl (fun w => ⟨Go.Proofs.Try.isAgg108 w, Go.Proofs.Try.sizeOf108 w⟩) rfl hN.c2 ?_
      refine O.mv rfl rfl rfl rfl rfl ?_
      refine O.ix (j := Pl.pos OI x (Gt.X h1 s1)) rfl rfl rfl rfl Go.Proofs.Try.underlying108 Go.Proofs.Try.sizeOf100 rfl rfl (by omega) hlt ?_
      refine O.lds rfl rfl rfl (fun w => ⟨Go.Proofs.Try.isAgg100 w, Go.Proofs.Try.sizeOf100 w⟩) rfl rfl (hN.sl.item hy) ?_
      refine O.nc rfl rfl rfl rfl rfl ?_
      refine O.fa0 (off := 6) rfl rfl rfl rfl ⟨_, _, _, Go.Proofs.Try.underlying129, rfl, rfl, Go.Proofs.Try.sizeOf100⟩ rfl ?_
      refine O.st (vs := (EI.enc y)) rfl rfl Go.Proofs.Try.sizeOf100 rfl rfl rfl rfl rfl hI.wk ?_
      intro H9 W9
      have hI9 := hI.set6 W9
      refine ⟨trivial, ?_⟩
      refine Pl.fin [(0, _), (1, _), (5, _), (6, _), (7, _), (69, _)] ⟨rfl, rfl, rfl, rfl, rfl, rfl, trivial⟩ ?_
      refine Go'.seq ?_
      -- region 12 (map.go:948)
      refine Go'.region [(0, 0)] rfl ?_
      refine O.asg rfl rfl rfl rfl rfl ?_
      refine Pl.fin [(0, _), (1, _), (4, _), (5, _), (6, _), (7, _), (69, _)] ⟨rfl, rfl, rfl, rfl, rfl, rfl, rfl, trivial⟩ ?_
      refine Go'.ret (vs := [_]) Go.Proofs.Try.func124 Go.Proofs.Try.results124 ⟨rfl, trivial⟩ ?_
      have hql : Pl.pos OI x l < l.length := (List.getElem?_eq_some_iff.1 hq).1
      exact ⟨congrArg Value.bool (decide_eq_true hql).symm, _, _, _, _, _, _, hI9, by rw [if_pos hql]; exact ⟨rfl, hq, _, _, rfl, hS⟩⟩
    · skip
      -- region 10 (map.go:946)
      refine Go'.region [(0, 0)] rfl ?_
      refine O.mv rfl rfl rfl rfl rfl ?_
      refine Pl.fin [(0, _), (1, _), (5, _), (6, _), (7, _), (69, _)] ⟨rfl, rfl, rfl, rfl, rfl, rfl, trivial⟩ ?_
      refine Go'.condF rfl ?_
      refine Go'.skip ?_
      refine Go'.seq ?_
      refine Go'.seq ?_
      rcases h1 with _ | h1
      · skip
        obtain ⟨g, X⟩ := s1
        have hN : NodeM EI _ g X (.pointer none) := hgd.1
        have hfs : fs1.length ≤ 4294967296 := by omega
        have hple : Pl.pos OI x X ≤ X.length := hple
        have hxl : X.length ≤ P.mx := hxm
        replace hQ : Pl.pos OI x l = a + Pl.pos OI x X := hQ
        replace hI : Itr EI H H5 it tr mt Z true sa se _ ((g.p, ((Pl.pos OI x X : Nat) : Int)) :: fs1) kv := hI
        obtain ⟨b, o, c, hTop⟩ := hI.top
        -- region 13 (map.go:950)
        refine Go'.region [(0, 0), (1, 2)] rfl ?_
        refine O.mv rfl rfl rfl rfl rfl ?_
        refine O.callQ rfl rfl rfl Go.Proofs.Try.call86 rfl (leaf_spec hN.c3) trivial ?_
        refine Pl.fin [(0, _), (1, _), (5, _), (6, _), (7, _), (69, _), (81, _)] ⟨rfl, rfl, rfl, rfl, rfl, rfl, rfl, trivial⟩ ?_
        refine Go'.condT rfl ?_
        refine Go'.seq ?_
        -- region 14 (map.go:951)
        refine Go'.draw (fun _ => True) [(0, 0), (1, 0), (2, 0), (3, 1), (4, 0), (5, 0), (6, 0), (7, 1), (8, 0), (9, 0), (10, 0), (11, 0), (12, 1), (13, 0), (14, 0), (15, 0), (16, 3)] (by kernel_rfl) (by kernel_rfl) (trivial) ?_
        refine O.mv rfl rfl rfl rfl rfl ?_
        refine O.nc rfl rfl rfl rfl rfl ?_
        refine O.fa0 (off := 5) rfl rfl rfl rfl ⟨_, _, _, Go.Proofs.Try.underlying129, rfl, rfl, Go.Proofs.Try.sizeOf127⟩ rfl ?_
        refine O.ld rfl rfl rfl (fun w => ⟨Go.Proofs.Try.isAgg127 w, Go.Proofs.Try.sizeOf127 w⟩) rfl hTop.c5 ?_
        refine O.mv rfl rfl rfl rfl rfl ?_
        refine O.nc rfl rfl rfl rfl rfl ?_
        refine O.fa0 (off := 5) rfl rfl rfl rfl ⟨_, _, _, Go.Proofs.Try.underlying129, rfl, rfl, Go.Proofs.Try.sizeOf127⟩ rfl ?_
        refine O.ld rfl rfl rfl (fun w => ⟨Go.Proofs.Try.isAgg127 w, Go.Proofs.Try.sizeOf127 w⟩) rfl hTop.c5 ?_
        refine O.len rfl rfl rfl rfl Go.Proofs.Try.underlying127 rfl ?_
        refine O.sub (((fs1.length : Nat) : Int)) rfl rfl rfl rfl rfl rfl (by omega) (by omega) ?_
        refine O.ix (j := fs1.length) rfl rfl rfl rfl Go.Proofs.Try.underlying127 Go.Proofs.Try.sizeOf156 rfl rfl (by omega) (by omega) ?_
        refine O.fa (off := 1) rfl rfl rfl rfl ⟨_, _, _, Go.Proofs.Try.underlying156, rfl, rfl, Go.Proofs.Try.sizeOf3⟩ rfl ?_
        refine O.ld rfl rfl rfl (fun w => ⟨Go.Proofs.Try.isAgg3 w, Go.Proofs.Try.sizeOf3 w⟩) rfl hTop.ci ?_
        refine O.sub (((Pl.pos OI x X : Nat) : Int) - 1) rfl rfl rfl rfl rfl rfl (by omega) (by omega) ?_
        refine O.ix (j := fs1.length) rfl rfl rfl rfl Go.Proofs.Try.underlying127 Go.Proofs.Try.sizeOf156 rfl rfl (by omega) (by omega) ?_
        refine O.fa (off := 1) rfl rfl rfl rfl ⟨_, _, _, Go.Proofs.Try.underlying156, rfl, rfl, Go.Proofs.Try.sizeOf3⟩ rfl ?_
        refine O.st3 rfl rfl Go.Proofs.Try.sizeOf3 rfl rfl rfl rfl rfl hTop.wi ?_
        intro H6 W6
        obtain ⟨hI6, hTop6⟩ := hI.sti hTop W6
        have hsz2 : ∀ b, S b → ¬ (fun b => Z1 b ∨ (b = H3.size ∧ b < H4.size)) b := fun b hs hz => (hI.zz b hz).elim (hsz b hs) (fun h => by have := hT.lt b hs; omega)
        have hG : Gap t0 ((g.p, ((Pl.pos OI x X : Nat) : Int) - 1) :: fs1) (Pl.pos OI x l) := .inl ⟨fs1, g, X, a, Pl.pos OI x X, rfl, hC, hple, hQ⟩
        refine Pl.fin [(0, _), (1, _), (5, _), (6, _), (7, _), (69, _), (81, _)] ⟨rfl, rfl, rfl, rfl, rfl, rfl, rfl, trivial⟩ ?_
        refine Go'.seq ?_
        -- region 15 (map.go:952)
        refine Go'.region [(0, 0), (1, 2), (2, 0)] rfl ?_
        refine O.mv rfl rfl rfl rfl rfl ?_
        refine O.call rfl rfl rfl Go.Proofs.Try.call122 rfl (iNext_gen hI6.re (hK _ hI6.f) hsi hsz2 hG) ?_
        rintro _ H7 ⟨rfl, hp7⟩
        refine ⟨trivial, ?_⟩
        refine O.asg rfl rfl rfl rfl rfl ?_
        refine Pl.fin [(0, _), (1, _), (4, _), (5, _), (6, _), (7, _), (69, _), (81, _)] ⟨rfl, rfl, rfl, rfl, rfl, rfl, rfl, rfl, trivial⟩ ?_
        refine Go'.ret (vs := [_]) Go.Proofs.Try.func124 Go.Proofs.Try.results124 ⟨rfl, trivial⟩ ?_
        exact ⟨rfl, ItPost.trans (P := P) (S := S) hI6 hp7⟩
      · skip
        obtain ⟨g, X, K⟩ := s1
        have hin : Inn _ P h1 g X ((Gt.ps h1 K).map some) K := hgd.inn
        have hKl : K.length = X.length + 1 := hgd.2.2.2.2.2.1
        have hol : ((Gt.ps h1 K).map some).length = X.length + 1 := by rw [List.length_map, Gt.ps, List.length_map]; exact hKl
        have hKL : (K.map (Gt.L h1)).length = X.length + 1 := by rw [List.length_map]; exact hKl
        have hple : Pl.pos OI x X ≤ X.length := hple
        obtain ⟨k0, hk0⟩ : ∃ k, K[Pl.pos OI x X]? = some k := ⟨K[Pl.pos OI x X], List.getElem?_eq_getElem (by omega)⟩
        have hk0m : k0 ∈ K := List.mem_of_getElem? hk0
        have hok : ((Gt.ps h1 K).map some)[Pl.pos OI x X]? = some (some (Gt.p h1 k0)) := by rw [Gt.ps, List.map_map, List.getElem?_map, hk0]; rfl
        have hkL : (K.map (Gt.L h1))[Pl.pos OI x X]? = some (Gt.L h1 k0) := by rw [List.getElem?_map, hk0]; rfl
        have hkat := hin.k.at hok
        have hgk := (hin.c.1 k0 hk0m).1
        obtain ⟨kpk, hNk⟩ := hgk.node
        have hk00 := hNk.c0
        rw [hgk.isoe] at hk00
        have hs' : Pl.Srt OI (Pl.inter X (K.map (Gt.L h1))) := hs
        have hrk : Pl.pos OI x (Pl.inter X (K.map (Gt.L h1))) = Pl.bl (K.map (Gt.L h1)) (Pl.pos OI x X) + Pl.pos OI x (Gt.L h1 k0) := Pl.inter_rank_child hs' hKL hfd hkL
        have hsk := Pl.child_srt OI hs' hKL hfd hkL
        have hQ' : Pl.pos OI x l = a + Pl.pos OI x (Pl.inter X (K.map (Gt.L h1))) := hQ
        rw [hrk] at hQ'
        -- region 13 (map.go:950)
        refine Go'.region [(0, 0), (1, 2)] rfl ?_
        refine O.mv rfl rfl rfl rfl rfl ?_
        refine O.callQ rfl rfl rfl Go.Proofs.Try.call86 rfl (leaf_spec hin.n.c3) trivial ?_
        refine Pl.fin [(0, _), (1, _), (5, _), (6, _), (7, _), (69, _), (81, _)] ⟨rfl, rfl, rfl, rfl, rfl, rfl, rfl, trivial⟩ ?_
        refine Go'.condF rfl ?_
        refine Go'.skip ?_
        -- region 16 (map.go:954)
        refine Go'.draw (fun _ => True) [(0, 0), (1, 0), (2, 0), (3, 1), (4, 0), (5, 0), (6, 0), (7, 1), (8, 0), (9, 1), (10, 0), (11, 0), (12, 0), (13, 0), (14, 0), (15, 1), (16, 2), (17, 0)] (by kernel_rfl) (by kernel_rfl) (trivial) ?_
        refine O.mv rfl rfl rfl rfl rfl ?_
        refine O.nc rfl rfl rfl rfl rfl ?_
        refine O.faz rfl rfl rfl rfl ⟨_, _, _, Go.Proofs.Try.underlying129, rfl, rfl, Go.Proofs.Try.sizeOf64⟩ rfl ?_
        refine O.ld rfl rfl rfl (fun w => ⟨Go.Proofs.Try.isAgg64 w, Go.Proofs.Try.sizeOf64 w⟩) rfl hI.c0 ?_
        refine O.mv rfl rfl rfl rfl rfl ?_
        refine O.nc rfl rfl rfl rfl rfl ?_
        refine O.fa0 (off := 3) rfl rfl rfl rfl ⟨_, _, _, Go.Proofs.Try.underlying111, rfl, rfl, Go.Proofs.Try.sizeOf109⟩ rfl ?_
        refine O.ld rfl rfl rfl (fun w => ⟨Go.Proofs.Try.isAgg109 w, Go.Proofs.Try.sizeOf109 w⟩) rfl hin.n.c3 ?_
        refine O.nc rfl rfl rfl rfl rfl ?_
        refine O.ld rfl rfl rfl (fun w => ⟨Go.Proofs.Try.isAgg112 w, Go.Proofs.Try.sizeOf112 w⟩) rfl hin.k.c ?_
        refine O.mv rfl rfl rfl rfl rfl ?_
        refine O.ix (j := Pl.pos OI x (Gt.X (h1 + 1) (g, X, K))) rfl rfl rfl rfl Go.Proofs.Try.underlying112 Go.Proofs.Try.sizeOf103 rfl rfl (by omega) (show Pl.pos OI x X < _ from by omega) ?_
        refine O.mv rfl rfl rfl rfl rfl ?_
        refine O.nc rfl rfl rfl rfl rfl ?_
        refine O.fa0 (off := 1) rfl rfl rfl rfl ⟨_, _, _, Go.Proofs.Try.underlying129, rfl, rfl, Go.Proofs.Try.sizeOf4⟩ rfl ?_
        refine O.ld rfl rfl rfl (fun w => ⟨Go.Proofs.Try.isAgg4 w, Go.Proofs.Try.sizeOf4 w⟩) rfl hI.c1 ?_
        refine O.callQ rfl rfl rfl Go.Proofs.Try.call85 rfl (isoLoad_spec mt hkat hk00 hR.iso) trivial ?_
        refine O.asg rfl rfl rfl rfl rfl ?_
        refine Pl.fin [(0, _), (1, _), (5, _), (6, _), (7, _), (69, _), (81, _)] ⟨rfl, rfl, rfl, rfl, rfl, rfl, rfl, trivial⟩ ?_
        refine Go'.inBlock ?_
        unfold ptr
        refine Go'.keep [(0, _), (1, _), (5, _)] ⟨rfl, rfl, rfl, trivial⟩ ?_
        refine Go'.inLoop ?_
        exact ih (⟨h1, k0⟩, _, _) _ ⟨hI, _, hC.down hk0, hsk, by show Pl.pos OI x l = a + Pl.bl (K.map (Gt.L h1)) (Pl.pos OI x X) + Pl.pos OI x (Gt.L h1 k0); omega⟩ (by simp only; omega)

end Go.Bt
namespace Go.Bt
open Go Go.Proofs
set_option maxRecDepth 20000
set_option maxHeartbeats 4000000
set_option linter.unusedVariables false

def kv0 : Int × Int := (0, 0)
/-- A new iterator. -/
def itv (tr : Nat) (mt : Bool) : List Value := [.pointer (some ⟨tr, 0, none⟩), .bool mt, .bool false, .bool false, .bool false, .slice none 0 0] ++ EI.enc kv0
theorem itr_new {H H' : Mem} {it tr : Nat} {mt : Bool} (W : Wrote H H' it 0 (itv tr mt)) (hw : Wr H it 0 8) : Itr EI H' H' it tr mt (fun _ => False) false false false (fun _ => False) [] kv0 where
  c0 := W.all 0 _ rfl
  c1 := W.all 1 _ rfl
  c2 := W.all 2 _ rfl
  c3 := W.all 3 _ rfl
  c4 := W.all 4 _ rfl
  st := ⟨.slice none 0 0, W.all 5 _ rfl, Acc.nil _ _ _⟩
  kv := fun j v hv => by
    have h := W.all (6 + j) v (by rw [← hv]; unfold itv; rw [List.getElem?_append_right (by simp)]; simp)
    rwa [Nat.zero_add] at h
  wr := W.fr.wr hw
  nz := id
  f := Fr.refl _ _
  zz := fun _ h => h.elim
theorem MapM.treeR {H : Mem} {tr : Nat} {P : Ps} {S : Nat → Prop} {l : List (Int × Int)} (hP : PsOk P) (hM : MapM H tr P S l) (hl : l.length ≤ 4294967296) : ∃ r : Option ((h : Nat) × Gt EI h), TreeR H tr P S l r := by
  obtain ⟨tc, srt, cnt, own, lt, hr⟩ := hM
  have hh1 := hP.h1
  rcases hr with ⟨e, k⟩ | ⟨h, t, hg, hx, e, hc, _, hown⟩
  · exact ⟨none, tc.iso, own, lt, hl, hh1, e, k⟩
  · exact ⟨some ⟨h, t⟩, tc.iso, own, lt, hl, hh1, hg, hx, e, hc, hown⟩

theorem iter_spec {B : World} {H : Mem} {tr : Nat} (mt : Bool) : Fn Try.prog B 120 [.pointer (some ⟨tr, 0, none⟩), .bool mt] H (fun r H' => r = .agg (itv tr mt).toArray ∧ Fr nowhere H H') := by
  have hF : Fr nowhere H H := Fr.refl _ _
  refine fn_of Go.Proofs.Try.func120 rfl Go.Proofs.Try.ntmps120 ?_
  refine (show Go' _ _ _ _ 11 [(0, _), (1, _)] [.code _] _ from ?_)
  refine Go'.seq ?_
  -- region 0 (map.go:924)
  refine Go'.region [(0, 2)] rfl ?_
  refine O.alloc rfl rfl rfl Go.Proofs.Try.zeroValue129 ?_
  intro H1 M1
  refine ⟨trivial, ?_⟩
  have hs1 := M1.size
  
  replace hF := hF.trans' (M1.fr nowhere) (fun _ _ _ h => h) (fun _ _ _ h => h.elim)
  have m4 : Wr H1 H.size 0 8 := M1.wr 8 (by decide)
  refine Pl.fin [(0, _), (1, _), (4, _)] ⟨rfl, rfl, rfl, trivial⟩ ?_
  refine Go'.seq ?_
  -- region 1 (map.go:925)
  refine Go'.region [(0, 2)] rfl ?_
  refine O.alloc rfl rfl rfl Go.Proofs.Try.zeroValue129 ?_
  intro H2 M2
  refine ⟨trivial, ?_⟩
  have hs2 := M2.size
  replace m4 := (M2.fr nowhere).wr m4
  replace hF := hF.trans' (M2.fr nowhere) (fun _ _ _ h => h) (fun _ _ _ h => h.elim)
  have m5 : Wr H2 H1.size 0 8 := M2.wr 8 (by decide)
  have hz : Rd H2 H1.size 0 ([.pointer none, .bool false, .bool false, .bool false, .bool false, .slice none 0 0] ++ EI.enc kv0) := M2.rd _ [] rfl
  refine Pl.fin [(0, _), (1, _), (4, _), (5, _)] ⟨rfl, rfl, rfl, rfl, trivial⟩ ?_
  refine Go'.seq ?_
  -- region 2 (map.go:926)
  refine Go'.region [(0, 0), (1, 0), (2, 2)] rfl ?_
  refine O.mv rfl rfl rfl rfl rfl ?_
  refine O.faz rfl rfl rfl rfl ⟨_, _, _, Go.Proofs.Try.underlying129, rfl, rfl, Go.Proofs.Try.sizeOf64⟩ rfl ?_
  refine O.st rfl rfl Go.Proofs.Try.sizeOf64 rfl rfl rfl rfl rfl (m5.at0 0 1 (by decide)) ?_
  intro H3 W3
  replace m4 := W3.fr.wr m4
  replace m5 := W3.fr.wr m5
  replace hF := hF.trans' W3.fr (fun _ _ _ h => h) (fun b o hb hz => by have h1 := hz.1; omega)
  refine ⟨trivial, ?_⟩
  refine Pl.fin [(1, _), (4, _), (5, _)] ⟨rfl, rfl, rfl, trivial⟩ ?_
  refine Go'.seq ?_
  -- region 3 (map.go:927)
  refine Go'.region [(0, 0), (1, 0), (2, 2)] rfl ?_
  refine O.mv rfl rfl rfl rfl rfl ?_
  refine O.fa0 (off := 1) rfl rfl rfl rfl ⟨_, _, _, Go.Proofs.Try.underlying129, rfl, rfl, Go.Proofs.Try.sizeOf4⟩ rfl ?_
  refine O.st rfl rfl Go.Proofs.Try.sizeOf4 rfl rfl rfl rfl rfl (m5.at0 1 1 (by decide)) ?_
  intro H4 W4
  replace m4 := W4.fr.wr m4
  replace m5 := W4.fr.wr m5
  replace hF := hF.trans' W4.fr (fun _ _ _ h => h) (fun b o hb hz => by have h1 := hz.1; omega)
  have r4 : Rd H4 H1.size 0 (itv tr mt) := by
    intro j v hv
    rcases j with _ | _ | j
    · cases hv; exact W4.keep1 W3.at (.inr (by decide))
    · cases hv; exact W4.at
    · exact W4.keep1 (W3.keep1 (hz (j + 2) v hv) (.inr (by omega))) (.inr (by omega))
  refine ⟨trivial, ?_⟩
  refine Pl.fin [(4, _), (5, _)] ⟨rfl, rfl, trivial⟩ ?_
  refine Go'.seq ?_
  -- region 4 (map.go:928)
  refine Go'.region [(0, 1), (1, 2)] rfl ?_
  refine O.lds rfl rfl rfl (fun w => ⟨Go.Proofs.Try.isAgg129 w, Go.Proofs.Try.sizeOf129 w⟩) rfl rfl r4 ?_
  refine O.st rfl rfl Go.Proofs.Try.sizeOf129 rfl rfl rfl rfl rfl m4 ?_
  intro H5 W5
  replace hF := hF.trans' W5.fr (fun _ _ _ h => h) (fun b o hb hz => by have h1 := hz.1; omega)
  refine ⟨trivial, ?_⟩
  refine Pl.fin [(4, _)] ⟨rfl, trivial⟩ ?_
  refine Go'.ret (vs := [_]) Go.Proofs.Try.func120 Go.Proofs.Try.results120 ⟨⟨_, _, rfl, fun _ _ => run_loadVar_agg (fun w => ⟨Go.Proofs.Try.isAgg129 w, Go.Proofs.Try.sizeOf129 w⟩) rfl W5.all⟩, trivial⟩ ?_
  exact ⟨rfl, hF⟩

theorem Iter_spec {B : World} {H : Mem} {tr : Nat} : Fn Try.prog B 101 [.pointer (some ⟨tr, 0, none⟩)] H (fun r H' => r = .agg (itv tr true).toArray ∧ Fr nowhere H H') := by
  have hF : Fr nowhere H H := Fr.refl _ _
  refine fn_of Go.Proofs.Try.func101 rfl Go.Proofs.Try.ntmps101 ?_
  refine (show Go' _ _ _ _ 5 [(0, _)] [.code _] _ from ?_)
  refine Go'.seq ?_
  -- region 0 (map.go:920)
  refine Go'.region [(0, 2)] rfl ?_
  refine O.alloc rfl rfl rfl Go.Proofs.Try.zeroValue129 ?_
  intro H1 M1
  refine ⟨trivial, ?_⟩
  have hs1 := M1.size
  
  replace hF := hF.trans' (M1.fr nowhere) (fun _ _ _ h => h) (fun _ _ _ h => h.elim)
  have m2 : Wr H1 H.size 0 8 := M1.wr 8 (by decide)
  refine Pl.fin [(0, _), (2, _)] ⟨rfl, rfl, trivial⟩ ?_
  refine Go'.seq ?_
  -- region 1 (map.go:921)
  refine Go'.region [(0, 0), (1, 2), (2, 2)] rfl ?_
  refine O.mv rfl rfl rfl rfl rfl ?_
  refine O.call rfl rfl rfl Go.Proofs.Try.call120 rfl (iter_spec true) ?_
  rintro _ H2 ⟨rfl, hF2⟩
  have hs2 := hF2.size
  replace m2 := hF2.wr m2
  replace hF := hF.trans' hF2 (fun _ _ _ h => h) (fun _ _ _ h => h.elim)
  refine ⟨trivial, ?_⟩
  refine O.st (vs := (itv tr true)) rfl rfl Go.Proofs.Try.sizeOf129 rfl rfl rfl rfl rfl m2 ?_
  intro H3 W3
  replace hF := hF.trans' W3.fr (fun _ _ _ h => h) (fun b o hb hz => by have h1 := hz.1; omega)
  refine ⟨trivial, ?_⟩
  refine Pl.fin [(2, _)] ⟨rfl, trivial⟩ ?_
  refine Go'.ret (vs := [_]) Go.Proofs.Try.func101 Go.Proofs.Try.results101 ⟨⟨_, _, rfl, fun _ _ => run_loadVar_agg (fun w => ⟨Go.Proofs.Try.isAgg129 w, Go.Proofs.Try.sizeOf129 w⟩) rfl W3.all⟩, trivial⟩ ?_
  exact ⟨rfl, hF⟩

theorem iKey_spec {B : World} {H : Mem} {it : Nat} {kv : Int × Int} (hk : Rd H it 6 (EI.enc kv)) : Fn Try.prog B 126 [.pointer (some ⟨it, 0, none⟩)] H (fun v H' => v = .int .i64 kv.1 ∧ H' = H) := by
  refine fn_of Go.Proofs.Try.func126 rfl Go.Proofs.Try.ntmps126 ?_
  refine (show Go' _ _ _ _ 8 [(0, _)] [.code _] _ from ?_)
  refine Go'.seq ?_
  -- region 0 (map.go:1107)
  refine Go'.region [(0, 0)] rfl ?_
  refine O.asg rfl rfl rfl rfl rfl ?_
  refine Pl.fin [(0, _), (2, _)] ⟨rfl, rfl, trivial⟩ ?_
  refine Go'.seq ?_
  -- region 1 (map.go:1108)
  refine Go'.region [(0, 0), (1, 0), (2, 0), (3, 0), (4, 1), (5, 0)] rfl ?_
  refine O.mv rfl rfl rfl rfl rfl ?_
  refine O.nc rfl rfl rfl rfl rfl ?_
  refine O.fa0 (off := 6) rfl rfl rfl rfl ⟨_, _, _, Go.Proofs.Try.underlying129, rfl, rfl, Go.Proofs.Try.sizeOf100⟩ rfl ?_
  refine O.fa (off := 1) rfl rfl rfl rfl ⟨_, _, _, Go.Proofs.Try.underlying100, rfl, rfl, Go.Proofs.Try.sizeOf3⟩ rfl ?_
  refine O.ld rfl rfl rfl (fun w => ⟨Go.Proofs.Try.isAgg3 w, Go.Proofs.Try.sizeOf3 w⟩) rfl (hk 1 _ rfl) ?_
  refine O.asg rfl rfl rfl rfl rfl ?_
  refine Pl.fin [(2, _)] ⟨rfl, trivial⟩ ?_
  refine Go'.ret (vs := [_]) Go.Proofs.Try.func126 Go.Proofs.Try.results126 ⟨rfl, trivial⟩ ?_
  exact ⟨rfl, rfl⟩

theorem iValue_spec {B : World} {H : Mem} {it : Nat} {kv : Int × Int} (hk : Rd H it 6 (EI.enc kv)) : Fn Try.prog B 127 [.pointer (some ⟨it, 0, none⟩)] H (fun v H' => v = .int .i64 kv.2 ∧ H' = H) := by
  refine fn_of Go.Proofs.Try.func127 rfl Go.Proofs.Try.ntmps127 ?_
  refine (show Go' _ _ _ _ 8 [(0, _)] [.code _] _ from ?_)
  refine Go'.seq ?_
  -- region 0 (map.go:1112)
  refine Go'.region [(0, 0)] rfl ?_
  refine O.asg rfl rfl rfl rfl rfl ?_
  refine Pl.fin [(0, _), (2, _)] ⟨rfl, rfl, trivial⟩ ?_
  refine Go'.seq ?_
  -- region 1 (map.go:1113)
  refine Go'.region [(0, 0), (1, 0), (2, 0), (3, 0), (4, 1), (5, 0)] rfl ?_
  refine O.mv rfl rfl rfl rfl rfl ?_
  refine O.nc rfl rfl rfl rfl rfl ?_
  refine O.fa0 (off := 6) rfl rfl rfl rfl ⟨_, _, _, Go.Proofs.Try.underlying129, rfl, rfl, Go.Proofs.Try.sizeOf100⟩ rfl ?_
  refine O.faz rfl rfl rfl rfl ⟨_, _, _, Go.Proofs.Try.underlying100, rfl, rfl, Go.Proofs.Try.sizeOf3⟩ rfl ?_
  refine O.ld rfl rfl rfl (fun w => ⟨Go.Proofs.Try.isAgg3 w, Go.Proofs.Try.sizeOf3 w⟩) rfl (hk 0 _ rfl) ?_
  refine O.asg rfl rfl rfl rfl rfl ?_
  refine Pl.fin [(2, _)] ⟨rfl, trivial⟩ ?_
  refine Go'.ret (vs := [_]) Go.Proofs.Try.func127 Go.Proofs.Try.results127 ⟨rfl, trivial⟩ ?_
  exact ⟨rfl, rfl⟩

theorem moved_spec {B : World} {H0 H : Mem} {it tr : Nat} {mt sk sa se : Bool} {Z : Nat → Prop} {kv : Int × Int} {P : Ps} {S : Nat → Prop} {l : List (Int × Int)} {r : Option ((h : Nat) × Gt EI h)} (hI : Itr EI H H it tr mt Z sk sa se Z [] kv) (hT : TreeR H tr P S l r) (hsi : ¬ S it) (hsz : ∀ b, S b → ¬ Z b) (hsrt : Pl.Srt OI l) (hmx : P.mx ≤ 255)
    {u : Value} {ms : List (Int × Int × Int)} (hu : InS EMv H0 u ms) (hml : ms.length ≤ 4294967296) (hF0 : Fr nowhere H0 H) (hit : H0.size ≤ it) (hZ0 : ∀ b, Z b → H0.size ≤ b) :
    Fn Try.prog B 102 [.pointer (some ⟨it, 0, none⟩), u] H (fun v H' => ∃ outs, OutS EF H' v outs ∧ Pl.Agree outs (Pl.itRun OI l ms).2.1 (Pl.itRun OI l ms).2.2 ∧ Fr nowhere H0 H') := by
  obtain ⟨a, c, hue⟩ := hu.len
  subst hue
  refine fn_of Go.Proofs.Try.func102 rfl Go.Proofs.Try.ntmps102 ?_
  refine (show Go' _ _ _ _ 50 [(0, _), (1, _)] [.code _] _ from ?_)
  refine Go'.seq ?_
  -- region 0 (map.go:244)
  refine Go'.region [(0, 0)] rfl ?_
  refine O.asg rfl rfl rfl rfl rfl ?_
  refine Pl.fin [(0, _), (1, _), (4, _)] ⟨rfl, rfl, rfl, trivial⟩ ?_
  refine Go'.seq ?_
  -- region 1 (map.go:245)
  refine Go'.region [(0, 0)] rfl ?_
  refine O.asg rfl rfl rfl rfl rfl ?_
  refine Pl.fin [(0, _), (1, _), (4, _), (5, _)] ⟨rfl, rfl, rfl, rfl, trivial⟩ ?_
  refine Go'.seq ?_
  refine Go'.seq ?_
  -- region 2 (map.go:246)
  refine Go'.region [(0, 0), (1, 0), (2, 0)] rfl ?_
  refine O.mv rfl rfl rfl rfl rfl ?_
  refine O.len rfl rfl rfl rfl Go.Proofs.Try.underlying47 rfl ?_
  refine O.mv rfl rfl rfl rfl rfl ?_
  refine Pl.fin [(0, _), (4, _), (5, _), (9, _), (10, _), (11, _)] ⟨rfl, rfl, rfl, rfl, rfl, rfl, trivial⟩ ?_
  refine Go'.block ?_
  refine Go'.loop ?_
  refine Go'.keep [(0, _), (5, _), (9, _), (10, _), (11, _)] ⟨rfl, rfl, rfl, rfl, rfl, trivial⟩ ?_
  refine Go'.ind (σ := Nat × Value) (fun s => ms.length - s.1) (fun s H' => Fr nowhere H0 H' ∧ s.1 ≤ ms.length ∧ ∃ sk sa se Z fr kv st Zo outs, Itr EI H' H' it tr mt Z sk sa se Z fr kv ∧ StI r l sk fr kv st ∧ TreeR H' tr P S l r ∧ (∀ b, Z b → H0.size ≤ b ∧ ¬ S b) ∧ (∀ q, (Pl.itRun OI l (ms.take s.1)).1 = some q → st = some q) ∧ Acc EF Zo H' s.2 outs ∧ (∀ b, Zo b → H0.size ≤ b ∧ b < H'.size ∧ ¬ S b ∧ ¬ Z b ∧ b ≠ it) ∧ Pl.Agree outs (Pl.itRun OI l (ms.take s.1)).2.1 (Pl.itRun OI l (ms.take s.1)).2.2)
    (fun s => [(0, .pointer (some ⟨it, 0, none⟩)), (5, s.2), (9, .slice a ms.length c), (10, .int .i64 (ms.length : Int)), (11, .int .i64 (s.1 : Int))]) (0, .slice none 0 0)
    ⟨hF0, Nat.zero_le _, sk, sa, se, Z, [], kv, none, fun _ => False, [], hI, rfl, hT, fun b hb => ⟨hZ0 b hb, fun hs => hsz b hs hb⟩, (fun q h => by simp [Pl.itRun] at h), Acc.nil _ _ _, fun _ h => h.elim, by rw [List.take_zero]; exact Pl.Agree.nil⟩ rfl ?_
  clear hI hT hF0 hsz hZ0
  rintro ⟨j, sv⟩ H2 ⟨hF, hjl, sk, sa, se, Z, fr, kv, st, Zo, outs, hI, hSt, hT, hZ, hsim, hA, hZo, hag⟩ ih
  simp only at hjl hsim hA hag
  refine Go'.seq ?_
  by_cases hlt : j < ms.length
  · skip
    obtain ⟨y, hy⟩ : ∃ y, ms[j]? = some y := ⟨ms[j], List.getElem?_eq_getElem hlt⟩
    obtain ⟨b, o, c', e, hr⟩ := (hu.fr hF).at hy
    cases e
    have hsz0 := hF.size
    have erun : Pl.itRun OI l (ms.take (j + 1)) = Pl.itStep OI l (Pl.itRun OI l (ms.take j)) y := by rw [List.take_add_one, hy]; exact Pl.itRun_snoc _ _ _ _
    have hlo : outs.length = j := by rw [hag.1, (Pl.itRun_len OI l (ms.take j)).1, List.length_take]; omega
    -- region 3 (map.go:246)
    refine Go'.region [(0, 0)] rfl ?_
    refine O.cmp rfl rfl rfl rfl rfl rfl (lssT (by omega)) ?_
    refine Pl.fin [(0, _), (5, _), (9, _), (10, _), (11, _), (12, _)] ⟨rfl, rfl, rfl, rfl, rfl, rfl, trivial⟩ ?_
    refine Go'.seq ?_
    refine Go'.condT rfl ?_
    refine Go'.skip ?_
    refine Go'.seq ?_
    refine Go'.block ?_
    refine Go'.seq ?_
    -- region 4 (map.go:246)
    refine Go'.region [(0, 0), (1, 1), (2, 2), (3, 2)] rfl ?_
    refine O.ix (j := j) rfl rfl rfl rfl Go.Proofs.Try.underlying47 Go.Proofs.Try.sizeOf82 rfl rfl (by omega) hlt ?_
    refine O.lds rfl rfl rfl (fun w => ⟨Go.Proofs.Try.isAgg82 w, Go.Proofs.Try.sizeOf82 w⟩) rfl rfl hr ?_
    refine O.alloc rfl rfl rfl Go.Proofs.Try.zeroValue82 ?_
    intro H3 M3
    refine ⟨trivial, ?_⟩
    have hs3 := M3.size
    have m7 : Wr H3 H2.size 0 3 := M3.wr 3 (by decide)
    refine O.st rfl rfl Go.Proofs.Try.sizeOf82 rfl rfl rfl rfl rfl m7 ?_
    intro H4 W4
    have hs4 := W4.size
    have hf4 : Fr nowhere H2 H4 := (M3.fr nowhere).trans' W4.fr (fun _ _ _ h => h) (fun b o hb hz => by have h1 := hz.1; omega)
    replace hI := hI.away hf4 (fun _ _ _ => nw)
    replace hT := hT.keep hf4 (fun _ _ _ => nw)
    replace hA := hA.fr hf4 (fun _ _ _ _ => nw)
    have hSZ : ∀ b, S b → ¬ Z b := fun b hs hz => (hZ b hz).2 hs
    have hSlt := hT.lt
    have k0 : cl H4 H2.size 0 = some (.int .i64 y.1) := W4.all 0 _ rfl
    have k1 : cl H4 H2.size 1 = some (.int .i64 y.2.1) := W4.all 1 _ rfl
    clear hr hu m7 M3
    refine ⟨trivial, ?_⟩
    refine Pl.fin [(0, _), (5, _), (7, _), (9, _), (10, _), (11, _), (12, _)] ⟨rfl, rfl, rfl, rfl, rfl, rfl, rfl, trivial⟩ ?_
    refine Go'.seq ?_
    -- region 5 (map.go:247)
    refine Go'.region [(0, 0)] rfl ?_
    refine O.asg rfl rfl rfl rfl rfl ?_
    refine Pl.fin [(0, _), (5, _), (7, _), (8, _), (9, _), (10, _), (11, _), (12, _)] ⟨rfl, rfl, rfl, rfl, rfl, rfl, rfl, rfl, trivial⟩ ?_
    refine Go'.seq ?_
    refine Go'.seq ?_
    -- region 6 (map.go:248)
    refine Go'.region [(0, 0), (1, 1)] rfl ?_
    refine O.faz rfl rfl rfl rfl ⟨_, _, _, Go.Proofs.Try.underlying82, rfl, rfl, Go.Proofs.Try.sizeOf3⟩ rfl ?_
    refine O.ld rfl rfl rfl (fun w => ⟨Go.Proofs.Try.isAgg3 w, Go.Proofs.Try.sizeOf3 w⟩) rfl k0 ?_
    refine Pl.fin [(0, _), (5, _), (7, _), (8, _), (9, _), (10, _), (11, _), (12, _), (16, _)] ⟨rfl, rfl, rfl, rfl, rfl, rfl, rfl, rfl, rfl, trivial⟩ ?_
    refine Go'.block ?_
    refine Go'.seq ?_
    refine Go'.cut3 (σ := Bool × Option Nat) (fun s H' => ItPost EI H4 H' it tr mt Z r l s.2 ∧ Pl.Res OI l y (Pl.itRun OI l (ms.take j)).1 s.1 s.2) (fun s => [(0, .pointer (some ⟨it, 0, none⟩)), (5, sv), (8, .bool s.1), (9, .slice (some ⟨b, o, none⟩) ms.length c), (10, .int .i64 (ms.length : Int)), (11, .int .i64 (j : Int))]) ?_ ?_
    · rintro ⟨ok, st2⟩ H5 ⟨⟨sk5, sa5, se5, Z5, fr5, kv5, hI5, hS5⟩, hres⟩
      simp only at hres hS5
      have hs5 := hI5.f.size
      have hitlt := cl_lt hI.c0
      have hzz := hI5.zz
      have hkv5 : ∀ q, st2 = some q → l[q]? = some kv5 := fun q e => by subst e; exact hS5.2.1
      have hT5 := hT.keep hI5.f (fun b o hs hz => hz.elim (fun e => hsi (e ▸ hs)) (hSZ b hs))
      have hA5 := hA.fr hI5.f (fun b o hb hz hx => hx.elim (fun e => (hZo b hz).2.2.2.2 e) (hZo b hz).2.2.2.1)
      have hF5 : Fr nowhere H0 H5 := (hF.trans hf4).trans' hI5.f (fun _ _ _ h => h) (fun b o hb hz => hz.elim (fun e => by omega) (fun h => by have := (hZ b h).1; omega))
      replace hI5 := hI5.low
      -- region 17 (map.go:260)
      refine Go'.region [(0, 0), (1, 0), (2, 2), (3, 0), (4, 2), (5, 0), (6, 2), (7, 2), (8, 2), (9, 0)] rfl ?_
      refine O.mv rfl rfl rfl rfl rfl ?_
      refine O.mv rfl rfl rfl rfl rfl ?_
      refine O.callQ rfl rfl rfl Go.Proofs.Try.call126 rfl (iKey_spec hI5.kv) trivial ?_
      refine O.mv rfl rfl rfl rfl rfl ?_
      refine O.callQ rfl rfl rfl Go.Proofs.Try.call127 rfl (iValue_spec hI5.kv) trivial ?_
      refine O.mv rfl rfl rfl rfl rfl ?_
      refine O.call rfl rfl rfl Go.Proofs.Try.call54 rfl (pair_spec (x := kv5) (ok := ok)) ?_
      rintro _ H6 ⟨rfl, hF6⟩
      have hs6 := hF6.size
      rw [FV_eq]
      replace hI5 := hI5.away hF6 (fun _ _ _ => nw)
      replace hT5 := hT5.keep hF6 (fun _ _ _ => nw)
      replace hA5 := hA5.fr hF6 (fun _ _ _ _ => nw)
      refine ⟨trivial, ?_⟩
      refine O.bsl (cs := (fvs (ok? kv5 ok))) rfl rfl rfl ⟨Go.Proofs.Try.underlying30, Go.Proofs.Try.sizeOf37, Go.Proofs.Try.zeroValue37, ⟨_, Go.Proofs.Try.typeInfo37, rfl⟩, rfl, by decide, by decide⟩ rfl (by decide) (by cases ok <;> kernel_rfl) ?_
      intro H7 M7
      have hs7 := M7.size
      replace hI5 := hI5.away (M7.fr nowhere) (fun _ _ _ => nw)
      replace hT5 := hT5.keep (M7.fr nowhere) (fun _ _ _ => nw)
      replace hA5 := hA5.fr (M7.fr nowhere) (fun _ _ _ _ => nw)
      have m5 : Rd H7 H6.size 0 (row EF [ok? kv5 ok]) := M7.rd _ [] (by simp [row, EF])
      refine ⟨trivial, ?_⟩
      refine O.appA (E := EF) (Y := [ok? kv5 ok]) rfl rfl rfl ⟨Go.Proofs.Try.underlying30, Go.Proofs.Try.sizeOf37, Go.Proofs.Try.zeroValue37, ⟨_, Go.Proofs.Try.typeInfo37, rfl⟩, rfl, by decide, by decide⟩ rfl hA5 rfl ⟨_, _, _, rfl, m5⟩ (Nat.succ_pos _) (Nat.le_trans (Nat.mul_le_mul_left _ (Nat.le_of_ble_eq_true (n := _) (m := 4096) rfl)) (by rw [hlo]; simp only [List.length_cons, List.length_nil]; omega)) (by rw [hlo]; simp only [List.length_cons, List.length_nil]; omega) ?_
      intro v8 H8 hA8 hF8 hs8
      have hg8 := hF8.size
      have hI8 := hI5.away hF8 (fun b o hz hb => by
        have h1 := hZo b hb
        rcases hz with e | hz
        · exact h1.2.2.2.2 e
        · exact (hzz b hz.1).elim h1.2.2.2.1 (fun h => by omega))
      have hT8 := hT5.keep hF8 (fun b o hs hb => (hZo b hb).2.2.1 hs)
      refine ⟨trivial, ?_⟩
      refine O.asg rfl rfl rfl rfl rfl ?_
      refine Pl.fin [(0, _), (5, _), (8, _), (9, _), (10, _), (11, _)] ⟨rfl, rfl, rfl, rfl, rfl, rfl, trivial⟩ ?_
      refine Go'.inBlock ?_
      -- region 18 (map.go:246)
      refine Go'.region [(0, 0), (1, 0)] rfl ?_
      refine O.add (((j + 1 : Nat) : Int)) rfl rfl rfl rfl rfl rfl (by omega) (by omega) ?_
      refine O.mv rfl rfl rfl rfl rfl ?_
      refine Pl.fin [(0, _), (5, _), (8, _), (9, _), (10, _), (11, _)] ⟨rfl, rfl, rfl, rfl, rfl, rfl, trivial⟩ ?_
      refine Go'.keep [(0, _), (5, _), (9, _), (10, _), (11, _)] ⟨rfl, rfl, rfl, rfl, rfl, trivial⟩ ?_
      refine Go'.inLoop ?_
      exact ih (j + 1, v8) H8 ⟨((hF5.trans hF6).trans (M7.fr nowhere)).trans' hF8 (fun _ _ _ h => h) (fun b o hb hz => by have := (hZo b hz).1; omega), hlt, sk5, sa5, se5, _, fr5, kv5, st2, (fun b => Zo b ∨ (b = H7.size ∧ b < H8.size)), outs ++ [ok? kv5 ok], hI8, hS5, hT8,
        fun b hb => (hzz b hb.1).elim (hZ b) (fun h => ⟨by omega, fun hs => by have := hSlt b hs; omega⟩),
        fun q hq => hres.sim q (by rw [← hq, erun]; rfl), hA8,
        fun b hb => hb.elim (fun h => have h1 := hZo b h; ⟨h1.1, by have := h1.2.1; omega, h1.2.2.1, fun hz => (hzz b hz.1).elim h1.2.2.2.1 (fun h => by have := h1.2.1; omega), h1.2.2.2.2⟩) (fun h => ⟨by omega, h.2, fun hs => by have := hSlt b hs; omega, fun hz => by have := hz.2; omega, fun e => by omega⟩), by
          simp only
          rw [erun]
          exact hag.snoc (fun ht => by rw [← hres.out hkv5 ht]; cases ok <;> rfl)⟩ (by simp only; omega)
    · intro tail
      by_cases h1 : y.1 = 1
      · skip
        -- region 8 (map.go:249)
        refine Go'.region [(0, 0), (1, 0)] rfl ?_
        refine O.cmp rfl rfl rfl rfl rfl rfl (eqlT (by omega)) ?_
        refine O.asg rfl rfl rfl rfl rfl ?_
        refine Pl.fin [(0, _), (5, _), (7, _), (8, _), (9, _), (10, _), (11, _), (12, _), (16, _), (19, _)] ⟨rfl, rfl, rfl, rfl, rfl, rfl, rfl, rfl, rfl, rfl, trivial⟩ ?_
        refine Go'.condT rfl ?_
        -- region 9 (map.go:250)
        refine Go'.region [(0, 0), (1, 2), (2, 0)] rfl ?_
        refine O.mv rfl rfl rfl rfl rfl ?_
        refine O.call rfl rfl rfl Go.Proofs.Try.call121 rfl (iLast_spec hI hT hsi hSZ) ?_
        rintro _ H5 ⟨rfl, hp⟩
        refine ⟨trivial, ?_⟩
        refine O.asg rfl rfl rfl rfl rfl ?_
        refine Pl.fin [(0, _), (5, _), (7, _), (8, _), (9, _), (10, _), (11, _), (12, _), (16, _), (19, _)] ⟨rfl, rfl, rfl, rfl, rfl, rfl, rfl, rfl, rfl, rfl, trivial⟩ ?_
        refine Go'.inBlock ?_
        refine Go'.keep [(0, _), (5, _), (8, _), (9, _), (10, _), (11, _)] ⟨rfl, rfl, rfl, rfl, rfl, rfl, trivial⟩ ?_
        exact tail (_, _) _ ⟨hp, Pl.Res.last h1⟩
      -- region 8 (map.go:249)
      refine Go'.region [(0, 0), (1, 0)] rfl ?_
      refine O.cmp rfl rfl rfl rfl rfl rfl (eqlF (by omega)) ?_
      refine O.asg rfl rfl rfl rfl rfl ?_
      refine Pl.fin [(0, _), (5, _), (7, _), (8, _), (9, _), (10, _), (11, _), (12, _), (16, _), (19, _)] ⟨rfl, rfl, rfl, rfl, rfl, rfl, rfl, rfl, rfl, rfl, trivial⟩ ?_
      refine Go'.condF rfl ?_
      refine Go'.seq ?_
      by_cases h2 : y.1 = 2
      · skip
        -- region 10 (map.go:251)
        refine Go'.region [(0, 0), (1, 0)] rfl ?_
        refine O.cmp rfl rfl rfl rfl rfl rfl (eqlT (by omega)) ?_
        refine O.asg rfl rfl rfl rfl rfl ?_
        refine Pl.fin [(0, _), (5, _), (7, _), (8, _), (9, _), (10, _), (11, _), (12, _), (16, _), (19, _), (23, _)] ⟨rfl, rfl, rfl, rfl, rfl, rfl, rfl, rfl, rfl, rfl, rfl, trivial⟩ ?_
        refine Go'.condT rfl ?_
        -- region 11 (map.go:252)
        refine Go'.region [(0, 0), (1, 2), (2, 0)] rfl ?_
        refine O.mv rfl rfl rfl rfl rfl ?_
        refine O.call rfl rfl rfl Go.Proofs.Try.call122 rfl (iNext_spec hI hT hsi hSZ hSt) ?_
        rintro _ H5 ⟨ok, st2, rfl, hp, hq, hn⟩
        refine ⟨trivial, ?_⟩
        refine O.asg rfl rfl rfl rfl rfl ?_
        refine Pl.fin [(0, _), (5, _), (7, _), (8, _), (9, _), (10, _), (11, _), (12, _), (16, _), (19, _), (23, _)] ⟨rfl, rfl, rfl, rfl, rfl, rfl, rfl, rfl, rfl, rfl, rfl, trivial⟩ ?_
        refine Go'.inBlock ?_
        refine Go'.keep [(0, _), (5, _), (8, _), (9, _), (10, _), (11, _)] ⟨rfl, rfl, rfl, rfl, rfl, rfl, trivial⟩ ?_
        exact tail (_, _) _ ⟨hp, Pl.Res.next h2 hsim hq hn⟩
      -- region 10 (map.go:251)
      refine Go'.region [(0, 0), (1, 0)] rfl ?_
      refine O.cmp rfl rfl rfl rfl rfl rfl (eqlF (by omega)) ?_
      refine O.asg rfl rfl rfl rfl rfl ?_
      refine Pl.fin [(0, _), (5, _), (7, _), (8, _), (9, _), (10, _), (11, _), (12, _), (16, _), (19, _), (23, _)] ⟨rfl, rfl, rfl, rfl, rfl, rfl, rfl, rfl, rfl, rfl, rfl, trivial⟩ ?_
      refine Go'.condF rfl ?_
      refine Go'.seq ?_
      by_cases h3 : y.1 = 3
      · skip
        -- region 12 (map.go:253)
        refine Go'.region [(0, 0), (1, 0)] rfl ?_
        refine O.cmp rfl rfl rfl rfl rfl rfl (eqlT (by omega)) ?_
        refine O.asg rfl rfl rfl rfl rfl ?_
        refine Pl.fin [(0, _), (5, _), (7, _), (8, _), (9, _), (10, _), (11, _), (12, _), (16, _), (19, _), (23, _), (27, _)] ⟨rfl, rfl, rfl, rfl, rfl, rfl, rfl, rfl, rfl, rfl, rfl, rfl, trivial⟩ ?_
        refine Go'.condT rfl ?_
        -- region 13 (map.go:254)
        refine Go'.region [(0, 0), (1, 2), (2, 0)] rfl ?_
        refine O.mv rfl rfl rfl rfl rfl ?_
        refine O.call rfl rfl rfl Go.Proofs.Try.call123 rfl (iPrev_spec hI hT hsi hSZ hSt) ?_
        rintro _ H5 ⟨ok, st2, rfl, hp, hq, hn⟩
        refine ⟨trivial, ?_⟩
        refine O.asg rfl rfl rfl rfl rfl ?_
        refine Pl.fin [(0, _), (5, _), (7, _), (8, _), (9, _), (10, _), (11, _), (12, _), (16, _), (19, _), (23, _), (27, _)] ⟨rfl, rfl, rfl, rfl, rfl, rfl, rfl, rfl, rfl, rfl, rfl, rfl, trivial⟩ ?_
        refine Go'.inBlock ?_
        refine Go'.keep [(0, _), (5, _), (8, _), (9, _), (10, _), (11, _)] ⟨rfl, rfl, rfl, rfl, rfl, rfl, trivial⟩ ?_
        exact tail (_, _) _ ⟨hp, Pl.Res.prev h3 (fun q h => Pl.itRun_lt OI l _ h) hsim hq hn⟩
      -- region 12 (map.go:253)
      refine Go'.region [(0, 0), (1, 0)] rfl ?_
      refine O.cmp rfl rfl rfl rfl rfl rfl (eqlF (by omega)) ?_
      refine O.asg rfl rfl rfl rfl rfl ?_
      refine Pl.fin [(0, _), (5, _), (7, _), (8, _), (9, _), (10, _), (11, _), (12, _), (16, _), (19, _), (23, _), (27, _)] ⟨rfl, rfl, rfl, rfl, rfl, rfl, rfl, rfl, rfl, rfl, rfl, rfl, trivial⟩ ?_
      refine Go'.condF rfl ?_
      refine Go'.seq ?_
      refine Go'.seq ?_
      by_cases h4 : y.1 = 4
      · skip
        -- region 14 (map.go:255)
        refine Go'.region [(0, 0), (1, 0)] rfl ?_
        refine O.cmp rfl rfl rfl rfl rfl rfl (eqlT (by omega)) ?_
        refine O.asg rfl rfl rfl rfl rfl ?_
        refine Pl.fin [(0, _), (5, _), (7, _), (8, _), (9, _), (10, _), (11, _), (12, _), (16, _), (19, _), (23, _), (27, _), (31, _)] ⟨rfl, rfl, rfl, rfl, rfl, rfl, rfl, rfl, rfl, rfl, rfl, rfl, rfl, trivial⟩ ?_
        refine Go'.condT rfl ?_
        refine Go'.skip ?_
        refine Go'.condT rfl ?_
        -- region 16 (map.go:256)
        refine Go'.region [(0, 0), (1, 0), (2, 0), (3, 1), (4, 2), (5, 0)] rfl ?_
        refine O.mv rfl rfl rfl rfl rfl ?_
        refine O.fa0 (off := 1) rfl rfl rfl rfl ⟨_, _, _, Go.Proofs.Try.underlying82, rfl, rfl, Go.Proofs.Try.sizeOf35⟩ rfl ?_
        refine O.faz rfl rfl rfl rfl ⟨_, _, _, Go.Proofs.Try.underlying35, rfl, rfl, Go.Proofs.Try.sizeOf3⟩ rfl ?_
        refine O.ld rfl rfl rfl (fun w => ⟨Go.Proofs.Try.isAgg3 w, Go.Proofs.Try.sizeOf3 w⟩) rfl k1 ?_
        refine O.call rfl rfl rfl Go.Proofs.Try.call124 rfl (iSeek_spec hI hT hsi hSZ hsrt hmx y.2) ?_
        rintro _ H5 ⟨rfl, hp⟩
        refine ⟨trivial, ?_⟩
        refine O.asg rfl rfl rfl rfl rfl ?_
        refine Pl.fin [(0, _), (5, _), (7, _), (8, _), (9, _), (10, _), (11, _), (12, _), (16, _), (19, _), (23, _), (27, _), (31, _)] ⟨rfl, rfl, rfl, rfl, rfl, rfl, rfl, rfl, rfl, rfl, rfl, rfl, rfl, trivial⟩ ?_
        refine Go'.inBlock ?_
        refine Go'.keep [(0, _), (5, _), (8, _), (9, _), (10, _), (11, _)] ⟨rfl, rfl, rfl, rfl, rfl, rfl, trivial⟩ ?_
        exact tail (_, _) _ ⟨hp, Pl.Res.seek (.inl h4)⟩
      -- region 14 (map.go:255)
      refine Go'.region [(0, 0), (1, 0)] rfl ?_
      refine O.cmp rfl rfl rfl rfl rfl rfl (eqlF (by omega)) ?_
      refine O.asg rfl rfl rfl rfl rfl ?_
      refine Pl.fin [(0, _), (5, _), (7, _), (8, _), (9, _), (10, _), (11, _), (12, _), (16, _), (19, _), (23, _), (27, _), (31, _)] ⟨rfl, rfl, rfl, rfl, rfl, rfl, rfl, rfl, rfl, rfl, rfl, rfl, rfl, trivial⟩ ?_
      refine Go'.condF rfl ?_
      by_cases h5 : y.1 = 5
      · skip
        -- region 15 (map.go:255)
        refine Go'.region [(0, 0), (1, 0)] rfl ?_
        refine O.cmp rfl rfl rfl rfl rfl rfl (eqlT (by omega)) ?_
        refine O.asg rfl rfl rfl rfl rfl ?_
        refine Pl.fin [(0, _), (5, _), (7, _), (8, _), (9, _), (10, _), (11, _), (12, _), (16, _), (19, _), (23, _), (27, _), (31, _)] ⟨rfl, rfl, rfl, rfl, rfl, rfl, rfl, rfl, rfl, rfl, rfl, rfl, rfl, trivial⟩ ?_
        refine Go'.condT rfl ?_
        -- region 16 (map.go:256)
        refine Go'.region [(0, 0), (1, 0), (2, 0), (3, 1), (4, 2), (5, 0)] rfl ?_
        refine O.mv rfl rfl rfl rfl rfl ?_
        refine O.fa0 (off := 1) rfl rfl rfl rfl ⟨_, _, _, Go.Proofs.Try.underlying82, rfl, rfl, Go.Proofs.Try.sizeOf35⟩ rfl ?_
        refine O.faz rfl rfl rfl rfl ⟨_, _, _, Go.Proofs.Try.underlying35, rfl, rfl, Go.Proofs.Try.sizeOf3⟩ rfl ?_
        refine O.ld rfl rfl rfl (fun w => ⟨Go.Proofs.Try.isAgg3 w, Go.Proofs.Try.sizeOf3 w⟩) rfl k1 ?_
        refine O.call rfl rfl rfl Go.Proofs.Try.call124 rfl (iSeek_spec hI hT hsi hSZ hsrt hmx y.2) ?_
        rintro _ H5 ⟨rfl, hp⟩
        refine ⟨trivial, ?_⟩
        refine O.asg rfl rfl rfl rfl rfl ?_
        refine Pl.fin [(0, _), (5, _), (7, _), (8, _), (9, _), (10, _), (11, _), (12, _), (16, _), (19, _), (23, _), (27, _), (31, _)] ⟨rfl, rfl, rfl, rfl, rfl, rfl, rfl, rfl, rfl, rfl, rfl, rfl, rfl, trivial⟩ ?_
        refine Go'.inBlock ?_
        refine Go'.keep [(0, _), (5, _), (8, _), (9, _), (10, _), (11, _)] ⟨rfl, rfl, rfl, rfl, rfl, rfl, trivial⟩ ?_
        exact tail (_, _) _ ⟨hp, Pl.Res.seek (.inr h5)⟩
      · skip
        -- region 15 (map.go:255)
        refine Go'.region [(0, 0), (1, 0)] rfl ?_
        refine O.cmp rfl rfl rfl rfl rfl rfl (eqlF (by omega)) ?_
        refine O.asg rfl rfl rfl rfl rfl ?_
        refine Pl.fin [(0, _), (5, _), (7, _), (8, _), (9, _), (10, _), (11, _), (12, _), (16, _), (19, _), (23, _), (27, _), (31, _)] ⟨rfl, rfl, rfl, rfl, rfl, rfl, rfl, rfl, rfl, rfl, rfl, rfl, rfl, trivial⟩ ?_
        refine Go'.condF rfl ?_
        -- region 7 (map.go:258)
        refine Go'.region [(0, 0), (1, 2), (2, 0)] rfl ?_
        refine O.mv rfl rfl rfl rfl rfl ?_
        refine O.call rfl rfl rfl Go.Proofs.Try.call125 rfl (iFirst_spec hI hT hsi hSZ) ?_
        rintro _ H5 ⟨rfl, hp⟩
        refine ⟨trivial, ?_⟩
        refine O.asg rfl rfl rfl rfl rfl ?_
        refine Pl.fin [(0, _), (5, _), (7, _), (8, _), (9, _), (10, _), (11, _), (12, _), (16, _), (19, _), (23, _), (27, _), (31, _)] ⟨rfl, rfl, rfl, rfl, rfl, rfl, rfl, rfl, rfl, rfl, rfl, rfl, rfl, trivial⟩ ?_
        refine Go'.inBlock ?_
        refine Go'.keep [(0, _), (5, _), (8, _), (9, _), (10, _), (11, _)] ⟨rfl, rfl, rfl, rfl, rfl, rfl, trivial⟩ ?_
        exact tail (_, _) _ ⟨hp, Pl.Res.first h1 h2 h3 h4 h5⟩
  · skip
    obtain rfl : j = ms.length := by omega
    rw [List.take_length] at hag
    -- region 3 (map.go:246)
    refine Go'.region [(0, 0)] rfl ?_
    refine O.cmp rfl rfl rfl rfl rfl rfl (lssF (by omega)) ?_
    refine Pl.fin [(0, _), (5, _), (9, _), (10, _), (11, _), (12, _)] ⟨rfl, rfl, rfl, rfl, rfl, rfl, trivial⟩ ?_
    refine Go'.seq ?_
    refine Go'.condF rfl ?_
    refine Go'.exit rfl ?_
    refine Go'.seq ?_
    -- region 19 (map.go:262)
    refine Go'.region [(0, 0), (1, 0)] rfl ?_
    refine O.mv rfl rfl rfl rfl rfl ?_
    refine O.asg rfl rfl rfl rfl rfl ?_
    refine Pl.fin [(4, _)] ⟨rfl, trivial⟩ ?_
    refine Go'.ret (vs := [_]) Go.Proofs.Try.func102 Go.Proofs.Try.results102 ⟨rfl, trivial⟩ ?_
    exact ⟨outs, hA.out, hag, hF⟩

theorem miter_spec {B : World} {H : Mem} {d : Nat} {u um : Value} {l : List (Int × Int)} {ms : List (Int × Int × Int)} (hd : 2 ≤ d ∧ d ≤ 128) (hi : InS EJ H u l) (hll : l.length ≤ 4294967296) (hu : InS EMv H um ms) (hml : ms.length ≤ 4294967296) :
    Fn Try.prog B 65 [.int .i64 (d : Int), u, um] H (fun v H' => ∃ outs, OutS EF H' v outs ∧ Pl.Agree outs (Pl.itRun OI (Pl.puts OI l) ms).2.1 (Pl.itRun OI (Pl.puts OI l) ms).2.2 ∧ Fr nowhere H H') := by
  have hP : PsOk ⟨0, 2 * d - 1, d - 1⟩ := ⟨by show 2 * d - 1 = 2 * (d - 1) + 1; omega, by show 1 ≤ d - 1; omega, by show 2 * d - 1 ≤ 255; omega⟩
  have hpl := Pl.puts_length OI l
  have hsrt := Pl.puts_srt OI l
  refine fn_of Go.Proofs.Try.func65 rfl Go.Proofs.Try.ntmps65 ?_
  refine (show Go' _ _ _ _ 14 [(0, _), (1, _), (2, _)] [.code _] _ from ?_)
  refine Go'.seq ?_
  -- region 0 (map.go:272)
  refine Go'.region [(0, 0)] rfl ?_
  refine O.asg rfl rfl rfl rfl rfl ?_
  refine Pl.fin [(0, _), (1, _), (2, _), (6, _)] ⟨rfl, rfl, rfl, rfl, trivial⟩ ?_
  refine Go'.seq ?_
  -- region 1 (map.go:273)
  refine Go'.region [(0, 0), (1, 0), (2, 2), (3, 2), (4, 2), (5, 2)] rfl ?_
  refine O.mv rfl rfl rfl rfl rfl ?_
  refine O.mv rfl rfl rfl rfl rfl ?_
  refine O.call rfl rfl rfl Go.Proofs.Try.call52 rfl (growMap_spec hd hi hll) ?_
  rintro _ H1 ⟨tr, S0, rfl, hM, hF1, hS0⟩
  unfold ptr
  refine ⟨trivial, ?_⟩
  refine O.call rfl rfl rfl Go.Proofs.Try.call101 rfl Iter_spec ?_
  rintro _ H2 ⟨rfl, hF2⟩
  have hs2 := hF2.size
  replace hM := hM.fr hF2 (fun _ _ _ => nw)
  refine ⟨trivial, ?_⟩
  refine O.alloc rfl rfl rfl Go.Proofs.Try.zeroValue129 ?_
  intro H3 M3
  refine ⟨trivial, ?_⟩
  have hs3 := M3.size
  have hlt := hM.lt
  replace hM := hM.fr (M3.fr nowhere) (fun _ _ _ => nw)
  have m7 : Wr H3 H2.size 0 8 := M3.wr 8 (by decide)
  refine O.st (vs := (itv tr true)) rfl rfl Go.Proofs.Try.sizeOf129 rfl rfl rfl rfl rfl m7 ?_
  intro H4 W4
  have hs4 := W4.size
  have hs1 := hF1.size
  replace hM := hM.fr W4.fr (fun b o hs hz => by have h1 := hz.1; have := hlt b hs; omega)
  have hI := itr_new W4 m7
  obtain ⟨r, hT⟩ := hM.treeR hP (by omega)
  have hF4 : Fr nowhere H H4 := ((hF1.trans hF2).trans (M3.fr nowhere)).trans' W4.fr (fun _ _ _ h => h) (fun b o hb hz => by have h1 := hz.1; omega)
  refine ⟨trivial, ?_⟩
  refine Pl.fin [(2, _), (6, _), (7, _)] ⟨rfl, rfl, rfl, trivial⟩ ?_
  refine Go'.seq ?_
  -- region 2 (map.go:274)
  refine Go'.region [(0, 0), (1, 2), (2, 0)] rfl ?_
  refine O.mv rfl rfl rfl rfl rfl ?_
  refine O.call rfl rfl rfl Go.Proofs.Try.call102 rfl (moved_spec hI hT (fun hs => by have := hlt _ hs; omega) (fun _ _ h => h) hsrt (by show 2 * d - 1 ≤ 255; omega) hu hml hF4 (by omega) (fun _ h => h.elim)) ?_
  rintro _ H5 ⟨outs, h1, h2, h3⟩
  refine ⟨trivial, ?_⟩
  refine O.asg rfl rfl rfl rfl rfl ?_
  refine Pl.fin [(6, _)] ⟨rfl, trivial⟩ ?_
  refine Go'.ret (vs := [_]) Go.Proofs.Try.func65 Go.Proofs.Try.results65 ⟨rfl, trivial⟩ ?_
  exact ⟨outs, h1, h2, h3⟩

end Go.Bt
