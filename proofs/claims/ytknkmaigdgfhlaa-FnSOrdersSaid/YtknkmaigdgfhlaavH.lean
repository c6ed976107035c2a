/- Contracts of functions of the program, proved by walking through their code. Conditions: those that each theorem names. -/
import Derived.Test.YtknkmaigdgfhlaavG
import Derived.Test.YtknkmaigdgfhlaaSo
namespace Go.Bt.FZ
open Go Go.Proofs
set_option maxRecDepth 20000
set_option maxHeartbeats 4000000
set_option linter.unusedVariables false

/-- A list of slices, as it lies in memory. -/
def ESl : Elt (Option Addr × Nat × Nat) := { enc := fun x => [.slice x.1 x.2.1 x.2.2], s := 1, len := fun _ => rfl, one := fun _ => rfl, pos := by decide }
/-- Slices of the lists ls. -/
def InSS {α : Type} (E : Elt α) (H : Mem) : List (Option Addr × Nat × Nat) → List (List α) → Prop
  | [], [] => True
  | u :: us, l :: ls => InS E H (.slice u.1 u.2.1 u.2.2) l ∧ InSS E H us ls
  | _, _ => False
theorem InSS.fr {α : Type} {E : Elt α} {H H' : Mem} (hf : Fr nowhere H H') : ∀ {us : List (Option Addr × Nat × Nat)} {ls : List (List α)}, InSS E H us ls → InSS E H' us ls
  | [], [], _ => trivial
  | u :: us, l :: ls, h => ⟨h.1.fr hf, InSS.fr hf h.2⟩
  | [], _ :: _, h => h.elim
  | _ :: _, [], h => h.elim
theorem InSS.len {α : Type} {E : Elt α} {H : Mem} : ∀ {us : List (Option Addr × Nat × Nat)} {ls : List (List α)}, InSS E H us ls → us.length = ls.length
  | [], [], _ => rfl
  | u :: us, l :: ls, h => by rw [List.length_cons, List.length_cons, InSS.len h.2]
  | [], _ :: _, h => h.elim
  | _ :: _, [], h => h.elim
theorem InSS.at {α : Type} {E : Elt α} {H : Mem} : ∀ {us : List (Option Addr × Nat × Nat)} {ls : List (List α)} (_ : InSS E H us ls) {i : Nat} {u : Option Addr × Nat × Nat}, us[i]? = some u → ∃ l, ls[i]? = some l ∧ InS E H (.slice u.1 u.2.1 u.2.2) l
  | [], [], _, i, u, hu => by simp at hu
  | u :: us, l :: ls, h, 0, v, hv => by
    simp only [List.getElem?_cons_zero, Option.some.injEq] at hv
    subst hv
    exact ⟨l, rfl, h.1⟩
  | u :: us, l :: ls, h, i + 1, v, hv => by
    simp only [List.getElem?_cons_succ] at hv ⊢
    exact InSS.at h.2 hv
  | [], _ :: _, h, _, _, _ => h.elim
  | _ :: _, [], h, _, _, _ => h.elim
theorem flat_take {α : Type} (ls : List (List α)) (j : Nat) : (ls.take j).flatten.length ≤ ls.flatten.length := by
  conv => rhs; rw [← List.take_append_drop j ls, List.flatten_append, List.length_append]
  omega
theorem swp_get {α : Type} {X : List α} {i j : Nat} {x y : α} (hi : i < X.length) (hj : j < X.length) (hne : i ≠ j) (k : Nat) :
    ((X.set i x).set j y)[k]? = if k = j then some y else if k = i then some x else X[k]? := by
  rw [List.getElem?_set]
  by_cases h1 : j = k
  · subst h1
    rw [if_pos rfl, if_pos rfl, if_pos (by rw [List.length_set]; exact hj)]
  · rw [if_neg h1, if_neg (fun h => h1 h.symm), List.getElem?_set]
    by_cases h2 : i = k
    · subst h2; rw [if_pos rfl, if_pos rfl, if_pos hi]
    · rw [if_neg h2, if_neg (fun h => h2 h.symm)]
theorem set_td {α : Type} {X : List α} {i : Nat} {x : α} (hi : i < X.length) : X.take i ++ x :: X.drop (i + 1) = X.set i x := (List.set_eq_take_append_cons_drop.trans (if_pos hi)).symm

theorem grow_spec {B : World} {H : Mem} {n : Nat} (hn : 0 < n) (hll : n ≤ 4294967296) :
    Fn Try.prog B 57 [.slice none 0 0, .int .i64 (n : Int)] H (fun r H' => AccN EN (fun b => H.size ≤ b) H' r [] ∧ Fr nowhere H H') := by
  refine fn_of Go.Proofs.Try.func57 rfl Go.Proofs.Try.ntmps57 ?_
  refine (show Go' _ _ _ _ 27 [(0, _), (1, _)] [.code _] _ from ?_)
  refine Go'.seq ?_
  -- region 0 (slices.go:422)
  refine Go'.region [(0, 0)] rfl ?_
  refine O.asg rfl rfl rfl rfl rfl ?_
  refine Pl.fin [(0, _), (1, _), (4, _)] ⟨rfl, rfl, rfl, trivial⟩ ?_
  refine Go'.seq ?_
  refine Go'.seq ?_
  -- region 1 (slices.go:423)
  refine Go'.region [(0, 0), (1, 0)] rfl ?_
  refine O.mv rfl rfl rfl rfl rfl ?_
  refine O.cmp rfl rfl rfl rfl rfl rfl (lssF (by omega)) ?_
  refine Pl.fin [(0, _), (1, _), (4, _), (6, _)] ⟨rfl, rfl, rfl, rfl, trivial⟩ ?_
  refine Go'.condF rfl ?_
  refine Go'.skip ?_
  refine Go'.seq ?_
  refine Go'.seq ?_
  -- region 3 (slices.go:426)
  refine Go'.region [(0, 0), (1, 0), (2, 0), (3, 0), (4, 0), (5, 0), (6, 0), (7, 0)] rfl ?_
  refine O.mv rfl rfl rfl rfl rfl ?_
  refine O.mv rfl rfl rfl rfl rfl ?_
  refine O.cap rfl rfl rfl rfl Go.Proofs.Try.underlying22 rfl ?_
  refine O.mv rfl rfl rfl rfl rfl ?_
  refine O.len rfl rfl rfl rfl Go.Proofs.Try.underlying22 rfl ?_
  refine O.sub ((0 : Int)) rfl rfl rfl rfl rfl rfl (by omega) (by omega) ?_
  refine O.sub ((n : Int)) rfl rfl rfl rfl rfl rfl (by omega) (by omega) ?_
  refine O.asg rfl rfl rfl rfl rfl ?_
  refine Pl.fin [(0, _), (1, _), (4, _)] ⟨rfl, rfl, rfl, trivial⟩ ?_
  refine Go'.seq ?_
  -- region 4 (slices.go:426)
  refine Go'.region [(0, 0), (1, 0)] rfl ?_
  refine O.mv rfl rfl rfl rfl rfl ?_
  refine O.cmp rfl rfl rfl rfl rfl rfl (gtrT (by omega)) ?_
  refine Pl.fin [(0, _), (1, _), (4, _), (16, _)] ⟨rfl, rfl, rfl, rfl, trivial⟩ ?_
  refine Go'.condT rfl ?_
  -- region 5 (slices.go:428)
  refine Go'.region [(0, 0), (1, 0), (2, 0), (3, 0), (4, 0), (5, 2), (6, 0), (7, 0), (8, 0), (9, 0)] rfl ?_
  refine O.mv rfl rfl rfl rfl rfl ?_
  refine O.mv rfl rfl rfl rfl rfl ?_
  refine O.cap rfl rfl rfl rfl Go.Proofs.Try.underlying22 rfl ?_
  refine O.slc0 rfl rfl rfl rfl Go.Proofs.Try.underlying22 Go.Proofs.Try.sizeOf3 rfl ⟨_, by rfl⟩ rfl ?_
  intro a0
  refine O.mv rfl rfl rfl rfl rfl ?_
  refine O.appZ (m := n) rfl rfl rfl ⟨Go.Proofs.Try.underlying22, Go.Proofs.Try.sizeOf3, Go.Proofs.Try.zeroValue3, ⟨_, Go.Proofs.Try.typeInfo3, rfl⟩, rfl, by decide, by decide⟩ Go.Proofs.Try.underlying3 rfl rfl (Nat.le_trans (Nat.mul_le_mul_left _ (Nat.le_of_ble_eq_true (n := _) (m := 4096) rfl)) (by omega)) (by omega) hn ?_
  intro cap' H1 hc hW hF hs
  refine ⟨trivial, ?_⟩
  refine O.mv rfl rfl rfl rfl rfl ?_
  refine O.len rfl rfl rfl rfl Go.Proofs.Try.underlying22 rfl ?_
  refine O.slc (jl := 0) (jh := 0) (jm := cap') rfl rfl rfl rfl Go.Proofs.Try.underlying22 Go.Proofs.Try.sizeOf3 rfl rfl ⟨_, by rfl⟩ rfl (by omega) (by omega) (by omega) (by simp) ?_
  intro o2 ho2
  refine O.asg rfl rfl rfl rfl rfl ?_
  refine Pl.fin [(0, _), (4, _)] ⟨rfl, rfl, trivial⟩ ?_
  refine Go'.seq ?_
  -- region 6 (slices.go:430)
  refine Go'.region [(0, 0), (1, 0)] rfl ?_
  refine O.mv rfl rfl rfl rfl rfl ?_
  refine O.asg rfl rfl rfl rfl rfl ?_
  refine Pl.fin [(4, _)] ⟨rfl, trivial⟩ ?_
  refine Go'.ret (vs := [_]) Go.Proofs.Try.func57 Go.Proofs.Try.results57 ⟨rfl, trivial⟩ ?_
  refine ⟨⟨H.size, o2, cap' - 0, rfl, Nat.le_refl _, by omega, ?_⟩, hF⟩
  obtain rfl : o2 = 0 := by have := ho2 (by omega); omega
  rw [Nat.sub_zero]
  exact ⟨rfl, Nat.zero_le _, Rd.nil _ _ _, hW⟩

theorem concat_spec {B : World} {H : Mem} {v : Value} {us : List (Option Addr × Nat × Nat)} {ls : List (List (Int))} (hi : InS ESl H v us) (hs : InSS EN H us ls) (h0 : 0 < ls.flatten.length) (hll : ls.flatten.length ≤ 4294967296) (hul : us.length ≤ 4294967296) :
    Fn Try.prog B 24 [v] H (fun r H' => AccN EN (fun b => H.size ≤ b) H' r ls.flatten ∧ Fr nowhere H H') := by
  obtain ⟨a, c, hu⟩ := hi.len
  subst hu
  have hlen := hs.len
  have hi00 := hi
  have hs00 := hs
  refine fn_of Go.Proofs.Try.func24 rfl Go.Proofs.Try.ntmps24 ?_
  refine (show Go' _ _ _ _ 36 [(0, _)] [.code _] _ from ?_)
  refine Go'.seq ?_
  -- region 0 (slices.go:491)
  refine Go'.region [(0, 0)] rfl ?_
  refine O.asg rfl rfl rfl rfl rfl ?_
  refine Pl.fin [(0, _), (2, _)] ⟨rfl, rfl, trivial⟩ ?_
  refine Go'.seq ?_
  -- region 1 (slices.go:492)
  refine Go'.region [(0, 0)] rfl ?_
  refine O.asg rfl rfl rfl rfl rfl ?_
  refine Pl.fin [(0, _), (2, _), (3, _)] ⟨rfl, rfl, rfl, trivial⟩ ?_
  refine Go'.seq ?_
  refine Go'.seq ?_
  -- region 2 (slices.go:493)
  refine Go'.region [(0, 0), (1, 0), (2, 0)] rfl ?_
  refine O.mv rfl rfl rfl rfl rfl ?_
  refine O.len rfl rfl rfl rfl Go.Proofs.Try.underlying92 rfl ?_
  refine O.mv rfl rfl rfl rfl rfl ?_
  refine Pl.fin [(0, _), (2, _), (3, _), (9, _), (10, _), (11, _)] ⟨rfl, rfl, rfl, rfl, rfl, rfl, trivial⟩ ?_
  refine Go'.block ?_
  refine Go'.loop ?_
  refine Go'.keep [(0, _), (3, _), (9, _), (10, _), (11, _)] ⟨rfl, rfl, rfl, rfl, rfl, trivial⟩ ?_
  refine Go'.ind (σ := Nat) (fun j => us.length - j) (fun j H' => H' = H ∧ j ≤ us.length)
    (fun j => [(0, .slice a us.length c), (3, .int .i64 ((ls.take j).flatten.length : Int)), (9, .slice a us.length c), (10, .int .i64 (us.length : Int)), (11, .int .i64 (j : Int))]) 0 ⟨rfl, Nat.zero_le _⟩ rfl ?_
  rintro j H2 ⟨hHH, hjl⟩ ih
  have eH : H = H2 := hHH.symm
  subst eH
  clear hHH
  refine Go'.seq ?_
  by_cases hlt : j < us.length
  · skip
    obtain ⟨u, hu⟩ : ∃ u, us[j]? = some u := ⟨us[j], List.getElem?_eq_getElem hlt⟩
    obtain ⟨b, o, cc, e, hr⟩ := hi.at hu
    cases e
    obtain ⟨l, hl, hul2⟩ := hs.at hu
    obtain ⟨a', c', e⟩ := hul2.len
    have e2 : u.2.1 = l.length := by injection e
    have hx : (ls.take (j + 1)).flatten.length = (ls.take j).flatten.length + l.length := by rw [List.take_add_one, hl, List.flatten_append, List.length_append]; simp
    have hft := flat_take ls (j + 1)
    -- region 3 (slices.go:493)
    refine Go'.region [(0, 0)] rfl ?_
    refine O.cmp rfl rfl rfl rfl rfl rfl (lssT (by omega)) ?_
    refine Pl.fin [(0, _), (3, _), (9, _), (10, _), (11, _), (12, _)] ⟨rfl, rfl, rfl, rfl, rfl, rfl, trivial⟩ ?_
    refine Go'.seq ?_
    refine Go'.condT rfl ?_
    refine Go'.skip ?_
    refine Go'.seq ?_
    refine Go'.block ?_
    refine Go'.seq ?_
    -- region 4 (slices.go:493)
    refine Go'.region [(0, 0), (1, 1), (2, 0)] rfl ?_
    refine O.ix (j := j) rfl rfl rfl rfl Go.Proofs.Try.underlying92 Go.Proofs.Try.sizeOf22 rfl rfl (by omega) hlt ?_
    refine O.ld rfl rfl rfl (fun w => ⟨Go.Proofs.Try.isAgg22 w, Go.Proofs.Try.sizeOf22 w⟩) rfl (hr 0 _ rfl) ?_
    refine O.asg rfl rfl rfl rfl rfl ?_
    refine Pl.fin [(0, _), (3, _), (5, _), (9, _), (10, _), (11, _), (12, _)] ⟨rfl, rfl, rfl, rfl, rfl, rfl, rfl, trivial⟩ ?_
    refine Go'.seq ?_
    -- region 5 (slices.go:494)
    refine Go'.region [(0, 0), (1, 0), (2, 0), (3, 0), (4, 0)] rfl ?_
    refine O.mv rfl rfl rfl rfl rfl ?_
    refine O.mv rfl rfl rfl rfl rfl ?_
    refine O.len rfl rfl rfl rfl Go.Proofs.Try.underlying22 rfl ?_
    refine O.add (((ls.take (j + 1)).flatten.length : Int)) rfl rfl rfl rfl rfl rfl (by omega) (by omega) ?_
    refine O.asg rfl rfl rfl rfl rfl ?_
    refine Pl.fin [(0, _), (3, _), (5, _), (9, _), (10, _), (11, _), (12, _)] ⟨rfl, rfl, rfl, rfl, rfl, rfl, rfl, trivial⟩ ?_
    refine Go'.seq ?_
    -- region 6 (slices.go:495)
    refine Go'.region [(0, 0), (1, 0)] rfl ?_
    refine O.mv rfl rfl rfl rfl rfl ?_
    refine O.cmp rfl rfl rfl rfl rfl rfl (lssF (by omega)) ?_
    refine Pl.fin [(0, _), (3, _), (5, _), (9, _), (10, _), (11, _), (12, _), (20, _)] ⟨rfl, rfl, rfl, rfl, rfl, rfl, rfl, rfl, trivial⟩ ?_
    refine Go'.condF rfl ?_
    refine Go'.skip ?_
    refine Go'.inBlock ?_
    -- region 8 (slices.go:493)
    refine Go'.region [(0, 0), (1, 0)] rfl ?_
    refine O.add (((j + 1 : Nat) : Int)) rfl rfl rfl rfl rfl rfl (by omega) (by omega) ?_
    refine O.mv rfl rfl rfl rfl rfl ?_
    refine Pl.fin [(0, _), (3, _), (5, _), (9, _), (10, _), (11, _), (12, _), (20, _)] ⟨rfl, rfl, rfl, rfl, rfl, rfl, rfl, rfl, trivial⟩ ?_
    refine Go'.keep [(0, _), (3, _), (9, _), (10, _), (11, _)] ⟨rfl, rfl, rfl, rfl, rfl, trivial⟩ ?_
    refine Go'.inLoop ?_
    exact ih (j + 1) H ⟨rfl, hlt⟩ (by omega)
  · skip
    have e0 : j = us.length := by omega
    have e1 : ls.take j = ls := by rw [e0, hlen, List.take_length]
    clear ih
    subst e0
    rw [e1]
    -- region 3 (slices.go:493)
    refine Go'.region [(0, 0)] rfl ?_
    refine O.cmp rfl rfl rfl rfl rfl rfl (lssF (by omega)) ?_
    refine Pl.fin [(0, _), (3, _), (9, _), (10, _), (11, _), (12, _)] ⟨rfl, rfl, rfl, rfl, rfl, rfl, trivial⟩ ?_
    refine Go'.seq ?_
    refine Go'.condF rfl ?_
    refine Go'.exit rfl ?_
    refine Go'.seq ?_
    -- region 9 (slices.go:502)
    refine Go'.region [(0, 0), (1, 2), (2, 0)] rfl ?_
    refine O.mv rfl rfl rfl rfl rfl ?_
    refine O.call rfl rfl rfl Go.Proofs.Try.call57 rfl (grow_spec h0 hll) ?_
    rintro gv H1 ⟨hA0, hF1⟩
    refine ⟨trivial, ?_⟩
    refine O.asg rfl rfl rfl rfl rfl ?_
    refine Pl.fin [(0, _), (6, _)] ⟨rfl, rfl, trivial⟩ ?_
    refine Go'.seq ?_
    refine Go'.seq ?_
    -- region 10 (slices.go:503)
    refine Go'.region [(0, 0), (1, 0), (2, 0)] rfl ?_
    refine O.mv rfl rfl rfl rfl rfl ?_
    refine O.len rfl rfl rfl rfl Go.Proofs.Try.underlying92 rfl ?_
    refine O.mv rfl rfl rfl rfl rfl ?_
    refine Pl.fin [(6, _), (25, _), (26, _), (27, _)] ⟨rfl, rfl, rfl, rfl, trivial⟩ ?_
    refine Go'.block ?_
    refine Go'.loop ?_
    refine Go'.keep [(6, _), (25, _), (26, _), (27, _)] ⟨rfl, rfl, rfl, rfl, trivial⟩ ?_
    refine Go'.ind (σ := Nat × Value × (Nat → Prop)) (fun s => us.length - s.1) (fun s H' => s.1 ≤ us.length ∧ AccN EN s.2.2 H' s.2.1 ((ls.take s.1).flatten) ∧ Fr nowhere H H' ∧ Fr (fun b _ => H.size ≤ b) H1 H' ∧ ∀ b, s.2.2 b → H.size ≤ b)
      (fun s => [(6, s.2.1), (25, .slice a us.length c), (26, .int .i64 (us.length : Int)), (27, .int .i64 (s.1 : Int))]) (0, gv, fun b => H.size ≤ b) ⟨Nat.zero_le _, by rw [List.take_zero]; exact hA0, hF1, Fr.refl _ _, fun b hb => hb⟩ rfl ?_
    clear hA0
    rintro ⟨j, sv, Z1⟩ H2 ⟨hj, hA, hF, hFZ, hZ1⟩ ih
    simp only at hj hA hZ1
    have hsz := hF.size
    refine Go'.seq ?_
    by_cases hlt : j < us.length
    · skip
      obtain ⟨u, hu⟩ : ∃ u, us[j]? = some u := ⟨us[j], List.getElem?_eq_getElem hlt⟩
      have hi2 := hi00.fr hF
      obtain ⟨b, o, cc, e, hr⟩ := hi2.at hu
      cases e
      obtain ⟨l, hl, hul2⟩ := (hs00.fr hF).at hu
      have hx : (ls.take (j + 1)).flatten = (ls.take j).flatten ++ l := by rw [List.take_add_one, hl, List.flatten_append]; simp
      have hft := flat_take ls (j + 1)
      rw [hx, List.length_append] at hft
      -- region 11 (slices.go:503)
      refine Go'.region [(0, 0)] rfl ?_
      refine O.cmp rfl rfl rfl rfl rfl rfl (lssT (by omega)) ?_
      refine Pl.fin [(6, _), (25, _), (26, _), (27, _), (28, _)] ⟨rfl, rfl, rfl, rfl, rfl, trivial⟩ ?_
      refine Go'.seq ?_
      refine Go'.condT rfl ?_
      refine Go'.skip ?_
      refine Go'.seq ?_
      refine Go'.block ?_
      refine Go'.seq ?_
      -- region 12 (slices.go:503)
      refine Go'.region [(0, 0), (1, 1), (2, 0)] rfl ?_
      refine O.ix (j := j) rfl rfl rfl rfl Go.Proofs.Try.underlying92 Go.Proofs.Try.sizeOf22 rfl rfl (by omega) hlt ?_
      refine O.ld rfl rfl rfl (fun w => ⟨Go.Proofs.Try.isAgg22 w, Go.Proofs.Try.sizeOf22 w⟩) rfl (hr 0 _ rfl) ?_
      refine O.asg rfl rfl rfl rfl rfl ?_
      refine Pl.fin [(6, _), (8, _), (25, _), (26, _), (27, _), (28, _)] ⟨rfl, rfl, rfl, rfl, rfl, rfl, trivial⟩ ?_
      -- region 13 (slices.go:504)
      refine Go'.region [(0, 0), (1, 0), (2, 2), (3, 0)] rfl ?_
      refine O.mv rfl rfl rfl rfl rfl ?_
      refine O.mv rfl rfl rfl rfl rfl ?_
      refine O.appI (E := EN) rfl rfl rfl ⟨Go.Proofs.Try.underlying22, Go.Proofs.Try.sizeOf3, Go.Proofs.Try.zeroValue3, ⟨_, Go.Proofs.Try.typeInfo3, rfl⟩, rfl, by decide, by decide⟩ rfl hA rfl hul2 (Nat.le_trans (Nat.mul_le_mul_left _ (Nat.le_of_ble_eq_true (n := _) (m := 4096) rfl)) (by omega)) (by omega) ?_
      intro v7 H7 hA7 hF7 hs7
      rw [← hx] at hA7
      refine ⟨trivial, ?_⟩
      refine O.asg rfl rfl rfl rfl rfl ?_
      refine Pl.fin [(6, _), (8, _), (25, _), (26, _), (27, _), (28, _)] ⟨rfl, rfl, rfl, rfl, rfl, rfl, trivial⟩ ?_
      refine Go'.inBlock ?_
      -- region 14 (slices.go:503)
      refine Go'.region [(0, 0), (1, 0)] rfl ?_
      refine O.add (((j + 1 : Nat) : Int)) rfl rfl rfl rfl rfl rfl (by omega) (by omega) ?_
      refine O.mv rfl rfl rfl rfl rfl ?_
      refine Pl.fin [(6, _), (8, _), (25, _), (26, _), (27, _), (28, _)] ⟨rfl, rfl, rfl, rfl, rfl, rfl, trivial⟩ ?_
      refine Go'.keep [(6, _), (25, _), (26, _), (27, _)] ⟨rfl, rfl, rfl, rfl, trivial⟩ ?_
      refine Go'.inLoop ?_
      exact ih (j + 1, v7, _) H7 ⟨hlt, hA7, hF.trans' hF7 (fun _ _ _ h => h) (fun b o hb hz => by have := hZ1 b hz; omega), hFZ.trans' hF7 (fun _ _ _ h => h) (fun b o hb hz => hZ1 b hz), fun b hb => hb.elim (hZ1 b) (fun h => by omega)⟩ (by simp only; omega)
    · skip
      have e0' : j = us.length := by omega
      have e1' : ls.take j = ls := by rw [e0', hlen, List.take_length]
      rw [e1'] at hA
      -- region 11 (slices.go:503)
      refine Go'.region [(0, 0)] rfl ?_
      refine O.cmp rfl rfl rfl rfl rfl rfl (lssF (by omega)) ?_
      refine Pl.fin [(6, _), (25, _), (26, _), (27, _), (28, _)] ⟨rfl, rfl, rfl, rfl, rfl, trivial⟩ ?_
      refine Go'.seq ?_
      refine Go'.condF rfl ?_
      refine Go'.exit rfl ?_
      refine Go'.seq ?_
      -- region 15 (slices.go:506)
      refine Go'.region [(0, 0), (1, 0)] rfl ?_
      refine O.mv rfl rfl rfl rfl rfl ?_
      refine O.asg rfl rfl rfl rfl rfl ?_
      refine Pl.fin [(2, _)] ⟨rfl, trivial⟩ ?_
      refine Go'.ret (vs := [_]) Go.Proofs.Try.func24 Go.Proofs.Try.results24 ⟨rfl, trivial⟩ ?_
      exact ⟨hA.mono fun b _ hz => hZ1 b hz, hF⟩

theorem clone_spec {B : World} {H : Mem} {v : Value} {l : List (Int)} (hi : InS EN H v l) (h0 : 0 < l.length) (hll : l.length ≤ 4294967296) :
    Fn Try.prog B 58 [v] H (fun r H' => AccN EN (fun b => H.size ≤ b) H' r l ∧ Fr nowhere H H') := by
  obtain ⟨b, o, c, rfl, hc, hr⟩ : ∃ b o c, v = .slice (some ⟨b, o, none⟩) l.length c ∧ l.length ≤ c ∧ Rd H b o (row EN l) := hi.elim id (fun h => by rw [h.1] at h0; cases h0)
  refine fn_of Go.Proofs.Try.func58 rfl Go.Proofs.Try.ntmps58 ?_
  refine (show Go' _ _ _ _ 8 [(0, _)] [.code _] _ from ?_)
  refine Go'.seq ?_
  -- region 0 (slices.go:355)
  refine Go'.region [(0, 0)] rfl ?_
  refine O.asg rfl rfl rfl rfl rfl ?_
  refine Pl.fin [(0, _), (2, _)] ⟨rfl, rfl, trivial⟩ ?_
  refine Go'.seq ?_
  refine Go'.seq ?_
  -- region 1 (slices.go:357)
  refine Go'.region [(0, 0), (1, 0)] rfl ?_
  refine O.mv rfl rfl rfl rfl rfl ?_
  refine O.slNil rfl rfl rfl rfl Go.Proofs.Try.underlying22 rfl rfl ?_
  refine Pl.fin [(0, _), (2, _), (4, _)] ⟨rfl, rfl, rfl, trivial⟩ ?_
  refine Go'.condF rfl ?_
  refine Go'.skip ?_
  refine Go'.seq ?_
  -- region 3 (slices.go:362)
  refine Go'.region [(0, 2), (1, 0), (2, 2), (3, 0)] rfl ?_
  refine O.bsl (cs := []) rfl rfl rfl ⟨Go.Proofs.Try.underlying22, Go.Proofs.Try.sizeOf3, Go.Proofs.Try.zeroValue3, ⟨_, Go.Proofs.Try.typeInfo3, rfl⟩, rfl, by decide, by decide⟩ rfl (by decide) (by kernel_rfl) ?_
  intro H1 M1
  have hs1 := M1.size
  have hA1 := AccN.made (E := EN) M1
  refine ⟨trivial, ?_⟩
  refine O.mv rfl rfl rfl rfl rfl ?_
  refine O.appI (E := EN) rfl rfl rfl ⟨Go.Proofs.Try.underlying22, Go.Proofs.Try.sizeOf3, Go.Proofs.Try.zeroValue3, ⟨_, Go.Proofs.Try.typeInfo3, rfl⟩, rfl, by decide, by decide⟩ rfl hA1 rfl (hi.fr (M1.fr nowhere)) (Nat.le_trans (Nat.mul_le_mul_left _ (Nat.le_of_ble_eq_true (n := _) (m := 4096) rfl)) (by simp only [List.length_nil]; omega)) (by simp only [List.length_nil]; omega) ?_
  intro v2 H2 hA2 hF2 hs2
  rw [List.nil_append] at hA2
  refine ⟨trivial, ?_⟩
  refine O.asg rfl rfl rfl rfl rfl ?_
  refine Pl.fin [(2, _)] ⟨rfl, trivial⟩ ?_
  refine Go'.ret (vs := [_]) Go.Proofs.Try.func58 Go.Proofs.Try.results58 ⟨rfl, trivial⟩ ?_
  exact ⟨hA2.mono fun b _ hz => hz.elim id (fun h => by omega), (M1.fr nowhere).trans' hF2 (fun _ _ _ h => h) (fun b o hb hz => by have hz' : H.size ≤ b := hz; omega)⟩

theorem rev_spec {B : World} {H : Mem} {v : Value} {l : List (Int)} {Z : Nat → Prop} (hA : AccN EN Z H v l) (hll : l.length ≤ 4294967296) :
    Fn Try.prog B 59 [v] H (fun _ H' => AccN EN Z H' v l.reverse ∧ Fr (fun b _ => Z b) H H') := by
  obtain ⟨b, o, c, rfl, hz, hb, hS⟩ := hA
  refine fn_of Go.Proofs.Try.func59 rfl Go.Proofs.Try.ntmps59 ?_
  refine (show Go' _ _ _ _ 28 [(0, _)] [.code _] _ from ?_)
  refine Go'.seq ?_
  -- region 0 (slices.go:484)
  refine Go'.region [(0, 0), (1, 0), (2, 0), (3, 0), (4, 0)] rfl ?_
  refine O.mv rfl rfl rfl rfl rfl ?_
  refine O.len rfl rfl rfl rfl Go.Proofs.Try.underlying22 rfl ?_
  refine O.sub (((l.length : Int) - 1)) rfl rfl rfl rfl rfl rfl (by omega) (by omega) ?_
  refine O.asg rfl rfl rfl rfl rfl ?_
  refine O.asg rfl rfl rfl rfl rfl ?_
  refine Pl.fin [(0, _), (2, _), (3, _)] ⟨rfl, rfl, rfl, trivial⟩ ?_
  refine Go'.block ?_
  refine Go'.loop ?_
  refine Go'.keep [(0, _), (2, _), (3, _)] ⟨rfl, rfl, rfl, trivial⟩ ?_
  refine Go'.ind (σ := Nat × List (Int)) (fun s => l.length - s.1) (fun s H' => SlE EN H' b o c s.2 ∧ s.2.length = l.length ∧ (∀ k, k < l.length → s.2[k]? = if k < s.1 ∨ l.length ≤ k + s.1 then l[l.length - 1 - k]? else l[k]?) ∧ Fr (fun b _ => Z b) H H')
    (fun s => [(0, .slice (some ⟨b, o, none⟩) l.length c), (2, .int .i64 (s.1 : Int)), (3, .int .i64 ((l.length : Int) - 1 - s.1))]) (0, l) ⟨hS, rfl, fun k hk => by rw [if_neg (by omega)], Fr.refl _ _⟩ (by simp) ?_
  clear hS
  rintro ⟨i, m⟩ H2 ⟨hS, hml, hm, hF⟩ ih
  simp only at hS hml hm ih
  have hsz := hF.size
  refine Go'.seq ?_
  refine Go'.seq ?_
  by_cases hlt : (i : Int) < (l.length : Int) - 1 - i
  · skip
    have hjl : l.length - 1 - i < m.length := by omega
    have hil : i < m.length := by omega
    obtain ⟨x, hx⟩ : ∃ x, m[i]? = some x := ⟨m[i], List.getElem?_eq_getElem hil⟩
    obtain ⟨y, hy⟩ : ∃ y, m[l.length - 1 - i]? = some y := ⟨m[l.length - 1 - i], List.getElem?_eq_getElem hjl⟩
    have hx2 := hx
    rw [hm i (by omega), if_neg (by omega)] at hx2
    have hy2 := hy
    rw [hm _ (by omega), if_neg (by omega)] at hy2
    have wj := hS.wri hjl
    have wi := hS.wri hil
    have hlm : l.length = m.length := hml.symm
    -- region 1 (slices.go:484)
    refine Go'.region [(0, 0), (1, 0), (2, 0)] rfl ?_
    refine O.mv rfl rfl rfl rfl rfl ?_
    refine O.mv rfl rfl rfl rfl rfl ?_
    refine O.cmp rfl rfl rfl rfl rfl rfl (lssT hlt) ?_
    refine Pl.fin [(0, _), (2, _), (3, _), (9, _)] ⟨rfl, rfl, rfl, rfl, trivial⟩ ?_
    refine Go'.condT rfl ?_
    refine Go'.skip ?_
    refine Go'.seq ?_
    refine Go'.block ?_
    -- region 3 (slices.go:485)
    refine Go'.draw (fun _ => True) [(0, 0), (1, 0), (2, 0), (3, 0), (4, 0), (5, 0), (6, 0), (7, 1), (8, 0), (9, 0), (10, 0), (11, 1), (12, 0), (13, 2), (14, 0), (15, 3)] (by kernel_rfl) (by kernel_rfl) (trivial) ?_
    refine O.mv rfl rfl rfl rfl rfl ?_
    refine O.mv rfl rfl rfl rfl rfl ?_
    refine O.mv rfl rfl rfl rfl rfl ?_
    refine O.mv rfl rfl rfl rfl rfl ?_
    refine O.mv rfl rfl rfl rfl rfl ?_
    refine O.mv rfl rfl rfl rfl rfl ?_
    refine O.ix (j := (l.length - 1 - i)) rfl rfl rfl rfl Go.Proofs.Try.underlying22 Go.Proofs.Try.sizeOf3 rfl rfl (by omega) (by omega) ?_
    refine O.ld rfl rfl rfl (fun w => ⟨Go.Proofs.Try.isAgg3 w, Go.Proofs.Try.sizeOf3 w⟩) rfl (hS.cell hy (j := 0) rfl) ?_
    refine O.mv rfl rfl rfl rfl rfl ?_
    refine O.mv rfl rfl rfl rfl rfl ?_
    refine O.ix (j := i) rfl rfl rfl rfl Go.Proofs.Try.underlying22 Go.Proofs.Try.sizeOf3 rfl rfl (by omega) (by omega) ?_
    refine O.ld rfl rfl rfl (fun w => ⟨Go.Proofs.Try.isAgg3 w, Go.Proofs.Try.sizeOf3 w⟩) rfl (hS.cell hx (j := 0) rfl) ?_
    refine O.ix (j := i) rfl rfl rfl rfl Go.Proofs.Try.underlying22 Go.Proofs.Try.sizeOf3 rfl rfl (by omega) (by omega) ?_
    refine O.st (vs := (EN.enc y)) rfl rfl Go.Proofs.Try.sizeOf3 rfl rfl rfl rfl rfl wi ?_
    intro H3 W3
    have hS3 := hS.set W3 hil
    rw [set_td hil] at hS3
    have wj3 := hS3.wri (i := l.length - 1 - i) (by rw [List.length_set]; exact hjl)
    refine ⟨trivial, ?_⟩
    refine O.ix (j := (l.length - 1 - i)) rfl rfl rfl rfl Go.Proofs.Try.underlying22 Go.Proofs.Try.sizeOf3 rfl rfl (by omega) (by omega) ?_
    refine O.st3 (vs := (EN.enc x)) rfl rfl Go.Proofs.Try.sizeOf3 rfl rfl rfl rfl rfl wj3 ?_
    intro H4 W4
    have hS4 := hS3.set W4 (by rw [List.length_set]; exact hjl)
    rw [set_td (by rw [List.length_set]; exact hjl)] at hS4
    refine Pl.fin [(0, _), (2, _), (3, _), (9, _)] ⟨rfl, rfl, rfl, rfl, trivial⟩ ?_
    refine Go'.inBlock ?_
    -- region 2 (slices.go:484)
    refine Go'.region [(0, 0), (1, 0), (2, 0), (3, 0), (4, 0), (5, 0)] rfl ?_
    refine O.mv rfl rfl rfl rfl rfl ?_
    refine O.add (((i + 1 : Nat) : Int)) rfl rfl rfl rfl rfl rfl (by omega) (by omega) ?_
    refine O.mv rfl rfl rfl rfl rfl ?_
    refine O.sub (((l.length : Int) - 1 - ((i + 1 : Nat) : Int))) rfl rfl rfl rfl rfl rfl (by omega) (by omega) ?_
    refine O.asg rfl rfl rfl rfl rfl ?_
    refine O.asg rfl rfl rfl rfl rfl ?_
    refine Pl.fin [(0, _), (2, _), (3, _), (9, _)] ⟨rfl, rfl, rfl, rfl, trivial⟩ ?_
    refine Go'.keep [(0, _), (2, _), (3, _)] ⟨rfl, rfl, rfl, trivial⟩ ?_
    refine Go'.inLoop ?_
    refine ih (i + 1, (m.set i y).set (l.length - 1 - i) x) H4 ⟨hS4, by simpa using hml, fun k hk => ?_, (hF.trans' W3.fr (fun _ _ _ h => h) (fun b' o' _ h => by rw [show b' = b from h.1]; exact hz)).trans' W4.fr (fun _ _ _ h => h) (fun b' o' _ h => by rw [show b' = b from h.1]; exact hz)⟩ (by simp only; omega)
    simp only
    rw [swp_get hil hjl (by omega) k]
    by_cases h1 : k = l.length - 1 - i
    · rw [if_pos h1, if_pos (by omega), h1, show l.length - 1 - (l.length - 1 - i) = i by omega, hx2]
    · rw [if_neg h1]
      by_cases h2 : k = i
      · rw [if_pos h2, if_pos (by omega), h2, hy2]
      · rw [if_neg h2, hm k hk]
        by_cases h3 : k < i ∨ l.length ≤ k + i
        · rw [if_pos h3, if_pos (by omega)]
        · rw [if_neg h3, if_neg (by omega)]
  · skip
    -- region 1 (slices.go:484)
    refine Go'.region [(0, 0), (1, 0), (2, 0)] rfl ?_
    refine O.mv rfl rfl rfl rfl rfl ?_
    refine O.mv rfl rfl rfl rfl rfl ?_
    refine O.cmp rfl rfl rfl rfl rfl rfl (lssF (by simp only; omega)) ?_
    refine Pl.fin [(0, _), (2, _), (3, _), (9, _)] ⟨rfl, rfl, rfl, rfl, trivial⟩ ?_
    refine Go'.condF rfl ?_
    refine Go'.exit rfl ?_
    have e : m = l.reverse := by
      refine List.ext_getElem? fun k => ?_
      rcases Nat.lt_or_ge k l.length with hk | hk
      · rw [hm k hk, List.getElem?_reverse hk]
        by_cases h3 : k < i ∨ l.length ≤ k + i
        · rw [if_pos h3]
        · rw [if_neg h3, show l.length - 1 - k = k by omega]
      · rw [List.getElem?_eq_none (by omega), List.getElem?_eq_none (by rw [List.length_reverse]; exact hk)]
    subst e
    refine Go'.fall Go.Proofs.Try.func59 Go.Proofs.Try.results59 (vs := []) trivial ?_
    exact ⟨⟨b, o, c, by rw [List.length_reverse], hz, by omega, hS⟩, hF⟩

theorem turned_spec {B : World} {H : Mem} {v : Value} {l : List (Int)} (hi : InS EN H v l) (h0 : 0 < l.length) (hll : l.length ≤ 4294967296) :
    Fn Try.prog B 25 [v] H (fun r H' => AccN EN (fun b => H.size ≤ b) H' r l.reverse ∧ Fr nowhere H H') := by
  refine fn_of Go.Proofs.Try.func25 rfl Go.Proofs.Try.ntmps25 ?_
  refine (show Go' _ _ _ _ 9 [(0, _)] [.code _] _ from ?_)
  refine Go'.seq ?_
  -- region 0 (trees.go:16)
  refine Go'.region [(0, 0)] rfl ?_
  refine O.asg rfl rfl rfl rfl rfl ?_
  refine Pl.fin [(0, _), (2, _)] ⟨rfl, rfl, trivial⟩ ?_
  refine Go'.seq ?_
  -- region 1 (trees.go:17)
  refine Go'.region [(0, 0), (1, 2), (2, 0)] rfl ?_
  refine O.mv rfl rfl rfl rfl rfl ?_
  refine O.call rfl rfl rfl Go.Proofs.Try.call58 rfl (clone_spec hi h0 hll) ?_
  rintro v1 H1 ⟨h1, hF1⟩
  refine ⟨trivial, ?_⟩
  refine O.asg rfl rfl rfl rfl rfl ?_
  refine Pl.fin [(2, _), (3, _)] ⟨rfl, rfl, trivial⟩ ?_
  refine Go'.seq ?_
  -- region 2 (trees.go:18)
  refine Go'.region [(0, 0), (1, 2)] rfl ?_
  refine O.mv rfl rfl rfl rfl rfl ?_
  refine O.call rfl rfl rfl Go.Proofs.Try.call59 rfl (rev_spec h1 hll) ?_
  rintro _ H2 ⟨h2, hF2⟩
  refine ⟨trivial, ?_⟩
  refine Pl.fin [(2, _), (3, _)] ⟨rfl, rfl, trivial⟩ ?_
  refine Go'.seq ?_
  -- region 3 (trees.go:19)
  refine Go'.region [(0, 0), (1, 0)] rfl ?_
  refine O.mv rfl rfl rfl rfl rfl ?_
  refine O.asg rfl rfl rfl rfl rfl ?_
  refine Pl.fin [(2, _)] ⟨rfl, trivial⟩ ?_
  refine Go'.ret (vs := [_]) Go.Proofs.Try.func25 Go.Proofs.Try.results25 ⟨rfl, trivial⟩ ?_
  exact ⟨h2, hF1.trans' hF2 (fun _ _ _ h => h) (fun b o hb hz => by have hz' : H.size ≤ b := hz; omega)⟩

end Go.Bt.FZ
