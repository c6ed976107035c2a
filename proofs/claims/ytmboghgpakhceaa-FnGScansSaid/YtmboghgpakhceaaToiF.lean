/- Contracts of functions of the program, proved by walking through their code. Conditions: those that each theorem names. -/
import Derived.Test.YtmboghgpakhceaaToiC
import Derived.Test.YtmboghgpakhceaaToZr
namespace Go.Bt.FG
open Go Go.Proofs
set_option maxRecDepth 20000
set_option maxHeartbeats 4000000
set_option linter.unusedVariables false
set_option linter.unusedSectionVars false

namespace SI
/-- A list of slices, as it lies in memory. -/
def ESl : Elt (Option Addr × Nat × Nat) := { enc := fun x => [.slice x.1 x.2.1 x.2.2], s := 1, len := fun _ => rfl, one := fun _ => rfl, pos := by decide }
/-- Slices of the lists ls. -/
def InSS {α : Type} (E : Elt α) (H : Mem) : List (Option Addr × Nat × Nat) → List (List α) → Prop
  | [], [] => True
  | u :: us, l :: ls => InS E H (.slice u.1 u.2.1 u.2.2) l ∧ InSS E H us ls
  | _, _ => False
theorem InSS.fr {α : Type} {E : Elt α} {H H' : Mem} (hf : Fr nowhere H H') : ∀ {us : List (Option Addr × Nat × Nat)} {ls : List (List α)}, InSS E H us ls → InSS E H' us ls
  | [], [], _ => trivial
  | u :: us, l :: ls, h => ⟨h.1.fr hf, InSS.fr hf h.2⟩
  | [], _ :: _, h => h.elim
  | _ :: _, [], h => h.elim
theorem InSS.len {α : Type} {E : Elt α} {H : Mem} : ∀ {us : List (Option Addr × Nat × Nat)} {ls : List (List α)}, InSS E H us ls → us.length = ls.length
  | [], [], _ => rfl
  | u :: us, l :: ls, h => by rw [List.length_cons, List.length_cons, InSS.len h.2]
  | [], _ :: _, h => h.elim
  | _ :: _, [], h => h.elim
theorem InSS.at {α : Type} {E : Elt α} {H : Mem} : ∀ {us : List (Option Addr × Nat × Nat)} {ls : List (List α)} (_ : InSS E H us ls) {i : Nat} {u : Option Addr × Nat × Nat}, us[i]? = some u → ∃ l, ls[i]? = some l ∧ InS E H (.slice u.1 u.2.1 u.2.2) l
  | [], [], _, i, u, hu => by simp at hu
  | u :: us, l :: ls, h, 0, v, hv => by
    simp only [List.getElem?_cons_zero, Option.some.injEq] at hv
    subst hv
    exact ⟨l, rfl, h.1⟩
  | u :: us, l :: ls, h, i + 1, v, hv => by
    simp only [List.getElem?_cons_succ] at hv ⊢
    exact InSS.at h.2 hv
  | [], _ :: _, h, _, _, _ => h.elim
  | _ :: _, [], h, _, _, _ => h.elim
theorem flat_take {α : Type} (ls : List (List α)) (j : Nat) : (ls.take j).flatten.length ≤ ls.flatten.length := by
  conv => rhs; rw [← List.take_append_drop j ls, List.flatten_append, List.length_append]
  omega
theorem swp_get {α : Type} {X : List α} {i j : Nat} {x y : α} (hi : i < X.length) (hj : j < X.length) (hne : i ≠ j) (k : Nat) :
    ((X.set i x).set j y)[k]? = if k = j then some y else if k = i then some x else X[k]? := by
  rw [List.getElem?_set]
  by_cases h1 : j = k
  · subst h1
    rw [if_pos rfl, if_pos rfl, if_pos (by rw [List.length_set]; exact hj)]
  · rw [if_neg h1, if_neg (fun h => h1 h.symm), List.getElem?_set]
    by_cases h2 : i = k
    · subst h2; rw [if_pos rfl, if_pos rfl, if_pos hi]
    · rw [if_neg h2, if_neg (fun h => h2 h.symm)]
theorem set_td {α : Type} {X : List α} {i : Nat} {x : α} (hi : i < X.length) : X.take i ++ x :: X.drop (i + 1) = X.set i x := (List.set_eq_take_append_cons_drop.trans (if_pos hi)).symm

theorem grow_spec {B : World} {H : Mem} {n : Nat} (hn : 0 < n) (hll : n ≤ 4294967296) :
    Fn Try.prog B 93 [.slice none 0 0, .int .i64 (n : Int)] H (fun r H' => AccN EJ (fun b => H.size ≤ b) H' r [] ∧ Fr nowhere H H') := by
  refine fn_of Go.Proofs.Try.func93 rfl Go.Proofs.Try.ntmps93 ?_
  refine (show Go' _ _ _ _ 27 [(0, _), (1, _)] [.code _] _ from ?_)
  refine Go'.seq ?_
  -- region 0 (slices.go:422)
  refine Go'.region [(0, 0)] rfl ?_
  refine O.asg rfl rfl rfl rfl rfl ?_
  refine Pl.fin [(0, _), (1, _), (4, _)] ⟨rfl, rfl, rfl, trivial⟩ ?_
  refine Go'.seq ?_
  refine Go'.seq ?_
  -- region 1 (slices.go:423)
  refine Go'.region [(0, 0), (1, 0)] rfl ?_
  refine O.mv rfl rfl rfl rfl rfl ?_
  refine O.cmp rfl rfl rfl rfl rfl rfl (lssF (by omega)) ?_
  refine Pl.fin [(0, _), (1, _), (4, _), (6, _)] ⟨rfl, rfl, rfl, rfl, trivial⟩ ?_
  refine Go'.condF rfl ?_
  refine Go'.skip ?_
  refine Go'.seq ?_
  refine Go'.seq ?_
  -- region 3 (slices.go:426)
  refine Go'.region [(0, 0), (1, 0), (2, 0), (3, 0), (4, 0), (5, 0), (6, 0), (7, 0)] rfl ?_
  refine O.mv rfl rfl rfl rfl rfl ?_
  refine O.mv rfl rfl rfl rfl rfl ?_
  refine O.cap rfl rfl rfl rfl Go.Proofs.Try.underlying25 rfl ?_
  refine O.mv rfl rfl rfl rfl rfl ?_
  refine O.len rfl rfl rfl rfl Go.Proofs.Try.underlying25 rfl ?_
  refine O.sub ((0 : Int)) rfl rfl rfl rfl rfl rfl (by omega) (by omega) ?_
  refine O.sub ((n : Int)) rfl rfl rfl rfl rfl rfl (by omega) (by omega) ?_
  refine O.asg rfl rfl rfl rfl rfl ?_
  refine Pl.fin [(0, _), (1, _), (4, _)] ⟨rfl, rfl, rfl, trivial⟩ ?_
  refine Go'.seq ?_
  -- region 4 (slices.go:426)
  refine Go'.region [(0, 0), (1, 0)] rfl ?_
  refine O.mv rfl rfl rfl rfl rfl ?_
  refine O.cmp rfl rfl rfl rfl rfl rfl (gtrT (by omega)) ?_
  refine Pl.fin [(0, _), (1, _), (4, _), (16, _)] ⟨rfl, rfl, rfl, rfl, trivial⟩ ?_
  refine Go'.condT rfl ?_
  -- region 5 (slices.go:428)
  refine Go'.region [(0, 0), (1, 0), (2, 0), (3, 0), (4, 0), (5, 2), (6, 0), (7, 0), (8, 0), (9, 0)] rfl ?_
  refine O.mv rfl rfl rfl rfl rfl ?_
  refine O.mv rfl rfl rfl rfl rfl ?_
  refine O.cap rfl rfl rfl rfl Go.Proofs.Try.underlying25 rfl ?_
  refine O.slc0 rfl rfl rfl rfl Go.Proofs.Try.underlying25 Go.Proofs.Try.sizeOf27 rfl ⟨_, by rfl⟩ rfl ?_
  intro a0
  refine O.mv rfl rfl rfl rfl rfl ?_
  refine O.appZ (m := n) rfl rfl rfl ⟨Go.Proofs.Try.underlying25, Go.Proofs.Try.sizeOf27, Go.Proofs.Try.zeroValue27, ⟨_, Go.Proofs.Try.typeInfo27, rfl⟩, rfl, by decide, by decide⟩ Go.Proofs.Try.underlying3 rfl rfl (Nat.le_trans (Nat.mul_le_mul_left _ (Nat.le_of_ble_eq_true (n := _) (m := 4096) rfl)) (by omega)) (by omega) hn ?_
  intro cap' H1 hc hW hF hs
  refine ⟨trivial, ?_⟩
  refine O.mv rfl rfl rfl rfl rfl ?_
  refine O.len rfl rfl rfl rfl Go.Proofs.Try.underlying25 rfl ?_
  refine O.slc (jl := 0) (jh := 0) (jm := cap') rfl rfl rfl rfl Go.Proofs.Try.underlying25 Go.Proofs.Try.sizeOf27 rfl rfl ⟨_, by rfl⟩ rfl (by omega) (by omega) (by omega) (by simp) ?_
  intro o2 ho2
  refine O.asg rfl rfl rfl rfl rfl ?_
  refine Pl.fin [(0, _), (4, _)] ⟨rfl, rfl, trivial⟩ ?_
  refine Go'.seq ?_
  -- region 6 (slices.go:430)
  refine Go'.region [(0, 0), (1, 0)] rfl ?_
  refine O.mv rfl rfl rfl rfl rfl ?_
  refine O.asg rfl rfl rfl rfl rfl ?_
  refine Pl.fin [(4, _)] ⟨rfl, trivial⟩ ?_
  refine Go'.ret (vs := [_]) Go.Proofs.Try.func93 Go.Proofs.Try.results93 ⟨rfl, trivial⟩ ?_
  refine ⟨⟨H.size, o2, cap' - 0, rfl, Nat.le_refl _, by omega, ?_⟩, hF⟩
  obtain rfl : o2 = 0 := by have := ho2 (by omega); omega
  rw [Nat.sub_zero]
  exact ⟨rfl, Nat.zero_le _, Rd.nil _ _ _, hW⟩

theorem rev_spec {B : World} {H : Mem} {v : Value} {l : List (Int × Int)} {Z : Nat → Prop} (hA : AccN EJ Z H v l) (hll : l.length ≤ 4294967296) :
    Fn Try.prog B 92 [v] H (fun _ H' => AccN EJ Z H' v l.reverse ∧ Fr (fun b _ => Z b) H H') := by
  obtain ⟨b, o, c, rfl, hz, hb, hS⟩ := hA
  refine fn_of Go.Proofs.Try.func92 rfl Go.Proofs.Try.ntmps92 ?_
  refine (show Go' _ _ _ _ 28 [(0, _)] [.code _] _ from ?_)
  refine Go'.seq ?_
  -- region 0 (slices.go:484)
  refine Go'.region [(0, 0), (1, 0), (2, 0), (3, 0), (4, 0)] rfl ?_
  refine O.mv rfl rfl rfl rfl rfl ?_
  refine O.len rfl rfl rfl rfl Go.Proofs.Try.underlying25 rfl ?_
  refine O.sub (((l.length : Int) - 1)) rfl rfl rfl rfl rfl rfl (by omega) (by omega) ?_
  refine O.asg rfl rfl rfl rfl rfl ?_
  refine O.asg rfl rfl rfl rfl rfl ?_
  refine Pl.fin [(0, _), (2, _), (3, _)] ⟨rfl, rfl, rfl, trivial⟩ ?_
  refine Go'.block ?_
  refine Go'.loop ?_
  refine Go'.keep [(0, _), (2, _), (3, _)] ⟨rfl, rfl, rfl, trivial⟩ ?_
  refine Go'.ind (σ := Nat × List (Int × Int)) (fun s => l.length - s.1) (fun s H' => SlE EJ H' b o c s.2 ∧ s.2.length = l.length ∧ (∀ k, k < l.length → s.2[k]? = if k < s.1 ∨ l.length ≤ k + s.1 then l[l.length - 1 - k]? else l[k]?) ∧ Fr (fun b _ => Z b) H H')
    (fun s => [(0, .slice (some ⟨b, o, none⟩) l.length c), (2, .int .i64 (s.1 : Int)), (3, .int .i64 ((l.length : Int) - 1 - s.1))]) (0, l) ⟨hS, rfl, fun k hk => by rw [if_neg (by omega)], Fr.refl _ _⟩ (by simp) ?_
  clear hS
  rintro ⟨i, m⟩ H2 ⟨hS, hml, hm, hF⟩ ih
  simp only at hS hml hm ih
  have hsz := hF.size
  refine Go'.seq ?_
  refine Go'.seq ?_
  by_cases hlt : (i : Int) < (l.length : Int) - 1 - i
  · skip
    have hjl : l.length - 1 - i < m.length := by omega
    have hil : i < m.length := by omega
    obtain ⟨x, hx⟩ : ∃ x, m[i]? = some x := ⟨m[i], List.getElem?_eq_getElem hil⟩
    obtain ⟨y, hy⟩ : ∃ y, m[l.length - 1 - i]? = some y := ⟨m[l.length - 1 - i], List.getElem?_eq_getElem hjl⟩
    have hx2 := hx
    rw [hm i (by omega), if_neg (by omega)] at hx2
    have hy2 := hy
    rw [hm _ (by omega), if_neg (by omega)] at hy2
    have wj := hS.wri hjl
    have wi := hS.wri hil
    have hlm : l.length = m.length := hml.symm
    -- region 1 (slices.go:484)
    refine Go'.region [(0, 0), (1, 0), (2, 0)] rfl ?_
    refine O.mv rfl rfl rfl rfl rfl ?_
    refine O.mv rfl rfl rfl rfl rfl ?_
    refine O.cmp rfl rfl rfl rfl rfl rfl (lssT hlt) ?_
    refine Pl.fin [(0, _), (2, _), (3, _), (9, _)] ⟨rfl, rfl, rfl, rfl, trivial⟩ ?_
    refine Go'.condT rfl ?_
    refine Go'.skip ?_
    refine Go'.seq ?_
    refine Go'.block ?_
    -- region 3 (slices.go:485)
    refine Go'.draw (fun _ => True) [(0, 0), (1, 0), (2, 0), (3, 0), (4, 0), (5, 0), (6, 0), (7, 1), (8, 0), (9, 0), (10, 0), (11, 1), (12, 0), (13, 2), (14, 0), (15, 3)] (by kernel_rfl) (by kernel_rfl) (trivial) ?_
    refine O.mv rfl rfl rfl rfl rfl ?_
    refine O.mv rfl rfl rfl rfl rfl ?_
    refine O.mv rfl rfl rfl rfl rfl ?_
    refine O.mv rfl rfl rfl rfl rfl ?_
    refine O.mv rfl rfl rfl rfl rfl ?_
    refine O.mv rfl rfl rfl rfl rfl ?_
    refine O.ix (j := (l.length - 1 - i)) rfl rfl rfl rfl Go.Proofs.Try.underlying25 Go.Proofs.Try.sizeOf27 rfl rfl (by omega) (by omega) ?_
    refine O.lds rfl rfl rfl (fun w => ⟨Go.Proofs.Try.isAgg27 w, Go.Proofs.Try.sizeOf27 w⟩) rfl rfl (hS.item hy) ?_
    refine O.mv rfl rfl rfl rfl rfl ?_
    refine O.mv rfl rfl rfl rfl rfl ?_
    refine O.ix (j := i) rfl rfl rfl rfl Go.Proofs.Try.underlying25 Go.Proofs.Try.sizeOf27 rfl rfl (by omega) (by omega) ?_
    refine O.lds rfl rfl rfl (fun w => ⟨Go.Proofs.Try.isAgg27 w, Go.Proofs.Try.sizeOf27 w⟩) rfl rfl (hS.item hx) ?_
    refine O.ix (j := i) rfl rfl rfl rfl Go.Proofs.Try.underlying25 Go.Proofs.Try.sizeOf27 rfl rfl (by omega) (by omega) ?_
    refine O.st (vs := (EJ.enc y)) rfl rfl Go.Proofs.Try.sizeOf27 rfl rfl rfl rfl rfl wi ?_
    intro H3 W3
    have hS3 := hS.set W3 hil
    rw [set_td hil] at hS3
    have wj3 := hS3.wri (i := l.length - 1 - i) (by rw [List.length_set]; exact hjl)
    refine ⟨trivial, ?_⟩
    refine O.ix (j := (l.length - 1 - i)) rfl rfl rfl rfl Go.Proofs.Try.underlying25 Go.Proofs.Try.sizeOf27 rfl rfl (by omega) (by omega) ?_
    refine O.st3 (vs := (EJ.enc x)) rfl rfl Go.Proofs.Try.sizeOf27 rfl rfl rfl rfl rfl wj3 ?_
    intro H4 W4
    have hS4 := hS3.set W4 (by rw [List.length_set]; exact hjl)
    rw [set_td (by rw [List.length_set]; exact hjl)] at hS4
    refine Pl.fin [(0, _), (2, _), (3, _), (9, _)] ⟨rfl, rfl, rfl, rfl, trivial⟩ ?_
    refine Go'.inBlock ?_
    -- region 2 (slices.go:484)
    refine Go'.region [(0, 0), (1, 0), (2, 0), (3, 0), (4, 0), (5, 0)] rfl ?_
    refine O.mv rfl rfl rfl rfl rfl ?_
    refine O.add (((i + 1 : Nat) : Int)) rfl rfl rfl rfl rfl rfl (by omega) (by omega) ?_
    refine O.mv rfl rfl rfl rfl rfl ?_
    refine O.sub (((l.length : Int) - 1 - ((i + 1 : Nat) : Int))) rfl rfl rfl rfl rfl rfl (by omega) (by omega) ?_
    refine O.asg rfl rfl rfl rfl rfl ?_
    refine O.asg rfl rfl rfl rfl rfl ?_
    refine Pl.fin [(0, _), (2, _), (3, _), (9, _)] ⟨rfl, rfl, rfl, rfl, trivial⟩ ?_
    refine Go'.keep [(0, _), (2, _), (3, _)] ⟨rfl, rfl, rfl, trivial⟩ ?_
    refine Go'.inLoop ?_
    refine ih (i + 1, (m.set i y).set (l.length - 1 - i) x) H4 ⟨hS4, by simpa using hml, fun k hk => ?_, (hF.trans' W3.fr (fun _ _ _ h => h) (fun b' o' _ h => by rw [show b' = b from h.1]; exact hz)).trans' W4.fr (fun _ _ _ h => h) (fun b' o' _ h => by rw [show b' = b from h.1]; exact hz)⟩ (by simp only; omega)
    simp only
    rw [swp_get hil hjl (by omega) k]
    by_cases h1 : k = l.length - 1 - i
    · rw [if_pos h1, if_pos (by omega), h1, show l.length - 1 - (l.length - 1 - i) = i by omega, hx2]
    · rw [if_neg h1]
      by_cases h2 : k = i
      · rw [if_pos h2, if_pos (by omega), h2, hy2]
      · rw [if_neg h2, hm k hk]
        by_cases h3 : k < i ∨ l.length ≤ k + i
        · rw [if_pos h3, if_pos (by omega)]
        · rw [if_neg h3, if_neg (by omega)]
  · skip
    -- region 1 (slices.go:484)
    refine Go'.region [(0, 0), (1, 0), (2, 0)] rfl ?_
    refine O.mv rfl rfl rfl rfl rfl ?_
    refine O.mv rfl rfl rfl rfl rfl ?_
    refine O.cmp rfl rfl rfl rfl rfl rfl (lssF (by simp only; omega)) ?_
    refine Pl.fin [(0, _), (2, _), (3, _), (9, _)] ⟨rfl, rfl, rfl, rfl, trivial⟩ ?_
    refine Go'.condF rfl ?_
    refine Go'.exit rfl ?_
    have e : m = l.reverse := by
      refine List.ext_getElem? fun k => ?_
      rcases Nat.lt_or_ge k l.length with hk | hk
      · rw [hm k hk, List.getElem?_reverse hk]
        by_cases h3 : k < i ∨ l.length ≤ k + i
        · rw [if_pos h3]
        · rw [if_neg h3, show l.length - 1 - k = k by omega]
      · rw [List.getElem?_eq_none (by omega), List.getElem?_eq_none (by rw [List.length_reverse]; exact hk)]
    subst e
    refine Go'.fall Go.Proofs.Try.func92 Go.Proofs.Try.results92 (vs := []) trivial ?_
    exact ⟨⟨b, o, c, by rw [List.length_reverse], hz, by omega, hS⟩, hF⟩

theorem cloneA_spec {B : World} {H : Mem} {v : Value} {l : List (Int × Int)} (hi : InS EJ H v l) (hll : l.length ≤ 4294967296) :
    Fn Try.prog B 91 [v] H (fun r H' => Acc EJ (fun b => H.size ≤ b) H' r l ∧ Fr nowhere H H') := by
  obtain ⟨a, c, rfl⟩ := hi.len
  rcases a with _ | a
  · skip
    obtain rfl : l = [] := by
      rcases hi with ⟨b, o, c', e, _⟩ | ⟨e, _⟩
      · cases e
      · exact e
    refine fn_of Go.Proofs.Try.func91 rfl Go.Proofs.Try.ntmps91 ?_
    refine (show Go' _ _ _ _ 8 [(0, _)] [.code _] _ from ?_)
    refine Go'.seq ?_
    -- region 0 (slices.go:355)
    refine Go'.region [(0, 0)] rfl ?_
    refine O.asg rfl rfl rfl rfl rfl ?_
    refine Pl.fin [(0, _), (2, _)] ⟨rfl, rfl, trivial⟩ ?_
    refine Go'.seq ?_
    refine Go'.seq ?_
    -- region 1 (slices.go:357)
    refine Go'.region [(0, 0), (1, 0)] rfl ?_
    refine O.mv rfl rfl rfl rfl rfl ?_
    refine O.slNil rfl rfl rfl rfl Go.Proofs.Try.underlying25 rfl rfl ?_
    refine Pl.fin [(0, _), (2, _), (4, _)] ⟨rfl, rfl, rfl, trivial⟩ ?_
    refine Go'.condT rfl ?_
    refine Go'.seq ?_
    -- region 2 (slices.go:358)
    refine Go'.region [(0, 0)] rfl ?_
    refine O.asg rfl rfl rfl rfl rfl ?_
    refine Pl.fin [(0, _), (2, _)] ⟨rfl, rfl, trivial⟩ ?_
    refine Go'.ret (vs := [_]) Go.Proofs.Try.func91 Go.Proofs.Try.results91 ⟨rfl, trivial⟩ ?_
    exact ⟨Acc.nil _ _ _, Fr.refl _ _⟩
  · skip
    refine fn_of Go.Proofs.Try.func91 rfl Go.Proofs.Try.ntmps91 ?_
    refine (show Go' _ _ _ _ 8 [(0, _)] [.code _] _ from ?_)
    refine Go'.seq ?_
    -- region 0 (slices.go:355)
    refine Go'.region [(0, 0)] rfl ?_
    refine O.asg rfl rfl rfl rfl rfl ?_
    refine Pl.fin [(0, _), (2, _)] ⟨rfl, rfl, trivial⟩ ?_
    refine Go'.seq ?_
    refine Go'.seq ?_
    -- region 1 (slices.go:357)
    refine Go'.region [(0, 0), (1, 0)] rfl ?_
    refine O.mv rfl rfl rfl rfl rfl ?_
    refine O.slNil rfl rfl rfl rfl Go.Proofs.Try.underlying25 rfl rfl ?_
    refine Pl.fin [(0, _), (2, _), (4, _)] ⟨rfl, rfl, rfl, trivial⟩ ?_
    refine Go'.condF rfl ?_
    refine Go'.skip ?_
    refine Go'.seq ?_
    -- region 3 (slices.go:362)
    refine Go'.region [(0, 2), (1, 0), (2, 2), (3, 0)] rfl ?_
    refine O.bsl (cs := []) rfl rfl rfl ⟨Go.Proofs.Try.underlying25, Go.Proofs.Try.sizeOf27, Go.Proofs.Try.zeroValue27, ⟨_, Go.Proofs.Try.typeInfo27, rfl⟩, rfl, by decide, by decide⟩ rfl (by decide) (by kernel_rfl) ?_
    intro H1 M1
    have hs1 := M1.size
    have hA1 := AccN.made (E := EJ) M1
    refine ⟨trivial, ?_⟩
    refine O.mv rfl rfl rfl rfl rfl ?_
    refine O.appI (E := EJ) rfl rfl rfl ⟨Go.Proofs.Try.underlying25, Go.Proofs.Try.sizeOf27, Go.Proofs.Try.zeroValue27, ⟨_, Go.Proofs.Try.typeInfo27, rfl⟩, rfl, by decide, by decide⟩ rfl hA1 rfl (hi.fr (M1.fr nowhere)) (Nat.le_trans (Nat.mul_le_mul_left _ (Nat.le_of_ble_eq_true (n := _) (m := 4096) rfl)) (by simp only [List.length_nil]; omega)) (by simp only [List.length_nil]; omega) ?_
    intro v2 H2 hA2 hF2 hs2
    rw [List.nil_append] at hA2
    refine ⟨trivial, ?_⟩
    refine O.asg rfl rfl rfl rfl rfl ?_
    refine Pl.fin [(2, _)] ⟨rfl, trivial⟩ ?_
    refine Go'.ret (vs := [_]) Go.Proofs.Try.func91 Go.Proofs.Try.results91 ⟨rfl, trivial⟩ ?_
    exact ⟨.inr (hA2.mono fun b _ hz => hz.elim id (fun h => by omega)), (M1.fr nowhere).trans' hF2 (fun _ _ _ h => h) (fun b o hb hz => by have hz' : H.size ≤ b := hz; omega)⟩

theorem revA_spec {B : World} {H : Mem} {v : Value} {l : List (Int × Int)} {Z : Nat → Prop} (hA : Acc EJ Z H v l) (hll : l.length ≤ 4294967296) :
    Fn Try.prog B 92 [v] H (fun _ H' => Acc EJ Z H' v l.reverse ∧ Fr (fun b _ => Z b) H H') := by
  rcases hA with ⟨rfl, rfl⟩ | hA
  rotate_left
  · exact (rev_spec hA hll).mono fun _ _ h => ⟨.inr h.1, h.2⟩
  refine fn_of Go.Proofs.Try.func92 rfl Go.Proofs.Try.ntmps92 ?_
  refine (show Go' _ _ _ _ 28 [(0, _)] [.code _] _ from ?_)
  refine Go'.seq ?_
  -- region 0 (slices.go:484)
  refine Go'.region [(0, 0), (1, 0), (2, 0), (3, 0), (4, 0)] rfl ?_
  refine O.mv rfl rfl rfl rfl rfl ?_
  refine O.len rfl rfl rfl rfl Go.Proofs.Try.underlying25 rfl ?_
  refine O.sub ((-1 : Int)) rfl rfl rfl rfl rfl rfl (by omega) (by omega) ?_
  refine O.asg rfl rfl rfl rfl rfl ?_
  refine O.asg rfl rfl rfl rfl rfl ?_
  refine Pl.fin [(0, _), (2, _), (3, _)] ⟨rfl, rfl, rfl, trivial⟩ ?_
  refine Go'.block ?_
  refine Go'.loop ?_
  refine Go'.seq ?_
  refine Go'.seq ?_
  -- region 1 (slices.go:484)
  refine Go'.region [(0, 0), (1, 0), (2, 0)] rfl ?_
  refine O.mv rfl rfl rfl rfl rfl ?_
  refine O.mv rfl rfl rfl rfl rfl ?_
  refine O.cmp rfl rfl rfl rfl rfl rfl (lssF (by omega)) ?_
  refine Pl.fin [(0, _), (2, _), (3, _), (9, _)] ⟨rfl, rfl, rfl, rfl, trivial⟩ ?_
  refine Go'.condF rfl ?_
  refine Go'.exit rfl ?_
  refine Go'.fall Go.Proofs.Try.func92 Go.Proofs.Try.results92 (vs := []) trivial ?_
  exact ⟨Acc.nil _ _ _, Fr.refl _ _⟩

theorem turnedA_spec {B : World} {H : Mem} {v : Value} {l : List (Int × Int)} (hi : InS EJ H v l) (hll : l.length ≤ 4294967296) :
    Fn Try.prog B 44 [v] H (fun r H' => Acc EJ (fun b => H.size ≤ b) H' r l.reverse ∧ Fr nowhere H H') := by
  refine fn_of Go.Proofs.Try.func44 rfl Go.Proofs.Try.ntmps44 ?_
  refine (show Go' _ _ _ _ 9 [(0, _)] [.code _] _ from ?_)
  refine Go'.seq ?_
  -- region 0 (trees.go:16)
  refine Go'.region [(0, 0)] rfl ?_
  refine O.asg rfl rfl rfl rfl rfl ?_
  refine Pl.fin [(0, _), (2, _)] ⟨rfl, rfl, trivial⟩ ?_
  refine Go'.seq ?_
  -- region 1 (trees.go:17)
  refine Go'.region [(0, 0), (1, 2), (2, 0)] rfl ?_
  refine O.mv rfl rfl rfl rfl rfl ?_
  refine O.call rfl rfl rfl Go.Proofs.Try.call91 rfl (cloneA_spec hi hll) ?_
  rintro v1 H1 ⟨h1, hF1⟩
  refine ⟨trivial, ?_⟩
  refine O.asg rfl rfl rfl rfl rfl ?_
  refine Pl.fin [(2, _), (3, _)] ⟨rfl, rfl, trivial⟩ ?_
  refine Go'.seq ?_
  -- region 2 (trees.go:18)
  refine Go'.region [(0, 0), (1, 2)] rfl ?_
  refine O.mv rfl rfl rfl rfl rfl ?_
  refine O.call rfl rfl rfl Go.Proofs.Try.call92 rfl (revA_spec h1 hll) ?_
  rintro _ H2 ⟨h2, hF2⟩
  refine ⟨trivial, ?_⟩
  refine Pl.fin [(2, _), (3, _)] ⟨rfl, rfl, trivial⟩ ?_
  refine Go'.seq ?_
  -- region 3 (trees.go:19)
  refine Go'.region [(0, 0), (1, 0)] rfl ?_
  refine O.mv rfl rfl rfl rfl rfl ?_
  refine O.asg rfl rfl rfl rfl rfl ?_
  refine Pl.fin [(2, _)] ⟨rfl, trivial⟩ ?_
  refine Go'.ret (vs := [_]) Go.Proofs.Try.func44 Go.Proofs.Try.results44 ⟨rfl, trivial⟩ ?_
  exact ⟨h2, hF1.trans' hF2 (fun _ _ _ h => h) (fun b o hb hz => by have hz' : H.size ≤ b := hz; omega)⟩

theorem growA_spec {B : World} {H : Mem} {n : Nat} (hll : n ≤ 4294967296) :
    Fn Try.prog B 93 [.slice none 0 0, .int .i64 (n : Int)] H (fun r H' => Acc EJ (fun b => H.size ≤ b) H' r [] ∧ Fr nowhere H H') := by
  rcases Nat.eq_zero_or_pos n with rfl | hn
  rotate_left
  · exact (grow_spec hn hll).mono fun _ _ h => ⟨h.1.acc, h.2⟩
  refine fn_of Go.Proofs.Try.func93 rfl Go.Proofs.Try.ntmps93 ?_
  refine (show Go' _ _ _ _ 27 [(0, _), (1, _)] [.code _] _ from ?_)
  refine Go'.seq ?_
  -- region 0 (slices.go:422)
  refine Go'.region [(0, 0)] rfl ?_
  refine O.asg rfl rfl rfl rfl rfl ?_
  refine Pl.fin [(0, _), (1, _), (4, _)] ⟨rfl, rfl, rfl, trivial⟩ ?_
  refine Go'.seq ?_
  refine Go'.seq ?_
  -- region 1 (slices.go:423)
  refine Go'.region [(0, 0), (1, 0)] rfl ?_
  refine O.mv rfl rfl rfl rfl rfl ?_
  refine O.cmp rfl rfl rfl rfl rfl rfl (lssF (by omega)) ?_
  refine Pl.fin [(0, _), (1, _), (4, _), (6, _)] ⟨rfl, rfl, rfl, rfl, trivial⟩ ?_
  refine Go'.condF rfl ?_
  refine Go'.skip ?_
  refine Go'.seq ?_
  refine Go'.seq ?_
  -- region 3 (slices.go:426)
  refine Go'.region [(0, 0), (1, 0), (2, 0), (3, 0), (4, 0), (5, 0), (6, 0), (7, 0)] rfl ?_
  refine O.mv rfl rfl rfl rfl rfl ?_
  refine O.mv rfl rfl rfl rfl rfl ?_
  refine O.cap rfl rfl rfl rfl Go.Proofs.Try.underlying25 rfl ?_
  refine O.mv rfl rfl rfl rfl rfl ?_
  refine O.len rfl rfl rfl rfl Go.Proofs.Try.underlying25 rfl ?_
  refine O.sub ((0 : Int)) rfl rfl rfl rfl rfl rfl (by omega) (by omega) ?_
  refine O.sub ((0 : Int)) rfl rfl rfl rfl rfl rfl (by omega) (by omega) ?_
  refine O.asg rfl rfl rfl rfl rfl ?_
  refine Pl.fin [(0, _), (1, _), (4, _)] ⟨rfl, rfl, rfl, trivial⟩ ?_
  refine Go'.seq ?_
  -- region 4 (slices.go:426)
  refine Go'.region [(0, 0), (1, 0)] rfl ?_
  refine O.mv rfl rfl rfl rfl rfl ?_
  refine O.cmp rfl rfl rfl rfl rfl rfl (gtrF (by omega)) ?_
  refine Pl.fin [(0, _), (1, _), (4, _), (16, _)] ⟨rfl, rfl, rfl, rfl, trivial⟩ ?_
  refine Go'.condF rfl ?_
  refine Go'.skip ?_
  refine Go'.seq ?_
  -- region 6 (slices.go:430)
  refine Go'.region [(0, 0), (1, 0)] rfl ?_
  refine O.mv rfl rfl rfl rfl rfl ?_
  refine O.asg rfl rfl rfl rfl rfl ?_
  refine Pl.fin [(4, _)] ⟨rfl, trivial⟩ ?_
  refine Go'.ret (vs := [_]) Go.Proofs.Try.func93 Go.Proofs.Try.results93 ⟨rfl, trivial⟩ ?_
  exact ⟨Acc.nil _ _ _, Fr.refl _ _⟩

theorem concatA_spec {B : World} {H : Mem} {v : Value} {us : List (Option Addr × Nat × Nat)} {ls : List (List (Int × Int))} (hi : InS ESl H v us) (hs : InSS EJ H us ls) (hll : ls.flatten.length ≤ 4294967296) (hul : us.length ≤ 4294967296) :
    Fn Try.prog B 45 [v] H (fun r H' => Acc EJ (fun b => H.size ≤ b) H' r ls.flatten ∧ Fr nowhere H H') := by
  obtain ⟨a, c, hu⟩ := hi.len
  subst hu
  have hlen := hs.len
  have hi00 := hi
  have hs00 := hs
  refine fn_of Go.Proofs.Try.func45 rfl Go.Proofs.Try.ntmps45 ?_
  refine (show Go' _ _ _ _ 36 [(0, _)] [.code _] _ from ?_)
  refine Go'.seq ?_
  -- region 0 (slices.go:491)
  refine Go'.region [(0, 0)] rfl ?_
  refine O.asg rfl rfl rfl rfl rfl ?_
  refine Pl.fin [(0, _), (2, _)] ⟨rfl, rfl, trivial⟩ ?_
  refine Go'.seq ?_
  -- region 1 (slices.go:492)
  refine Go'.region [(0, 0)] rfl ?_
  refine O.asg rfl rfl rfl rfl rfl ?_
  refine Pl.fin [(0, _), (2, _), (3, _)] ⟨rfl, rfl, rfl, trivial⟩ ?_
  refine Go'.seq ?_
  refine Go'.seq ?_
  -- region 2 (slices.go:493)
  refine Go'.region [(0, 0), (1, 0), (2, 0)] rfl ?_
  refine O.mv rfl rfl rfl rfl rfl ?_
  refine O.len rfl rfl rfl rfl Go.Proofs.Try.underlying55 rfl ?_
  refine O.mv rfl rfl rfl rfl rfl ?_
  refine Pl.fin [(0, _), (2, _), (3, _), (9, _), (10, _), (11, _)] ⟨rfl, rfl, rfl, rfl, rfl, rfl, trivial⟩ ?_
  refine Go'.block ?_
  refine Go'.loop ?_
  refine Go'.keep [(0, _), (3, _), (9, _), (10, _), (11, _)] ⟨rfl, rfl, rfl, rfl, rfl, trivial⟩ ?_
  refine Go'.ind (σ := Nat) (fun j => us.length - j) (fun j H' => H' = H ∧ j ≤ us.length)
    (fun j => [(0, .slice a us.length c), (3, .int .i64 ((ls.take j).flatten.length : Int)), (9, .slice a us.length c), (10, .int .i64 (us.length : Int)), (11, .int .i64 (j : Int))]) 0 ⟨rfl, Nat.zero_le _⟩ rfl ?_
  rintro j H2 ⟨hHH, hjl⟩ ih
  have eH : H = H2 := hHH.symm
  subst eH
  clear hHH
  refine Go'.seq ?_
  by_cases hlt : j < us.length
  · skip
    obtain ⟨u, hu⟩ : ∃ u, us[j]? = some u := ⟨us[j], List.getElem?_eq_getElem hlt⟩
    obtain ⟨b, o, cc, e, hr⟩ := hi.at hu
    cases e
    obtain ⟨l, hl, hul2⟩ := hs.at hu
    obtain ⟨a', c', e⟩ := hul2.len
    have e2 : u.2.1 = l.length := by injection e
    have hx : (ls.take (j + 1)).flatten.length = (ls.take j).flatten.length + l.length := by rw [List.take_add_one, hl, List.flatten_append, List.length_append]; simp
    have hft := flat_take ls (j + 1)
    -- region 3 (slices.go:493)
    refine Go'.region [(0, 0)] rfl ?_
    refine O.cmp rfl rfl rfl rfl rfl rfl (lssT (by omega)) ?_
    refine Pl.fin [(0, _), (3, _), (9, _), (10, _), (11, _), (12, _)] ⟨rfl, rfl, rfl, rfl, rfl, rfl, trivial⟩ ?_
    refine Go'.seq ?_
    refine Go'.condT rfl ?_
    refine Go'.skip ?_
    refine Go'.seq ?_
    refine Go'.block ?_
    refine Go'.seq ?_
    -- region 4 (slices.go:493)
    refine Go'.region [(0, 0), (1, 1), (2, 0)] rfl ?_
    refine O.ix (j := j) rfl rfl rfl rfl Go.Proofs.Try.underlying55 Go.Proofs.Try.sizeOf25 rfl rfl (by omega) hlt ?_
    refine O.ld rfl rfl rfl (fun w => ⟨Go.Proofs.Try.isAgg25 w, Go.Proofs.Try.sizeOf25 w⟩) rfl (hr 0 _ rfl) ?_
    refine O.asg rfl rfl rfl rfl rfl ?_
    refine Pl.fin [(0, _), (3, _), (5, _), (9, _), (10, _), (11, _), (12, _)] ⟨rfl, rfl, rfl, rfl, rfl, rfl, rfl, trivial⟩ ?_
    refine Go'.seq ?_
    -- region 5 (slices.go:494)
    refine Go'.region [(0, 0), (1, 0), (2, 0), (3, 0), (4, 0)] rfl ?_
    refine O.mv rfl rfl rfl rfl rfl ?_
    refine O.mv rfl rfl rfl rfl rfl ?_
    refine O.len rfl rfl rfl rfl Go.Proofs.Try.underlying25 rfl ?_
    refine O.add (((ls.take (j + 1)).flatten.length : Int)) rfl rfl rfl rfl rfl rfl (by omega) (by omega) ?_
    refine O.asg rfl rfl rfl rfl rfl ?_
    refine Pl.fin [(0, _), (3, _), (5, _), (9, _), (10, _), (11, _), (12, _)] ⟨rfl, rfl, rfl, rfl, rfl, rfl, rfl, trivial⟩ ?_
    refine Go'.seq ?_
    -- region 6 (slices.go:495)
    refine Go'.region [(0, 0), (1, 0)] rfl ?_
    refine O.mv rfl rfl rfl rfl rfl ?_
    refine O.cmp rfl rfl rfl rfl rfl rfl (lssF (by omega)) ?_
    refine Pl.fin [(0, _), (3, _), (5, _), (9, _), (10, _), (11, _), (12, _), (20, _)] ⟨rfl, rfl, rfl, rfl, rfl, rfl, rfl, rfl, trivial⟩ ?_
    refine Go'.condF rfl ?_
    refine Go'.skip ?_
    refine Go'.inBlock ?_
    -- region 8 (slices.go:493)
    refine Go'.region [(0, 0), (1, 0)] rfl ?_
    refine O.add (((j + 1 : Nat) : Int)) rfl rfl rfl rfl rfl rfl (by omega) (by omega) ?_
    refine O.mv rfl rfl rfl rfl rfl ?_
    refine Pl.fin [(0, _), (3, _), (5, _), (9, _), (10, _), (11, _), (12, _), (20, _)] ⟨rfl, rfl, rfl, rfl, rfl, rfl, rfl, rfl, trivial⟩ ?_
    refine Go'.keep [(0, _), (3, _), (9, _), (10, _), (11, _)] ⟨rfl, rfl, rfl, rfl, rfl, trivial⟩ ?_
    refine Go'.inLoop ?_
    exact ih (j + 1) H ⟨rfl, hlt⟩ (by omega)
  · skip
    have e0 : j = us.length := by omega
    have e1 : ls.take j = ls := by rw [e0, hlen, List.take_length]
    clear ih
    subst e0
    rw [e1]
    -- region 3 (slices.go:493)
    refine Go'.region [(0, 0)] rfl ?_
    refine O.cmp rfl rfl rfl rfl rfl rfl (lssF (by omega)) ?_
    refine Pl.fin [(0, _), (3, _), (9, _), (10, _), (11, _), (12, _)] ⟨rfl, rfl, rfl, rfl, rfl, rfl, trivial⟩ ?_
    refine Go'.seq ?_
    refine Go'.condF rfl ?_
    refine Go'.exit rfl ?_
    refine Go'.seq ?_
    -- region 9 (slices.go:502)
    refine Go'.region [(0, 0), (1, 2), (2, 0)] rfl ?_
    refine O.mv rfl rfl rfl rfl rfl ?_
    refine O.call rfl rfl rfl Go.Proofs.Try.call93 rfl (growA_spec hll) ?_
    rintro gv H1 ⟨hA0, hF1⟩
    refine ⟨trivial, ?_⟩
    refine O.asg rfl rfl rfl rfl rfl ?_
    refine Pl.fin [(0, _), (6, _)] ⟨rfl, rfl, trivial⟩ ?_
    refine Go'.seq ?_
    refine Go'.seq ?_
    -- region 10 (slices.go:503)
    refine Go'.region [(0, 0), (1, 0), (2, 0)] rfl ?_
    refine O.mv rfl rfl rfl rfl rfl ?_
    refine O.len rfl rfl rfl rfl Go.Proofs.Try.underlying55 rfl ?_
    refine O.mv rfl rfl rfl rfl rfl ?_
    refine Pl.fin [(6, _), (25, _), (26, _), (27, _)] ⟨rfl, rfl, rfl, rfl, trivial⟩ ?_
    refine Go'.block ?_
    refine Go'.loop ?_
    refine Go'.keep [(6, _), (25, _), (26, _), (27, _)] ⟨rfl, rfl, rfl, rfl, trivial⟩ ?_
    refine Go'.ind (σ := Nat × Value × (Nat → Prop)) (fun s => us.length - s.1) (fun s H' => s.1 ≤ us.length ∧ Acc EJ s.2.2 H' s.2.1 ((ls.take s.1).flatten) ∧ Fr nowhere H H' ∧ Fr (fun b _ => H.size ≤ b) H1 H' ∧ ∀ b, s.2.2 b → H.size ≤ b)
      (fun s => [(6, s.2.1), (25, .slice a us.length c), (26, .int .i64 (us.length : Int)), (27, .int .i64 (s.1 : Int))]) (0, gv, fun b => H.size ≤ b) ⟨Nat.zero_le _, by rw [List.take_zero]; exact hA0, hF1, Fr.refl _ _, fun b hb => hb⟩ rfl ?_
    clear hA0
    rintro ⟨j, sv, Z1⟩ H2 ⟨hj, hA, hF, hFZ, hZ1⟩ ih
    simp only at hj hA hZ1
    have hsz := hF.size
    refine Go'.seq ?_
    by_cases hlt : j < us.length
    · skip
      obtain ⟨u, hu⟩ : ∃ u, us[j]? = some u := ⟨us[j], List.getElem?_eq_getElem hlt⟩
      have hi2 := hi00.fr hF
      obtain ⟨b, o, cc, e, hr⟩ := hi2.at hu
      cases e
      obtain ⟨l, hl, hul2⟩ := (hs00.fr hF).at hu
      have hx : (ls.take (j + 1)).flatten = (ls.take j).flatten ++ l := by rw [List.take_add_one, hl, List.flatten_append]; simp
      have hft := flat_take ls (j + 1)
      rw [hx, List.length_append] at hft
      -- region 11 (slices.go:503)
      refine Go'.region [(0, 0)] rfl ?_
      refine O.cmp rfl rfl rfl rfl rfl rfl (lssT (by omega)) ?_
      refine Pl.fin [(6, _), (25, _), (26, _), (27, _), (28, _)] ⟨rfl, rfl, rfl, rfl, rfl, trivial⟩ ?_
      refine Go'.seq ?_
      refine Go'.condT rfl ?_
      refine Go'.skip ?_
      refine Go'.seq ?_
      refine Go'.block ?_
      refine Go'.seq ?_
      -- region 12 (slices.go:503)
      refine Go'.region [(0, 0), (1, 1), (2, 0)] rfl ?_
      refine O.ix (j := j) rfl rfl rfl rfl Go.Proofs.Try.underlying55 Go.Proofs.Try.sizeOf25 rfl rfl (by omega) hlt ?_
      refine O.ld rfl rfl rfl (fun w => ⟨Go.Proofs.Try.isAgg25 w, Go.Proofs.Try.sizeOf25 w⟩) rfl (hr 0 _ rfl) ?_
      refine O.asg rfl rfl rfl rfl rfl ?_
      refine Pl.fin [(6, _), (8, _), (25, _), (26, _), (27, _), (28, _)] ⟨rfl, rfl, rfl, rfl, rfl, rfl, trivial⟩ ?_
      -- region 13 (slices.go:504)
      refine Go'.region [(0, 0), (1, 0), (2, 2), (3, 0)] rfl ?_
      refine O.mv rfl rfl rfl rfl rfl ?_
      refine O.mv rfl rfl rfl rfl rfl ?_
      refine O.appAI (E := EJ) rfl rfl rfl ⟨Go.Proofs.Try.underlying25, Go.Proofs.Try.sizeOf27, Go.Proofs.Try.zeroValue27, ⟨_, Go.Proofs.Try.typeInfo27, rfl⟩, rfl, by decide, by decide⟩ rfl hA rfl hul2 (Nat.le_trans (Nat.mul_le_mul_left _ (Nat.le_of_ble_eq_true (n := _) (m := 4096) rfl)) (by omega)) (by omega) ?_
      intro v7 H7 hA7 hF7 hs7
      rw [← hx] at hA7
      refine ⟨trivial, ?_⟩
      refine O.asg rfl rfl rfl rfl rfl ?_
      refine Pl.fin [(6, _), (8, _), (25, _), (26, _), (27, _), (28, _)] ⟨rfl, rfl, rfl, rfl, rfl, rfl, trivial⟩ ?_
      refine Go'.inBlock ?_
      -- region 14 (slices.go:503)
      refine Go'.region [(0, 0), (1, 0)] rfl ?_
      refine O.add (((j + 1 : Nat) : Int)) rfl rfl rfl rfl rfl rfl (by omega) (by omega) ?_
      refine O.mv rfl rfl rfl rfl rfl ?_
      refine Pl.fin [(6, _), (8, _), (25, _), (26, _), (27, _), (28, _)] ⟨rfl, rfl, rfl, rfl, rfl, rfl, trivial⟩ ?_
      refine Go'.keep [(6, _), (25, _), (26, _), (27, _)] ⟨rfl, rfl, rfl, rfl, trivial⟩ ?_
      refine Go'.inLoop ?_
      exact ih (j + 1, v7, _) H7 ⟨hlt, hA7, hF.trans' hF7 (fun _ _ _ h => h) (fun b o hb hz => by have := hZ1 b hz; omega), hFZ.trans' hF7 (fun _ _ _ h => h) (fun b o hb hz => hZ1 b hz), fun b hb => hb.elim (hZ1 b) (fun h => by omega)⟩ (by simp only; omega)
    · skip
      have e0' : j = us.length := by omega
      have e1' : ls.take j = ls := by rw [e0', hlen, List.take_length]
      rw [e1'] at hA
      -- region 11 (slices.go:503)
      refine Go'.region [(0, 0)] rfl ?_
      refine O.cmp rfl rfl rfl rfl rfl rfl (lssF (by omega)) ?_
      refine Pl.fin [(6, _), (25, _), (26, _), (27, _), (28, _)] ⟨rfl, rfl, rfl, rfl, rfl, trivial⟩ ?_
      refine Go'.seq ?_
      refine Go'.condF rfl ?_
      refine Go'.exit rfl ?_
      refine Go'.seq ?_
      -- region 15 (slices.go:506)
      refine Go'.region [(0, 0), (1, 0)] rfl ?_
      refine O.mv rfl rfl rfl rfl rfl ?_
      refine O.asg rfl rfl rfl rfl rfl ?_
      refine Pl.fin [(2, _)] ⟨rfl, trivial⟩ ?_
      refine Go'.ret (vs := [_]) Go.Proofs.Try.func45 Go.Proofs.Try.results45 ⟨rfl, trivial⟩ ?_
      exact ⟨hA.mono fun b _ hz => hZ1 b hz, hF⟩


end SI
theorem igitems_spec {B : World} {H : Mem} {d : Nat} {nl : Bool} {v u : Value} {ord : List Int} {l : List (Int × Int)} (hd : d = 0 ∨ 2 ≤ d ∧ d ≤ 128) (ho : InS EN H v ord) (hol : ord.length ≤ 4294967296) (hi : InS EJ H u l) (hll : l.length ≤ 4294967296) :
    Fn Try.prog B 43 [.agg #[v, .int .i64 (d : Int), .bool nl], u] H (fun r H' => OutS EJ H' r (Pl.puts (OO ord) l) ∧ Fr nowhere H H') := by
  obtain ⟨a, c, hu⟩ := hi.len
  subst hu
  obtain ⟨av, mv, cv, hv⟩ := InS.form ho
  subst hv
  have hF : Fr nowhere H H := Fr.refl _ _
  have hP := PD_ok hd
  refine fn_of Go.Proofs.Try.func43 rfl Go.Proofs.Try.ntmps43 ?_
  refine (show Go' _ _ _ _ 9 [(0, _), (1, _)] [.code _] _ from ?_)
  refine Go'.seq ?_
  -- region 0 (treeg.go:189)
  refine Go'.region [(0, 2), (1, 0)] rfl ?_
  refine O.box rfl rfl rfl rfl ?_
  intro B1 MB1
  refine ⟨trivial, ?_⟩
  have hsB1 := MB1.size
  replace hF := hF.trans (MB1.fr nowhere)
  have mm : Rd B1 H.size 0 [.slice av mv cv, .int .i64 (d : Int), .bool nl] := MB1.rd _ [] (by simp [Value.cells])
  have mm0 : cl B1 H.size 0 = some (.slice av mv cv) := mm 0 _ rfl
  have mm1 : cl B1 H.size (0 + 1) = some (.int .i64 (d : Int)) := mm 1 _ rfl
  refine O.asg rfl rfl rfl rfl rfl ?_
  refine Pl.fin [(1, _), (2, _), (4, _)] ⟨rfl, rfl, rfl, trivial⟩ ?_
  refine Go'.seq ?_
  -- region 1 (treeg.go:190)
  refine Go'.region [(0, 1), (1, 0), (2, 2), (3, 2), (4, 0)] rfl ?_
  refine O.lds rfl rfl rfl (fun w => ⟨Go.Proofs.Try.isAgg24 w, Go.Proofs.Try.sizeOf24 w⟩) rfl rfl mm ?_
  refine O.mv rfl rfl rfl rfl rfl ?_
  refine O.call rfl rfl rfl Go.Proofs.Try.call68 rfl (grow_spec hd (ho.fr hF) hol (hi.fr hF) hll) ?_
  rintro _ H3 ⟨I, hIo, hIw, hIb, tr, S, rfl, hM, hF3, hS⟩
  have hs3 := hF3.size
  replace hF := hF.trans hF3
  replace mm := hF3.rd mm (fun _ _ => nw)
  replace mm0 := hF3.keep mm0 nw
  replace mm1 := hF3.keep mm1 nw
  have hSb : ∀ b, S b ∨ (b < cx.base ∧ cx.own b) → B1.size ≤ b := fun b hb => hb.elim (hS b) (fun h => hIw b h.2)
  have hOO : OO ord = OI := by rw [← hIo]; rfl
  have hpl := Pl.puts_length OI l
  have hSlt := hM.lt
  have hbs := hM.tc.hb
  unfold ptr
  refine ⟨trivial, ?_⟩
  refine O.call rfl rfl rfl Go.Proofs.Try.call73 rfl (Items_spec hP hM (by omega)) ?_
  rintro v4 H4 ⟨h4, hF4⟩
  replace hF := hF.trans hF4
  replace mm := hF4.rd mm (fun _ _ => nw)
  replace mm0 := hF4.keep mm0 nw
  replace mm1 := hF4.keep mm1 nw
  refine ⟨trivial, ?_⟩
  refine O.asg rfl rfl rfl rfl rfl ?_
  refine Pl.fin [(4, _)] ⟨rfl, trivial⟩ ?_
  refine Go'.ret (vs := [_]) Go.Proofs.Try.func43 Go.Proofs.Try.results43 ⟨rfl, trivial⟩ ?_
  rw [hOO]; exact ⟨h4, hF⟩

theorem alive_spec {B : World} {H : Mem} : Fn Try.prog B 25 [] H (fun r H' => r = .bool true ∧ Fr nowhere H H') := by
  have hal : (Pl.puts (OO []) ((exl.drop 0).take (3 - 0))).length = 3 := by decide
  refine fn_of Go.Proofs.Try.func25 rfl Go.Proofs.Try.ntmps25 ?_
  refine (show Go' _ _ _ _ 7 [] [.code _] _ from ?_)
  refine Go'.seq ?_
  -- region 0 (help.go:108)
  refine Go'.region [(0, 0)] rfl ?_
  refine O.asg rfl rfl rfl rfl rfl ?_
  refine Pl.fin [(0, _)] ⟨rfl, trivial⟩ ?_
  refine Go'.seq ?_
  -- region 1 (help.go:108)
  refine Go'.region [(0, 2), (1, 2), (2, 0), (3, 2), (4, 0), (5, 0), (6, 0)] rfl ?_
  refine O.call rfl rfl rfl Go.Proofs.Try.call30 rfl exMake_spec ?_
  rintro _ H1 ⟨rfl, hF1⟩
  refine ⟨trivial, ?_⟩
  refine O.call rfl rfl rfl Go.Proofs.Try.call32 rfl exItems_spec ?_
  rintro ev H2 ⟨hev, hF2⟩
  obtain ⟨ea, ec, hee⟩ := hev.len
  subst hee
  refine ⟨trivial, ?_⟩
  refine O.slcIn (E := EJ) (jh := 3) rfl rfl rfl rfl Go.Proofs.Try.underlying25 Go.Proofs.Try.sizeOf27 rfl hev ⟨_, by rfl⟩ rfl (by decide) (by decide) ?_
  intro sv hsv
  refine O.call rfl rfl rfl Go.Proofs.Try.call43 rfl (igitems_spec (d := 2) (by decide) (InS.nil EN _) (by decide) hsv (by decide)) ?_
  rintro gv H3 ⟨hg, hF3⟩
  obtain ⟨ga, gc, hge⟩ := hg.inS.len
  subst hge
  refine ⟨trivial, ?_⟩
  refine O.len rfl rfl rfl rfl Go.Proofs.Try.underlying25 rfl ?_
  refine O.cmp rfl rfl rfl rfl rfl rfl (eqlT (by rw [hal]; rfl)) ?_
  refine O.asg rfl rfl rfl rfl rfl ?_
  refine Pl.fin [(0, _)] ⟨rfl, trivial⟩ ?_
  refine Go'.ret (vs := [_]) Go.Proofs.Try.func25 Go.Proofs.Try.results25 ⟨rfl, trivial⟩ ?_
  exact ⟨rfl, (hF1.trans hF2).trans hF3⟩

end Go.Bt.FG
namespace Go.Bt.FG
open Go Go.Proofs
set_option maxRecDepth 20000
set_option maxHeartbeats 4000000
set_option linter.unusedVariables false
set_option linter.unusedSectionVars false

theorem wf_u8 {z : Int} (h : (Lit.int .u8 z).wf = true) : 0 ≤ z ∧ z < 256 := by
  have e1 : IntKind.u8.min = 0 := rfl
  have e2 : IntKind.u8.max = 255 := rfl
  unfold Lit.wf at h
  rw [Bool.and_eq_true, decide_eq_true_eq, decide_eq_true_eq, e1, e2] at h
  omega
theorem fnGOrders {B : World} {H : Mem} {z : Int} {nl : Bool} {v u : Value} {ord : List Int} {l : List (Int × Int)} {kk : Int} (ho : InS EN H v ord) (hi : InS EJ H u l) (hkk : 0 ≤ kk ∧ kk < 256) :
    Fn Try.prog B 12 [.agg #[v, .int .i64 z, .bool nl], u, .int .u8 kk] H (fun r H' => r = .bool true ∧ Fr nowhere H H') := by
  obtain ⟨a, c, hu⟩ := hi.len
  subst hu
  obtain ⟨av, mv, cv, hv⟩ := InS.form ho
  subst hv
  have hF : Fr nowhere H H := Fr.refl _ _
  refine fn_of Go.Proofs.Try.func12 rfl Go.Proofs.Try.ntmps12 ?_
  refine (show Go' _ _ _ _ 67 [(0, _), (1, _), (2, _)] [.code _] _ from ?_)
  refine Go'.seq ?_
  -- region 0 (trees.go:80)
  refine Go'.region [(0, 2), (1, 0)] rfl ?_
  refine O.box rfl rfl rfl rfl ?_
  intro B1 MB1
  refine ⟨trivial, ?_⟩
  have hsB1 := MB1.size
  replace hF := hF.trans (MB1.fr nowhere)
  have mm : Rd B1 H.size 0 [.slice av mv cv, .int .i64 z, .bool nl] := MB1.rd _ [] (by simp [Value.cells])
  have mm0 : cl B1 H.size 0 = some (.slice av mv cv) := mm 0 _ rfl
  have mm1 : cl B1 H.size (0 + 1) = some (.int .i64 z) := mm 1 _ rfl
  refine O.asg rfl rfl rfl rfl rfl ?_
  refine Pl.fin [(1, _), (2, _), (3, _), (6, _)] ⟨rfl, rfl, rfl, rfl, trivial⟩ ?_
  refine Go'.seq ?_
  refine Go'.seq ?_
  cases hoz : decide (ord.length ≤ 2147483647)
  · skip
    -- region 1 (trees.go:81)
    refine Go'.region [(0, 1), (1, 2), (2, 0), (3, 0), (4, 0), (5, 0), (6, 0), (7, 0)] rfl ?_
    refine O.lds rfl rfl rfl (fun w => ⟨Go.Proofs.Try.isAgg24 w, Go.Proofs.Try.sizeOf24 w⟩) rfl rfl mm ?_
    refine O.call rfl rfl rfl Go.Proofs.Try.call23 rfl (zzFits1_spec (ho.fr hF) hoz) ?_
    rintro _ Hz ⟨rfl, hFz⟩
    replace hF := hF.trans hFz
    replace mm := hFz.rd mm (fun _ _ => nw)
    replace mm0 := hFz.keep mm0 nw
    replace mm1 := hFz.keep mm1 nw
    refine ⟨trivial, ?_⟩
    refine O.not rfl rfl rfl rfl rfl ?_
    refine O.mv rfl rfl rfl rfl rfl ?_
    refine Pl.pass rfl rfl rfl rfl ?_
    refine Pl.pass rfl rfl rfl rfl ?_
    refine Pl.pass rfl rfl rfl rfl ?_
    refine O.pick rfl rfl rfl rfl rfl rfl ?_
    refine Pl.fin [(1, _), (2, _), (3, _), (6, _), (16, _)] ⟨rfl, rfl, rfl, rfl, rfl, trivial⟩ ?_
    refine Go'.condT rfl ?_
    refine Go'.seq ?_
    -- region 2 (trees.go:82)
    refine Go'.region [(0, 0)] rfl ?_
    refine O.asg rfl rfl rfl rfl rfl ?_
    refine Pl.fin [(1, _), (2, _), (3, _), (6, _)] ⟨rfl, rfl, rfl, rfl, trivial⟩ ?_
    refine Go'.ret (vs := [_]) Go.Proofs.Try.func12 Go.Proofs.Try.results12 ⟨rfl, trivial⟩ ?_
    exact ⟨rfl, hF⟩
  · skip
    have hoz2 := of_decide_eq_true hoz
    by_cases hb_lenl : (2147483647 : Int) < (l.length : Int)
    · skip
      -- region 1 (trees.go:81)
      refine Go'.region [(0, 1), (1, 2), (2, 0), (3, 0), (4, 0), (5, 0), (6, 0), (7, 0)] rfl ?_
      refine O.lds rfl rfl rfl (fun w => ⟨Go.Proofs.Try.isAgg24 w, Go.Proofs.Try.sizeOf24 w⟩) rfl rfl mm ?_
      refine O.call rfl rfl rfl Go.Proofs.Try.call23 rfl (zzFits1_spec (ho.fr hF) hoz) ?_
      rintro _ Hz ⟨rfl, hFz⟩
      replace hF := hF.trans hFz
      replace mm := hFz.rd mm (fun _ _ => nw)
      replace mm0 := hFz.keep mm0 nw
      replace mm1 := hFz.keep mm1 nw
      refine ⟨trivial, ?_⟩
      refine O.not rfl rfl rfl rfl rfl ?_
      refine O.mv rfl rfl rfl rfl rfl ?_
      refine O.mv rfl rfl rfl rfl rfl ?_
      refine O.len rfl rfl rfl rfl Go.Proofs.Try.underlying25 rfl ?_
      refine O.cmp rfl rfl rfl rfl rfl rfl (gtrT (by omega)) ?_
      refine O.pick rfl rfl rfl rfl rfl rfl ?_
      refine Pl.fin [(1, _), (2, _), (3, _), (6, _), (16, _)] ⟨rfl, rfl, rfl, rfl, rfl, trivial⟩ ?_
      refine Go'.condT rfl ?_
      refine Go'.seq ?_
      -- region 2 (trees.go:82)
      refine Go'.region [(0, 0)] rfl ?_
      refine O.asg rfl rfl rfl rfl rfl ?_
      refine Pl.fin [(1, _), (2, _), (3, _), (6, _)] ⟨rfl, rfl, rfl, rfl, trivial⟩ ?_
      refine Go'.ret (vs := [_]) Go.Proofs.Try.func12 Go.Proofs.Try.results12 ⟨rfl, trivial⟩ ?_
      exact ⟨rfl, hF⟩
    · skip
      -- region 1 (trees.go:81)
      refine Go'.region [(0, 1), (1, 2), (2, 0), (3, 0), (4, 0), (5, 0), (6, 0), (7, 0)] rfl ?_
      refine O.lds rfl rfl rfl (fun w => ⟨Go.Proofs.Try.isAgg24 w, Go.Proofs.Try.sizeOf24 w⟩) rfl rfl mm ?_
      refine O.call rfl rfl rfl Go.Proofs.Try.call23 rfl (zzFits1_spec (ho.fr hF) hoz) ?_
      rintro _ Hz ⟨rfl, hFz⟩
      replace hF := hF.trans hFz
      replace mm := hFz.rd mm (fun _ _ => nw)
      replace mm0 := hFz.keep mm0 nw
      replace mm1 := hFz.keep mm1 nw
      refine ⟨trivial, ?_⟩
      refine O.not rfl rfl rfl rfl rfl ?_
      refine O.mv rfl rfl rfl rfl rfl ?_
      refine O.mv rfl rfl rfl rfl rfl ?_
      refine O.len rfl rfl rfl rfl Go.Proofs.Try.underlying25 rfl ?_
      refine O.cmp rfl rfl rfl rfl rfl rfl (gtrF (by omega)) ?_
      refine O.pick rfl rfl rfl rfl rfl rfl ?_
      refine Pl.fin [(1, _), (2, _), (3, _), (6, _), (16, _)] ⟨rfl, rfl, rfl, rfl, rfl, trivial⟩ ?_
      refine Go'.condF rfl ?_
      refine Go'.skip ?_
      refine Go'.seq ?_
      refine Go'.seq ?_
      have hpl := Pl.puts_length (OO ord) l
      cases hfz : fitsb z
      · skip
        -- region 3 (trees.go:84)
        refine Go'.region [(0, 1), (1, 2), (2, 0), (3, 0), (4, 0), (5, 1), (6, 0), (7, 2), (8, 0), (9, 0), (10, 0), (11, 0), (12, 0), (13, 0), (14, 0), (15, 0), (16, 0), (17, 0)] rfl ?_
        refine O.lds rfl rfl rfl (fun w => ⟨Go.Proofs.Try.isAgg24 w, Go.Proofs.Try.sizeOf24 w⟩) rfl rfl mm ?_
        refine O.call rfl rfl rfl Go.Proofs.Try.call24 rfl (lfits_spec ⟨_, _, _, rfl⟩ hfz) ?_
        rintro _ H6 ⟨rfl, hF6⟩
        replace hF := hF.trans hF6
        replace mm := hF6.rd mm (fun _ _ => nw)
        replace mm0 := hF6.keep mm0 nw
        replace mm1 := hF6.keep mm1 nw
        refine ⟨trivial, ?_⟩
        refine O.not rfl rfl rfl rfl rfl ?_
        refine O.mv rfl rfl rfl rfl rfl ?_
        refine Pl.pass rfl rfl rfl rfl ?_
        refine Pl.pass rfl rfl rfl rfl ?_
        refine Pl.pass rfl rfl rfl rfl ?_
        refine Pl.pass2 rfl rfl rfl rfl trivial ?_
        refine Pl.pass rfl rfl rfl rfl ?_
        refine Pl.pass rfl rfl rfl rfl ?_
        refine Pl.pass rfl rfl rfl rfl ?_
        refine Pl.pass rfl rfl rfl rfl ?_
        refine O.pick rfl rfl rfl rfl rfl rfl ?_
        refine O.mv rfl rfl rfl rfl rfl ?_
        refine Pl.pass rfl rfl rfl rfl ?_
        refine Pl.pass rfl rfl rfl rfl ?_
        refine Pl.pass rfl rfl rfl rfl ?_
        refine O.pick rfl rfl rfl rfl rfl rfl ?_
        refine Pl.fin [(1, _), (2, _), (3, _), (6, _), (34, _)] ⟨rfl, rfl, rfl, rfl, rfl, trivial⟩ ?_
        refine Go'.condT rfl ?_
        refine Go'.seq ?_
        -- region 4 (trees.go:85)
        refine Go'.region [(0, 2), (1, 0)] rfl ?_
        refine O.call rfl rfl rfl Go.Proofs.Try.call25 rfl alive_spec ?_
        rintro _ Hv ⟨rfl, hFv⟩
        replace hF := hF.trans hFv
        replace mm := hFv.rd mm (fun _ _ => nw)
        replace mm0 := hFv.keep mm0 nw
        replace mm1 := hFv.keep mm1 nw
        refine ⟨trivial, ?_⟩
        refine O.asg rfl rfl rfl rfl rfl ?_
        refine Pl.fin [(1, _), (2, _), (3, _), (6, _)] ⟨rfl, rfl, rfl, rfl, trivial⟩ ?_
        refine Go'.ret (vs := [_]) Go.Proofs.Try.func12 Go.Proofs.Try.results12 ⟨rfl, trivial⟩ ?_
        exact ⟨rfl, hF⟩
      · skip
        obtain ⟨d, rfl, hd⟩ := fitsb_nat hfz
        by_cases hne : (Pl.puts (OO ord) l).length = l.length
        rotate_left
        · skip
          -- region 3 (trees.go:84)
          refine Go'.region [(0, 1), (1, 2), (2, 0), (3, 0), (4, 0), (5, 1), (6, 0), (7, 2), (8, 0), (9, 0), (10, 0), (11, 0), (12, 0), (13, 0), (14, 0), (15, 0), (16, 0), (17, 0)] rfl ?_
          refine O.lds rfl rfl rfl (fun w => ⟨Go.Proofs.Try.isAgg24 w, Go.Proofs.Try.sizeOf24 w⟩) rfl rfl mm ?_
          refine O.call rfl rfl rfl Go.Proofs.Try.call24 rfl (lfits_spec ⟨_, _, _, rfl⟩ hfz) ?_
          rintro _ H6 ⟨rfl, hF6⟩
          replace hF := hF.trans hF6
          replace mm := hF6.rd mm (fun _ _ => nw)
          replace mm0 := hF6.keep mm0 nw
          replace mm1 := hF6.keep mm1 nw
          refine ⟨trivial, ?_⟩
          refine O.not rfl rfl rfl rfl rfl ?_
          refine O.mv rfl rfl rfl rfl rfl ?_
          refine O.faz rfl rfl rfl rfl ⟨_, _, _, Go.Proofs.Try.underlying24, rfl, rfl, Go.Proofs.Try.sizeOf22⟩ rfl ?_
          refine O.ld rfl rfl rfl (fun w => ⟨Go.Proofs.Try.isAgg22 w, Go.Proofs.Try.sizeOf22 w⟩) rfl mm0 ?_
          refine O.mv rfl rfl rfl rfl rfl ?_
          refine O.call rfl rfl rfl Go.Proofs.Try.call42 rfl (tree_spec (ho.fr hF) (by omega) (hi.fr hF) (by omega)) ?_
          rintro tv H7 ⟨hA7, hF7⟩
          replace hF := hF.trans hF7
          replace mm := hF7.rd mm (fun _ _ => nw)
          replace mm0 := hF7.keep mm0 nw
          replace mm1 := hF7.keep mm1 nw
          obtain ⟨ta, tc, htv⟩ := hA7.inS.len
          subst htv
          refine ⟨trivial, ?_⟩
          refine O.len rfl rfl rfl rfl Go.Proofs.Try.underlying25 rfl ?_
          refine O.mv rfl rfl rfl rfl rfl ?_
          refine O.len rfl rfl rfl rfl Go.Proofs.Try.underlying25 rfl ?_
          refine O.cmp rfl rfl rfl rfl rfl rfl (neqT (by omega)) ?_
          refine O.pick rfl rfl rfl rfl rfl rfl ?_
          refine O.mv rfl rfl rfl rfl rfl ?_
          refine Pl.pass rfl rfl rfl rfl ?_
          refine Pl.pass rfl rfl rfl rfl ?_
          refine Pl.pass rfl rfl rfl rfl ?_
          refine O.pick rfl rfl rfl rfl rfl rfl ?_
          refine Pl.fin [(1, _), (2, _), (3, _), (6, _), (34, _)] ⟨rfl, rfl, rfl, rfl, rfl, trivial⟩ ?_
          refine Go'.condT rfl ?_
          refine Go'.seq ?_
          -- region 4 (trees.go:85)
          refine Go'.region [(0, 2), (1, 0)] rfl ?_
          refine O.call rfl rfl rfl Go.Proofs.Try.call25 rfl alive_spec ?_
          rintro _ Hv ⟨rfl, hFv⟩
          replace hF := hF.trans hFv
          replace mm := hFv.rd mm (fun _ _ => nw)
          replace mm0 := hFv.keep mm0 nw
          replace mm1 := hFv.keep mm1 nw
          refine ⟨trivial, ?_⟩
          refine O.asg rfl rfl rfl rfl rfl ?_
          refine Pl.fin [(1, _), (2, _), (3, _), (6, _)] ⟨rfl, rfl, rfl, rfl, trivial⟩ ?_
          refine Go'.ret (vs := [_]) Go.Proofs.Try.func12 Go.Proofs.Try.results12 ⟨rfl, trivial⟩ ?_
          exact ⟨rfl, hF⟩
        · skip
          by_cases h0 : l.length = 0
          · skip
            -- region 3 (trees.go:84)
            refine Go'.region [(0, 1), (1, 2), (2, 0), (3, 0), (4, 0), (5, 1), (6, 0), (7, 2), (8, 0), (9, 0), (10, 0), (11, 0), (12, 0), (13, 0), (14, 0), (15, 0), (16, 0), (17, 0)] rfl ?_
            refine O.lds rfl rfl rfl (fun w => ⟨Go.Proofs.Try.isAgg24 w, Go.Proofs.Try.sizeOf24 w⟩) rfl rfl mm ?_
            refine O.call rfl rfl rfl Go.Proofs.Try.call24 rfl (lfits_spec ⟨_, _, _, rfl⟩ hfz) ?_
            rintro _ H6 ⟨rfl, hF6⟩
            replace hF := hF.trans hF6
            replace mm := hF6.rd mm (fun _ _ => nw)
            replace mm0 := hF6.keep mm0 nw
            replace mm1 := hF6.keep mm1 nw
            refine ⟨trivial, ?_⟩
            refine O.not rfl rfl rfl rfl rfl ?_
            refine O.mv rfl rfl rfl rfl rfl ?_
            refine O.faz rfl rfl rfl rfl ⟨_, _, _, Go.Proofs.Try.underlying24, rfl, rfl, Go.Proofs.Try.sizeOf22⟩ rfl ?_
            refine O.ld rfl rfl rfl (fun w => ⟨Go.Proofs.Try.isAgg22 w, Go.Proofs.Try.sizeOf22 w⟩) rfl mm0 ?_
            refine O.mv rfl rfl rfl rfl rfl ?_
            refine O.call rfl rfl rfl Go.Proofs.Try.call42 rfl (tree_spec (ho.fr hF) (by omega) (hi.fr hF) (by omega)) ?_
            rintro tv H7 ⟨hA7, hF7⟩
            replace hF := hF.trans hF7
            replace mm := hF7.rd mm (fun _ _ => nw)
            replace mm0 := hF7.keep mm0 nw
            replace mm1 := hF7.keep mm1 nw
            obtain ⟨ta, tc, htv⟩ := hA7.inS.len
            subst htv
            refine ⟨trivial, ?_⟩
            refine O.len rfl rfl rfl rfl Go.Proofs.Try.underlying25 rfl ?_
            refine O.mv rfl rfl rfl rfl rfl ?_
            refine O.len rfl rfl rfl rfl Go.Proofs.Try.underlying25 rfl ?_
            refine O.cmp rfl rfl rfl rfl rfl rfl (neqF (by omega)) ?_
            refine O.pick rfl rfl rfl rfl rfl rfl ?_
            refine O.mv rfl rfl rfl rfl rfl ?_
            refine O.mv rfl rfl rfl rfl rfl ?_
            refine O.len rfl rfl rfl rfl Go.Proofs.Try.underlying25 rfl ?_
            refine O.cmp rfl rfl rfl rfl rfl rfl (eqlT (by omega)) ?_
            refine O.pick rfl rfl rfl rfl rfl rfl ?_
            refine Pl.fin [(1, _), (2, _), (3, _), (6, _), (34, _)] ⟨rfl, rfl, rfl, rfl, rfl, trivial⟩ ?_
            refine Go'.condT rfl ?_
            refine Go'.seq ?_
            -- region 4 (trees.go:85)
            refine Go'.region [(0, 2), (1, 0)] rfl ?_
            refine O.call rfl rfl rfl Go.Proofs.Try.call25 rfl alive_spec ?_
            rintro _ Hv ⟨rfl, hFv⟩
            replace hF := hF.trans hFv
            replace mm := hFv.rd mm (fun _ _ => nw)
            replace mm0 := hFv.keep mm0 nw
            replace mm1 := hFv.keep mm1 nw
            refine ⟨trivial, ?_⟩
            refine O.asg rfl rfl rfl rfl rfl ?_
            refine Pl.fin [(1, _), (2, _), (3, _), (6, _)] ⟨rfl, rfl, rfl, rfl, trivial⟩ ?_
            refine Go'.ret (vs := [_]) Go.Proofs.Try.func12 Go.Proofs.Try.results12 ⟨rfl, trivial⟩ ?_
            exact ⟨rfl, hF⟩
          · skip
            -- region 3 (trees.go:84)
            refine Go'.region [(0, 1), (1, 2), (2, 0), (3, 0), (4, 0), (5, 1), (6, 0), (7, 2), (8, 0), (9, 0), (10, 0), (11, 0), (12, 0), (13, 0), (14, 0), (15, 0), (16, 0), (17, 0)] rfl ?_
            refine O.lds rfl rfl rfl (fun w => ⟨Go.Proofs.Try.isAgg24 w, Go.Proofs.Try.sizeOf24 w⟩) rfl rfl mm ?_
            refine O.call rfl rfl rfl Go.Proofs.Try.call24 rfl (lfits_spec ⟨_, _, _, rfl⟩ hfz) ?_
            rintro _ H6 ⟨rfl, hF6⟩
            replace hF := hF.trans hF6
            replace mm := hF6.rd mm (fun _ _ => nw)
            replace mm0 := hF6.keep mm0 nw
            replace mm1 := hF6.keep mm1 nw
            refine ⟨trivial, ?_⟩
            refine O.not rfl rfl rfl rfl rfl ?_
            refine O.mv rfl rfl rfl rfl rfl ?_
            refine O.faz rfl rfl rfl rfl ⟨_, _, _, Go.Proofs.Try.underlying24, rfl, rfl, Go.Proofs.Try.sizeOf22⟩ rfl ?_
            refine O.ld rfl rfl rfl (fun w => ⟨Go.Proofs.Try.isAgg22 w, Go.Proofs.Try.sizeOf22 w⟩) rfl mm0 ?_
            refine O.mv rfl rfl rfl rfl rfl ?_
            refine O.call rfl rfl rfl Go.Proofs.Try.call42 rfl (tree_spec (ho.fr hF) (by omega) (hi.fr hF) (by omega)) ?_
            rintro tv H7 ⟨hA7, hF7⟩
            replace hF := hF.trans hF7
            replace mm := hF7.rd mm (fun _ _ => nw)
            replace mm0 := hF7.keep mm0 nw
            replace mm1 := hF7.keep mm1 nw
            obtain ⟨ta, tc, htv⟩ := hA7.inS.len
            subst htv
            refine ⟨trivial, ?_⟩
            refine O.len rfl rfl rfl rfl Go.Proofs.Try.underlying25 rfl ?_
            refine O.mv rfl rfl rfl rfl rfl ?_
            refine O.len rfl rfl rfl rfl Go.Proofs.Try.underlying25 rfl ?_
            refine O.cmp rfl rfl rfl rfl rfl rfl (neqF (by omega)) ?_
            refine O.pick rfl rfl rfl rfl rfl rfl ?_
            refine O.mv rfl rfl rfl rfl rfl ?_
            refine O.mv rfl rfl rfl rfl rfl ?_
            refine O.len rfl rfl rfl rfl Go.Proofs.Try.underlying25 rfl ?_
            refine O.cmp rfl rfl rfl rfl rfl rfl (eqlF (by omega)) ?_
            refine O.pick rfl rfl rfl rfl rfl rfl ?_
            refine Pl.fin [(1, _), (2, _), (3, _), (6, _), (34, _)] ⟨rfl, rfl, rfl, rfl, rfl, trivial⟩ ?_
            refine Go'.condF rfl ?_
            refine Go'.skip ?_
            refine Go'.seq ?_
            obtain ⟨kn, rfl⟩ := Int.eq_ofNat_of_zero_le hkk.1
            obtain ⟨i, hi'⟩ : ∃ i, i = kn % l.length := ⟨_, rfl⟩
            have hil : i < l.length := by rw [hi']; exact Nat.mod_lt _ (by omega)
            have hir : ((kn : Int)).tmod (l.length : Int) = (i : Int) := by rw [Int.tmod_eq_emod_of_nonneg (by omega), hi']; rfl
            -- region 5 (trees.go:87)
            refine Go'.region [(0, 0), (1, 2), (2, 0), (3, 0), (4, 0), (5, 0)] rfl ?_
            refine O.mv rfl rfl rfl rfl rfl ?_
            refine O.cvi (v := ((kn : Nat) : Int)) rfl rfl rfl (by rw [Go.Proofs.Try.underlying5]; rfl) Go.Proofs.Try.underlying3 rfl rfl (wrap_id (by omega)) trivial ?_
            refine O.mv rfl rfl rfl rfl rfl ?_
            refine O.len rfl rfl rfl rfl Go.Proofs.Try.underlying25 rfl ?_
            refine O.rem (((i : Nat) : Int)) rfl rfl rfl rfl rfl rfl (by omega) hir ?_
            refine O.asg rfl rfl rfl rfl rfl ?_
            refine Pl.fin [(1, _), (3, _), (6, _), (7, _)] ⟨rfl, rfl, rfl, rfl, trivial⟩ ?_
            refine Go'.seq ?_
            -- region 6 (trees.go:88)
            refine Go'.region [(0, 1), (1, 0), (2, 2), (3, 0)] rfl ?_
            refine O.lds rfl rfl rfl (fun w => ⟨Go.Proofs.Try.isAgg24 w, Go.Proofs.Try.sizeOf24 w⟩) rfl rfl mm ?_
            refine O.mv rfl rfl rfl rfl rfl ?_
            refine O.call rfl rfl rfl Go.Proofs.Try.call43 rfl (igitems_spec hd (ho.fr hF) (by omega) (hi.fr hF) (by omega)) ?_
            rintro g8 H8 ⟨hg8, hF8⟩
            replace hF := hF.trans hF8
            replace mm := hF8.rd mm (fun _ _ => nw)
            replace mm0 := hF8.keep mm0 nw
            replace mm1 := hF8.keep mm1 nw
            have hI8 := hg8.inS
            obtain ⟨ga, gc, hge⟩ := hI8.len
            subst hge
            refine ⟨trivial, ?_⟩
            refine O.asg rfl rfl rfl rfl rfl ?_
            refine Pl.fin [(1, _), (3, _), (6, _), (7, _), (8, _)] ⟨rfl, rfl, rfl, rfl, rfl, trivial⟩ ?_
            refine Go'.seq ?_
            have hp1 : Pl.puts (OO ord) l.reverse = Pl.puts (OO ord) l := Pl.puts_perm (OO ord) hne l.reverse_perm.symm
            have hp2 : Pl.puts (OO ord) (l.drop i ++ l.take i) = Pl.puts (OO ord) l := Pl.puts_perm (OO ord) hne (by
              have h := List.perm_append_comm (l₁ := l.take i) (l₂ := l.drop i)
              rwa [List.take_append_drop] at h)
            have hrl : l.reverse.length = l.length := List.length_reverse
            -- region 7 (trees.go:89)
            refine Go'.draw (fun H' => Rd H' H.size 0 [.slice av mv cv, .int .i64 (d : Int), .bool nl]) [(0, 0), (1, 0), (4, 0), (2, 2), (3, 2), (5, 2), (6, 0), (7, 0), (8, 0), (9, 0), (10, 0), (11, 0), (12, 0), (13, 0), (17, 0), (14, 2), (15, 2), (16, 2), (18, 2), (19, 0), (20, 0), (21, 2), (22, 0), (23, 0)] (by kernel_rfl) (by kernel_rfl) (mm) ?_
            refine O.ldsC rfl rfl rfl (fun w => ⟨Go.Proofs.Try.isAgg24 w, Go.Proofs.Try.sizeOf24 w⟩) rfl rfl (fun _ h => h) ?_
            refine O.mv rfl rfl rfl rfl rfl ?_
            refine O.mv rfl rfl rfl rfl rfl ?_
            refine O.call rfl rfl rfl Go.Proofs.Try.call44 rfl (SI.turnedA_spec (hi.fr hF) (by omega)) ?_
            rintro tv9 H9 ⟨h9, hF9⟩
            replace hF := hF.trans hF9
            replace mm := hF9.rd mm (fun _ _ => nw)
            replace mm0 := hF9.keep mm0 nw
            replace mm1 := hF9.keep mm1 nw
            replace hI8 := hI8.fr hF9
            try replace hx1 := hx1.fr hF9
            try replace hx2 := hx2.fr hF9
            refine ⟨mm, ?_⟩
            refine O.call rfl rfl rfl Go.Proofs.Try.call43 rfl (igitems_spec hd (ho.fr hF) (by omega) h9.inS (by simp only [List.length_reverse, List.length_append, List.length_drop, List.length_take]; omega)) ?_
            rintro g10 H10 ⟨hg10, hF10⟩
            replace hF := hF.trans hF10
            replace mm := hF10.rd mm (fun _ _ => nw)
            replace mm0 := hF10.keep mm0 nw
            replace mm1 := hF10.keep mm1 nw
            replace hI8 := hI8.fr hF10
            try replace hx1 := hx1.fr hF10
            try replace hx2 := hx2.fr hF10
            rw [hp1] at hg10
            refine ⟨mm, ?_⟩
            refine O.callQ rfl rfl rfl Go.Proofs.Try.call28 rfl (eqItems_spec hg10.inS hI8 (by omega)) mm ?_
            refine O.mv rfl rfl rfl rfl rfl ?_
            refine O.ldsC rfl rfl rfl (fun w => ⟨Go.Proofs.Try.isAgg24 w, Go.Proofs.Try.sizeOf24 w⟩) rfl rfl (fun _ h => h) ?_
            refine O.mv rfl rfl rfl rfl rfl ?_
            refine O.mv rfl rfl rfl rfl rfl ?_
            refine O.slcIn (E := EJ) (jl := i) rfl rfl rfl rfl Go.Proofs.Try.underlying25 Go.Proofs.Try.sizeOf27 rfl (hi.fr hF) rfl ⟨_, by rfl⟩ (by omega) (by omega) ?_
            intro x1 hx1
            rw [List.take_of_length_le (by rw [List.length_drop]; omega)] at hx1
            obtain ⟨xa1, xc1, hxe1⟩ := hx1.len
            subst hxe1
            refine O.mv rfl rfl rfl rfl rfl ?_
            refine O.mv rfl rfl rfl rfl rfl ?_
            refine O.slcIn (E := EJ) (jh := i) rfl rfl rfl rfl Go.Proofs.Try.underlying25 Go.Proofs.Try.sizeOf27 rfl (hi.fr hF) ⟨_, by rfl⟩ rfl (by omega) (by omega) ?_
            intro x2 hx2
            rw [List.drop_zero, Nat.sub_zero] at hx2
            obtain ⟨xa2, xc2, hxe2⟩ := hx2.len
            subst hxe2
            refine O.mv rfl rfl rfl rfl rfl ?_
            refine O.bsl (cs := (row SI.ESl [(xa1, (l.drop i).length, xc1), (xa2, (l.take i).length, xc2)])) rfl rfl rfl ⟨Go.Proofs.Try.underlying55, Go.Proofs.Try.sizeOf25, Go.Proofs.Try.zeroValue25, ⟨_, Go.Proofs.Try.typeInfo25, rfl⟩, rfl, by decide, by decide⟩ rfl (by decide) (by kernel_rfl) ?_
            intro Ha Ma
            have hFa := Ma.fr nowhere
            replace hF := hF.trans hFa
            replace mm := hFa.rd mm (fun _ _ => nw)
            replace mm0 := hFa.keep mm0 nw
            replace mm1 := hFa.keep mm1 nw
            replace hI8 := hI8.fr hFa
            try replace hx1 := hx1.fr hFa
            try replace hx2 := hx2.fr hFa
            have hev : InS SI.ESl Ha (.slice (some ⟨H10.size, 0, none⟩) 2 2) [(xa1, (l.drop i).length, xc1), (xa2, (l.take i).length, xc2)] := .inl ⟨H10.size, 0, 2, rfl, Nat.le_refl _, Ma.rd _ [] (by simp [row, SI.ESl])⟩
            have hess : SI.InSS EJ Ha [(xa1, (l.drop i).length, xc1), (xa2, (l.take i).length, xc2)] [l.drop i, l.take i] := ⟨hx1, hx2, trivial⟩
            have hcl : ([l.drop i, l.take i].flatten : List (Int × Int)) = l.drop i ++ l.take i := by simp
            refine ⟨mm, ?_⟩
            refine O.call rfl rfl rfl Go.Proofs.Try.call45 rfl (SI.concatA_spec hev hess (by rw [hcl, List.length_append, List.length_drop, List.length_take]; omega) (by simp only [List.length_cons, List.length_nil]; omega)) ?_
            rintro vb Hb ⟨hb, hFb⟩
            rw [hcl] at hb
            replace hF := hF.trans hFb
            replace mm := hFb.rd mm (fun _ _ => nw)
            replace mm0 := hFb.keep mm0 nw
            replace mm1 := hFb.keep mm1 nw
            replace hI8 := hI8.fr hFb
            try replace hx1 := hx1.fr hFb
            try replace hx2 := hx2.fr hFb
            refine ⟨mm, ?_⟩
            refine O.call rfl rfl rfl Go.Proofs.Try.call43 rfl (igitems_spec hd (ho.fr hF) (by omega) hb.inS (by simp only [List.length_reverse, List.length_append, List.length_drop, List.length_take]; omega)) ?_
            rintro g11 H11 ⟨hg11, hF11⟩
            replace hF := hF.trans hF11
            replace mm := hF11.rd mm (fun _ _ => nw)
            replace mm0 := hF11.keep mm0 nw
            replace mm1 := hF11.keep mm1 nw
            replace hI8 := hI8.fr hF11
            try replace hx1 := hx1.fr hF11
            try replace hx2 := hx2.fr hF11
            rw [hp2] at hg11
            refine ⟨mm, ?_⟩
            refine O.callQ rfl rfl rfl Go.Proofs.Try.call28 rfl (eqItems_spec hg11.inS hI8 (by omega)) mm ?_
            refine O.pick rfl rfl rfl rfl rfl rfl ?_
            refine O.mv rfl rfl rfl rfl rfl ?_
            refine O.call rfl rfl rfl Go.Proofs.Try.call25 rfl alive_spec ?_
            rintro _ Hv ⟨rfl, hFv⟩
            replace hF := hF.trans hFv
            replace mm := hFv.rd mm (fun _ _ => nw)
            replace mm0 := hFv.keep mm0 nw
            replace mm1 := hFv.keep mm1 nw
            refine ⟨mm, ?_⟩
            refine O.pick rfl rfl rfl rfl rfl rfl ?_
            refine O.asg rfl rfl rfl rfl rfl ?_
            refine Pl.fin [(6, _)] ⟨rfl, trivial⟩ ?_
            refine Go'.ret (vs := [_]) Go.Proofs.Try.func12 Go.Proofs.Try.results12 ⟨rfl, trivial⟩ ?_
            exact ⟨rfl, hF⟩

end Go.Bt.FG
