/- Contracts of functions of the program, proved by walking through their code. Conditions: those that each theorem names. -/
import Derived.Test.YtmboghgpakhceaaToiC
namespace Go.Bt.FG
open Go Go.Proofs
set_option maxRecDepth 20000
set_option maxHeartbeats 4000000
set_option linter.unusedVariables false
set_option linter.unusedSectionVars false

namespace SI
/-- Slices of the lists ls. -/
def InSS {α : Type} (E : Elt α) (H : Mem) : List (Option Addr × Nat × Nat) → List (List α) → Prop
  | [], [] => True
  | u :: us, l :: ls => InS E H (.slice u.1 u.2.1 u.2.2) l ∧ InSS E H us ls
  | _, _ => False
theorem InSS.fr {α : Type} {E : Elt α} {H H' : Mem} (hf : Fr nowhere H H') : ∀ {us : List (Option Addr × Nat × Nat)} {ls : List (List α)}, InSS E H us ls → InSS E H' us ls
  | [], [], _ => trivial
  | u :: us, l :: ls, h => ⟨h.1.fr hf, InSS.fr hf h.2⟩
  | [], _ :: _, h => h.elim
  | _ :: _, [], h => h.elim
theorem InSS.len {α : Type} {E : Elt α} {H : Mem} : ∀ {us : List (Option Addr × Nat × Nat)} {ls : List (List α)}, InSS E H us ls → us.length = ls.length
  | [], [], _ => rfl
  | u :: us, l :: ls, h => by rw [List.length_cons, List.length_cons, InSS.len h.2]
  | [], _ :: _, h => h.elim
  | _ :: _, [], h => h.elim
theorem InSS.at {α : Type} {E : Elt α} {H : Mem} : ∀ {us : List (Option Addr × Nat × Nat)} {ls : List (List α)} (_ : InSS E H us ls) {i : Nat} {u : Option Addr × Nat × Nat}, us[i]? = some u → ∃ l, ls[i]? = some l ∧ InS E H (.slice u.1 u.2.1 u.2.2) l
  | [], [], _, i, u, hu => by simp at hu
  | u :: us, l :: ls, h, 0, v, hv => by
    simp only [List.getElem?_cons_zero, Option.some.injEq] at hv
    subst hv
    exact ⟨l, rfl, h.1⟩
  | u :: us, l :: ls, h, i + 1, v, hv => by
    simp only [List.getElem?_cons_succ] at hv ⊢
    exact InSS.at h.2 hv
  | [], _ :: _, h, _, _, _ => h.elim
  | _ :: _, [], h, _, _, _ => h.elim
theorem swp_get {α : Type} {X : List α} {i j : Nat} {x y : α} (hi : i < X.length) (hj : j < X.length) (hne : i ≠ j) (k : Nat) :
    ((X.set i x).set j y)[k]? = if k = j then some y else if k = i then some x else X[k]? := by
  rw [List.getElem?_set]
  by_cases h1 : j = k
  · subst h1
    rw [if_pos rfl, if_pos rfl, if_pos (by rw [List.length_set]; exact hj)]
  · rw [if_neg h1, if_neg (fun h => h1 h.symm), List.getElem?_set]
    by_cases h2 : i = k
    · subst h2; rw [if_pos rfl, if_pos rfl, if_pos hi]
    · rw [if_neg h2, if_neg (fun h => h2 h.symm)]
theorem set_td {α : Type} {X : List α} {i : Nat} {x : α} (hi : i < X.length) : X.take i ++ x :: X.drop (i + 1) = X.set i x := (List.set_eq_take_append_cons_drop.trans (if_pos hi)).symm

theorem grow_spec {B : World} {H : Mem} {n : Nat} (hn : 0 < n) (hll : n ≤ 4294967296) :
    Fn Try.prog B 93 [.slice none 0 0, .int .i64 (n : Int)] H (fun r H' => AccN EJ (fun b => H.size ≤ b) H' r [] ∧ Fr nowhere H H') := by
  refine fn_of Try.func93 rfl Try.ntmps93 ?_
  refine (show Go' _ _ _ _ 27 [(0, _), (1, _)] [.code _] _ from ?_)
  refine Go'.seq ?_
  -- region 0 (slices.go:422)
  refine Go'.region [(0, 0)] rfl ?_
  refine O.asg rfl rfl rfl rfl rfl ?_
  refine Pl.fin [(0, _), (1, _), (4, _)] ⟨rfl, rfl, rfl, trivial⟩ ?_
  refine Go'.seq ?_
  refine Go'.seq ?_
  -- region 1 (slices.go:423)
  refine Go'.region [(0, 0), (1, 0)] rfl ?_
  refine O.mv rfl rfl rfl rfl rfl ?_
  refine O.cmp rfl rfl rfl rfl rfl rfl (lssF (by omega)) ?_
  refine Pl.fin [(0, _), (1, _), (4, _), (6, _)] ⟨rfl, rfl, rfl, rfl, trivial⟩ ?_
  refine Go'.condF rfl ?_
  refine Go'.skip ?_
  refine Go'.seq ?_
  refine Go'.seq ?_
  -- region 3 (slices.go:426)
  refine Go'.region [(0, 0), (1, 0), (2, 0), (3, 0), (4, 0), (5, 0), (6, 0), (7, 0)] rfl ?_
  refine O.mv rfl rfl rfl rfl rfl ?_
  refine O.mv rfl rfl rfl rfl rfl ?_
  refine O.cap rfl rfl rfl rfl Try.underlying25 rfl ?_
  refine O.mv rfl rfl rfl rfl rfl ?_
  refine O.len rfl rfl rfl rfl Try.underlying25 rfl ?_
  refine O.sub ((0 : Int)) rfl rfl rfl rfl rfl rfl (by omega) (by omega) ?_
  refine O.sub ((n : Int)) rfl rfl rfl rfl rfl rfl (by omega) (by omega) ?_
  refine O.asg rfl rfl rfl rfl rfl ?_
  refine Pl.fin [(0, _), (1, _), (4, _)] ⟨rfl, rfl, rfl, trivial⟩ ?_
  refine Go'.seq ?_
  -- region 4 (slices.go:426)
  refine Go'.region [(0, 0), (1, 0)] rfl ?_
  refine O.mv rfl rfl rfl rfl rfl ?_
  refine O.cmp rfl rfl rfl rfl rfl rfl (gtrT (by omega)) ?_
  refine Pl.fin [(0, _), (1, _), (4, _), (16, _)] ⟨rfl, rfl, rfl, rfl, trivial⟩ ?_
  refine Go'.condT rfl ?_
  -- region 5 (slices.go:428)
  refine Go'.region [(0, 0), (1, 0), (2, 0), (3, 0), (4, 0), (5, 2), (6, 0), (7, 0), (8, 0), (9, 0)] rfl ?_
  refine O.mv rfl rfl rfl rfl rfl ?_
  refine O.mv rfl rfl rfl rfl rfl ?_
  refine O.cap rfl rfl rfl rfl Try.underlying25 rfl ?_
  refine O.slc0 rfl rfl rfl rfl Try.underlying25 Try.sizeOf27 rfl ⟨_, by rfl⟩ rfl ?_
  intro a0
  refine O.mv rfl rfl rfl rfl rfl ?_
  refine O.appZ (m := n) rfl rfl rfl ⟨Try.underlying25, Try.sizeOf27, Try.zeroValue27, ⟨_, Try.typeInfo27, rfl⟩, rfl, by decide, by decide⟩ Try.underlying3 rfl rfl (Nat.le_trans (Nat.mul_le_mul_left _ (Nat.le_of_ble_eq_true (n := _) (m := 4096) rfl)) (by omega)) (by omega) hn ?_
  intro cap' H1 hc hW hF hs
  refine ⟨trivial, ?_⟩
  refine O.mv rfl rfl rfl rfl rfl ?_
  refine O.len rfl rfl rfl rfl Try.underlying25 rfl ?_
  refine O.slc (jl := 0) (jh := 0) (jm := cap') rfl rfl rfl rfl Try.underlying25 Try.sizeOf27 rfl rfl ⟨_, by rfl⟩ rfl (by omega) (by omega) (by omega) (by simp) ?_
  intro o2 ho2
  refine O.asg rfl rfl rfl rfl rfl ?_
  refine Pl.fin [(0, _), (4, _)] ⟨rfl, rfl, trivial⟩ ?_
  refine Go'.seq ?_
  -- region 6 (slices.go:430)
  refine Go'.region [(0, 0), (1, 0)] rfl ?_
  refine O.mv rfl rfl rfl rfl rfl ?_
  refine O.asg rfl rfl rfl rfl rfl ?_
  refine Pl.fin [(4, _)] ⟨rfl, trivial⟩ ?_
  refine Go'.ret (vs := [_]) Try.func93 Try.results93 ⟨rfl, trivial⟩ ?_
  refine ⟨⟨H.size, o2, cap' - 0, rfl, Nat.le_refl _, by omega, ?_⟩, hF⟩
  obtain rfl : o2 = 0 := by have := ho2 (by omega); omega
  rw [Nat.sub_zero]
  exact ⟨rfl, Nat.zero_le _, Rd.nil _ _ _, hW⟩

theorem rev_spec {B : World} {H : Mem} {v : Value} {l : List (Int × Int)} {Z : Nat → Prop} (hA : AccN EJ Z H v l) (hll : l.length ≤ 4294967296) :
    Fn Try.prog B 92 [v] H (fun _ H' => AccN EJ Z H' v l.reverse ∧ Fr (fun b _ => Z b) H H') := by
  obtain ⟨b, o, c, rfl, hz, hb, hS⟩ := hA
  refine fn_of Try.func92 rfl Try.ntmps92 ?_
  refine (show Go' _ _ _ _ 28 [(0, _)] [.code _] _ from ?_)
  refine Go'.seq ?_
  -- region 0 (slices.go:484)
  refine Go'.region [(0, 0), (1, 0), (2, 0), (3, 0), (4, 0)] rfl ?_
  refine O.mv rfl rfl rfl rfl rfl ?_
  refine O.len rfl rfl rfl rfl Try.underlying25 rfl ?_
  refine O.sub (((l.length : Int) - 1)) rfl rfl rfl rfl rfl rfl (by omega) (by omega) ?_
  refine O.asg rfl rfl rfl rfl rfl ?_
  refine O.asg rfl rfl rfl rfl rfl ?_
  refine Pl.fin [(0, _), (2, _), (3, _)] ⟨rfl, rfl, rfl, trivial⟩ ?_
  refine Go'.block ?_
  refine Go'.loop ?_
  refine Go'.keep [(0, _), (2, _), (3, _)] ⟨rfl, rfl, rfl, trivial⟩ ?_
  refine Go'.ind (σ := Nat × List (Int × Int)) (fun s => l.length - s.1) (fun s H' => SlE EJ H' b o c s.2 ∧ s.2.length = l.length ∧ (∀ k, k < l.length → s.2[k]? = if k < s.1 ∨ l.length ≤ k + s.1 then l[l.length - 1 - k]? else l[k]?) ∧ Fr (fun b _ => Z b) H H')
    (fun s => [(0, .slice (some ⟨b, o, none⟩) l.length c), (2, .int .i64 (s.1 : Int)), (3, .int .i64 ((l.length : Int) - 1 - s.1))]) (0, l) ⟨hS, rfl, fun k hk => by rw [if_neg (by omega)], Fr.refl _ _⟩ (by simp) ?_
  clear hS
  rintro ⟨i, m⟩ H2 ⟨hS, hml, hm, hF⟩ ih
  simp only at hS hml hm ih
  have hsz := hF.size
  refine Go'.seq ?_
  refine Go'.seq ?_
  by_cases hlt : (i : Int) < (l.length : Int) - 1 - i
  · skip
    have hjl : l.length - 1 - i < m.length := by omega
    have hil : i < m.length := by omega
    obtain ⟨x, hx⟩ : ∃ x, m[i]? = some x := ⟨m[i], List.getElem?_eq_getElem hil⟩
    obtain ⟨y, hy⟩ : ∃ y, m[l.length - 1 - i]? = some y := ⟨m[l.length - 1 - i], List.getElem?_eq_getElem hjl⟩
    have hx2 := hx
    rw [hm i (by omega), if_neg (by omega)] at hx2
    have hy2 := hy
    rw [hm _ (by omega), if_neg (by omega)] at hy2
    have wj := hS.wri hjl
    have wi := hS.wri hil
    have hlm : l.length = m.length := hml.symm
    -- region 1 (slices.go:484)
    refine Go'.region [(0, 0), (1, 0), (2, 0)] rfl ?_
    refine O.mv rfl rfl rfl rfl rfl ?_
    refine O.mv rfl rfl rfl rfl rfl ?_
    refine O.cmp rfl rfl rfl rfl rfl rfl (lssT hlt) ?_
    refine Pl.fin [(0, _), (2, _), (3, _), (9, _)] ⟨rfl, rfl, rfl, rfl, trivial⟩ ?_
    refine Go'.condT rfl ?_
    refine Go'.skip ?_
    refine Go'.seq ?_
    refine Go'.block ?_
    -- region 3 (slices.go:485)
    refine Go'.draw (fun _ => True) [(0, 0), (1, 0), (2, 0), (3, 0), (4, 0), (5, 0), (6, 0), (7, 1), (8, 0), (9, 0), (10, 0), (11, 1), (12, 0), (13, 2), (14, 0), (15, 3)] (by kernel_rfl) (by kernel_rfl) (trivial) ?_
    refine O.mv rfl rfl rfl rfl rfl ?_
    refine O.mv rfl rfl rfl rfl rfl ?_
    refine O.mv rfl rfl rfl rfl rfl ?_
    refine O.mv rfl rfl rfl rfl rfl ?_
    refine O.mv rfl rfl rfl rfl rfl ?_
    refine O.mv rfl rfl rfl rfl rfl ?_
    refine O.ix (j := (l.length - 1 - i)) rfl rfl rfl rfl Try.underlying25 Try.sizeOf27 rfl rfl (by omega) (by omega) ?_
    refine O.lds rfl rfl rfl (fun w => ⟨Try.isAgg27 w, Try.sizeOf27 w⟩) rfl rfl (hS.item hy) ?_
    refine O.mv rfl rfl rfl rfl rfl ?_
    refine O.mv rfl rfl rfl rfl rfl ?_
    refine O.ix (j := i) rfl rfl rfl rfl Try.underlying25 Try.sizeOf27 rfl rfl (by omega) (by omega) ?_
    refine O.lds rfl rfl rfl (fun w => ⟨Try.isAgg27 w, Try.sizeOf27 w⟩) rfl rfl (hS.item hx) ?_
    refine O.ix (j := i) rfl rfl rfl rfl Try.underlying25 Try.sizeOf27 rfl rfl (by omega) (by omega) ?_
    refine O.st (vs := (EJ.enc y)) rfl rfl Try.sizeOf27 rfl rfl rfl rfl rfl wi ?_
    intro H3 W3
    have hS3 := hS.set W3 hil
    rw [set_td hil] at hS3
    have wj3 := hS3.wri (i := l.length - 1 - i) (by rw [List.length_set]; exact hjl)
    refine ⟨trivial, ?_⟩
    refine O.ix (j := (l.length - 1 - i)) rfl rfl rfl rfl Try.underlying25 Try.sizeOf27 rfl rfl (by omega) (by omega) ?_
    refine O.st3 (vs := (EJ.enc x)) rfl rfl Try.sizeOf27 rfl rfl rfl rfl rfl wj3 ?_
    intro H4 W4
    have hS4 := hS3.set W4 (by rw [List.length_set]; exact hjl)
    rw [set_td (by rw [List.length_set]; exact hjl)] at hS4
    refine Pl.fin [(0, _), (2, _), (3, _), (9, _)] ⟨rfl, rfl, rfl, rfl, trivial⟩ ?_
    refine Go'.inBlock ?_
    -- region 2 (slices.go:484)
    refine Go'.region [(0, 0), (1, 0), (2, 0), (3, 0), (4, 0), (5, 0)] rfl ?_
    refine O.mv rfl rfl rfl rfl rfl ?_
    refine O.add (((i + 1 : Nat) : Int)) rfl rfl rfl rfl rfl rfl (by omega) (by omega) ?_
    refine O.mv rfl rfl rfl rfl rfl ?_
    refine O.sub (((l.length : Int) - 1 - ((i + 1 : Nat) : Int))) rfl rfl rfl rfl rfl rfl (by omega) (by omega) ?_
    refine O.asg rfl rfl rfl rfl rfl ?_
    refine O.asg rfl rfl rfl rfl rfl ?_
    refine Pl.fin [(0, _), (2, _), (3, _), (9, _)] ⟨rfl, rfl, rfl, rfl, trivial⟩ ?_
    refine Go'.keep [(0, _), (2, _), (3, _)] ⟨rfl, rfl, rfl, trivial⟩ ?_
    refine Go'.inLoop ?_
    refine ih (i + 1, (m.set i y).set (l.length - 1 - i) x) H4 ⟨hS4, by simpa using hml, fun k hk => ?_, (hF.trans' W3.fr (fun _ _ _ h => h) (fun b' o' _ h => by rw [show b' = b from h.1]; exact hz)).trans' W4.fr (fun _ _ _ h => h) (fun b' o' _ h => by rw [show b' = b from h.1]; exact hz)⟩ (by simp only; omega)
    simp only
    rw [swp_get hil hjl (by omega) k]
    by_cases h1 : k = l.length - 1 - i
    · rw [if_pos h1, if_pos (by omega), h1, show l.length - 1 - (l.length - 1 - i) = i by omega, hx2]
    · rw [if_neg h1]
      by_cases h2 : k = i
      · rw [if_pos h2, if_pos (by omega), h2, hy2]
      · rw [if_neg h2, hm k hk]
        by_cases h3 : k < i ∨ l.length ≤ k + i
        · rw [if_pos h3, if_pos (by omega)]
        · rw [if_neg h3, if_neg (by omega)]
  · skip
    -- region 1 (slices.go:484)
    refine Go'.region [(0, 0), (1, 0), (2, 0)] rfl ?_
    refine O.mv rfl rfl rfl rfl rfl ?_
    refine O.mv rfl rfl rfl rfl rfl ?_
    refine O.cmp rfl rfl rfl rfl rfl rfl (lssF (by simp only; omega)) ?_
    refine Pl.fin [(0, _), (2, _), (3, _), (9, _)] ⟨rfl, rfl, rfl, rfl, trivial⟩ ?_
    refine Go'.condF rfl ?_
    refine Go'.exit rfl ?_
    have e : m = l.reverse := by
      refine List.ext_getElem? fun k => ?_
      rcases Nat.lt_or_ge k l.length with hk | hk
      · rw [hm k hk, List.getElem?_reverse hk]
        by_cases h3 : k < i ∨ l.length ≤ k + i
        · rw [if_pos h3]
        · rw [if_neg h3, show l.length - 1 - k = k by omega]
      · rw [List.getElem?_eq_none (by omega), List.getElem?_eq_none (by rw [List.length_reverse]; exact hk)]
    subst e
    refine Go'.fall Try.func92 Try.results92 (vs := []) trivial ?_
    exact ⟨⟨b, o, c, by rw [List.length_reverse], hz, by omega, hS⟩, hF⟩

theorem cloneA_spec {B : World} {H : Mem} {v : Value} {l : List (Int × Int)} (hi : InS EJ H v l) (hll : l.length ≤ 4294967296) :
    Fn Try.prog B 91 [v] H (fun r H' => Acc EJ (fun b => H.size ≤ b) H' r l ∧ Fr nowhere H H') := by
  obtain ⟨a, c, rfl⟩ := hi.len
  rcases a with _ | a
  · skip
    obtain rfl : l = [] := by
      rcases hi with ⟨b, o, c', e, _⟩ | ⟨e, _⟩
      · cases e
      · exact e
    refine fn_of Try.func91 rfl Try.ntmps91 ?_
    refine (show Go' _ _ _ _ 8 [(0, _)] [.code _] _ from ?_)
    refine Go'.seq ?_
    -- region 0 (slices.go:355)
    refine Go'.region [(0, 0)] rfl ?_
    refine O.asg rfl rfl rfl rfl rfl ?_
    refine Pl.fin [(0, _), (2, _)] ⟨rfl, rfl, trivial⟩ ?_
    refine Go'.seq ?_
    refine Go'.seq ?_
    -- region 1 (slices.go:357)
    refine Go'.region [(0, 0), (1, 0)] rfl ?_
    refine O.mv rfl rfl rfl rfl rfl ?_
    refine O.slNil rfl rfl rfl rfl Try.underlying25 rfl rfl ?_
    refine Pl.fin [(0, _), (2, _), (4, _)] ⟨rfl, rfl, rfl, trivial⟩ ?_
    refine Go'.condT rfl ?_
    refine Go'.seq ?_
    -- region 2 (slices.go:358)
    refine Go'.region [(0, 0)] rfl ?_
    refine O.asg rfl rfl rfl rfl rfl ?_
    refine Pl.fin [(0, _), (2, _)] ⟨rfl, rfl, trivial⟩ ?_
    refine Go'.ret (vs := [_]) Try.func91 Try.results91 ⟨rfl, trivial⟩ ?_
    exact ⟨Acc.nil _ _ _, Fr.refl _ _⟩
  · skip
    refine fn_of Try.func91 rfl Try.ntmps91 ?_
    refine (show Go' _ _ _ _ 8 [(0, _)] [.code _] _ from ?_)
    refine Go'.seq ?_
    -- region 0 (slices.go:355)
    refine Go'.region [(0, 0)] rfl ?_
    refine O.asg rfl rfl rfl rfl rfl ?_
    refine Pl.fin [(0, _), (2, _)] ⟨rfl, rfl, trivial⟩ ?_
    refine Go'.seq ?_
    refine Go'.seq ?_
    -- region 1 (slices.go:357)
    refine Go'.region [(0, 0), (1, 0)] rfl ?_
    refine O.mv rfl rfl rfl rfl rfl ?_
    refine O.slNil rfl rfl rfl rfl Try.underlying25 rfl rfl ?_
    refine Pl.fin [(0, _), (2, _), (4, _)] ⟨rfl, rfl, rfl, trivial⟩ ?_
    refine Go'.condF rfl ?_
    refine Go'.skip ?_
    refine Go'.seq ?_
    -- region 3 (slices.go:362)
    refine Go'.region [(0, 2), (1, 0), (2, 2), (3, 0)] rfl ?_
    refine O.bsl (cs := []) rfl rfl rfl ⟨Try.underlying25, Try.sizeOf27, Try.zeroValue27, ⟨_, Try.typeInfo27, rfl⟩, rfl, by decide, by decide⟩ rfl (by decide) (by kernel_rfl) ?_
    intro H1 M1
    have hs1 := M1.size
    have hA1 := AccN.made (E := EJ) M1
    refine ⟨trivial, ?_⟩
    refine O.mv rfl rfl rfl rfl rfl ?_
    refine O.appI (E := EJ) rfl rfl rfl ⟨Try.underlying25, Try.sizeOf27, Try.zeroValue27, ⟨_, Try.typeInfo27, rfl⟩, rfl, by decide, by decide⟩ rfl hA1 rfl (hi.fr (M1.fr nowhere)) (Nat.le_trans (Nat.mul_le_mul_left _ (Nat.le_of_ble_eq_true (n := _) (m := 4096) rfl)) (by simp only [List.length_nil]; omega)) (by simp only [List.length_nil]; omega) ?_
    intro v2 H2 hA2 hF2 hs2
    rw [List.nil_append] at hA2
    refine ⟨trivial, ?_⟩
    refine O.asg rfl rfl rfl rfl rfl ?_
    refine Pl.fin [(2, _)] ⟨rfl, trivial⟩ ?_
    refine Go'.ret (vs := [_]) Try.func91 Try.results91 ⟨rfl, trivial⟩ ?_
    exact ⟨.inr (hA2.mono fun b _ hz => hz.elim id (fun h => by omega)), (M1.fr nowhere).trans' hF2 (fun _ _ _ h => h) (fun b o hb hz => by have hz' : H.size ≤ b := hz; omega)⟩

theorem revA_spec {B : World} {H : Mem} {v : Value} {l : List (Int × Int)} {Z : Nat → Prop} (hA : Acc EJ Z H v l) (hll : l.length ≤ 4294967296) :
    Fn Try.prog B 92 [v] H (fun _ H' => Acc EJ Z H' v l.reverse ∧ Fr (fun b _ => Z b) H H') := by
  rcases hA with ⟨rfl, rfl⟩ | hA
  rotate_left
  · exact (rev_spec hA hll).mono fun _ _ h => ⟨.inr h.1, h.2⟩
  refine fn_of Try.func92 rfl Try.ntmps92 ?_
  refine (show Go' _ _ _ _ 28 [(0, _)] [.code _] _ from ?_)
  refine Go'.seq ?_
  -- region 0 (slices.go:484)
  refine Go'.region [(0, 0), (1, 0), (2, 0), (3, 0), (4, 0)] rfl ?_
  refine O.mv rfl rfl rfl rfl rfl ?_
  refine O.len rfl rfl rfl rfl Try.underlying25 rfl ?_
  refine O.sub ((-1 : Int)) rfl rfl rfl rfl rfl rfl (by omega) (by omega) ?_
  refine O.asg rfl rfl rfl rfl rfl ?_
  refine O.asg rfl rfl rfl rfl rfl ?_
  refine Pl.fin [(0, _), (2, _), (3, _)] ⟨rfl, rfl, rfl, trivial⟩ ?_
  refine Go'.block ?_
  refine Go'.loop ?_
  refine Go'.seq ?_
  refine Go'.seq ?_
  -- region 1 (slices.go:484)
  refine Go'.region [(0, 0), (1, 0), (2, 0)] rfl ?_
  refine O.mv rfl rfl rfl rfl rfl ?_
  refine O.mv rfl rfl rfl rfl rfl ?_
  refine O.cmp rfl rfl rfl rfl rfl rfl (lssF (by omega)) ?_
  refine Pl.fin [(0, _), (2, _), (3, _), (9, _)] ⟨rfl, rfl, rfl, rfl, trivial⟩ ?_
  refine Go'.condF rfl ?_
  refine Go'.exit rfl ?_
  refine Go'.fall Try.func92 Try.results92 (vs := []) trivial ?_
  exact ⟨Acc.nil _ _ _, Fr.refl _ _⟩

theorem turnedA_spec {B : World} {H : Mem} {v : Value} {l : List (Int × Int)} (hi : InS EJ H v l) (hll : l.length ≤ 4294967296) :
    Fn Try.prog B 44 [v] H (fun r H' => Acc EJ (fun b => H.size ≤ b) H' r l.reverse ∧ Fr nowhere H H') := by
  refine fn_of Try.func44 rfl Try.ntmps44 ?_
  refine (show Go' _ _ _ _ 9 [(0, _)] [.code _] _ from ?_)
  refine Go'.seq ?_
  -- region 0 (trees.go:16)
  refine Go'.region [(0, 0)] rfl ?_
  refine O.asg rfl rfl rfl rfl rfl ?_
  refine Pl.fin [(0, _), (2, _)] ⟨rfl, rfl, trivial⟩ ?_
  refine Go'.seq ?_
  -- region 1 (trees.go:17)
  refine Go'.region [(0, 0), (1, 2), (2, 0)] rfl ?_
  refine O.mv rfl rfl rfl rfl rfl ?_
  refine O.call rfl rfl rfl Try.call91 rfl (cloneA_spec hi hll) ?_
  rintro v1 H1 ⟨h1, hF1⟩
  refine ⟨trivial, ?_⟩
  refine O.asg rfl rfl rfl rfl rfl ?_
  refine Pl.fin [(2, _), (3, _)] ⟨rfl, rfl, trivial⟩ ?_
  refine Go'.seq ?_
  -- region 2 (trees.go:18)
  refine Go'.region [(0, 0), (1, 2)] rfl ?_
  refine O.mv rfl rfl rfl rfl rfl ?_
  refine O.call rfl rfl rfl Try.call92 rfl (revA_spec h1 hll) ?_
  rintro _ H2 ⟨h2, hF2⟩
  refine ⟨trivial, ?_⟩
  refine Pl.fin [(2, _), (3, _)] ⟨rfl, rfl, trivial⟩ ?_
  refine Go'.seq ?_
  -- region 3 (trees.go:19)
  refine Go'.region [(0, 0), (1, 0)] rfl ?_
  refine O.mv rfl rfl rfl rfl rfl ?_
  refine O.asg rfl rfl rfl rfl rfl ?_
  refine Pl.fin [(2, _)] ⟨rfl, trivial⟩ ?_
  refine Go'.ret (vs := [_]) Try.func44 Try.results44 ⟨rfl, trivial⟩ ?_
  exact ⟨h2, hF1.trans' hF2 (fun _ _ _ h => h) (fun b o hb hz => by have hz' : H.size ≤ b := hz; omega)⟩

end SI
theorem igitems_spec {B : World} {H : Mem} {d : Nat} {nl : Bool} {v u : Value} {ord : List Int} {l : List (Int × Int)} (hd : d = 0 ∨ 2 ≤ d ∧ d ≤ 128) (ho : InS EN H v ord) (hol : ord.length ≤ 4294967296) (hi : InS EJ H u l) (hll : l.length ≤ 4294967296) :
    Fn Try.prog B 43 [.agg #[v, .int .i64 (d : Int), .bool nl], u] H (fun r H' => OutS EJ H' r (Pl.puts (OO ord) l) ∧ Fr nowhere H H') := by
  obtain ⟨a, c, hu⟩ := hi.len
  subst hu
  obtain ⟨av, mv, cv, hv⟩ := InS.form ho
  subst hv
  have hF : Fr nowhere H H := Fr.refl _ _
  have hP := PD_ok hd
  refine fn_of Try.func43 rfl Try.ntmps43 ?_
  refine (show Go' _ _ _ _ 9 [(0, _), (1, _)] [.code _] _ from ?_)
  refine Go'.seq ?_
  -- region 0 (treeg.go:189)
  refine Go'.region [(0, 2), (1, 0)] rfl ?_
  refine O.box rfl rfl rfl rfl ?_
  intro B1 MB1
  refine ⟨trivial, ?_⟩
  have hsB1 := MB1.size
  replace hF := hF.trans (MB1.fr nowhere)
  have mm : Rd B1 H.size 0 [.slice av mv cv, .int .i64 (d : Int), .bool nl] := MB1.rd _ [] (by simp [Value.cells])
  have mm0 : cl B1 H.size 0 = some (.slice av mv cv) := mm 0 _ rfl
  have mm1 : cl B1 H.size (0 + 1) = some (.int .i64 (d : Int)) := mm 1 _ rfl
  refine O.asg rfl rfl rfl rfl rfl ?_
  refine Pl.fin [(1, _), (2, _), (4, _)] ⟨rfl, rfl, rfl, trivial⟩ ?_
  refine Go'.seq ?_
  -- region 1 (treeg.go:190)
  refine Go'.region [(0, 1), (1, 0), (2, 2), (3, 2), (4, 0)] rfl ?_
  refine O.lds rfl rfl rfl (fun w => ⟨Try.isAgg24 w, Try.sizeOf24 w⟩) rfl rfl mm ?_
  refine O.mv rfl rfl rfl rfl rfl ?_
  refine O.call rfl rfl rfl Try.call68 rfl (grow_spec hd (ho.fr hF) hol (hi.fr hF) hll) ?_
  rintro _ H3 ⟨I, hIo, hIw, hIb, tr, S, rfl, hM, hF3, hS⟩
  have hs3 := hF3.size
  replace hF := hF.trans hF3
  replace mm := hF3.rd mm (fun _ _ => nw)
  replace mm0 := hF3.keep mm0 nw
  replace mm1 := hF3.keep mm1 nw
  have hSb : ∀ b, S b ∨ (b < cx.base ∧ cx.own b) → B1.size ≤ b := fun b hb => hb.elim (hS b) (fun h => hIw b h.2)
  have hOO : OO ord = OI := by rw [← hIo]; rfl
  have hpl := Pl.puts_length OI l
  have hSlt := hM.lt
  have hbs := hM.tc.hb
  unfold ptr
  refine ⟨trivial, ?_⟩
  refine O.call rfl rfl rfl Try.call73 rfl (Items_spec hP hM (by omega)) ?_
  rintro v4 H4 ⟨h4, hF4⟩
  replace hF := hF.trans hF4
  replace mm := hF4.rd mm (fun _ _ => nw)
  replace mm0 := hF4.keep mm0 nw
  replace mm1 := hF4.keep mm1 nw
  refine ⟨trivial, ?_⟩
  refine O.asg rfl rfl rfl rfl rfl ?_
  refine Pl.fin [(4, _)] ⟨rfl, trivial⟩ ?_
  refine Go'.ret (vs := [_]) Try.func43 Try.results43 ⟨rfl, trivial⟩ ?_
  rw [hOO]; exact ⟨h4, hF⟩

theorem alive_spec {B : World} {H : Mem} : Fn Try.prog B 25 [] H (fun r H' => r = .bool true ∧ Fr nowhere H H') := by
  have hal : (Pl.puts (OO []) ((exl.drop 0).take (3 - 0))).length = 3 := by decide
  refine fn_of Try.func25 rfl Try.ntmps25 ?_
  refine (show Go' _ _ _ _ 7 [] [.code _] _ from ?_)
  refine Go'.seq ?_
  -- region 0 (help.go:108)
  refine Go'.region [(0, 0)] rfl ?_
  refine O.asg rfl rfl rfl rfl rfl ?_
  refine Pl.fin [(0, _)] ⟨rfl, trivial⟩ ?_
  refine Go'.seq ?_
  -- region 1 (help.go:108)
  refine Go'.region [(0, 2), (1, 2), (2, 0), (3, 2), (4, 0), (5, 0), (6, 0)] rfl ?_
  refine O.call rfl rfl rfl Try.call30 rfl exMake_spec ?_
  rintro _ H1 ⟨rfl, hF1⟩
  refine ⟨trivial, ?_⟩
  refine O.call rfl rfl rfl Try.call32 rfl exItems_spec ?_
  rintro ev H2 ⟨hev, hF2⟩
  obtain ⟨ea, ec, hee⟩ := hev.len
  subst hee
  refine ⟨trivial, ?_⟩
  refine O.slcIn (E := EJ) (jh := 3) rfl rfl rfl rfl Try.underlying25 Try.sizeOf27 rfl hev ⟨_, by rfl⟩ rfl (by decide) (by decide) ?_
  intro sv hsv
  refine O.call rfl rfl rfl Try.call43 rfl (igitems_spec (d := 2) (by decide) (InS.nil EN _) (by decide) hsv (by decide)) ?_
  rintro gv H3 ⟨hg, hF3⟩
  obtain ⟨ga, gc, hge⟩ := hg.inS.len
  subst hge
  refine ⟨trivial, ?_⟩
  refine O.len rfl rfl rfl rfl Try.underlying25 rfl ?_
  refine O.cmp rfl rfl rfl rfl rfl rfl (eqlT (by rw [hal]; rfl)) ?_
  refine O.asg rfl rfl rfl rfl rfl ?_
  refine Pl.fin [(0, _)] ⟨rfl, trivial⟩ ?_
  refine Go'.ret (vs := [_]) Try.func25 Try.results25 ⟨rfl, trivial⟩ ?_
  exact ⟨rfl, (hF1.trans hF2).trans hF3⟩

end Go.Bt.FG
