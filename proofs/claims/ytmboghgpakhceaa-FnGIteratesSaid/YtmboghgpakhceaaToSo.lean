/- What a reader does with a function that it hands the items to, one after the other, until that one says no. Conditions: none. -/
import Derived.Laws.Strings
import Derived.Test.YtmboghgpakhceaaToIt
namespace Go.Bt
open Go
set_option linter.unusedVariables false

/-- What has been handed on, and whether all were. -/
def takes {α : Type} (go : List α → Bool) : List α → List α → List α × Bool
  | acc, [] => (acc, true)
  | acc, x :: l => if go (acc ++ [x]) then takes go (acc ++ [x]) l else (acc ++ [x], false)
theorem takes_append {α : Type} (go : List α → Bool) : ∀ (l1 acc l2 : List α), takes go acc (l1 ++ l2) = if (takes go acc l1).2 then takes go (takes go acc l1).1 l2 else takes go acc l1
  | [], acc, l2 => by simp [takes]
  | x :: l1, acc, l2 => by
    simp only [List.cons_append, takes]
    by_cases h : go (acc ++ [x]) = true
    · simp only [h, if_true]; exact takes_append go l1 (acc ++ [x]) l2
    · simp only [h]; rfl
/-- n items at most; any number for n below 1. -/
def goN {α : Type} (n : Int) (acc : List α) : Bool := decide (n < 1) || decide ((acc.length : Int) < n)
def firstN {α : Type} (l : List α) (n : Int) : List α := if n < 1 ∨ (l.length : Int) < n then l else l.take n.toNat
theorem takes_goN {α : Type} (n : Int) : ∀ (l acc : List α), (n < 1 ∨ (acc.length : Int) < n) → (takes (goN n) acc l).1 = if n < 1 ∨ ((acc.length + l.length : Nat) : Int) < n then acc ++ l else acc ++ l.take (n.toNat - acc.length)
  | [], acc, h => by
    simp only [takes, List.length_nil, Nat.add_zero, List.append_nil, List.take_nil]
    split <;> rfl
  | x :: l, acc, h => by
    simp only [takes]
    by_cases hg : goN n (acc ++ [x]) = true
    · have hg' : n < 1 ∨ ((acc ++ [x]).length : Int) < n := by
        unfold goN at hg; simpa using hg
      rw [if_pos hg, takes_goN n l (acc ++ [x]) hg']
      have e : (acc ++ [x]).length + l.length = acc.length + (x :: l).length := by simp; omega
      rw [e]
      split
      · simp
      · rename_i hn
        have hlen : (acc ++ [x]).length = acc.length + 1 := by simp
        rw [hlen] at hg' ⊢
        have : n.toNat - acc.length = (n.toNat - (acc.length + 1)) + 1 := by omega
        rw [this, List.take_succ_cons]; simp
    · have hg' : ¬ (n < 1) ∧ n ≤ ((acc.length + 1 : Nat) : Int) := by
        unfold goN at hg; simp at hg; constructor <;> omega
      rw [if_neg hg]
      have hacc : (acc.length : Int) < n := by omega
      have hn : n.toNat = acc.length + 1 := by omega
      split
      · rename_i hh
        have : (x :: l).length = l.length + 1 := rfl
        omega
      · rw [hn, show acc.length + 1 - acc.length = 1 by omega]; simp
theorem takes_first {α : Type} (n : Int) (l : List α) : (takes (goN n) [] l).1 = firstN l n := by
  rcases Int.lt_or_le n 1 with h | h
  · rw [takes_goN n l [] (.inl h), firstN, if_pos (.inl h), if_pos (.inl h), List.nil_append]
  · rw [takes_goN n l [] (.inr (by simp; omega)), firstN]
    simp

/-- A function value that items are handed to: its states. T acc Z H: it has been handed acc; what it keeps lies in the blocks Z. -/
structure Cb {α : Type} (P : Program) (B : World) (enc : α → List Value) (g : FuncId) (us cs : List Value) (go : List α → Bool) (M : Nat) where
  T : List α → (Nat → Prop) → Mem → Prop
  fr : ∀ {acc Z H H' Y}, T acc Z H → Fr Y H H' → (∀ b o, Z b → ¬ Y b o) → T acc Z H'
  lt : ∀ {acc Z H b}, T acc Z H → Z b → b < H.size
  call : ∀ {acc Z H} (x : α), T acc Z H → acc.length < M → Fn P B g (us ++ enc x ++ cs) H fun r H' => r = .bool (go (acc ++ [x])) ∧ ∃ Z', T (acc ++ [x]) Z' H' ∧ Fr (fun b _ => Z b) H H' ∧ ∀ b, Z' b → Z b ∨ H.size ≤ b
/-- What a reader comes to. -/
def CbPost {α : Type} {P : Program} {B : World} {enc : α → List Value} {g : FuncId} {us cs : List Value} {go : List α → Bool} {M : Nat} (cb : Cb P B enc g us cs go M) (acc : List α) (Z : Nat → Prop) (H : Mem) (l : List α) (H' : Mem) : Prop :=
  ∃ Z', cb.T (takes go acc l).1 Z' H' ∧ Fr (fun b _ => Z b) H H' ∧ ∀ b, Z' b → Z b ∨ H.size ≤ b
theorem takes_length {α : Type} (go : List α → Bool) : ∀ (l acc : List α), (takes go acc l).1.length ≤ acc.length + l.length
  | [], acc => by simp [takes]
  | x :: l, acc => by
    simp only [takes]
    split
    · have := takes_length go l (acc ++ [x]); simp at this ⊢; omega
    · simp
end Go.Bt
/- The items of a sorted list up to a pivot, and those from it on. Conditions: none. -/
namespace Go.Bt.Pl
set_option linter.unusedVariables false
variable {α : Type} (O : Swo α)
/-- Those that do not come behind x. -/
def dn (x : α) (l : List α) : List α := l.take (pos O x l + (fnd O x l).toNat)
/-- Those that do not come before x. -/
def up (x : α) (l : List α) : List α := l.drop (pos O x l)
theorem dn_mid {x : α} {a m c : List α} (ha : ∀ y ∈ a, O.lt y x = true) (hc : ∀ y ∈ c, O.lt x y = true) : dn O x (a ++ m ++ c) = a ++ dn O x m := by
  have h1 := pos_le O x m
  have h2 : pos O x m + (fnd O x m).toNat ≤ m.length := by
    cases h : fnd O x m with
    | false => simpa using h1
    | true => have := fnd_pos_lt O h; simp; omega
  unfold dn
  rw [pos_mid O ha hc, fnd_mid O ha hc, Nat.add_assoc, take_mid h2]
theorem up_mid {x : α} {a m c : List α} (ha : ∀ y ∈ a, O.lt y x = true) (hc : ∀ y ∈ c, O.lt x y = true) : up O x (a ++ m ++ c) = up O x m ++ c := by
  unfold up
  rw [pos_mid O ha hc, drop_mid (pos_le O x m)]
theorem pre_succ {α : Type} : ∀ {j : Nat} {X : List α} {K : List (List α)} {x : α} {k : List α}, X[j]? = some x → K[j]? = some k → pre (X.take (j + 1)) (K.take (j + 1)) = pre (X.take j) (K.take j) ++ (k ++ [x])
  | 0, x :: X, k :: K, _, _, h1, h2 => by simp at h1 h2; subst h1; subst h2; simp [pre]
  | j + 1, x :: X, k :: K, _, _, h1, h2 => by
    simp only [List.take_succ_cons, pre]
    rw [pre_succ (j := j) (by simpa using h1) (by simpa using h2)]
    simp
  | _, [], _, _, _, h1, _ => by simp at h1
  | _, _ :: _, [], _, _, _, h2 => by simp at h2
theorem post_succ {α : Type} {j : Nat} {X : List α} {K : List (List α)} {x : α} {k : List α} (h1 : X[j]? = some x) (h2 : K[j + 1]? = some k) : post (X.drop j) (K.drop (j + 1)) = x :: (k ++ post (X.drop (j + 1)) (K.drop (j + 1 + 1))) := by
  obtain ⟨h1, e1⟩ := List.getElem?_eq_some_iff.1 h1
  obtain ⟨h2, e2⟩ := List.getElem?_eq_some_iff.1 h2
  rw [← List.getElem_cons_drop (h := h1), ← List.getElem_cons_drop (h := h2), e1, e2]
  rfl
theorem inter_eq_pre {α : Type} : ∀ {j : Nat} {X : List α} {K : List (List α)} {k : List α}, j ≤ X.length → K[j]? = some k → inter (X.take j) (K.take (j + 1)) = pre (X.take j) (K.take j) ++ k
  | 0, X, k :: K, _, _, h2 => by simp at h2; subst h2; simp [inter, pre]
  | j + 1, x :: X, k :: K, _, h1, h2 => by
    simp only [List.take_succ_cons, inter, pre]
    rw [inter_eq_pre (j := j) (by simpa using h1) (by simpa using h2)]
    simp
  | _, _, [], _, _, h2 => by simp at h2
  | j + 1, [], _ :: _, _, h1, _ => by simp at h1
theorem at_item_dn {x y : α} {a c : List α} (hs : Srt O (a ++ y :: c)) (h1 : O.lt y x = false) (h2 : O.lt x y = false) : dn O x (a ++ y :: c) = a ++ [y] ∧ up O x (a ++ y :: c) = y :: c := by
  obtain ⟨p, f, _⟩ := at_item O hs h1 h2
  unfold dn up
  rw [p, f]
  refine ⟨?_, by simp⟩
  rw [show a ++ y :: c = (a ++ [y]) ++ c by simp, List.take_left' (by simp)]
theorem dn_found {x : α} {X : List α} {K : List (List α)} (hs : Srt O (inter X K)) (hl : K.length = X.length + 1) (h : fnd O x X = true) :
    dn O x (inter X K) = pre (X.take (pos O x X + 1)) (K.take (pos O x X + 1)) ∧ up O x (inter X K) = post (X.drop (pos O x X)) (K.drop (pos O x X + 1)) := by
  obtain ⟨y, hy, h1, h2, e, _⟩ := inter_found O hs hl h
  have hlt := fnd_pos_lt O h
  rw [e] at hs ⊢
  obtain ⟨a, b⟩ := at_item_dn O hs h1 h2
  rw [a, b]
  obtain ⟨k, hk⟩ : ∃ k, K[pos O x X]? = some k := ⟨K[pos O x X], List.getElem?_eq_getElem (by omega)⟩
  obtain ⟨k', hk'⟩ : ∃ k, K[pos O x X + 1]? = some k := ⟨K[pos O x X + 1], List.getElem?_eq_getElem (by omega)⟩
  refine ⟨by rw [pre_succ hy hk, inter_eq_pre (Nat.le_of_lt hlt) hk, List.append_assoc], ?_⟩
  rw [post_succ hy hk']
  obtain ⟨h3, e3⟩ := List.getElem?_eq_some_iff.1 hk'
  rw [← List.getElem_cons_drop (h := h3), e3, inter_post _ _ _ (by rw [List.length_drop, List.length_drop]; omega)]
theorem dn_child {x : α} {X : List α} {K : List (List α)} (hs : Srt O (inter X K)) (hl : K.length = X.length + 1) (h : fnd O x X = false) {k : List α} (hk : K[pos O x X]? = some k) :
    dn O x (inter X K) = pre (X.take (pos O x X)) (K.take (pos O x X)) ++ dn O x k ∧ up O x (inter X K) = up O x k ++ post (X.drop (pos O x X)) (K.drop (pos O x X + 1)) := by
  obtain ⟨e, h1, h2, _⟩ := inter_child O hs hl h hk
  rw [e]
  exact ⟨dn_mid O h1 h2, up_mid O h1 h2⟩
theorem child_srt {x : α} {X : List α} {K : List (List α)} (hs : Srt O (inter X K)) (hl : K.length = X.length + 1) (h : fnd O x X = false) {k : List α} (hk : K[pos O x X]? = some k) : Srt O k := by
  obtain ⟨e, _⟩ := inter_child O hs hl h hk
  rw [e, Srt.append, Srt.append] at hs
  exact hs.1.2.1
theorem up_le (x : α) (l : List α) : (up O x l).length ≤ l.length := by unfold up; rw [List.length_drop]; omega
theorem pre_len {α : Type} (X : List α) (K : List (List α)) (h : K.length = X.length + 1) (j : Nat) (hj : j ≤ X.length) : (pre (X.take j) (K.take j)).length ≤ (inter X K).length := by
  obtain ⟨k, hk⟩ : ∃ k, K[j]? = some k := ⟨K[j], List.getElem?_eq_getElem (by omega)⟩
  have l1 : (X.take j).length = (K.take j).length := by rw [List.length_take, List.length_take]; omega
  have l2 : (X.drop j).length = (K.drop (j + 1)).length := by rw [List.length_drop, List.length_drop]; omega
  have := inter_focus (X.take j) (X.drop j) (K.take j) k (K.drop (j + 1)) l1 l2
  rw [List.take_append_drop, ← (List.getElem?_eq_some_iff.1 hk).2, List.getElem_cons_drop, List.take_append_drop] at this
  rw [this, List.length_append, List.length_append]
  omega
end Go.Bt.Pl
namespace Go.Bt
theorem takes_cons {α : Type} (go : List α → Bool) (A : List α) (x : α) (l : List α) : takes go A (x :: l) = if go (A ++ [x]) then takes go (A ++ [x]) l else (A ++ [x], false) := rfl
theorem takes_rest {α : Type} {go : List α → Bool} {A l r : List α} (h : (takes go A l).2 = true) : takes go A (l ++ r) = takes go (takes go A l).1 r := by rw [takes_append, h]; rfl
theorem takes_halt {α : Type} {go : List α → Bool} {A l r : List α} (h : (takes go A l).2 = false) : takes go A (l ++ r) = takes go A l := by rw [takes_append, h]; rfl
end Go.Bt
/- A list that a function gathers in blocks of its own. Conditions: none. -/
namespace Go.Bt
open Go
set_option linter.unusedVariables false
/-- What has been gathered: its block is one of Z. -/
def Acc {α : Type} (E : Elt α) (Z : Nat → Prop) (H : Mem) (v : Value) (l : List α) : Prop :=
  (v = .slice none 0 0 ∧ l = []) ∨ ∃ b o c, v = .slice (some ⟨b, o, none⟩) l.length c ∧ Z b ∧ b < H.size ∧ SlE E H b o c l
theorem Acc.nil {α : Type} (E : Elt α) (Z : Nat → Prop) (H : Mem) : Acc E Z H (.slice none 0 0) ([] : List α) := .inl ⟨rfl, rfl⟩
theorem Acc.fr {α : Type} {E : Elt α} {Z : Nat → Prop} {X : Nat → Nat → Prop} {H H' : Mem} {v : Value} {l : List α} (h : Acc E Z H v l) (hf : Fr X H H') (hz : ∀ b o, b < H.size → Z b → ¬ X b o) : Acc E Z H' v l :=
  h.imp id fun ⟨b, o, c, e, z, hb, hs⟩ => ⟨b, o, c, e, z, Nat.lt_of_lt_of_le hb hf.size, hs.fr hf fun i _ _ => hz b i hb z⟩
theorem Acc.mono {α : Type} {E : Elt α} {Z Y : Nat → Prop} {H : Mem} {v : Value} {l : List α} (h : Acc E Z H v l) (hz : ∀ b, b < H.size → Z b → Y b) : Acc E Y H v l :=
  h.imp id fun ⟨b, o, c, e, z, hb, hs⟩ => ⟨b, o, c, e, hz b hb z, hb, hs⟩
theorem Acc.out {α : Type} {E : Elt α} {Z : Nat → Prop} {H : Mem} {v : Value} {l : List α} (h : Acc E Z H v l) : OutS E H v l := h.imp id fun ⟨b, o, c, e, _, _, hs⟩ => ⟨b, o, c, e, hs⟩
theorem Acc.inS {α : Type} {E : Elt α} {Z : Nat → Prop} {H : Mem} {v : Value} {l : List α} (h : Acc E Z H v l) : InS E H v l := h.out.inS

section
variable {P : Program} {B : World} {f : FuncId} {Q : Value → Mem → Prop} {n : Nat} {r : Env} {k : List Item} {H : Mem} {l : List Oper} {C : Mem → Prop} {p : List (Nat × Nat)}
variable {i kd d : Nat} {ty : TypeId} {pos : String} {af : Array Edge} {gd : Option (Nat × Bool)}
theorem O.appA {α : Type} {E : Elt α} {t e : TypeId} {by' : Nat} {z : Value} {x y : Operand} {v u : Value} {l' Y : List α} {Z : Nat → Prop} (hi : l[i]? = some ⟨some d, .call ⟨.builtin .append, #[x, y], #[t, t]⟩, ty, pos, af, gd⟩)
    (hg : guardOn l r gd = true) (hd : Nat.blt d n = true) (T : SlT P t e E.s by' z) (hx : ev r x = some v) (hA : Acc E Z H v l') (hy : ev r y = some u)
    (hv : ∃ b2 o2 c2, u = .slice (some ⟨b2, o2, none⟩) Y.length c2 ∧ Rd H b2 o2 (row E Y)) (hm : 0 < Y.length) (hb : (l'.length + Y.length) * by' ≤ 140737488355328) (h63 : l'.length + Y.length < 9223372036854775808)
    (h : ∀ v' H', Acc E (fun b => Z b ∨ (b = H.size ∧ b < H'.size)) H' v' (l' ++ Y) → Fr (fun b _ => Z b) H H' → H'.size ≤ H.size + 1 → C H' ∧ Pl P B f Q n l C k p ((d, v') :: r) H') : Pl P B f Q n l C k ((i, 2) :: p) r H := by
  rcases hA with ⟨rfl, rfl⟩ | ⟨b, o, c, rfl, hz, hlt, hs⟩
  · rw [List.length_nil, Nat.zero_add] at hb h63
    refine O.appN (m := Y.length) (news := row E Y) hi hg hd T hx hy hv (row_len E Y) hb h63 hm fun cap' H' h1 h2 h3 => ?_
    refine h _ _ (.inr ⟨H.size, 0, cap', by rw [List.nil_append], .inr ⟨rfl, by omega⟩, by omega, ?_⟩) (h2.mono fun _ _ _ h => h.elim) (by omega)
    exact h1
  · refine O.app (m := Y.length) (news := row E Y) (xs := row E l') (s := E.s) hi hg hd T hx hs hy (.inl hv) (row_len E Y) (row_ones E Y) hb h63 fun b' o' cap' H' ha => ?_
    have hp : b' = b ∧ H'.size = H.size ∨ b' = H.size ∧ H'.size = H.size + 1 := ha.place.elim (fun h => .inl ⟨h.1, h.2.2.2⟩) (fun h => .inr ⟨h.1, h.2.2⟩)
    refine h _ _ (.inr ⟨b', o', cap', by rw [List.length_append], ?_, by omega, SlE.apps ha⟩) (ha.fr.mono fun b1 o1 _ h1 => ?_) (by omega)
    · rcases hp with ⟨rfl, _⟩ | ⟨rfl, _⟩
      · exact .inl hz
      · exact .inr ⟨rfl, by omega⟩
    · have : b1 = b := h1.1
      subst this; exact hz
end
end Go.Bt
/- The order of strings: by bytes. Conditions: none. -/
namespace Go.Bt
open Go
set_option linter.unusedVariables false
section
variable {P : Program} {B : World} {f : FuncId} {Q : Value → Mem → Prop} {n : Nat} {r : Env} {k : List Item} {H : Mem} {l : List Oper} {C : Mem → Prop} {p : List (Nat × Nat)}
variable {i kd d : Nat} {ty : TypeId} {pos : String} {af : Array Edge} {gd : Option (Nat × Bool)}
end
end Go.Bt
/- What is told of each setting; lists put together. Conditions: none. -/
namespace Go.Bt
open Go
set_option linter.unusedVariables false
namespace Pl
end Pl
section
variable {P : Program} {B : World} {f : FuncId} {Q : Value → Mem → Prop} {n : Nat} {r : Env} {k : List Item} {H : Mem} {l : List Oper} {C : Mem → Prop} {p : List (Nat × Nat)}
variable {i kd d : Nat} {ty : TypeId} {pos : String} {af : Array Edge} {gd : Option (Nat × Bool)}
/-- A list that lies in a block, be it empty. -/
def AccN {α : Type} (E : Elt α) (Z : Nat → Prop) (H : Mem) (v : Value) (l : List α) : Prop := ∃ b o c, v = .slice (some ⟨b, o, none⟩) l.length c ∧ Z b ∧ b < H.size ∧ SlE E H b o c l
theorem AccN.acc {α : Type} {E : Elt α} {Z : Nat → Prop} {H : Mem} {v : Value} {l : List α} (h : AccN E Z H v l) : Acc E Z H v l := .inr h
theorem AccN.fr {α : Type} {E : Elt α} {Z : Nat → Prop} {X : Nat → Nat → Prop} {H H' : Mem} {v : Value} {l : List α} (h : AccN E Z H v l) (hf : Fr X H H') (hz : ∀ b o, b < H.size → Z b → ¬ X b o) : AccN E Z H' v l :=
  have ⟨b, o, c, e, z, hb, hs⟩ := h
  ⟨b, o, c, e, z, Nat.lt_of_lt_of_le hb hf.size, hs.fr hf fun i _ _ => hz b i hb z⟩
theorem AccN.mono {α : Type} {E : Elt α} {Z Y : Nat → Prop} {H : Mem} {v : Value} {l : List α} (h : AccN E Z H v l) (hz : ∀ b, b < H.size → Z b → Y b) : AccN E Y H v l :=
  have ⟨b, o, c, e, z, hb, hs⟩ := h
  ⟨b, o, c, e, hz b hb z, hb, hs⟩
theorem AccN.made {α : Type} {E : Elt α} {H H' : Mem} {c : Array Value} {e : TypeId} (h : Made H H' c e) : AccN E (fun b => H.size ≤ b) H' (.slice (some ⟨H.size, 0, none⟩) 0 0) [] :=
  ⟨H.size, 0, 0, rfl, Nat.le_refl _, by rw [h.size]; omega, Sl.none _ _ _ _⟩
theorem O.appI {α : Type} {E : Elt α} {t e : TypeId} {by' : Nat} {z : Value} {x y : Operand} {v u : Value} {l' Y : List α} {Z : Nat → Prop} (hi : l[i]? = some ⟨some d, .call ⟨.builtin .append, #[x, y], #[t, t]⟩, ty, pos, af, gd⟩)
    (hg : guardOn l r gd = true) (hd : Nat.blt d n = true) (T : SlT P t e E.s by' z) (hx : ev r x = some v) (hA : AccN E Z H v l') (hy : ev r y = some u)
    (hv : InS E H u Y) (hb : (l'.length + Y.length) * by' ≤ 140737488355328) (h63 : l'.length + Y.length < 9223372036854775808)
    (h : ∀ v' H', AccN E (fun b => Z b ∨ (b = H.size ∧ b < H'.size)) H' v' (l' ++ Y) → Fr (fun b _ => Z b) H H' → H'.size ≤ H.size + 1 → C H' ∧ Pl P B f Q n l C k p ((d, v') :: r) H') : Pl P B f Q n l C k ((i, 2) :: p) r H := by
  obtain ⟨b, o, c, rfl, hz, hlt, hs⟩ := hA
  refine O.app (m := Y.length) (news := row E Y) (xs := row E l') (s := E.s) hi hg hd T hx hs hy hv.src (row_len E Y) (row_ones E Y) hb h63 fun b' o' cap' H' ha => ?_
  have hp : b' = b ∧ H'.size = H.size ∨ b' = H.size ∧ H'.size = H.size + 1 := ha.place.elim (fun h => .inl ⟨h.1, h.2.2.2⟩) (fun h => .inr ⟨h.1, h.2.2⟩)
  refine h _ _ ⟨b', o', cap', by rw [List.length_append], ?_, by omega, SlE.apps ha⟩ (ha.fr.mono fun b1 o1 _ h1 => ?_) (by omega)
  · rcases hp with ⟨rfl, _⟩ | ⟨rfl, _⟩
    · exact .inl hz
    · exact .inr ⟨rfl, by omega⟩
  · have : b1 = b := h1.1
    subst this; exact hz
end
end Go.Bt
/- Room for a list; numbers of other sizes; slices against nil. Conditions: none. -/
namespace Go.Bt
open Go
set_option linter.unusedVariables false
section
variable {P : Program} {B : World} {H : Mem}
/-- append(nil, make([]T, m)...). -/
theorem run_append_zeros {t t2 e ty : TypeId} {s by' : Nat} {z : Value} {kk : IntKind} (T : SlT P t e s by' z) (h2 : P.underlying t2 = some (.int kk)) {a : Option Addr} {m : Nat} (hb : m * by' ≤ 140737488355328) (h63 : m < 9223372036854775808) (hm : 0 < m)
    (d : Nat) : ∃ cap' H' d', (Builtin.append_ #[t, t2] ty #[.slice a 0 0, .int .i64 (m : Int)]).run P (mk B H d) = .ok (.slice (some ⟨H.size, 0, none⟩) m cap') (mk B H' d') ∧ m ≤ cap' ∧ Wr H' H.size 0 (cap' * s) ∧ Fr nowhere H H' ∧ H'.size = H.size + 1 := by
  obtain ⟨inf, hinf, hby⟩ := T.bytes
  have hcap : ((Question.appendCap m 0 e).cut ((mk B H d).tape (mk B H d).drawn (.appendCap m 0 e))) = grownCap (mk B H d) m 0 e := rfl
  generalize hG : grownCap (mk B H d) m 0 e = G at *
  have hge : m ≤ G := by rw [← hG]; exact Nat.le_add_right _ _
  have hfit : ¬ (281474976710656 < Builtin.nextslicecap m 0 * inf.bytes) := by
    have := growslice_fits (need := m) (old := 0) (bytes := by') (by omega) hb
    rw [hby]; omega
  have hmade := made_push H (Builtin.zeroCells z.cells m ++ Builtin.zeroCells z.cells (G - m)) e
  have hsize : (Builtin.zeroCells z.cells m ++ Builtin.zeroCells z.cells (G - m)).size = G * s := by
    simp only [Array.size_append, zeroCells_size, T.zs, ← Nat.add_mul]
    congr 1
    omega
  refine ⟨G, H.push (.cells (Builtin.zeroCells z.cells m ++ Builtin.zeroCells z.cells (G - m)) e), d + 1, ?_, hge, hmade.wr _ (by rw [hsize]; exact Nat.le_refl _) T.lt, hmade.fr _, hmade.size⟩
  have hi : IntKind.i64.max = 9223372036854775807 := rfl
  have hw : IntKind.i64.wrap (m : Int) = (m : Int) := wrap_id ⟨by omega, by omega⟩
  have hq : (choose (.appendCap m 0 e)).run P (mk B H d) = .ok G (mk B H (d + 1)) := by
    rw [run_choose]
    simp only [Question.forced, Bool.false_eq_true, if_false]
    rw [hcap]; rfl
  have hz := T.zero (mk B H (d + 1))
  have hroom : ¬ (m ≤ 0) := by omega
  have hneg : ¬ ((m : Int) < 0) := by omega
  have hbig : ¬ ((281474976710656 : Int) < (m : Int) * (inf.bytes : Int)) := by
    rw [hby]
    have : ((m * by' : Nat) : Int) ≤ 140737488355328 := by omega
    push_cast at this
    omega
  have hms : ¬ (m * s = 0) := fun h => by
    have := Nat.mul_pos hm T.pos
    omega
  have hg2 : ¬ ((m : Int) > IntKind.i64.max ∧ (True ∨ inf.bytes = 0)) := fun h => by have := h.1; rw [hi] at this; omega
  have hg3 : ¬ (Builtin.nextslicecap m 0 * inf.bytes > 2 ^ 48) := by simpa using hfit
  have hg4 : ¬ ((9223372036854775807 : Int) < (m : Int)) := by omega
  simp [Builtin.append_, run_und T.und, run_und h2, T.sz _, asInt, asIntOf, hw, hneg, hi, hg4, hfit, hbig, hinf, hms, run_askRoom, run_firstCells_empty, newRow, show ∀ w, (zeroValue e).run P w = .ok z w from T.zero, show m ≠ 0 by omega, Question.forced, hcap]
  exact ⟨rfl, rfl⟩
end
section
variable {P : Program} {B : World} {f : FuncId} {Q : Value → Mem → Prop} {n : Nat} {r : Env} {k : List Item} {H : Mem} {l : List Oper} {C : Mem → Prop} {p : List (Nat × Nat)}
variable {i kd d : Nat} {ty : TypeId} {pos : String} {af : Array Edge} {gd : Option (Nat × Bool)}
theorem O.appZ {t t2 e : TypeId} {s by' : Nat} {z : Value} {kk : IntKind} {x y : Operand} {a : Option Addr} {m : Nat} (hi : l[i]? = some ⟨some d, .call ⟨.builtin .append, #[x, y], #[t, t2]⟩, ty, pos, af, gd⟩)
    (hg : guardOn l r gd = true) (hd : Nat.blt d n = true) (T : SlT P t e s by' z) (h2 : P.underlying t2 = some (.int kk)) (hx : ev r x = some (.slice a 0 0)) (hy : ev r y = some (.int .i64 (m : Int)))
    (hb : m * by' ≤ 140737488355328) (h63 : m < 9223372036854775808) (hm : 0 < m)
    (h : ∀ cap' H', m ≤ cap' → Wr H' H.size 0 (cap' * s) → Fr nowhere H H' → H'.size = H.size + 1 → C H' ∧ Pl P B f Q n l C k p ((d, .slice (some ⟨H.size, 0, none⟩) m cap') :: r) H') : Pl P B f Q n l C k ((i, 2) :: p) r H :=
  Pl.loudV hi rfl hg hd (fun u H' => ∃ cap', u = .slice (some ⟨H.size, 0, none⟩) m cap' ∧ m ≤ cap' ∧ Wr H' H.size 0 (cap' * s) ∧ Fr nowhere H H' ∧ H'.size = H.size + 1)
    (fun a2 d' ha => by
      obtain ⟨cap', H', d'', h1, h3⟩ := run_append_zeros (a := a) (ty := ty) T h2 hb h63 hm d'
      refine ⟨_, H', d'', ?_, cap', rfl, h3⟩
      simp only [execOp, resolve, List.map_toArray, List.map_cons, List.map_nil, ha.eval hx, ha.eval hy, Sem.run_bind, Sem.run_pure, Result.andThen_ok, invoke, builtin]
      rw [h1]; rfl)
    (fun u H' hu => by obtain ⟨cap', rfl, h1, h2, h3, h4⟩ := hu; exact h cap' H' h1 h2 h3 h4)
theorem O.cvi {src dst : TypeId} {x : Operand} {k1 : IntKind} {z v : Int} (hi : l[i]? = some ⟨some d, .convert src dst x, ty, pos, af, gd⟩) (hg : guardOn l r gd = true) (hd : Nat.blt d n = true)
    (hs : (P.underlying src).isSome = true) (hu : P.underlying dst = some (.int (P.intKind dst))) (hk : P.intKind dst = .i64) (hx : ev r x = some (.int k1 z)) (hv : IntKind.i64.wrap z = v) (hC : C H)
    (h : Pl P B f Q n l C k p ((d, .int .i64 v) :: r) H) : Pl P B f Q n l C k ((i, 2) :: p) r H :=
  Pl.loudV hi rfl hg hd (fun u H' => u = .int .i64 v ∧ H' = H)
    (fun a d' ha => ⟨_, H, d', by
      have hc : (convert src dst (.int k1 z)).run P (mk B H d') = .ok (.int .i64 v) (mk B H d') := by rw [run_convert_int _ src dst k1 z hs hu, hk, hv]
      simp [execOp, ha.eval hx, hc], rfl, rfl⟩)
    (fun u H' hu => by obtain ⟨rfl, rfl⟩ := hu; exact ⟨hC, h⟩)
theorem run_equalIn_sl {P : Program} {t e : TypeId} (hu : P.underlying t = some (.slice e)) (k : Nat) (a : Option Addr) (m c : Nat) (w : World) : (Op.equalIn (k + 1) t (.slice a m c) (.slice none 0 0)).run P w = .ok a.isNone w := by
  cases a <;> simp [Op.equalIn, run_und hu]
theorem O.slNil {t t' e : TypeId} {x y : Operand} {a : Option Addr} {m c : Nat} (hi : l[i]? = some ⟨some d, .binOp .eql t x y t', ty, pos, af, gd⟩) (hk : Nat.blt kd 2 = true) (hg : guardOn l r gd = true) (hd : Nat.blt d n = true)
    (hu : P.underlying t = some (.slice e)) (hx : ev r x = some (.slice a m c)) (hy : ev r y = some (.slice none 0 0)) (h : Pl P B f Q n l C k p ((d, .bool a.isNone) :: r) H) : Pl P B f Q n l C k ((i, kd) :: p) r H :=
  O.bin hi hk hg hd hx hy (fun w => ⟨by unfold eqGuard; simp, by
    have h1 := run_equalIn_sl hu 9999 a m c w
    have h2 : binOp .eql t (.slice a m c) (.slice none 0 0) = (do pure (.bool (← Op.equal t (.slice a m c) (.slice none 0 0)))) := by cases a <;> rfl
    rw [h2]
    simp only [Op.equal, Op.maxDepth, Sem.run_bind, h1, Result.andThen_ok, Sem.run_pure]⟩) h
end
end Go.Bt
/- Appending to a list that a function gathers, nothing or something. Conditions: none. -/
namespace Go.Bt
open Go
set_option linter.unusedVariables false
section
variable {P : Program} {B : World} {f : FuncId} {Q : Value → Mem → Prop} {n : Nat} {r : Env} {k : List Item} {H : Mem} {l : List Oper} {C : Mem → Prop} {p : List (Nat × Nat)}
variable {i kd d : Nat} {ty : TypeId} {pos : String} {af : Array Edge} {gd : Option (Nat × Bool)}
/-- A conversion to another kind of integers. -/
theorem O.cvk {src dst : TypeId} {x : Operand} {k1 : IntKind} (kk : IntKind) {z v : Int} (hi : l[i]? = some ⟨some d, .convert src dst x, ty, pos, af, gd⟩) (hg : guardOn l r gd = true) (hd : Nat.blt d n = true)
    (hs : (P.underlying src).isSome = true) (hu : P.underlying dst = some (.int (P.intKind dst))) (hk : P.intKind dst = kk) (hx : ev r x = some (.int k1 z)) (hv : kk.wrap z = v) (hC : C H)
    (h : Pl P B f Q n l C k p ((d, .int kk v) :: r) H) : Pl P B f Q n l C k ((i, 2) :: p) r H :=
  Pl.loudV hi rfl hg hd (fun u H' => u = .int kk v ∧ H' = H)
    (fun a d' ha => ⟨_, H, d', by
      have hc : (convert src dst (.int k1 z)).run P (mk B H d') = .ok (.int kk v) (mk B H d') := by rw [run_convert_int _ src dst k1 z hs hu, hk, hv]
      simp [execOp, ha.eval hx, hc], rfl, rfl⟩)
    (fun u H' hu => by obtain ⟨rfl, rfl⟩ := hu; exact ⟨hC, h⟩)
theorem wrap_idU {z : Int} (h : 0 ≤ z ∧ z < 18446744073709551616) : IntKind.u64.wrap z = z := by
  have e : (2 ^ IntKind.u64.bits : Int) = 18446744073709551616 := rfl
  unfold IntKind.wrap
  simp only [IntKind.signed, Bool.false_and, Bool.false_eq_true, if_false]
  rw [e]
  exact Int.emod_eq_of_lt h.1 h.2
theorem wrap_id8 {z : Int} (h : 0 ≤ z ∧ z < 256) : IntKind.u8.wrap z = z := by
  have e : (2 ^ IntKind.u8.bits : Int) = 256 := rfl
  unfold IntKind.wrap
  simp only [IntKind.signed, Bool.false_and, Bool.false_eq_true, if_false]
  rw [e]
  exact Int.emod_eq_of_lt h.1 h.2
end
section
variable {P : Program} {B : World} {f : FuncId} {Q : Value → Mem → Prop} {n : Nat} {r : Env} {H : Mem} {σ : Type}
/-- What stands behind a piece of code, once for all its roads. -/
theorem Go'.share2 {c c2 : Item} {k : List Item} (J : σ → Mem → Prop) (q : σ → Env)
    (ht : ∀ s H', J s H' → Go' P B f Q n (q s) k H') (h : (∀ s H', J s H' → Go' P B f Q n (q s) k H') → Go' P B f Q n r (c :: c2 :: k) H) : Go' P B f Q n r (c :: c2 :: k) H := h ht
/-- A label in a scope that several roads reach: from there on once. -/
theorem Go'.joinL {l : Nat} {body X : Code} {k k2 : List Item} (_hx : gotoIn l (.inScope body :: k) = some (.code (.seq .skip X) :: k2)) (J : σ → Mem → Prop) (q : σ → Env)
    (ht : ∀ s H', J s H' → Go' P B f Q n (q s) (.code X :: k2) H') (h : (∀ s H', J s H' → Go' P B f Q n (q s) (.code X :: k2) H') → Go' P B f Q n r (.code body :: .inScope body :: k) H) : Go' P B f Q n r (.code body :: .inScope body :: k) H := h ht
end
section
variable {P : Program} {B : World} {f : FuncId} {Q : Value → Mem → Prop} {n : Nat} {r : Env} {k : List Item} {H : Mem} {l : List Oper} {C : Mem → Prop} {p : List (Nat × Nat)}
variable {i kd d : Nat} {ty : TypeId} {pos : String} {af : Array Edge} {gd : Option (Nat × Bool)}
theorem run_indexArr {t e : TypeId} {b o s len j : Nat} {kk : IntKind} (hu : P.underlying t = some (.array len e)) (hs : Sz P e s) (hj : j < len) (w : World) : (Instr.indexAt t (.pointer (some ⟨b, o, none⟩)) (.int kk (j : Int))).run P w = .ok (.pointer (some ⟨b, o + j * s, none⟩)) w := by
  have h : (0 : Int) ≤ (j : Int) ∧ (j : Int) < (len : Int) := by omega
  simp only [Instr.indexAt, asIntOf, Instr.sureAddr, Sem.run_bind, Sem.run_pure, Result.andThen_ok, run_und hu, if_pos h, hs _, Int.toNat_natCast, Addr.add_lit]
/-- The address of an element of an array. -/
theorem O.ixr {t e : TypeId} {x ix : Operand} {b o s len j : Nat} {kk : IntKind} {z : Int} (hi : l[i]? = some ⟨some d, .indexAddr t x ix, ty, pos, af, gd⟩) (hk : Nat.blt kd 2 = true) (hg : guardOn l r gd = true) (hd : Nat.blt d n = true)
    (hu : P.underlying t = some (.array len e)) (hs : Sz P e s) (hx : ev r x = some (.pointer (some ⟨b, o, none⟩))) (hix : ev r ix = some (.int kk z)) (hz : z = (j : Int)) (hj : j < len)
    (h : Pl P B f Q n l C k p ((d, .pointer (some ⟨b, o + j * s, none⟩)) :: r) H) : Pl P B f Q n l C k ((i, kd) :: p) r H :=
  Pl.quiet hi hk hg hd (fun a H' d' ha _ => by subst hz; simp [execOp, ha.eval hx, ha.eval hix, run_indexArr hu hs hj]) h
end
end Go.Bt
/- Numbers put into order: neither their order nor how often they come matters. Conditions: none. -/
namespace Go.Bt.Pl
set_option linter.unusedVariables false
end Go.Bt.Pl
