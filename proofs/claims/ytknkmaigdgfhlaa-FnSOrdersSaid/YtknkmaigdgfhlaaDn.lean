/- The items of a sorted list up to a pivot, and those from it on. Conditions: none. -/
import Derived.Test.YtknkmaigdgfhlaaCb
namespace Go.Bt.Pl
set_option linter.unusedVariables false
variable {α : Type} (O : Swo α)
/-- Those that do not come behind x. -/
def dn (x : α) (l : List α) : List α := l.take (pos O x l + (fnd O x l).toNat)
/-- Those that do not come before x. -/
def up (x : α) (l : List α) : List α := l.drop (pos O x l)
theorem dn_mid {x : α} {a m c : List α} (ha : ∀ y ∈ a, O.lt y x = true) (hc : ∀ y ∈ c, O.lt x y = true) : dn O x (a ++ m ++ c) = a ++ dn O x m := by
  have h1 := pos_le O x m
  have h2 : pos O x m + (fnd O x m).toNat ≤ m.length := by
    cases h : fnd O x m with
    | false => simpa using h1
    | true => have := fnd_pos_lt O h; simp; omega
  unfold dn
  rw [pos_mid O ha hc, fnd_mid O ha hc, Nat.add_assoc, take_mid h2]
theorem up_mid {x : α} {a m c : List α} (ha : ∀ y ∈ a, O.lt y x = true) (hc : ∀ y ∈ c, O.lt x y = true) : up O x (a ++ m ++ c) = up O x m ++ c := by
  unfold up
  rw [pos_mid O ha hc, drop_mid (pos_le O x m)]
theorem pre_succ {α : Type} : ∀ {j : Nat} {X : List α} {K : List (List α)} {x : α} {k : List α}, X[j]? = some x → K[j]? = some k → pre (X.take (j + 1)) (K.take (j + 1)) = pre (X.take j) (K.take j) ++ (k ++ [x])
  | 0, x :: X, k :: K, _, _, h1, h2 => by simp at h1 h2; subst h1; subst h2; simp [pre]
  | j + 1, x :: X, k :: K, _, _, h1, h2 => by
    simp only [List.take_succ_cons, pre]
    rw [pre_succ (j := j) (by simpa using h1) (by simpa using h2)]
    simp
  | _, [], _, _, _, h1, _ => by simp at h1
  | _, _ :: _, [], _, _, _, h2 => by simp at h2
theorem post_succ {α : Type} {j : Nat} {X : List α} {K : List (List α)} {x : α} {k : List α} (h1 : X[j]? = some x) (h2 : K[j + 1]? = some k) : post (X.drop j) (K.drop (j + 1)) = x :: (k ++ post (X.drop (j + 1)) (K.drop (j + 1 + 1))) := by
  obtain ⟨h1, e1⟩ := List.getElem?_eq_some_iff.1 h1
  obtain ⟨h2, e2⟩ := List.getElem?_eq_some_iff.1 h2
  rw [← List.getElem_cons_drop (h := h1), ← List.getElem_cons_drop (h := h2), e1, e2]
  rfl
theorem inter_eq_pre {α : Type} : ∀ {j : Nat} {X : List α} {K : List (List α)} {k : List α}, j ≤ X.length → K[j]? = some k → inter (X.take j) (K.take (j + 1)) = pre (X.take j) (K.take j) ++ k
  | 0, X, k :: K, _, _, h2 => by simp at h2; subst h2; simp [inter, pre]
  | j + 1, x :: X, k :: K, _, h1, h2 => by
    simp only [List.take_succ_cons, inter, pre]
    rw [inter_eq_pre (j := j) (by simpa using h1) (by simpa using h2)]
    simp
  | _, _, [], _, _, h2 => by simp at h2
  | j + 1, [], _ :: _, _, h1, _ => by simp at h1
theorem at_item_dn {x y : α} {a c : List α} (hs : Srt O (a ++ y :: c)) (h1 : O.lt y x = false) (h2 : O.lt x y = false) : dn O x (a ++ y :: c) = a ++ [y] ∧ up O x (a ++ y :: c) = y :: c := by
  obtain ⟨p, f, _⟩ := at_item O hs h1 h2
  unfold dn up
  rw [p, f]
  refine ⟨?_, by simp⟩
  rw [show a ++ y :: c = (a ++ [y]) ++ c by simp, List.take_left' (by simp)]
theorem dn_found {x : α} {X : List α} {K : List (List α)} (hs : Srt O (inter X K)) (hl : K.length = X.length + 1) (h : fnd O x X = true) :
    dn O x (inter X K) = pre (X.take (pos O x X + 1)) (K.take (pos O x X + 1)) ∧ up O x (inter X K) = post (X.drop (pos O x X)) (K.drop (pos O x X + 1)) := by
  obtain ⟨y, hy, h1, h2, e, _⟩ := inter_found O hs hl h
  have hlt := fnd_pos_lt O h
  rw [e] at hs ⊢
  obtain ⟨a, b⟩ := at_item_dn O hs h1 h2
  rw [a, b]
  obtain ⟨k, hk⟩ : ∃ k, K[pos O x X]? = some k := ⟨K[pos O x X], List.getElem?_eq_getElem (by omega)⟩
  obtain ⟨k', hk'⟩ : ∃ k, K[pos O x X + 1]? = some k := ⟨K[pos O x X + 1], List.getElem?_eq_getElem (by omega)⟩
  refine ⟨by rw [pre_succ hy hk, inter_eq_pre (Nat.le_of_lt hlt) hk, List.append_assoc], ?_⟩
  rw [post_succ hy hk']
  obtain ⟨h3, e3⟩ := List.getElem?_eq_some_iff.1 hk'
  rw [← List.getElem_cons_drop (h := h3), e3, inter_post _ _ _ (by rw [List.length_drop, List.length_drop]; omega)]
theorem dn_child {x : α} {X : List α} {K : List (List α)} (hs : Srt O (inter X K)) (hl : K.length = X.length + 1) (h : fnd O x X = false) {k : List α} (hk : K[pos O x X]? = some k) :
    dn O x (inter X K) = pre (X.take (pos O x X)) (K.take (pos O x X)) ++ dn O x k ∧ up O x (inter X K) = up O x k ++ post (X.drop (pos O x X)) (K.drop (pos O x X + 1)) := by
  obtain ⟨e, h1, h2, _⟩ := inter_child O hs hl h hk
  rw [e]
  exact ⟨dn_mid O h1 h2, up_mid O h1 h2⟩
theorem child_srt {x : α} {X : List α} {K : List (List α)} (hs : Srt O (inter X K)) (hl : K.length = X.length + 1) (h : fnd O x X = false) {k : List α} (hk : K[pos O x X]? = some k) : Srt O k := by
  obtain ⟨e, _⟩ := inter_child O hs hl h hk
  rw [e, Srt.append, Srt.append] at hs
  exact hs.1.2.1
theorem dn_le (x : α) (l : List α) : (dn O x l).length ≤ l.length := by unfold dn; rw [List.length_take]; omega
theorem up_le (x : α) (l : List α) : (up O x l).length ≤ l.length := by unfold up; rw [List.length_drop]; omega
theorem pre_len {α : Type} (X : List α) (K : List (List α)) (h : K.length = X.length + 1) (j : Nat) (hj : j ≤ X.length) : (pre (X.take j) (K.take j)).length ≤ (inter X K).length := by
  obtain ⟨k, hk⟩ : ∃ k, K[j]? = some k := ⟨K[j], List.getElem?_eq_getElem (by omega)⟩
  have l1 : (X.take j).length = (K.take j).length := by rw [List.length_take, List.length_take]; omega
  have l2 : (X.drop j).length = (K.drop (j + 1)).length := by rw [List.length_drop, List.length_drop]; omega
  have := inter_focus (X.take j) (X.drop j) (K.take j) k (K.drop (j + 1)) l1 l2
  rw [List.take_append_drop, ← (List.getElem?_eq_some_iff.1 hk).2, List.getElem_cons_drop, List.take_append_drop] at this
  rw [this, List.length_append, List.length_append]
  omega
end Go.Bt.Pl
namespace Go.Bt
theorem takes_cons {α : Type} (go : List α → Bool) (A : List α) (x : α) (l : List α) : takes go A (x :: l) = if go (A ++ [x]) then takes go (A ++ [x]) l else (A ++ [x], false) := rfl
theorem takes_rest {α : Type} {go : List α → Bool} {A l r : List α} (h : (takes go A l).2 = true) : takes go A (l ++ r) = takes go (takes go A l).1 r := by rw [takes_append, h]; rfl
theorem takes_halt {α : Type} {go : List α → Bool} {A l r : List α} (h : (takes go A l).2 = false) : takes go A (l ++ r) = takes go A l := by rw [takes_append, h]; rfl
end Go.Bt
