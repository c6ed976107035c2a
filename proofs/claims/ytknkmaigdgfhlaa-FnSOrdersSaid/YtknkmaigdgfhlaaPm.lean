/- Plain sorted lists that are parted among nodes: where an item has its place. Conditions: none. -/
import Derived.Test.YtknkmaigdgfhlaaPl
namespace Go.Bt.Pl
set_option linter.unusedVariables false
variable {α : Type} (O : Swo α)

/-- What stands in the list that is equal to x. -/
def got (x : α) (l : List α) : Option α := if fnd O x l then l[pos O x l]? else none

theorem got_none {x : α} {l : List α} (h : fnd O x l = false) : got O x l = none := by unfold got; rw [h]; rfl
theorem got_some {x : α} {l : List α} (h : fnd O x l = true) : got O x l = l[pos O x l]? := by unfold got; rw [h]; rfl
theorem got_isSome (x : α) (l : List α) : (got O x l).isSome = fnd O x l := by
  cases h : fnd O x l with
  | false => rw [got_none O h]; rfl
  | true => rw [got_some O h, List.getElem?_eq_getElem (fnd_pos_lt O h)]; rfl
theorem got_mid {x : α} {a m c : List α} (ha : ∀ y ∈ a, O.lt y x = true) (hc : ∀ y ∈ c, O.lt x y = true) : got O x (a ++ m ++ c) = got O x m := by
  unfold got
  rw [fnd_mid O ha hc, pos_mid O ha hc]
  cases h : fnd O x m with
  | false => rfl
  | true =>
    have := fnd_pos_lt O h
    simp only [if_true]
    rw [List.getElem?_append_left (by simp; omega), List.getElem?_append_right (by omega), Nat.add_sub_cancel_left]

/-- An equal item stands there. -/
theorem at_item {x y : α} {a c : List α} (hs : Srt O (a ++ y :: c)) (h1 : O.lt y x = false) (h2 : O.lt x y = false) :
    pos O x (a ++ y :: c) = a.length ∧ fnd O x (a ++ y :: c) = true ∧ got O x (a ++ y :: c) = some y ∧ put O x (a ++ y :: c) = a ++ x :: c ∧ del O x (a ++ y :: c) = a ++ c := by
  have hi : (a ++ y :: c)[a.length]? = some y := by simp
  obtain ⟨e1, e2⟩ := search_found O hs hi h1 h2
  refine ⟨e1, e2, ?_, ?_, ?_⟩
  · rw [got_some O e2, e1, hi]
  · unfold put; rw [e1, e2]
    simp only [Bool.toNat_true]
    rw [List.take_left, ← List.drop_drop, List.drop_left]; rfl
  · unfold del; rw [e1, e2]
    simp only [Bool.toNat_true]
    rw [List.take_left, ← List.drop_drop, List.drop_left]; rfl

theorem fnd_at {x : α} {l : List α} (hs : Srt O l) (h : fnd O x l = true) : ∃ y, l[pos O x l]? = some y ∧ O.lt y x = false ∧ O.lt x y = false := by
  have hlt := fnd_pos_lt O h
  refine ⟨l[pos O x l], List.getElem?_eq_getElem hlt, ?_, ?_⟩
  · exact hs.drop_pos O (x := x) _ (by rw [← List.getElem_cons_drop (h := hlt)]; exact List.mem_cons_self)
  · unfold fnd at h
    rw [List.getElem?_eq_getElem hlt] at h
    simpa using h

/-- A node's own item is the one. -/
theorem inter_found {x : α} {X : List α} {K : List (List α)} (hs : Srt O (inter X K)) (hl : K.length = X.length + 1) (h : fnd O x X = true) :
    ∃ y, X[pos O x X]? = some y ∧ O.lt y x = false ∧ O.lt x y = false ∧ inter X K = inter (X.take (pos O x X)) (K.take (pos O x X + 1)) ++ y :: inter (X.drop (pos O x X + 1)) (K.drop (pos O x X + 1)) ∧
      fnd O x (inter X K) = true ∧ got O x (inter X K) = some y ∧ put O x (inter X K) = inter (X.take (pos O x X) ++ x :: X.drop (pos O x X + 1)) K ∧
      pos O x (inter X K) = (inter (X.take (pos O x X)) (K.take (pos O x X + 1))).length ∧ del O x (inter X K) = inter (X.take (pos O x X)) (K.take (pos O x X + 1)) ++ inter (X.drop (pos O x X + 1)) (K.drop (pos O x X + 1)) := by
  have hX : Srt O X := hs.sublist (sublist_inter X K (by omega))
  obtain ⟨y, hy, h1, h2⟩ := fnd_at O hX h
  have hlt := fnd_pos_lt O h
  have hsp : X = X.take (pos O x X) ++ y :: X.drop (pos O x X + 1) := by
    rw [← (List.getElem?_eq_some_iff.1 hy).2, List.getElem_cons_drop, List.take_append_drop]
  have hl2 : (X.take (pos O x X)).length + 1 = (K.take (pos O x X + 1)).length := by
    rw [List.length_take, List.length_take, Nat.min_eq_left (by omega), Nat.min_eq_left (by omega)]
  have e : inter X K = inter (X.take (pos O x X)) (K.take (pos O x X + 1)) ++ y :: inter (X.drop (pos O x X + 1)) (K.drop (pos O x X + 1)) := by
    rw [← inter_item _ _ _ _ _ hl2, List.take_append_drop, ← hsp]
  have e2 : inter (X.take (pos O x X) ++ x :: X.drop (pos O x X + 1)) K = inter (X.take (pos O x X)) (K.take (pos O x X + 1)) ++ x :: inter (X.drop (pos O x X + 1)) (K.drop (pos O x X + 1)) := by
    rw [← inter_item _ _ _ _ _ hl2, List.take_append_drop]
  have hs' := hs
  rw [e] at hs'
  obtain ⟨a1, a2, a3, a4, a5⟩ := at_item O hs' h1 h2
  exact ⟨y, hy, h1, h2, e, by rw [e]; exact a2, by rw [e]; exact a3, by rw [e, a4, e2], by rw [e, a1], by rw [e, a5]⟩

/-- The item's place is in a child. -/
theorem inter_child {x : α} {X : List α} {K : List (List α)} (hs : Srt O (inter X K)) (hl : K.length = X.length + 1) (h : fnd O x X = false) {k : List α} (hk : K[pos O x X]? = some k) :
    inter X K = pre (X.take (pos O x X)) (K.take (pos O x X)) ++ k ++ post (X.drop (pos O x X)) (K.drop (pos O x X + 1)) ∧
      (∀ y ∈ pre (X.take (pos O x X)) (K.take (pos O x X)), O.lt y x = true) ∧ (∀ y ∈ post (X.drop (pos O x X)) (K.drop (pos O x X + 1)), O.lt x y = true) ∧
      ∀ m, inter X (K.take (pos O x X) ++ m :: K.drop (pos O x X + 1)) = pre (X.take (pos O x X)) (K.take (pos O x X)) ++ m ++ post (X.drop (pos O x X)) (K.drop (pos O x X + 1)) := by
  have hX : Srt O X := hs.sublist (sublist_inter X K (by omega))
  have hle := pos_le O x X
  have hkl := (List.getElem?_eq_some_iff.1 hk).1
  have hsp : K = K.take (pos O x X) ++ k :: K.drop (pos O x X + 1) := by
    rw [← (List.getElem?_eq_some_iff.1 hk).2, List.getElem_cons_drop, List.take_append_drop]
  have l1 : (X.take (pos O x X)).length = (K.take (pos O x X)).length := by
    rw [List.length_take, List.length_take, Nat.min_eq_left (by omega), Nat.min_eq_left (by omega)]
  have l2 : (X.drop (pos O x X)).length = (K.drop (pos O x X + 1)).length := by rw [List.length_drop, List.length_drop]; omega
  have foc : ∀ m, inter X (K.take (pos O x X) ++ m :: K.drop (pos O x X + 1)) = pre (X.take (pos O x X)) (K.take (pos O x X)) ++ m ++ post (X.drop (pos O x X)) (K.drop (pos O x X + 1)) := fun m => by
    have := inter_focus (X.take (pos O x X)) (X.drop (pos O x X)) (K.take (pos O x X)) m (K.drop (pos O x X + 1)) l1 l2
    rwa [List.take_append_drop] at this
  have e := foc k
  rw [← hsp] at e
  have hs' := hs
  rw [e, Srt.append, Srt.append] at hs'
  have hps := pos_split O x X
  refine ⟨e, pre_lt O l1 hs'.1.1 fun y hy => hps.1 y (List.mem_of_getLast? hy), post_gt O hs'.2.1 fun y hy => ?_, foc⟩
  have hy0 : X[pos O x X]? = some y := by rw [← hy, List.head?_drop]
  have : fnd O x X = !O.lt x y := by unfold fnd; rw [hy0]
  rw [h] at this
  cases hxy : O.lt x y with
  | true => rfl
  | false => rw [hxy] at this; cases this
end Go.Bt.Pl
namespace Go.Bt.Pl
variable {α : Type} (O : Swo α)
/-- A child parted in two around an item. -/
theorem inter_split {X1 X2 : List α} {K1 K2 : List (List α)} {a b : List α} {m : α} (h1 : X1.length = K1.length) (h2 : X2.length = K2.length) :
    inter (X1 ++ X2) (K1 ++ (a ++ m :: b) :: K2) = inter (X1 ++ m :: X2) (K1 ++ a :: b :: K2) := by
  rw [inter_focus _ _ _ _ _ h1 h2, show K1 ++ a :: b :: K2 = (K1 ++ [a]) ++ (b :: K2) by simp, inter_item _ _ _ _ _ (by simp [h1]), inter_post _ _ _ h2]
  have := inter_focus X1 [] K1 a [] h1 rfl
  rw [List.append_nil] at this
  rw [this]
  simp [post]
theorem after_pos {x : α} {X : List α} (hs : Srt O X) (h : fnd O x X = false) : ∀ y ∈ X.drop (pos O x X), O.lt x y = true := by
  intro y hy
  have hsd : Srt O (X.drop (pos O x X)) := hs.sublist (List.drop_sublist _ _)
  cases hd : X.drop (pos O x X) with
  | nil => rw [hd] at hy; cases hy
  | cons z t =>
    have hz : X[pos O x X]? = some z := by
      have : (X.drop (pos O x X))[0]? = some z := by rw [hd]; rfl
      simpa using this
    have hxz : O.lt x z = true := by
      unfold fnd at h; rw [hz] at h; simpa using h
    rw [hd] at hy hsd
    rcases List.mem_cons.1 hy with rfl | hy
    · exact hxz
    · exact O.trans hxz (((Srt.cons O).1 hsd).1 y hy)
theorem pos_ins {x m : α} {X : List α} (hs : Srt O X) (h : fnd O x X = false) : pos O x (X.take (pos O x X) ++ m :: X.drop (pos O x X)) = pos O x X ∨ pos O x (X.take (pos O x X) ++ m :: X.drop (pos O x X)) = pos O x X + 1 := by
  have := pos_mid O (x := x) (a := X.take (pos O x X)) (m := [m]) (c := X.drop (pos O x X)) (pos_split O x X).1 (after_pos O hs h)
  rw [List.append_assoc, List.singleton_append] at this
  rw [this, List.length_take, Nat.min_eq_left (pos_le O x X)]
  have h1 := pos_le O x [m]
  simp only [List.length_singleton] at h1
  omega
theorem ins_list2 (X : List α) (e x : α) (i : Nat) (hi : i < X.length) :
    ((X ++ [e]).take (i + 1) ++ X.drop i ++ (X ++ [e]).drop (i + 1 + (X.drop i).length)).take (i + 1) ++ x :: ((X ++ [e]).take (i + 1) ++ X.drop i ++ (X ++ [e]).drop (i + 1 + (X.drop i).length)).drop (i + 1 + 1) = X.take (i + 1) ++ x :: X.drop (i + 1) := by
  have h1 : ((X ++ [e]).take (i + 1)).length = i + 1 := by simp; omega
  have h2 : (X ++ [e]).drop (i + 1 + (X.drop i).length) = [] := by apply List.drop_eq_nil_of_le; simp; omega
  rw [h2, List.append_nil]
  have h3 : ((X ++ [e]).take (i + 1) ++ X.drop i).take (i + 1) = X.take (i + 1) := by
    rw [List.take_append_of_le_length (by omega), List.take_take, Nat.min_self, List.take_append_of_le_length (by omega)]
  have h4 : ((X ++ [e]).take (i + 1) ++ X.drop i).drop (i + 1 + 1) = X.drop (i + 1) := by
    rw [← List.drop_drop, List.drop_append, h1, Nat.sub_self, List.drop_zero, List.drop_of_length_le (l := (X ++ [e]).take (i + 1)) (by omega), List.nil_append, List.drop_drop]
  rw [h3, h4]
end Go.Bt.Pl
