/- Plain mathematics: sorted lists under a strict weak order; where an item stands, setting it, deleting it; lists that are laid between the lists of others. Conditions: none. No program in sight. -/
namespace Go.Bt.Pl

/-- A strict weak order. -/
structure Swo (α : Type) where
  lt : α → α → Bool
  irr : ∀ x, lt x x = false
  ntr : ∀ {x y z}, lt x y = false → lt y z = false → lt x z = false
  asy : ∀ {x y}, lt x y = true → lt y x = false

variable {α : Type} (O : Swo α)

theorem Swo.trans {x y z : α} (h : O.lt x y = true) (k : O.lt y z = true) : O.lt x z = true := by
  cases hx : O.lt x z with
  | true => rfl
  | false => have := O.ntr hx (O.asy k); rw [h] at this; cases this
theorem Swo.lt_of_lt_of_le {x y z : α} (h : O.lt x y = true) (k : O.lt z y = false) : O.lt x z = true := by
  cases hx : O.lt x z with
  | true => rfl
  | false => have := O.ntr hx k; rw [h] at this; cases this
theorem Swo.lt_of_le_of_lt {x y z : α} (h : O.lt y x = false) (k : O.lt y z = true) : O.lt x z = true := by
  cases hx : O.lt x z with
  | true => rfl
  | false => have := O.ntr h hx; rw [k] at this; cases this

/-- Sorted, no two equal. -/
def Srt (l : List α) : Prop := l.Pairwise fun x y => O.lt x y = true

/-- How many items stand before x. -/
def pos (x : α) (l : List α) : Nat := (l.takeWhile fun y => O.lt y x).length
/-- Is there one that is equal to x in the order? -/
def fnd (x : α) (l : List α) : Bool := match l[pos O x l]? with
  | some y => !O.lt x y
  | none => false
/-- The list with x in its place. -/
def put (x : α) (l : List α) : List α := l.take (pos O x l) ++ x :: l.drop (pos O x l + (fnd O x l).toNat)
/-- The list without what is equal to x. -/
def del (x : α) (l : List α) : List α := l.take (pos O x l) ++ l.drop (pos O x l + (fnd O x l).toNat)

theorem pos_le (x : α) (l : List α) : pos O x l ≤ l.length := (List.takeWhile_sublist _).length_le

/-- A split that tells the place. -/
theorem pos_eq {x : α} {a b : List α} (ha : ∀ y ∈ a, O.lt y x = true) (hb : ∀ y, b.head? = some y → O.lt y x = false) : pos O x (a ++ b) = a.length := by
  unfold pos
  rw [List.takeWhile_append_of_pos (fun y hy => by simpa using ha y hy)]
  cases b with
  | nil => simp
  | cons y b => simp [hb y rfl]

theorem pos_split (x : α) (l : List α) : (∀ y ∈ l.take (pos O x l), O.lt y x = true) ∧ (∀ y, (l.drop (pos O x l)).head? = some y → O.lt y x = false) := by
  induction l with
  | nil => simp [pos]
  | cons z l ih =>
    by_cases hz : O.lt z x = true
    · have : pos O x (z :: l) = pos O x l + 1 := by simp [pos, hz]
      rw [this, List.take_succ_cons, List.drop_succ_cons]
      exact ⟨fun y hy => by rcases List.mem_cons.1 hy with rfl | hy; exact hz; exact ih.1 y hy, ih.2⟩
    · have : pos O x (z :: l) = 0 := by simp [pos, hz]
      rw [this]
      refine ⟨by simp, fun y hy => ?_⟩
      simp only [List.drop_zero, List.head?_cons, Option.some.injEq] at hy
      subst hy
      simpa using hz

theorem Srt.append {a b : List α} : Srt O (a ++ b) ↔ Srt O a ∧ Srt O b ∧ ∀ x ∈ a, ∀ y ∈ b, O.lt x y = true := List.pairwise_append
theorem Srt.cons {x : α} {b : List α} : Srt O (x :: b) ↔ (∀ y ∈ b, O.lt x y = true) ∧ Srt O b := List.pairwise_cons

/-- In a sorted list all that stands from the place on is not less. -/
theorem Srt.drop_pos {x : α} {l : List α} (h : Srt O l) : ∀ y ∈ l.drop (pos O x l), O.lt y x = false := by
  intro y hy
  have h1 := (pos_split O x l).2
  have h2 : Srt O (l.drop (pos O x l)) := h.sublist (List.drop_sublist _ _)
  cases hd : l.drop (pos O x l) with
  | nil => rw [hd] at hy; cases hy
  | cons z t =>
    rw [hd] at hy h1 h2
    have hz := h1 z rfl
    rcases List.mem_cons.1 hy with rfl | hy
    · exact hz
    · cases hyx : O.lt y x with
      | false => rfl
      | true => have := O.trans (((Srt.cons O).1 h2).1 y hy) hyx; rw [hz] at this; cases this

/-- The middle of a list in which x has its place. -/
theorem pos_mid {x : α} {a m c : List α} (ha : ∀ y ∈ a, O.lt y x = true) (hc : ∀ y ∈ c, O.lt x y = true) : pos O x (a ++ m ++ c) = a.length + pos O x m := by
  have hs := pos_split O x m
  have hm : m = m.take (pos O x m) ++ m.drop (pos O x m) := (List.take_append_drop _ _).symm
  have : a ++ m ++ c = (a ++ m.take (pos O x m)) ++ (m.drop (pos O x m) ++ c) := by
    rw [List.append_assoc, List.append_assoc, ← List.append_assoc (m.take _), ← hm]
  rw [this, pos_eq O]
  · simp [List.length_take, Nat.min_eq_left (pos_le O x m)]
  · intro y hy
    rcases List.mem_append.1 hy with hy | hy
    · exact ha y hy
    · exact hs.1 y hy
  · intro y hy
    cases hd : m.drop (pos O x m) with
    | nil =>
      rw [hd, List.nil_append] at hy
      exact O.asy (hc y (List.mem_of_mem_head? hy))
    | cons z t => rw [hd] at hy; simp only [List.cons_append, List.head?_cons, Option.some.injEq] at hy; subst hy; exact hs.2 z (by rw [hd]; rfl)

theorem fnd_mid {x : α} {a m c : List α} (ha : ∀ y ∈ a, O.lt y x = true) (hc : ∀ y ∈ c, O.lt x y = true) : fnd O x (a ++ m ++ c) = fnd O x m := by
  unfold fnd
  rw [pos_mid O ha hc]
  have hle := pos_le O x m
  rcases Nat.lt_or_ge (pos O x m) m.length with h | h
  · rw [List.getElem?_append_left (by simp; omega), List.getElem?_append_right (by omega), Nat.add_sub_cancel_left]
  · rw [List.getElem?_eq_none (l := m) h]
    have hp : pos O x m = m.length := by omega
    rw [hp, List.getElem?_append_right (by simp)]
    simp only [List.length_append, Nat.sub_self]
    cases c with
    | nil => rfl
    | cons z c => simp [hc z List.mem_cons_self]

theorem fnd_pos_lt {x : α} {l : List α} (h : fnd O x l = true) : pos O x l < l.length := by
  unfold fnd at h
  split at h
  · rename_i y hy; exact (List.getElem?_eq_some_iff.1 hy).1
  · cases h

theorem take_mid {a m c : List α} {i : Nat} (h : i ≤ m.length) : (a ++ m ++ c).take (a.length + i) = a ++ m.take i := by
  rw [List.append_assoc, List.take_append, List.take_append]
  simp [Nat.sub_eq_zero_of_le h, List.take_of_length_le]
theorem drop_mid {a m c : List α} {i : Nat} (h : i ≤ m.length) : (a ++ m ++ c).drop (a.length + i) = m.drop i ++ c := by
  rw [List.append_assoc, List.drop_append, List.drop_append]
  simp [Nat.sub_eq_zero_of_le h, List.drop_of_length_le]

theorem put_mid {x : α} {a m c : List α} (ha : ∀ y ∈ a, O.lt y x = true) (hc : ∀ y ∈ c, O.lt x y = true) : put O x (a ++ m ++ c) = a ++ put O x m ++ c := by
  unfold put
  rw [pos_mid O ha hc, fnd_mid O ha hc, take_mid (pos_le O x m), Nat.add_assoc, drop_mid]
  · simp
  · cases hf : fnd O x m with
    | false => simpa using pos_le O x m
    | true => have := fnd_pos_lt O hf; simp; omega

theorem del_mid {x : α} {a m c : List α} (ha : ∀ y ∈ a, O.lt y x = true) (hc : ∀ y ∈ c, O.lt x y = true) : del O x (a ++ m ++ c) = a ++ del O x m ++ c := by
  unfold del
  rw [pos_mid O ha hc, fnd_mid O ha hc, take_mid (pos_le O x m), Nat.add_assoc, drop_mid]
  · simp
  · cases hf : fnd O x m with
    | false => simpa using pos_le O x m
    | true => have := fnd_pos_lt O hf; simp; omega

/-- Setting keeps a list sorted. -/
theorem Srt.put {x : α} {l : List α} (h : Srt O l) : Srt O (Pl.put O x l) := by
  unfold Pl.put
  rw [Srt.append, Srt.cons]
  have h1 := (pos_split O x l).1
  have h2 : Srt O (l.drop (pos O x l + (fnd O x l).toNat)) := h.sublist (List.drop_sublist _ _)
  have h3 : ∀ y ∈ l.drop (pos O x l + (fnd O x l).toNat), O.lt x y = true := by
    intro y hy
    have hsd : Srt O (l.drop (pos O x l)) := h.sublist (List.drop_sublist _ _)
    have hnl := h.drop_pos O (x := x)
    cases hd : l.drop (pos O x l) with
    | nil => rw [← List.drop_drop, hd] at hy; simp at hy
    | cons z t =>
      have hz : l[pos O x l]? = some z := by
        have : (l.drop (pos O x l))[0]? = some z := by rw [hd]; rfl
        simpa using this
      rw [hd] at hsd
      cases hf : fnd O x l with
      | false =>
        rw [hf, ← List.drop_drop, hd] at hy
        have hxz : O.lt x z = true := by
          unfold fnd at hf
          rw [hz] at hf
          simpa using hf
        simp only [Bool.toNat_false, List.drop_zero] at hy
        rcases List.mem_cons.1 hy with rfl | hy
        · exact hxz
        · exact O.trans hxz (((Srt.cons O).1 hsd).1 y hy)
      | true =>
        rw [hf, ← List.drop_drop, hd] at hy
        simp only [Bool.toNat_true, List.drop_succ_cons, List.drop_zero] at hy
        have hzx : O.lt z x = false := hnl z (by rw [hd]; exact List.mem_cons_self)
        exact O.lt_of_le_of_lt hzx (((Srt.cons O).1 hsd).1 y hy)
  refine ⟨h.sublist (List.take_sublist _ _), ⟨h3, h2⟩, fun y hy z hz => ?_⟩
  rcases List.mem_cons.1 hz with rfl | hz
  · exact h1 y hy
  · exact O.trans (h1 y hy) (h3 z hz)

theorem Srt.del {x : α} {l : List α} (h : Srt O l) : Srt O (Pl.del O x l) := by
  have := h.put O (x := x)
  unfold Pl.put at this
  unfold Pl.del
  exact this.sublist (List.Sublist.append_left (List.sublist_cons_self _ _) _)

theorem length_put (x : α) (l : List α) : (put O x l).length = l.length + (1 - (fnd O x l).toNat) := by
  unfold put
  simp only [List.length_append, List.length_cons, List.length_take, List.length_drop]
  have := pos_le O x l
  cases hf : fnd O x l with
  | false => simp; omega
  | true => have := fnd_pos_lt O hf; simp; omega

theorem length_del (x : α) (l : List α) : (del O x l).length + (fnd O x l).toNat = l.length := by
  unfold del
  simp only [List.length_append, List.length_take, List.length_drop]
  have := pos_le O x l
  cases hf : fnd O x l with
  | false => simp; omega
  | true => have := fnd_pos_lt O hf; simp; omega

theorem del_none {x : α} {l : List α} (h : fnd O x l = false) : del O x l = l := by unfold del; rw [h]; simp

/-! What a search by halves comes to. -/
theorem search_found {x : α} {l : List α} {i : Nat} {y : α} (hs : Srt O l) (hi : l[i]? = some y) (h1 : O.lt y x = false) (h2 : O.lt x y = false) : pos O x l = i ∧ fnd O x l = true := by
  have hil : i < l.length := (List.getElem?_eq_some_iff.1 hi).1
  have hy : l[i] = y := (List.getElem?_eq_some_iff.1 hi).2
  have hsp : l.take i ++ y :: l.drop (i + 1) = l := by rw [← hy, List.getElem_cons_drop, List.take_append_drop]
  have hp : pos O x l = i := by
    have h3 := hs
    rw [← hsp, Srt.append] at h3
    have := pos_eq O (x := x) (a := l.take i) (b := y :: l.drop (i + 1)) (fun z hz => O.lt_of_lt_of_le (h3.2.2 z hz y List.mem_cons_self) h2) (fun z hz => by simp only [List.head?_cons, Option.some.injEq] at hz; subst hz; exact h1)
    rw [hsp] at this
    rw [this, List.length_take]; omega
  exact ⟨hp, by unfold fnd; rw [hp, hi]; simp [h2]⟩

theorem search_none {x : α} {l : List α} {i : Nat} (hs : Srt O l) (hil : i ≤ l.length) (h1 : ∀ y, i ≠ 0 → l[i - 1]? = some y → O.lt y x = true) (h2 : ∀ y, l[i]? = some y → O.lt x y = true) : pos O x l = i ∧ fnd O x l = false := by
  have hp : pos O x l = i := by
    have h3 := hs
    rw [← List.take_append_drop i l, Srt.append] at h3
    have := pos_eq O (x := x) (a := l.take i) (b := l.drop i) (fun z hz => by
        rcases Nat.eq_zero_or_pos i with rfl | hi
        · simp at hz
        · have hlast : l[i - 1]? = some l[i - 1] := by simp
          have hx := h1 _ (by omega) hlast
          obtain ⟨j, hj, rfl⟩ := List.mem_iff_getElem.1 hz
          simp only [List.length_take] at hj
          rw [List.getElem_take]
          rcases Nat.lt_or_ge j (i - 1) with hlt | hge
          · exact O.trans (List.pairwise_iff_getElem.1 hs j (i - 1) (by omega) (by omega) hlt) hx
          · have : j = i - 1 := by omega
            subst this; exact hx)
      (fun z hz => O.asy (h2 z (by rw [← hz, List.head?_drop])))
    rw [List.take_append_drop] at this
    rw [this, List.length_take]; omega
  refine ⟨hp, ?_⟩
  unfold fnd
  rw [hp]
  cases hh : l[i]? with
  | none => rfl
  | some y => simp [h2 y hh]

/-! ### Lists between items -/
def inter : List α → List (List α) → List α
  | X, [] => X
  | [], k :: _ => k
  | x :: X, k :: K => k ++ x :: inter X K

def pre : List α → List (List α) → List α
  | x :: X, k :: K => k ++ x :: pre X K
  | _, _ => []
def post : List α → List (List α) → List α
  | x :: X, k :: K => x :: k ++ post X K
  | _, _ => []

theorem inter_post : ∀ (X : List α) (k : List α) (K : List (List α)), X.length = K.length → inter X (k :: K) = k ++ post X K
  | [], k, [], _ => by simp [inter, post]
  | x :: X, k, k' :: K, h => by
    simp only [inter, post]
    rw [inter_post X k' K (by simpa using h)]
    simp
  | [], _, _ :: _, h => by simp at h
  | _ :: _, _, [], h => by simp at h

/-- The view from one of the lists. -/
theorem inter_focus : ∀ (X1 X2 : List α) (K1 : List (List α)) (k : List α) (K2 : List (List α)), X1.length = K1.length → X2.length = K2.length → inter (X1 ++ X2) (K1 ++ k :: K2) = pre X1 K1 ++ k ++ post X2 K2
  | [], X2, [], k, K2, _, h2 => by simp [pre, inter_post X2 k K2 h2]
  | x :: X1, X2, k1 :: K1, k, K2, h1, h2 => by
    simp only [List.cons_append, inter, pre]
    rw [inter_focus X1 X2 K1 k K2 (by simpa using h1) h2]
    simp
  | [], _, _ :: _, _, _, h, _ => by simp at h
  | _ :: _, _, [], _, _, h, _ => by simp at h

/-- The view from one of the items. -/
theorem inter_item : ∀ (X1 X2 : List α) (x : α) (K1 K2 : List (List α)), X1.length + 1 = K1.length → inter (X1 ++ x :: X2) (K1 ++ K2) = inter X1 K1 ++ x :: inter X2 K2
  | [], X2, x, [k], K2, _ => by simp [inter]
  | y :: X1, X2, x, k :: K1, K2, h => by
    simp only [List.cons_append, inter]
    rw [inter_item X1 X2 x K1 K2 (by simpa using h)]
    simp
  | [], _, _, [], _, h => by simp at h
  | [], _, _, _ :: _ :: _, _, h => by simp at h
  | _ :: _, _, _, [], _, h => by simp at h

theorem mem_pre_of_item : ∀ {X : List α} {K : List (List α)} {y : α}, y ∈ pre X K → y ∈ X ∨ ∃ k ∈ K, y ∈ k
  | x :: X, k :: K, y, h => by
    simp only [pre, List.mem_append, List.mem_cons] at h
    rcases h with h | rfl | h
    · exact .inr ⟨k, List.mem_cons_self, h⟩
    · exact .inl List.mem_cons_self
    · rcases mem_pre_of_item h with h | ⟨k', hk, hy⟩
      · exact .inl (List.mem_cons_of_mem _ h)
      · exact .inr ⟨k', List.mem_cons_of_mem _ hk, hy⟩
  | [], _, y, h => by simp [pre] at h
  | _ :: _, [], y, h => by simp [pre] at h

/-- All that stands ahead of a list is less than what the last item ahead of it is not greater than. -/
theorem pre_lt {x : α} : ∀ {X : List α} {K : List (List α)}, X.length = K.length → Srt O (pre X K) → (∀ y, X.getLast? = some y → O.lt y x = true) → ∀ y ∈ pre X K, O.lt y x = true
  | [], _, _, _, _, y, hy => by simp [pre] at hy
  | _ :: _, [], h, _, _, _, _ => by simp at h
  | z :: X, k :: K, hl, hs, hx, y, hy => by
    simp only [pre] at hs hy
    rw [Srt.append, Srt.cons] at hs
    have hrest : ∀ w ∈ pre X K, O.lt w x = true := by
      cases X with
      | nil => intro w hw; simp [pre] at hw
      | cons z' X => exact pre_lt (by simpa using hl) hs.2.1.2 (fun y hy => hx y (by simpa using hy))
    have hz : O.lt z x = true := by
      cases X with
      | nil => exact hx z rfl
      | cons z' X =>
        cases K with
        | nil => simp at hl
        | cons k' K => exact O.trans (hs.2.1.1 z' (by simp [pre])) (hrest z' (by simp [pre]))
    rcases List.mem_append.1 hy with hy | hy
    · exact O.trans (hs.2.2 y hy z List.mem_cons_self) hz
    · rcases List.mem_cons.1 hy with rfl | hy
      · exact hz
      · exact hrest y hy

theorem post_gt {x : α} {X : List α} {K : List (List α)} (hs : Srt O (post X K)) (hx : ∀ y, X.head? = some y → O.lt x y = true) (y : α) (hy : y ∈ post X K) : O.lt x y = true := by
  cases X with
  | nil => simp [post] at hy
  | cons z X =>
    cases K with
    | nil => simp [post] at hy
    | cons k K =>
      simp only [post, List.cons_append] at hs hy
      have hz := hx z rfl
      rcases List.mem_cons.1 hy with rfl | hy
      · exact hz
      · exact O.trans hz (((Srt.cons O).1 hs).1 y hy)

/-- The items alone are sorted, too. -/
theorem sublist_inter : ∀ (X : List α) (K : List (List α)), X.length < K.length → X.Sublist (inter X K)
  | [], k :: K, _ => List.nil_sublist _
  | x :: X, k :: K, h => by
    simp only [inter]
    exact ((sublist_inter X K (by simpa using h)).cons_cons x).trans (List.sublist_append_right _ _)
  | [], [], h => by simp at h
  | _ :: _, [], h => by simp at h
end Go.Bt.Pl
