/- Trees in memory: nodes, their items and children, which cells are theirs, what stays when other cells are written. Conditions: none. -/
import Derived.Test.YtknkmaigdgfhlaaLgD
import Derived.Test.YtknkmaigdgfhlaaPl
namespace Go.Bt
open Go

/-- How an item lies in memory. -/
structure Elt (α : Type) where
  enc : α → List Value
  s : Nat
  len : ∀ x, (enc x).length = s
  one : ∀ x, ones (enc x) = true
  pos : 0 < s

section
variable {α : Type} (E : Elt α)

def row (xs : List α) : List Value := xs.flatMap E.enc

theorem row_len (xs : List α) : (row E xs).length = xs.length * E.s := by
  induction xs with
  | nil => simp [row]
  | cons x xs ih => simp only [row, List.flatMap_cons, List.length_append, E.len, List.length_cons] at *; rw [ih, Nat.succ_mul]; omega
theorem row_append (xs ys : List α) : row E (xs ++ ys) = row E xs ++ row E ys := by simp [row]
theorem row_cons (x : α) (ys : List α) : row E (x :: ys) = E.enc x ++ row E ys := by simp [row]
theorem row_one (x : α) : row E [x] = E.enc x := by simp [row]
theorem ones_append (a b : List Value) : ones (a ++ b) = (ones a && ones b) := by simp [ones]
theorem row_ones (xs : List α) : ones (row E xs) = true := by
  induction xs with
  | nil => rfl
  | cons x xs ih => rw [row_cons, ones_append, E.one, ih]; rfl
theorem row_get {xs : List α} {i : Nat} {x : α} (h : xs[i]? = some x) (j : Nat) (v : Value) (hv : (E.enc x)[j]? = some v) : (row E xs)[i * E.s + j]? = some v := by
  have hi : i < xs.length := (List.getElem?_eq_some_iff.1 h).1
  have hj : j < E.s := by have := (List.getElem?_eq_some_iff.1 hv).1; rwa [E.len] at this
  have hsp : xs = xs.take i ++ x :: xs.drop (i + 1) := by
    have hx : xs[i] = x := (List.getElem?_eq_some_iff.1 h).2
    rw [← hx, List.getElem_cons_drop, List.take_append_drop]
  have hlen : (xs.take i).length = i := by simp; omega
  rw [hsp, row_append, row_cons, List.getElem?_append_right (by rw [row_len, hlen]; omega), row_len, hlen, Nat.add_sub_cancel_left, List.getElem?_append_left (by rw [E.len]; exact hj)]
  exact hv
/-- One item out of a row. -/
theorem Rd.item {H : Mem} {b o : Nat} {xs : List α} (h : Rd H b o (row E xs)) {i : Nat} {x : α} (hx : xs[i]? = some x) : Rd H b (o + i * E.s) (E.enc x) := fun j v hv => by
  rw [Nat.add_assoc]; exact h _ v (row_get E hx j v hv)
theorem Rd.item' {H : Mem} {b o : Nat} {xs : List α} (h : Rd H b o (row E xs)) {i : Nat} {x : α} (hx : xs[i]? = some x) {j : Nat} {v : Value} (hv : (E.enc x)[j]? = some v) : cl H b (o + i * E.s + j) = some v := Rd.item E h hx j v hv

theorem Rd.append {H : Mem} {b o : Nat} {u v : List Value} : Rd H b o (u ++ v) ↔ Rd H b o u ∧ Rd H b (o + u.length) v := by
  constructor
  · intro h
    refine ⟨fun i x hx => h i x ?_, fun i x hx => ?_⟩
    · rw [List.getElem?_append_left (List.getElem?_eq_some_iff.1 hx).1]; exact hx
    · rw [Nat.add_assoc]; exact h _ x (by rw [List.getElem?_append_right (by omega), Nat.add_sub_cancel_left]; exact hx)
  · rintro ⟨h1, h2⟩ i x hx
    rcases Nat.lt_or_ge i u.length with h | h
    · rw [List.getElem?_append_left h] at hx; exact h1 i x hx
    · rw [List.getElem?_append_right h] at hx
      have := h2 _ x hx
      rwa [show o + u.length + (i - u.length) = o + i by omega] at this
theorem Rd.nil (H : Mem) (b o : Nat) : Rd H b o [] := fun i v h => by simp at h
theorem Rd.one {H : Mem} {b o : Nat} {v : Value} (h : cl H b o = some v) : Rd H b o [v] := fun i x hx => by
  match i, hx with
  | 0, hx => simp only [List.getElem?_cons_zero, Option.some.injEq] at hx; subst hx; exact h
  | i + 1, hx => simp at hx

/-- An array of items in memory: all its cells may be written, the first ones read so. -/
def SlE (H : Mem) (b o c : Nat) (X : List α) : Prop := Sl H b o X.length c E.s (row E X)

variable {E} in
theorem SlE.item {H : Mem} {b o c : Nat} {X : List α} (h : SlE E H b o c X) {i : Nat} {x : α} (hx : X[i]? = some x) : Rd H b (o + i * E.s) (E.enc x) := Rd.item E h.rd hx
variable {E} in
theorem SlE.cell {H : Mem} {b o c : Nat} {X : List α} (h : SlE E H b o c X) {i : Nat} {x : α} (hx : X[i]? = some x) {j : Nat} {v : Value} (hv : (E.enc x)[j]? = some v) : cl H b (o + i * E.s + j) = some v := Rd.item' E h.rd hx hv
variable {E} in
theorem SlE.wri {H : Mem} {b o c : Nat} {X : List α} (h : SlE E H b o c X) {i : Nat} (hi : i < X.length) : Wr H b (o + i * E.s) E.s := fun j hj => by
  have h1 := h.wr (i * E.s + j) (by
    have h2 := h.hle
    have h3 : (i + 1) * E.s ≤ c * E.s := Nat.mul_le_mul_right E.s (by omega)
    rw [Nat.succ_mul] at h3
    omega)
  rw [Nat.add_assoc]; exact h1
variable {E} in
theorem SlE.wrm {H : Mem} {b o c : Nat} {X : List α} (h : SlE E H b o c X) {i m : Nat} (hi : i + m ≤ X.length) : Wr H b (o + i * E.s) (m * E.s) := fun j hj => by
  have h1 := h.wr (i * E.s + j) (by
    have h2 := h.hle
    have h3 : (i + m) * E.s ≤ c * E.s := Nat.mul_le_mul_right E.s (by omega)
    rw [Nat.add_mul] at h3
    omega)
  rw [Nat.add_assoc]; exact h1
variable {E} in
theorem SlE.fr {Z : Nat → Nat → Prop} {H H' : Mem} {b o c : Nat} {X : List α} (h : SlE E H b o c X) (hf : Fr Z H H') (hn : ∀ i, o ≤ i → i < o + c * E.s → ¬ Z b i) : SlE E H' b o c X :=
  Sl.fr h hf fun i hi => hn _ (by omega) (by
    have := Nat.mul_le_mul_right E.s h.hle
    omega)
variable {E} in
/-- A part of the array, to be read. -/
theorem SlE.sub {H : Mem} {b o c : Nat} {X : List α} (h : SlE E H b o c X) (i m : Nat) (hi : i ≤ X.length) : Rd H b (o + i * E.s) (row E ((X.drop i).take m)) := by
  have h1 : X = X.take i ++ ((X.drop i).take m ++ (X.drop i).drop m) := by rw [List.take_append_drop, List.take_append_drop]
  have h2 := h.rd
  rw [h1, row_append, row_append] at h2
  have h3 := ((Rd.append).1 ((Rd.append).1 h2).2).1
  rw [row_len, List.length_take, Nat.min_eq_left hi] at h3
  exact h3
variable {E} in
/-- A part of the array is written. -/
theorem SlE.put {H H' : Mem} {b o c i : Nat} {X Y : List α} (h : SlE E H b o c X) (hw : Wrote H H' b (o + i * E.s) (row E Y)) (hi : i + Y.length ≤ X.length) : SlE E H' b o c (X.take i ++ Y ++ X.drop (i + Y.length)) := by
  have hl : (X.take i ++ Y ++ X.drop (i + Y.length)).length = X.length := by simp; omega
  refine ⟨by rw [row_len], by rw [hl]; exact h.hle, ?_, hw.fr.wr h.wr⟩
  have h2 := h.rd
  have h1 : X = X.take i ++ ((X.drop i).take Y.length ++ X.drop (i + Y.length)) := by rw [← List.drop_drop, List.take_append_drop, List.take_append_drop]
  rw [h1, row_append, row_append] at h2
  obtain ⟨r1, r2⟩ := (Rd.append).1 h2
  obtain ⟨_, r3⟩ := (Rd.append).1 r2
  have l1 : (row E (X.take i)).length = i * E.s := by rw [row_len, List.length_take, Nat.min_eq_left (by omega)]
  have l2 : (row E ((X.drop i).take Y.length)).length = Y.length * E.s := by rw [row_len, List.length_take, List.length_drop, Nat.min_eq_left (by omega)]
  have l3 : (row E Y).length = Y.length * E.s := row_len E Y
  rw [l1, l2] at r3
  have hb : ∀ j, ¬ rng b (o + i * E.s) (row E Y).length b j ↔ j < o + i * E.s ∨ o + i * E.s + Y.length * E.s ≤ j := fun j => by rw [← l3]; simp only [rng, true_and]; omega
  rw [row_append, row_append, Rd.append, Rd.append]
  refine ⟨⟨hw.fr.rd r1 fun j hj => (hb _).2 (by rw [l1] at hj; omega), ?_⟩, ?_⟩
  · rw [l1]; exact hw.rd
  · rw [List.length_append, l1, l3, ← Nat.add_assoc]
    exact hw.fr.rd r3 fun j hj => (hb _).2 (by omega)
variable {E} in
/-- One item is written. -/
theorem SlE.set {H H' : Mem} {b o c i : Nat} {X : List α} {x : α} (h : SlE E H b o c X) (hw : Wrote H H' b (o + i * E.s) (E.enc x)) (hi : i < X.length) : SlE E H' b o c (X.take i ++ x :: X.drop (i + 1)) := by
  have := h.put (Y := [x]) (by rw [row_one]; exact hw) (by rw [List.length_singleton]; omega)
  simpa using this
variable {E} in
/-- An item is appended. -/
theorem SlE.app {H H' : Mem} {b o c b' o' c' : Nat} {X : List α} {x : α} (ha : App H H' b o X.length c 1 E.s (row E X) (E.enc x) b' o' c') : SlE E H' b' o' c' (X ++ [x]) := by
  have := ha.sl
  unfold SlE
  rw [row_append, row_one, List.length_append]
  exact this
variable {E} in
theorem SlE.apps {H H' : Mem} {b o c b' o' c' : Nat} {X Y : List α} (ha : App H H' b o X.length c Y.length E.s (row E X) (row E Y) b' o' c') : SlE E H' b' o' c' (X ++ Y) := by
  have := ha.sl
  unfold SlE
  rw [row_append, List.length_append]
  exact this
variable {E} in
/-- A shorter slice of the same array. -/
theorem SlE.take {H : Mem} {b o c : Nat} {X : List α} (h : SlE E H b o c X) (i : Nat) : SlE E H b o c (X.take i) := by
  refine ⟨by rw [row_len], by have := h.hle; rw [List.length_take]; omega, ?_, h.wr⟩
  have h2 := h.rd
  rw [← List.take_append_drop i X, row_append] at h2
  exact ((Rd.append).1 h2).1
variable {E} in
/-- The array is parted: the first items, with no room behind them; those behind one more. -/
theorem SlE.left {H : Mem} {b o c : Nat} {X : List α} (h : SlE E H b o c X) {i : Nat} (hi : i ≤ X.length) : SlE E H b o i (X.take i) :=
  ⟨by rw [row_len], by rw [List.length_take]; omega, (h.take i).rd, fun j hj => h.wr j (by
    have := Nat.mul_le_mul_right E.s (Nat.le_trans hi h.hle)
    omega)⟩
variable {E} in
theorem SlE.right {H : Mem} {b o c : Nat} {X : List α} (h : SlE E H b o c X) {i : Nat} (hi : i ≤ X.length) : SlE E H b (o + i * E.s) (c - i) (X.drop i) :=
  ⟨by rw [row_len], by have := h.hle; rw [List.length_drop]; omega, by
    have := h.sub i (X.length - i) hi
    rwa [List.take_of_length_le (by rw [List.length_drop]; omega)] at this, fun j hj => by
    have h1 := h.wr (i * E.s + j) (by
      have h2 : i * E.s ≤ c * E.s := Nat.mul_le_mul_right E.s (Nat.le_trans hi h.hle)
      rw [Nat.sub_mul] at hj
      omega)
    rw [Nat.add_assoc]; exact h1⟩

/-- A node: where it lies. -/
structure Ng where
  p : Nat
  iso : Nat
  cnt : Nat
  ib : Nat
  io : Nat
  ic : Nat
  cb : Nat
  kb : Nat
  ko : Nat
  kc : Nat

def ptr (p : Nat) : Value := .pointer (some ⟨p, 0, none⟩)
/-- Pointers, some of them nil, as items. -/
def EP : Elt (Option Nat) := { enc := fun x => [match x with | some p => ptr p | none => .pointer none], s := 1, len := fun _ => rfl, one := fun x => by cases x <;> rfl, pos := by decide }

/-- The node's cells, with these items; a leaf. -/
structure NodeM (H : Mem) (g : Ng) (X : List α) (kp : Value) : Prop where
  c0 : cl H g.p 0 = some (.int .u64 (g.iso : Int))
  c1 : cl H g.p 1 = some (.int .i64 (g.cnt : Int))
  c2 : cl H g.p 2 = some (.slice (some ⟨g.ib, g.io, none⟩) X.length g.ic)
  c3 : cl H g.p 3 = some kp
  wr : Wr H g.p 0 4
  sl : SlE E H g.ib g.io g.ic X
  ic : 0 < g.ic
  ne : g.p ≠ g.ib

/-- The node's children. -/
structure KidM (H : Mem) (g : Ng) (ks : List Nat) : Prop where
  c : cl H g.cb 0 = some (.slice (some ⟨g.kb, g.ko, none⟩) ks.length g.kc)
  wr : Wr H g.cb 0 1
  sl : SlE EP H g.kb g.ko g.kc (ks.map some)
  kc : 0 < g.kc
  n1 : g.cb ≠ g.kb
  n2 : g.p ≠ g.cb
  n3 : g.p ≠ g.kb
  n4 : g.ib ≠ g.cb
  n5 : g.ib ≠ g.kb

/-- The cells of a node; of a node's children. -/
def ncl (g : Ng) : Nat → Nat → Prop := fun b o => (b = g.p ∧ o < 4) ∨ (b = g.ib ∧ g.io ≤ o ∧ o < g.io + g.ic * E.s)
def kcl (g : Ng) : Nat → Nat → Prop := fun b o => (b = g.cb ∧ o < 1) ∨ (b = g.kb ∧ g.ko ≤ o ∧ o < g.ko + g.kc)

theorem NodeM.fr {X : List α} {kp : Value} {H H' : Mem} {g : Ng} {Z : Nat → Nat → Prop} (h : NodeM E H g X kp) (hf : Fr Z H H') (hz : ∀ b o, ncl E g b o → ¬ Z b o) : NodeM E H' g X kp where
  c0 := hf.keep h.c0 (hz _ _ (.inl ⟨rfl, by omega⟩))
  c1 := hf.keep h.c1 (hz _ _ (.inl ⟨rfl, by omega⟩))
  c2 := hf.keep h.c2 (hz _ _ (.inl ⟨rfl, by omega⟩))
  c3 := hf.keep h.c3 (hz _ _ (.inl ⟨rfl, by omega⟩))
  wr := hf.wr h.wr
  sl := h.sl.fr hf fun i h1 h2 => hz _ _ (.inr ⟨rfl, h1, h2⟩)
  ic := h.ic
  ne := h.ne

theorem KidM.fr {ks : List Nat} {H H' : Mem} {g : Ng} {Z : Nat → Nat → Prop} (h : KidM H g ks) (hf : Fr Z H H') (hz : ∀ b o, kcl g b o → ¬ Z b o) : KidM H' g ks where
  c := hf.keep h.c (hz _ _ (.inl ⟨rfl, by omega⟩))
  wr := hf.wr h.wr
  sl := h.sl.fr hf fun i h1 h2 => hz _ _ (.inr ⟨rfl, h1, by have e : EP.s = 1 := rfl; rw [e, Nat.mul_one] at h2; exact h2⟩)
  kc := h.kc
  n1 := h.n1
  n2 := h.n2
  n3 := h.n3
  n4 := h.n4
  n5 := h.n5

end

/-- A tree of a height, as it lies: a leaf; or a node with a tree of the next lower height for each child. -/
def Gt {α : Type} (E : Elt α) : Nat → Type
  | 0 => Ng × List α
  | h + 1 => Ng × List α × List (Gt E h)

variable {α : Type} {E : Elt α}
def Gt.g : (h : Nat) → Gt E h → Ng
  | 0, t => t.1
  | _ + 1, t => t.1
def Gt.X : (h : Nat) → Gt E h → List α
  | 0, t => t.2
  | _ + 1, t => t.2.1
/-- All items, in order. -/
def Gt.L : (h : Nat) → Gt E h → List α
  | 0, t => t.2
  | h + 1, t => Pl.inter t.2.1 (t.2.2.map (Gt.L h))
abbrev Gt.p (h : Nat) (t : Gt E h) : Nat := (Gt.g h t).p
def Gt.ps (h : Nat) (ts : List (Gt E h)) : List Nat := ts.map (Gt.p h)

/-- It lies so in memory. -/
def Gt.M (H : Mem) : (h : Nat) → Gt E h → Prop
  | 0, t => NodeM E H t.1 t.2 (.pointer none)
  | h + 1, t => NodeM E H t.1 t.2.1 (.pointer (some ⟨t.1.cb, 0, none⟩)) ∧ KidM H t.1 (Gt.ps h t.2.2) ∧ ∀ k ∈ t.2.2, Gt.M H h k

/-- All its cells. -/
def Gt.af : (h : Nat) → Gt E h → Nat → Nat → Prop
  | 0, t => ncl E t.1
  | h + 1, t => fun b o => ncl E t.1 b o ∨ kcl t.1 b o ∨ ∃ k ∈ t.2.2, Gt.af h k b o
/-- Each node bears the tree's own number. -/
def Gt.Own (id : Nat) : (h : Nat) → Gt E h → Prop
  | 0, t => t.1.iso = id
  | h + 1, t => t.1.iso = id ∧ ∀ k ∈ t.2.2, Gt.Own id h k

/-- No cell is of two nodes. -/
def Gt.Sep : (h : Nat) → Gt E h → Prop
  | 0, _ => True
  | h + 1, t => (∀ k ∈ t.2.2, Gt.Sep h k) ∧
      (∀ k ∈ t.2.2, ∀ b o, (ncl E t.1 b o ∨ kcl t.1 b o) → ¬ Gt.af h k b o) ∧
      t.2.2.Pairwise fun k k' => ∀ b o, Gt.af h k b o → ¬ Gt.af h k' b o

/-- The form of a tree: the counts, how many items a node has, how many children. -/
def Gt.Ok (mx mn : Nat) : (h : Nat) → Gt E h → Prop
  | 0, t => t.1.cnt = t.2.length ∧ t.2.length ≤ mx
  | h + 1, t => t.1.cnt = (Gt.L (h + 1) t).length ∧ t.2.1.length ≤ mx ∧ 1 ≤ t.2.1.length ∧ t.2.2.length = t.2.1.length + 1 ∧ ∀ k ∈ t.2.2, Gt.Ok mx mn h k ∧ mn ≤ (Gt.X h k).length

/-- What is not written stays. -/
theorem Gt.M.fr {Z : Nat → Nat → Prop} {H H' : Mem} (hf : Fr Z H H') : ∀ (h : Nat) (t : Gt E h), Gt.M H h t → (∀ b o, Gt.af h t b o → ¬ Z b o) → Gt.M H' h t
  | 0, _, hm, hz => NodeM.fr E hm hf hz
  | h + 1, _, ⟨h1, h2, h3⟩, hz =>
    ⟨NodeM.fr E h1 hf fun b o hb => hz b o (.inl hb), h2.fr hf fun b o hb => hz b o (.inr (.inl hb)), fun k hk => Gt.M.fr hf h k (h3 k hk) fun b o hb => hz b o (.inr (.inr ⟨k, hk, hb⟩))⟩

theorem NodeM.lt {H : Mem} {g : Ng} {X : List α} {kp : Value} (h : NodeM E H g X kp) {b o : Nat} (hb : ncl E g b o) : b < H.size := by
  rcases hb with ⟨rfl, _⟩ | ⟨rfl, h1, h2⟩
  · exact cl_lt h.c0
  · obtain ⟨⟨v, hv⟩, _⟩ := h.sl.wr 0 (Nat.mul_pos h.ic E.pos)
    exact cl_lt hv
theorem KidM.lt {H : Mem} {g : Ng} {ks : List Nat} (h : KidM H g ks) {b o : Nat} (hb : kcl g b o) : b < H.size := by
  rcases hb with ⟨rfl, _⟩ | ⟨rfl, h1, h2⟩
  · exact cl_lt h.c
  · obtain ⟨⟨v, hv⟩, _⟩ := h.sl.wr 0 (Nat.mul_pos h.kc EP.pos)
    exact cl_lt hv
/-- All its cells are in old blocks. -/
theorem Gt.M.lt {H : Mem} : ∀ (h : Nat) (t : Gt E h), Gt.M H h t → ∀ b o, Gt.af h t b o → b < H.size
  | 0, _, hm, _, _, hb => NodeM.lt hm hb
  | h + 1, _, ⟨h1, h2, h3⟩, b, o, hb => by
    rcases hb with hb | hb | ⟨k, hk, hb⟩
    · exact NodeM.lt h1 hb
    · exact h2.lt hb
    · exact Gt.M.lt h k (h3 k hk) b o hb

theorem Gt.M.node {H : Mem} : ∀ {h : Nat} {t : Gt E h}, Gt.M H h t → ∃ kp, NodeM E H (Gt.g h t) (Gt.X h t) kp
  | 0, _, hm => ⟨_, hm⟩
  | _ + 1, _, hm => ⟨_, hm.1⟩
end Go.Bt
