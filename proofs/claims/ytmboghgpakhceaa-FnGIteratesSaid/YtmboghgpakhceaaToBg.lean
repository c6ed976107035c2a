/- Trees in memory: nodes, their items and children, which cells are theirs, what stays when other cells are written. Conditions: none. -/
import Derived.Test.YtmboghgpakhceaaToPl
namespace Go.Bt
open Go

/-- How an item lies in memory. -/
structure Elt (α : Type) where
  enc : α → List Value
  s : Nat
  len : ∀ x, (enc x).length = s
  one : ∀ x, ones (enc x) = true
  pos : 0 < s

section
variable {α : Type} (E : Elt α)

def row (xs : List α) : List Value := xs.flatMap E.enc

theorem row_len (xs : List α) : (row E xs).length = xs.length * E.s := by
  induction xs with
  | nil => simp [row]
  | cons x xs ih => simp only [row, List.flatMap_cons, List.length_append, E.len, List.length_cons] at *; rw [ih, Nat.succ_mul]; omega
theorem row_append (xs ys : List α) : row E (xs ++ ys) = row E xs ++ row E ys := by simp [row]
theorem row_cons (x : α) (ys : List α) : row E (x :: ys) = E.enc x ++ row E ys := by simp [row]
theorem row_one (x : α) : row E [x] = E.enc x := by simp [row]
theorem ones_append (a b : List Value) : ones (a ++ b) = (ones a && ones b) := by simp [ones]
theorem row_ones (xs : List α) : ones (row E xs) = true := by
  induction xs with
  | nil => rfl
  | cons x xs ih => rw [row_cons, ones_append, E.one, ih]; rfl
theorem row_get {xs : List α} {i : Nat} {x : α} (h : xs[i]? = some x) (j : Nat) (v : Value) (hv : (E.enc x)[j]? = some v) : (row E xs)[i * E.s + j]? = some v := by
  have hi : i < xs.length := (List.getElem?_eq_some_iff.1 h).1
  have hj : j < E.s := by have := (List.getElem?_eq_some_iff.1 hv).1; rwa [E.len] at this
  have hsp : xs = xs.take i ++ x :: xs.drop (i + 1) := by
    have hx : xs[i] = x := (List.getElem?_eq_some_iff.1 h).2
    rw [← hx, List.getElem_cons_drop, List.take_append_drop]
  have hlen : (xs.take i).length = i := by simp; omega
  rw [hsp, row_append, row_cons, List.getElem?_append_right (by rw [row_len, hlen]; omega), row_len, hlen, Nat.add_sub_cancel_left, List.getElem?_append_left (by rw [E.len]; exact hj)]
  exact hv
/-- One item out of a row. -/
theorem Rd.item {H : Mem} {b o : Nat} {xs : List α} (h : Rd H b o (row E xs)) {i : Nat} {x : α} (hx : xs[i]? = some x) : Rd H b (o + i * E.s) (E.enc x) := fun j v hv => by
  rw [Nat.add_assoc]; exact h _ v (row_get E hx j v hv)
theorem Rd.item' {H : Mem} {b o : Nat} {xs : List α} (h : Rd H b o (row E xs)) {i : Nat} {x : α} (hx : xs[i]? = some x) {j : Nat} {v : Value} (hv : (E.enc x)[j]? = some v) : cl H b (o + i * E.s + j) = some v := Rd.item E h hx j v hv

theorem Rd.append {H : Mem} {b o : Nat} {u v : List Value} : Rd H b o (u ++ v) ↔ Rd H b o u ∧ Rd H b (o + u.length) v := by
  constructor
  · intro h
    refine ⟨fun i x hx => h i x ?_, fun i x hx => ?_⟩
    · rw [List.getElem?_append_left (List.getElem?_eq_some_iff.1 hx).1]; exact hx
    · rw [Nat.add_assoc]; exact h _ x (by rw [List.getElem?_append_right (by omega), Nat.add_sub_cancel_left]; exact hx)
  · rintro ⟨h1, h2⟩ i x hx
    rcases Nat.lt_or_ge i u.length with h | h
    · rw [List.getElem?_append_left h] at hx; exact h1 i x hx
    · rw [List.getElem?_append_right h] at hx
      have := h2 _ x hx
      rwa [show o + u.length + (i - u.length) = o + i by omega] at this
theorem Rd.nil (H : Mem) (b o : Nat) : Rd H b o [] := fun i v h => by simp at h
theorem Rd.one {H : Mem} {b o : Nat} {v : Value} (h : cl H b o = some v) : Rd H b o [v] := fun i x hx => by
  match i, hx with
  | 0, hx => simp only [List.getElem?_cons_zero, Option.some.injEq] at hx; subst hx; exact h
  | i + 1, hx => simp at hx

/-- An array of items in memory: all its cells may be written, the first ones read so. -/
def SlE (H : Mem) (b o c : Nat) (X : List α) : Prop := Sl H b o X.length c E.s (row E X)

variable {E} in
theorem SlE.item {H : Mem} {b o c : Nat} {X : List α} (h : SlE E H b o c X) {i : Nat} {x : α} (hx : X[i]? = some x) : Rd H b (o + i * E.s) (E.enc x) := Rd.item E h.rd hx
variable {E} in
theorem SlE.cell {H : Mem} {b o c : Nat} {X : List α} (h : SlE E H b o c X) {i : Nat} {x : α} (hx : X[i]? = some x) {j : Nat} {v : Value} (hv : (E.enc x)[j]? = some v) : cl H b (o + i * E.s + j) = some v := Rd.item' E h.rd hx hv
variable {E} in
theorem SlE.wri {H : Mem} {b o c : Nat} {X : List α} (h : SlE E H b o c X) {i : Nat} (hi : i < X.length) : Wr H b (o + i * E.s) E.s := fun j hj => by
  have h1 := h.wr (i * E.s + j) (by
    have h2 := h.hle
    have h3 : (i + 1) * E.s ≤ c * E.s := Nat.mul_le_mul_right E.s (by omega)
    rw [Nat.succ_mul] at h3
    omega)
  rw [Nat.add_assoc]; exact h1
variable {E} in
theorem SlE.wrm {H : Mem} {b o c : Nat} {X : List α} (h : SlE E H b o c X) {i m : Nat} (hi : i + m ≤ X.length) : Wr H b (o + i * E.s) (m * E.s) := fun j hj => by
  have h1 := h.wr (i * E.s + j) (by
    have h2 := h.hle
    have h3 : (i + m) * E.s ≤ c * E.s := Nat.mul_le_mul_right E.s (by omega)
    rw [Nat.add_mul] at h3
    omega)
  rw [Nat.add_assoc]; exact h1
variable {E} in
theorem SlE.fr {Z : Nat → Nat → Prop} {H H' : Mem} {b o c : Nat} {X : List α} (h : SlE E H b o c X) (hf : Fr Z H H') (hn : ∀ i, o ≤ i → i < o + c * E.s → ¬ Z b i) : SlE E H' b o c X :=
  Sl.fr h hf fun i hi => hn _ (by omega) (by
    have := Nat.mul_le_mul_right E.s h.hle
    omega)
variable {E} in
/-- A part of the array, to be read. -/
theorem SlE.sub {H : Mem} {b o c : Nat} {X : List α} (h : SlE E H b o c X) (i m : Nat) (hi : i ≤ X.length) : Rd H b (o + i * E.s) (row E ((X.drop i).take m)) := by
  have h1 : X = X.take i ++ ((X.drop i).take m ++ (X.drop i).drop m) := by rw [List.take_append_drop, List.take_append_drop]
  have h2 := h.rd
  rw [h1, row_append, row_append] at h2
  have h3 := ((Rd.append).1 ((Rd.append).1 h2).2).1
  rw [row_len, List.length_take, Nat.min_eq_left hi] at h3
  exact h3
variable {E} in
/-- A part of the array is written. -/
theorem SlE.put {H H' : Mem} {b o c i : Nat} {X Y : List α} (h : SlE E H b o c X) (hw : Wrote H H' b (o + i * E.s) (row E Y)) (hi : i + Y.length ≤ X.length) : SlE E H' b o c (X.take i ++ Y ++ X.drop (i + Y.length)) := by
  have hl : (X.take i ++ Y ++ X.drop (i + Y.length)).length = X.length := by simp; omega
  refine ⟨by rw [row_len], by rw [hl]; exact h.hle, ?_, hw.fr.wr h.wr⟩
  have h2 := h.rd
  have h1 : X = X.take i ++ ((X.drop i).take Y.length ++ X.drop (i + Y.length)) := by rw [← List.drop_drop, List.take_append_drop, List.take_append_drop]
  rw [h1, row_append, row_append] at h2
  obtain ⟨r1, r2⟩ := (Rd.append).1 h2
  obtain ⟨_, r3⟩ := (Rd.append).1 r2
  have l1 : (row E (X.take i)).length = i * E.s := by rw [row_len, List.length_take, Nat.min_eq_left (by omega)]
  have l2 : (row E ((X.drop i).take Y.length)).length = Y.length * E.s := by rw [row_len, List.length_take, List.length_drop, Nat.min_eq_left (by omega)]
  have l3 : (row E Y).length = Y.length * E.s := row_len E Y
  rw [l1, l2] at r3
  have hb : ∀ j, ¬ rng b (o + i * E.s) (row E Y).length b j ↔ j < o + i * E.s ∨ o + i * E.s + Y.length * E.s ≤ j := fun j => by rw [← l3]; simp only [rng, true_and]; omega
  rw [row_append, row_append, Rd.append, Rd.append]
  refine ⟨⟨hw.fr.rd r1 fun j hj => (hb _).2 (by rw [l1] at hj; omega), ?_⟩, ?_⟩
  · rw [l1]; exact hw.rd
  · rw [List.length_append, l1, l3, ← Nat.add_assoc]
    exact hw.fr.rd r3 fun j hj => (hb _).2 (by omega)
variable {E} in
/-- One item is written. -/
theorem SlE.set {H H' : Mem} {b o c i : Nat} {X : List α} {x : α} (h : SlE E H b o c X) (hw : Wrote H H' b (o + i * E.s) (E.enc x)) (hi : i < X.length) : SlE E H' b o c (X.take i ++ x :: X.drop (i + 1)) := by
  have := h.put (Y := [x]) (by rw [row_one]; exact hw) (by rw [List.length_singleton]; omega)
  simpa using this
variable {E} in
/-- An item is appended. -/
theorem SlE.app {H H' : Mem} {b o c b' o' c' : Nat} {X : List α} {x : α} (ha : App H H' b o X.length c 1 E.s (row E X) (E.enc x) b' o' c') : SlE E H' b' o' c' (X ++ [x]) := by
  have := ha.sl
  unfold SlE
  rw [row_append, row_one, List.length_append]
  exact this
variable {E} in
theorem SlE.apps {H H' : Mem} {b o c b' o' c' : Nat} {X Y : List α} (ha : App H H' b o X.length c Y.length E.s (row E X) (row E Y) b' o' c') : SlE E H' b' o' c' (X ++ Y) := by
  have := ha.sl
  unfold SlE
  rw [row_append, List.length_append]
  exact this
variable {E} in
/-- A shorter slice of the same array. -/
theorem SlE.take {H : Mem} {b o c : Nat} {X : List α} (h : SlE E H b o c X) (i : Nat) : SlE E H b o c (X.take i) := by
  refine ⟨by rw [row_len], by have := h.hle; rw [List.length_take]; omega, ?_, h.wr⟩
  have h2 := h.rd
  rw [← List.take_append_drop i X, row_append] at h2
  exact ((Rd.append).1 h2).1
variable {E} in
/-- The array is parted: the first items, with no room behind them; those behind one more. -/
theorem SlE.left {H : Mem} {b o c : Nat} {X : List α} (h : SlE E H b o c X) {i : Nat} (hi : i ≤ X.length) : SlE E H b o i (X.take i) :=
  ⟨by rw [row_len], by rw [List.length_take]; omega, (h.take i).rd, fun j hj => h.wr j (by
    have := Nat.mul_le_mul_right E.s (Nat.le_trans hi h.hle)
    omega)⟩
variable {E} in
theorem SlE.right {H : Mem} {b o c : Nat} {X : List α} (h : SlE E H b o c X) {i : Nat} (hi : i ≤ X.length) : SlE E H b (o + i * E.s) (c - i) (X.drop i) :=
  ⟨by rw [row_len], by have := h.hle; rw [List.length_drop]; omega, by
    have := h.sub i (X.length - i) hi
    rwa [List.take_of_length_le (by rw [List.length_drop]; omega)] at this, fun j hj => by
    have h1 := h.wr (i * E.s + j) (by
      have h2 : i * E.s ≤ c * E.s := Nat.mul_le_mul_right E.s (Nat.le_trans hi h.hle)
      rw [Nat.sub_mul] at hj
      omega)
    rw [Nat.add_assoc]; exact h1⟩

/-- A node: where it lies. -/
structure Ng where
  p : Nat
  iso : Nat
  cnt : Nat
  ib : Nat
  io : Nat
  ic : Nat
  cb : Nat
  kb : Nat
  ko : Nat
  kc : Nat

def ptr (p : Nat) : Value := .pointer (some ⟨p, 0, none⟩)
/-- Pointers, some of them nil, as items. -/
def EP : Elt (Option Nat) := { enc := fun x => [match x with | some p => ptr p | none => .pointer none], s := 1, len := fun _ => rfl, one := fun x => by cases x <;> rfl, pos := by decide }

/-- The node's cells, with these items; a leaf. -/
structure NodeM (H : Mem) (g : Ng) (X : List α) (kp : Value) : Prop where
  c0 : cl H g.p 0 = some (.int .u64 (g.iso : Int))
  c1 : cl H g.p 1 = some (.int .i64 (g.cnt : Int))
  c2 : cl H g.p 2 = some (.slice (some ⟨g.ib, g.io, none⟩) X.length g.ic)
  c3 : cl H g.p 3 = some kp
  wr : Wr H g.p 0 4
  sl : SlE E H g.ib g.io g.ic X
  ic : 0 < g.ic
  ne : g.p ≠ g.ib

/-- The node's children. -/
structure KidM (H : Mem) (g : Ng) (ks : List Nat) : Prop where
  c : cl H g.cb 0 = some (.slice (some ⟨g.kb, g.ko, none⟩) ks.length g.kc)
  wr : Wr H g.cb 0 1
  sl : SlE EP H g.kb g.ko g.kc (ks.map some)
  kc : 0 < g.kc
  n1 : g.cb ≠ g.kb
  n2 : g.p ≠ g.cb
  n3 : g.p ≠ g.kb
  n4 : g.ib ≠ g.cb
  n5 : g.ib ≠ g.kb

/-- The cells of a node; of a node's children. -/
def ncl (g : Ng) : Nat → Nat → Prop := fun b o => (b = g.p ∧ o < 4) ∨ (b = g.ib ∧ g.io ≤ o ∧ o < g.io + g.ic * E.s)
def kcl (g : Ng) : Nat → Nat → Prop := fun b o => (b = g.cb ∧ o < 1) ∨ (b = g.kb ∧ g.ko ≤ o ∧ o < g.ko + g.kc)

theorem NodeM.fr {X : List α} {kp : Value} {H H' : Mem} {g : Ng} {Z : Nat → Nat → Prop} (h : NodeM E H g X kp) (hf : Fr Z H H') (hz : ∀ b o, ncl E g b o → ¬ Z b o) : NodeM E H' g X kp where
  c0 := hf.keep h.c0 (hz _ _ (.inl ⟨rfl, by omega⟩))
  c1 := hf.keep h.c1 (hz _ _ (.inl ⟨rfl, by omega⟩))
  c2 := hf.keep h.c2 (hz _ _ (.inl ⟨rfl, by omega⟩))
  c3 := hf.keep h.c3 (hz _ _ (.inl ⟨rfl, by omega⟩))
  wr := hf.wr h.wr
  sl := h.sl.fr hf fun i h1 h2 => hz _ _ (.inr ⟨rfl, h1, h2⟩)
  ic := h.ic
  ne := h.ne

theorem KidM.fr {ks : List Nat} {H H' : Mem} {g : Ng} {Z : Nat → Nat → Prop} (h : KidM H g ks) (hf : Fr Z H H') (hz : ∀ b o, kcl g b o → ¬ Z b o) : KidM H' g ks where
  c := hf.keep h.c (hz _ _ (.inl ⟨rfl, by omega⟩))
  wr := hf.wr h.wr
  sl := h.sl.fr hf fun i h1 h2 => hz _ _ (.inr ⟨rfl, h1, by have e : EP.s = 1 := rfl; rw [e, Nat.mul_one] at h2; exact h2⟩)
  kc := h.kc
  n1 := h.n1
  n2 := h.n2
  n3 := h.n3
  n4 := h.n4
  n5 := h.n5

end

/-- A tree of a height, as it lies: a leaf; or a node with a tree of the next lower height for each child. -/
def Gt {α : Type} (E : Elt α) : Nat → Type
  | 0 => Ng × List α
  | h + 1 => Ng × List α × List (Gt E h)

variable {α : Type} {E : Elt α}
def Gt.g : (h : Nat) → Gt E h → Ng
  | 0, t => t.1
  | _ + 1, t => t.1
def Gt.X : (h : Nat) → Gt E h → List α
  | 0, t => t.2
  | _ + 1, t => t.2.1
/-- All items, in order. -/
def Gt.L : (h : Nat) → Gt E h → List α
  | 0, t => t.2
  | h + 1, t => Pl.inter t.2.1 (t.2.2.map (Gt.L h))
abbrev Gt.p (h : Nat) (t : Gt E h) : Nat := (Gt.g h t).p
def Gt.ps (h : Nat) (ts : List (Gt E h)) : List Nat := ts.map (Gt.p h)

/-- It lies so in memory. -/
def Gt.M (H : Mem) : (h : Nat) → Gt E h → Prop
  | 0, t => NodeM E H t.1 t.2 (.pointer none)
  | h + 1, t => NodeM E H t.1 t.2.1 (.pointer (some ⟨t.1.cb, 0, none⟩)) ∧ KidM H t.1 (Gt.ps h t.2.2) ∧ ∀ k ∈ t.2.2, Gt.M H h k

/-- All its cells. -/
def Gt.af : (h : Nat) → Gt E h → Nat → Nat → Prop
  | 0, t => ncl E t.1
  | h + 1, t => fun b o => ncl E t.1 b o ∨ kcl t.1 b o ∨ ∃ k ∈ t.2.2, Gt.af h k b o
/-- What is not written stays. -/
theorem Gt.M.fr {Z : Nat → Nat → Prop} {H H' : Mem} (hf : Fr Z H H') : ∀ (h : Nat) (t : Gt E h), Gt.M H h t → (∀ b o, Gt.af h t b o → ¬ Z b o) → Gt.M H' h t
  | 0, _, hm, hz => NodeM.fr E hm hf hz
  | h + 1, _, ⟨h1, h2, h3⟩, hz =>
    ⟨NodeM.fr E h1 hf fun b o hb => hz b o (.inl hb), h2.fr hf fun b o hb => hz b o (.inr (.inl hb)), fun k hk => Gt.M.fr hf h k (h3 k hk) fun b o hb => hz b o (.inr (.inr ⟨k, hk, hb⟩))⟩

theorem NodeM.lt {H : Mem} {g : Ng} {X : List α} {kp : Value} (h : NodeM E H g X kp) {b o : Nat} (hb : ncl E g b o) : b < H.size := by
  rcases hb with ⟨rfl, _⟩ | ⟨rfl, h1, h2⟩
  · exact cl_lt h.c0
  · obtain ⟨⟨v, hv⟩, _⟩ := h.sl.wr 0 (Nat.mul_pos h.ic E.pos)
    exact cl_lt hv
theorem KidM.lt {H : Mem} {g : Ng} {ks : List Nat} (h : KidM H g ks) {b o : Nat} (hb : kcl g b o) : b < H.size := by
  rcases hb with ⟨rfl, _⟩ | ⟨rfl, h1, h2⟩
  · exact cl_lt h.c
  · obtain ⟨⟨v, hv⟩, _⟩ := h.sl.wr 0 (Nat.mul_pos h.kc EP.pos)
    exact cl_lt hv
/-- All its cells are in old blocks. -/
theorem Gt.M.lt {H : Mem} : ∀ (h : Nat) (t : Gt E h), Gt.M H h t → ∀ b o, Gt.af h t b o → b < H.size
  | 0, _, hm, _, _, hb => NodeM.lt hm hb
  | h + 1, _, ⟨h1, h2, h3⟩, b, o, hb => by
    rcases hb with hb | hb | ⟨k, hk, hb⟩
    · exact NodeM.lt h1 hb
    · exact h2.lt hb
    · exact Gt.M.lt h k (h3 k hk) b o hb

theorem Gt.M.node {H : Mem} : ∀ {h : Nat} {t : Gt E h}, Gt.M H h t → ∃ kp, NodeM E H (Gt.g h t) (Gt.X h t) kp
  | 0, _, hm => ⟨_, hm⟩
  | _ + 1, _, hm => ⟨_, hm.1⟩
end Go.Bt
/- Well formed trees in memory: what stays, how a child is replaced, how a node is parted. Conditions: none. -/
namespace Go.Bt
open Go
set_option linter.unusedVariables false

structure Ps where
  iso : Nat
  mx : Nat
  mn : Nat

namespace Pl
theorem inter_length {α : Type} : ∀ (X : List α) (K : List (List α)), K.length = X.length + 1 → (inter X K).length = X.length + (K.map List.length).sum
  | [], [k], _ => by simp [inter]
  | x :: X, k :: K, h => by
    simp only [inter, List.length_append, List.length_cons, List.map_cons, List.sum_cons]
    rw [inter_length X K (by simpa using h)]
    omega
  | [], [], h => by simp at h
  | [], _ :: _ :: _, h => by simp at h
  | _ :: _, [], h => by simp at h
theorem ins_list {α : Type} (X : List α) (e x : α) (i : Nat) (hi : i ≤ X.length) :
    ((X ++ [e]).take (i + 1) ++ X.drop i ++ (X ++ [e]).drop (i + 1 + (X.drop i).length)).take i ++ x :: ((X ++ [e]).take (i + 1) ++ X.drop i ++ (X ++ [e]).drop (i + 1 + (X.drop i).length)).drop (i + 1) = X.take i ++ x :: X.drop i := by
  have h1 : ((X ++ [e]).take (i + 1)).length = i + 1 := by simp; omega
  have h2 : (X ++ [e]).drop (i + 1 + (X.drop i).length) = [] := by apply List.drop_eq_nil_of_le; simp; omega
  have h3 : ((X ++ [e]).take (i + 1) ++ X.drop i).take i = X.take i := by
    rw [List.take_append_of_le_length (by omega), List.take_take, Nat.min_eq_left (by omega), List.take_append_of_le_length hi]
  have h4 : ((X ++ [e]).take (i + 1) ++ X.drop i).drop (i + 1) = X.drop i := by
    rw [List.drop_append, h1]; simp
  rw [h2, List.append_nil, h3, h4]
end Pl

variable {α : Type} {E : Elt α}

/-- A tree lies so in memory, and is well formed: each node bears the tree's number and the count of its items; each child has enough items; no cell is of two nodes. -/
def Gt.Good (H : Mem) (P : Ps) : (h : Nat) → Gt E h → Prop
  | 0, t => NodeM E H t.1 t.2 (.pointer none) ∧ t.1.iso = P.iso ∧ t.1.cnt = t.2.length ∧ t.2.length ≤ P.mx
  | h + 1, t => NodeM E H t.1 t.2.1 (.pointer (some ⟨t.1.cb, 0, none⟩)) ∧ KidM H t.1 (Gt.ps h t.2.2) ∧ t.1.iso = P.iso ∧ t.1.cnt = (Gt.L (h + 1) t).length ∧
      t.2.1.length ≤ P.mx ∧ t.2.2.length = t.2.1.length + 1 ∧
      (∀ k ∈ t.2.2, Gt.Good H P h k ∧ P.mn ≤ (Gt.X h k).length ∧ ∀ b o, Gt.af h k b o → ¬ ncl E t.1 b o ∧ ¬ kcl t.1 b o) ∧
      t.2.2.Pairwise fun k k' => ∀ b o, Gt.af h k b o → ¬ Gt.af h k' b o

/-- The children of a node. -/
def Kids (H : Mem) (P : Ps) (h : Nat) (g : Ng) (K : List (Gt E h)) : Prop :=
  (∀ k ∈ K, Gt.Good H P h k ∧ P.mn ≤ (Gt.X h k).length ∧ ∀ b o, Gt.af h k b o → ¬ ncl E g b o ∧ ¬ kcl g b o) ∧
      K.Pairwise fun k k' => ∀ b o, Gt.af h k b o → ¬ Gt.af h k' b o

theorem Gt.Good.fr {P : Ps} {Z : Nat → Nat → Prop} {H H' : Mem} (hf : Fr Z H H') : ∀ {h : Nat} {t : Gt E h}, Gt.Good H P h t → (∀ b o, Gt.af h t b o → ¬ Z b o) → Gt.Good H' P h t
  | 0, _, ⟨h1, h2⟩, hz => ⟨NodeM.fr E h1 hf hz, h2⟩
  | h + 1, _, ⟨h1, h2, h3, h4, h5, h6, h7, h8⟩, hz =>
    ⟨NodeM.fr E h1 hf fun b o hb => hz b o (.inl hb), h2.fr hf fun b o hb => hz b o (.inr (.inl hb)), h3, h4, h5, h6,
      fun k hk => ⟨Gt.Good.fr hf (h7 k hk).1 fun b o hb => hz b o (.inr (.inr ⟨k, hk, hb⟩)), (h7 k hk).2⟩, h8⟩
theorem Gt.Good.lt {P : Ps} {H : Mem} : ∀ {h : Nat} {t : Gt E h}, Gt.Good H P h t → ∀ {b o : Nat}, Gt.af h t b o → b < H.size
  | 0, _, hm, _, _, hb => NodeM.lt hm.1 hb
  | h + 1, _, ⟨h1, h2, h3, h4, h5, h6, h7, h8⟩, b, o, hb => by
    rcases hb with hb | hb | ⟨k, hk, hb⟩
    · exact NodeM.lt h1 hb
    · exact h2.lt hb
    · exact Gt.Good.lt (h7 k hk).1 hb
theorem Gt.Good.node {P : Ps} {H : Mem} : ∀ {h : Nat} {t : Gt E h}, Gt.Good H P h t → ∃ kp, NodeM E H (Gt.g h t) (Gt.X h t) kp
  | 0, _, hm => ⟨_, hm.1⟩
  | _ + 1, _, hm => ⟨_, hm.1⟩
theorem Gt.Good.cnt {P : Ps} {H : Mem} : ∀ {h : Nat} {t : Gt E h}, Gt.Good H P h t → (Gt.g h t).cnt = (Gt.L h t).length
  | 0, _, hm => hm.2.2.1
  | _ + 1, _, hm => hm.2.2.2.1
theorem Gt.Good.xmx {P : Ps} {H : Mem} : ∀ {h : Nat} {t : Gt E h}, Gt.Good H P h t → (Gt.X h t).length ≤ P.mx
  | 0, _, hm => hm.2.2.2
  | _ + 1, _, hm => hm.2.2.2.2.1
theorem Gt.Good.isoe {P : Ps} {H : Mem} : ∀ {h : Nat} {t : Gt E h}, Gt.Good H P h t → (Gt.g h t).iso = P.iso
  | 0, _, hm => hm.2.1
  | _ + 1, _, hm => hm.2.2.1
theorem Gt.af_node : ∀ {h : Nat} {t : Gt E h} {b o : Nat}, ncl E (Gt.g h t) b o → Gt.af h t b o
  | 0, _, _, _, hb => hb
  | _ + 1, _, _, _, hb => .inl hb
theorem Gt.Good.kids {P : Ps} {H : Mem} {h : Nat} {t : Gt E (h + 1)} (hg : Gt.Good H P (h + 1) t) : Kids H P h t.1 t.2.2 := ⟨hg.2.2.2.2.2.2.1, hg.2.2.2.2.2.2.2⟩
theorem Kids.fr {P : Ps} {Z : Nat → Nat → Prop} {H H' : Mem} {h : Nat} {g : Ng} {K : List (Gt E h)} (hK : Kids H P h g K) (hf : Fr Z H H') (hz : ∀ b o, b < H.size → Z b o → ncl E g b o ∨ kcl g b o) : Kids H' P h g K :=
  ⟨fun k hk => ⟨(hK.1 k hk).1.fr hf fun b o hb hzb => (hz b o ((hK.1 k hk).1.lt hb) hzb).elim ((hK.1 k hk).2.2 b o hb).1 ((hK.1 k hk).2.2 b o hb).2, (hK.1 k hk).2⟩, hK.2⟩
theorem Kids.re {P : Ps} {H : Mem} {h : Nat} {g g' : Ng} {K : List (Gt E h)} (hK : Kids H P h g K) (hg : ∀ b o, b < H.size → ncl E g' b o ∨ kcl g' b o → ncl E g b o ∨ kcl g b o) : Kids H P h g' K :=
  ⟨fun k hk => ⟨(hK.1 k hk).1, (hK.1 k hk).2.1, fun b o hb => by
    have h0 := (hK.1 k hk).2.2 b o hb
    have hlt := (hK.1 k hk).1.lt hb
    exact ⟨fun hn => (hg b o hlt (.inl hn)).elim h0.1 h0.2, fun hn => (hg b o hlt (.inr hn)).elim h0.1 h0.2⟩⟩, hK.2⟩
/-- Some children next to each other are replaced. -/
theorem Kids.repl {P : Ps} {Z : Nat → Nat → Prop} {H H' : Mem} {h : Nat} {g : Ng} {K1 A K2 M : List (Gt E h)} (hK : Kids H P h g (K1 ++ A ++ K2)) (hf : Fr Z H H')
    (hZ : ∀ b o, b < H.size → Z b o → (∃ a ∈ A, Gt.af h a b o) ∨ ncl E g b o ∨ kcl g b o) (hlt : ∀ b o, ncl E g b o ∨ kcl g b o → b < H.size)
    (hM : ∀ m ∈ M, Gt.Good H' P h m ∧ P.mn ≤ (Gt.X h m).length ∧ ∀ b o, Gt.af h m b o → (∃ a ∈ A, Gt.af h a b o) ∨ H.size ≤ b) (hP : M.Pairwise fun k k' => ∀ b o, Gt.af h k b o → ¬ Gt.af h k' b o) :
    Kids H' P h g (K1 ++ M ++ K2) := by
  obtain ⟨h1, h2⟩ := hK
  rw [List.append_assoc, List.pairwise_append, List.pairwise_append] at h2
  obtain ⟨p1, ⟨pA, p2, pA2⟩, p12⟩ := h2
  have outer : ∀ k, (k ∈ K1 ∨ k ∈ K2) → ∀ a ∈ A, ∀ b o, Gt.af h k b o → ¬ Gt.af h a b o := by
    intro k hk a ha b o hb hab
    rcases hk with hk | hk
    · exact p12 k hk a (List.mem_append_left _ ha) b o hb hab
    · exact pA2 a ha k hk b o hab hb
  have stay : ∀ k, (k ∈ K1 ∨ k ∈ K2) → Gt.Good H' P h k ∧ P.mn ≤ (Gt.X h k).length ∧ ∀ b o, Gt.af h k b o → ¬ ncl E g b o ∧ ¬ kcl g b o := by
    intro k hk
    have h0 := h1 k (hk.elim (fun h => List.mem_append_left _ (List.mem_append_left _ h)) (fun h => List.mem_append_right _ h))
    refine ⟨h0.1.fr hf fun b o hb hz => ?_, h0.2⟩
    rcases hZ b o (h0.1.lt hb) hz with ⟨a, ha, hab⟩ | hn | hn
    · exact outer k hk a ha b o hb hab
    · exact (h0.2.2 b o hb).1 hn
    · exact (h0.2.2 b o hb).2 hn
  have fresh : ∀ k, (k ∈ K1 ∨ k ∈ K2) → ∀ m ∈ M, ∀ b o, Gt.af h k b o → ¬ Gt.af h m b o := by
    intro k hk m hm b o hb hmb
    rcases (hM m hm).2.2 b o hmb with ⟨a, ha, hab⟩ | hn
    · exact outer k hk a ha b o hb hab
    · have := (h1 k (hk.elim (fun h => List.mem_append_left _ (List.mem_append_left _ h)) (fun h => List.mem_append_right _ h))).1.lt hb
      omega
  refine ⟨fun k hk => ?_, ?_⟩
  · simp only [List.mem_append] at hk
    rcases hk with (hk | hk) | hk
    · exact stay k (.inl hk)
    · refine ⟨(hM k hk).1, (hM k hk).2.1, fun b o hb => ?_⟩
      rcases (hM k hk).2.2 b o hb with ⟨a, ha, hab⟩ | hn
      · exact (h1 a (List.mem_append_left _ (List.mem_append_right _ ha))).2.2 b o hab
      · exact ⟨fun hc => by have := hlt b o (.inl hc); omega, fun hc => by have := hlt b o (.inr hc); omega⟩
    · exact stay k (.inr hk)
  · rw [List.append_assoc, List.pairwise_append, List.pairwise_append]
    refine ⟨p1, ⟨hP, p2, fun m hm k hk b o hmb hb => fresh k (.inr hk) m hm b o hb hmb⟩, fun k hk m hm b o hb hmb => ?_⟩
    rcases List.mem_append.1 hm with hm | hm
    · exact fresh k (.inl hk) m hm b o hb hmb
    · exact p12 k hk m (List.mem_append_right _ hm) b o hb hmb

/-! ### A node is changed -/
/-- The items are written anew in their array. -/
theorem NodeM.items {Z : Nat → Nat → Prop} {H H' : Mem} {g : Ng} {X X' : List α} {kp : Value} (hN : NodeM E H g X kp) (hf : Fr Z H H') (hz : ∀ o, o < 4 → ¬ Z g.p o) (hs : SlE E H' g.ib g.io g.ic X') (hl : X'.length = X.length) : NodeM E H' g X' kp where
  c0 := hf.keep hN.c0 (hz _ (by omega))
  c1 := hf.keep hN.c1 (hz _ (by omega))
  c2 := by rw [hl]; exact hf.keep hN.c2 (hz _ (by omega))
  c3 := hf.keep hN.c3 (hz _ (by omega))
  wr := hf.wr hN.wr
  sl := hs
  ic := hN.ic
  ne := hN.ne
theorem NodeM.count {H H' : Mem} {g : Ng} {X : List α} {kp : Value} {n : Nat} (hN : NodeM E H g X kp) (W : Wrote H H' g.p 1 [.int .i64 (n : Int)]) : NodeM E H' { g with cnt := n } X kp where
  c0 := W.keep1 hN.c0 (by omega)
  c1 := W.at
  c2 := W.keep1 hN.c2 (by omega)
  c3 := W.keep1 hN.c3 (by omega)
  wr := W.fr.wr hN.wr
  sl := hN.sl.fr W.fr fun i h1 h2 => nr (.inl (Ne.symm hN.ne))
  ic := hN.ic
  ne := hN.ne
/-- The header is written. -/
theorem NodeM.hdr {H H' : Mem} {g : Ng} {X X' : List α} {kp : Value} {b' o' c' : Nat} (hN : NodeM E H g X kp) (W : Wrote H H' g.p 2 [.slice (some ⟨b', o', none⟩) X'.length c']) (hs : SlE E H b' o' c' X') (hc : 0 < c') (ne : g.p ≠ b') :
    NodeM E H' { g with ib := b', io := o', ic := c' } X' kp where
  c0 := W.keep1 hN.c0 (by omega)
  c1 := W.keep1 hN.c1 (by omega)
  c2 := W.at
  c3 := W.keep1 hN.c3 (by omega)
  wr := W.fr.wr hN.wr
  sl := hs.fr W.fr fun i h1 h2 => nr (.inl (Ne.symm ne))
  ic := hc
  ne := ne
/-- Behind an append the node still is what it was. -/
theorem NodeM.appd {H H' : Mem} {g : Ng} {X : List α} {kp : Value} {m b' o' c' : Nat} {news : List Value} (hN : NodeM E H g X kp) (ha : App H H' g.ib g.io X.length g.ic m E.s (row E X) news b' o' c') : NodeM E H' g X kp where
  c0 := ha.fr.keep hN.c0 (nr (.inl hN.ne))
  c1 := ha.fr.keep hN.c1 (nr (.inl hN.ne))
  c2 := ha.fr.keep hN.c2 (nr (.inl hN.ne))
  c3 := ha.fr.keep hN.c3 (nr (.inl hN.ne))
  wr := ha.fr.wr hN.wr
  sl := ⟨hN.sl.hlen, hN.sl.hle, ha.fr.rd hN.sl.rd (fun i hi => nr (by rw [hN.sl.hlen] at hi; omega)), ha.fr.wr hN.sl.wr⟩
  ic := hN.ic
  ne := hN.ne
theorem App.in_node {H H' : Mem} {g : Ng} {X : List α} {kp : Value} {m b' o' c' : Nat} {news : List Value} (hN : NodeM E H g X kp) (ha : App H H' g.ib g.io X.length g.ic m E.s (row E X) news b' o' c') : Fr (ncl E g) H H' :=
  ha.fr.mono fun b o _ h => .inr ⟨h.1, by have := h.2.1; omega, by
    have h1 := h.2.1
    have h2 := h.2.2
    have h3 := Nat.mul_le_mul_right E.s hN.sl.hle
    rw [Nat.sub_mul] at h2
    omega⟩
theorem App.cap_pos {H H' : Mem} {b o len cap m s : Nat} {xs news : List Value} {b' o' c' : Nat} (ha : App H H' b o len cap m s xs news b' o' c') (hm : 0 < m) : 0 < c' := by have := ha.sl.hle; omega
theorem App.ne {H H' : Mem} {b o len cap m s : Nat} {xs news : List Value} {b' o' c' q : Nat} (ha : App H H' b o len cap m s xs news b' o' c') (h1 : q ≠ b) (h2 : q < H.size) : q ≠ b' := by
  rcases ha.place with ⟨rfl, _⟩ | ⟨rfl, _⟩
  · exact h1
  · omega
theorem App.ncl {H H' : Mem} {g : Ng} {len m s : Nat} {xs news : List Value} {b' o' c' : Nat} (ha : App H H' g.ib g.io len g.ic m s xs news b' o' c') {b o : Nat} (h : ncl E { g with ib := b', io := o', ic := c' } b o) : Bt.ncl E g b o ∨ b = H.size := by
  rcases ha.place with ⟨h1, h2, h3, _⟩ | ⟨h1, h2, h3⟩
  · subst h1 h2 h3; exact .inl h
  · rcases h with h | h
    · exact .inl (.inl h)
    · right; have := h.1; simp only at this; omega

/-! ### Parting a node -/
structure SplT (H H' : Mem) (P : Ps) (h : Nat) (t t1 t2 : Gt E h) (med : α) : Prop where
  fr : Fr (Gt.af h t) H H'
  g1 : Gt.Good H' P h t1
  g2 : Gt.Good H' P h t2
  p1 : Gt.p h t1 = Gt.p h t
  l : Gt.L h t = Gt.L h t1 ++ med :: Gt.L h t2
  x1 : (Gt.X h t1).length = P.mn
  x2 : (Gt.X h t2).length = P.mn
  a1 : ∀ b o, Gt.af h t1 b o → Gt.af h t b o ∨ H.size ≤ b
  a2 : ∀ b o, Gt.af h t2 b o → Gt.af h t b o ∨ H.size ≤ b
  dis : ∀ b o, Gt.af h t1 b o → ¬ Gt.af h t2 b o

theorem split_item {X : List α} {med : α} {mn : Nat} (hm : X[mn]? = some med) : X = X.take mn ++ med :: X.drop (mn + 1) := by
  have h := (List.getElem?_eq_some_iff.1 hm)
  obtain ⟨h1, h2⟩ := h
  rw [← h2, List.getElem_cons_drop, List.take_append_drop]

theorem split_leaf {P : Ps} {H H' : Mem} {g : Ng} {X : List α} {med : α} {q : Nat} (hg : Gt.Good H P 0 (E := E) (g, X)) (hX : X.length = P.mx) (hm : P.mx = 2 * P.mn + 1) (h1 : 1 ≤ P.mn) (hmed : X[P.mn]? = some med)
    (hq : H.size ≤ q) (hql : q < H'.size) (hf : Fr (ncl E g) H H') (n1 : NodeM E H' { g with cnt := P.mn, ic := P.mn } (X.take P.mn) (.pointer none))
    (n2 : NodeM E H' { p := q, iso := P.iso, cnt := P.mn, ib := g.ib, io := g.io + (P.mn + 1) * E.s, ic := g.ic - (P.mn + 1), cb := 0, kb := 0, ko := 0, kc := 0 } (X.drop (P.mn + 1)) (.pointer none)) :
    ∃ t1 t2 : Gt E 0, Gt.p 0 t2 = q ∧ SplT H H' P 0 (g, X) t1 t2 med := by
  have gN : NodeM E H g X (.pointer none) := hg.1
  have hic : X.length ≤ g.ic := gN.sl.hle
  have hp := E.pos
  have hpl : g.p < H.size := cl_lt gN.c0
  have hil : g.ib < H.size := NodeM.lt gN (b := g.ib) (o := g.io) (.inr ⟨rfl, Nat.le_refl _, by have := Nat.mul_pos gN.ic E.pos; omega⟩)
  have e1 : (X.take P.mn).length = P.mn := by rw [List.length_take]; omega
  have e2 : (X.drop (P.mn + 1)).length = P.mn := by rw [List.length_drop]; omega
  have m1 : P.mn * E.s ≤ g.ic * E.s := Nat.mul_le_mul_right _ (by omega)
  have m2 : (P.mn + 1) * E.s ≤ g.ic * E.s := Nat.mul_le_mul_right _ (by omega)
  have m3 : (P.mn + 1) * E.s = P.mn * E.s + E.s := Nat.succ_mul _ _
  refine ⟨({ g with cnt := P.mn, ic := P.mn }, X.take P.mn), (_, X.drop (P.mn + 1)), rfl, ⟨hf, ⟨n1, hg.2.1, ?_, ?_⟩, ⟨n2, rfl, ?_, ?_⟩, rfl, split_item hmed, e1, e2, fun b o hb => .inl ?_, fun b o hb => ?_, fun b o hb hb2 => ?_⟩⟩
  · exact e1.symm
  · show (X.take P.mn).length ≤ _; omega
  · exact e2.symm
  · show (X.drop (P.mn + 1)).length ≤ _; omega
  · replace hb : ncl E { g with cnt := P.mn, ic := P.mn } b o := hb
    show ncl E g b o
    rcases hb with ⟨h1, h2⟩ | ⟨h1, h2, h3⟩
    · exact .inl ⟨h1, h2⟩
    · exact .inr ⟨h1, h2, by simp only at h3; omega⟩
  · replace hb : ncl E { p := q, iso := P.iso, cnt := P.mn, ib := g.ib, io := g.io + (P.mn + 1) * E.s, ic := g.ic - (P.mn + 1), cb := 0, kb := 0, ko := 0, kc := 0 } b o := hb
    show ncl E g b o ∨ H.size ≤ b
    rcases hb with ⟨h1, h2⟩ | ⟨h1, h2, h3⟩
    · right; simp only at h1; omega
    · left; exact .inr ⟨h1, by simp only at h2; omega, by simp only at h3; rw [Nat.sub_mul] at h3; omega⟩
  · replace hb : ncl E { g with cnt := P.mn, ic := P.mn } b o := hb
    replace hb2 : ncl E { p := q, iso := P.iso, cnt := P.mn, ib := g.ib, io := g.io + (P.mn + 1) * E.s, ic := g.ic - (P.mn + 1), cb := 0, kb := 0, ko := 0, kc := 0 } b o := hb2
    rcases hb with ⟨h1, h2⟩ | ⟨h1, h2, h3⟩ <;> rcases hb2 with ⟨h4, h5⟩ | ⟨h4, h5, h6⟩
    · simp only at h1 h4; omega
    · simp only at h1 h4; exact gN.ne (h1.symm.trans h4)
    · simp only at h1 h4; omega
    · simp only at h3 h5; omega

theorem split_inner {P : Ps} {H H' : Mem} {h : Nat} {g : Ng} {X : List α} {K : List (Gt E h)} {med : α} {q : Nat} (hg : Gt.Good H P (h + 1) (g, X, K)) (hX : X.length = P.mx) (hm : P.mx = 2 * P.mn + 1) (h1 : 1 ≤ P.mn) (hmed : X[P.mn]? = some med)
    (hq : H.size ≤ q) (hql : q + 1 < H'.size) (hf : Fr (fun b o => ncl E g b o ∨ kcl g b o) H H') {c1 c2 : Nat}
    (hc1 : c1 = P.mn + (((K.map (Gt.L h)).take (P.mn + 1)).map List.length).sum) (hc2 : c2 = P.mn + (((K.map (Gt.L h)).drop (P.mn + 1)).map List.length).sum)
    (n1 : NodeM E H' { g with cnt := c1, ic := P.mn, kc := P.mn + 1 } (X.take P.mn) (.pointer (some ⟨g.cb, 0, none⟩))) (k1 : KidM H' { g with cnt := c1, ic := P.mn, kc := P.mn + 1 } ((Gt.ps h K).take (P.mn + 1)))
    (n2 : NodeM E H' { p := q, iso := P.iso, cnt := c2, ib := g.ib, io := g.io + (P.mn + 1) * E.s, ic := g.ic - (P.mn + 1), cb := q + 1, kb := g.kb, ko := g.ko + (P.mn + 1), kc := g.kc - (P.mn + 1) } (X.drop (P.mn + 1)) (.pointer (some ⟨q + 1, 0, none⟩)))
    (k2 : KidM H' { p := q, iso := P.iso, cnt := c2, ib := g.ib, io := g.io + (P.mn + 1) * E.s, ic := g.ic - (P.mn + 1), cb := q + 1, kb := g.kb, ko := g.ko + (P.mn + 1), kc := g.kc - (P.mn + 1) } ((Gt.ps h K).drop (P.mn + 1))) :
    ∃ t1 t2 : Gt E (h + 1), Gt.p (h + 1) t2 = q ∧ SplT H H' P (h + 1) (g, X, K) t1 t2 med := by
  obtain ⟨gN, gK, g3, g4, g5, g6, g7, g8⟩ := hg
  replace gN : NodeM E H g X (.pointer (some ⟨g.cb, 0, none⟩)) := gN
  replace gK : KidM H g (Gt.ps h K) := gK
  have hic : X.length ≤ g.ic := gN.sl.hle
  have hkc := gK.sl.hle
  simp only at g6 g3 g4 g5 g7 g8
  rw [List.length_map, Gt.ps, List.length_map, g6] at hkc
  have hp := E.pos
  have hpl : g.p < H.size := cl_lt gN.c0
  have hil : g.ib < H.size := NodeM.lt gN (b := g.ib) (o := g.io) (.inr ⟨rfl, Nat.le_refl _, by have := Nat.mul_pos gN.ic E.pos; omega⟩)
  have hcl0 : g.cb < H.size := cl_lt gK.c
  have hkl : g.kb < H.size := gK.lt (b := g.kb) (o := g.ko) (.inr ⟨rfl, Nat.le_refl _, by have := gK.kc; omega⟩)
  have e1 : (X.take P.mn).length = P.mn := by rw [List.length_take]; omega
  have e2 : (X.drop (P.mn + 1)).length = P.mn := by rw [List.length_drop]; omega
  have f1 : (K.take (P.mn + 1)).length = P.mn + 1 := by rw [List.length_take]; omega
  have f2 : (K.drop (P.mn + 1)).length = P.mn + 1 := by rw [List.length_drop]; omega
  have m1 : P.mn * E.s ≤ g.ic * E.s := Nat.mul_le_mul_right _ (by omega)
  have m2 : (P.mn + 1) * E.s ≤ g.ic * E.s := Nat.mul_le_mul_right _ (by omega)
  have m3 : (P.mn + 1) * E.s = P.mn * E.s + E.s := Nat.succ_mul _ _
  have g8' := g8
  rw [← List.take_append_drop (P.mn + 1) K, List.pairwise_append] at g8'
  obtain ⟨w1, w2, w3⟩ := g8'
  have hKid : Kids H P h g K := ⟨g7, g8⟩
  have hKid' : Kids H' P h g K := hKid.fr hf fun b o _ hz => hz
  rw [← List.map_take] at hc1
  rw [← List.map_drop] at hc2
  have hL1 : (Pl.inter (X.take P.mn) ((K.take (P.mn + 1)).map (Gt.L h))).length = c1 := by
    rw [Pl.inter_length _ _ (by rw [List.length_map]; omega), hc1, e1]
  have hL2 : (Pl.inter (X.drop (P.mn + 1)) ((K.drop (P.mn + 1)).map (Gt.L h))).length = c2 := by
    rw [Pl.inter_length _ _ (by rw [List.length_map]; omega), hc2, e2]
  have sub1 : ∀ b o, ncl E { g with cnt := c1, ic := P.mn, kc := P.mn + 1 } b o → ncl E g b o := fun b o hb => by
    rcases hb with ⟨h1, h2⟩ | ⟨h1, h2, h3⟩
    · exact .inl ⟨h1, h2⟩
    · exact .inr ⟨h1, h2, by simp only at h3; omega⟩
  have sub1k : ∀ b o, kcl { g with cnt := c1, ic := P.mn, kc := P.mn + 1 } b o → kcl g b o := fun b o hb => by
    rcases hb with ⟨h1, h2⟩ | ⟨h1, h2, h3⟩
    · exact .inl ⟨h1, h2⟩
    · exact .inr ⟨h1, h2, by simp only at h3; omega⟩
  have gOk : ∀ k ∈ K, Gt.Good H' P h k ∧ P.mn ≤ (Gt.X h k).length := fun k hk => ⟨(hKid'.1 k hk).1, (hKid'.1 k hk).2.1⟩
  have kdis : ∀ k ∈ K, ∀ b o, Gt.af h k b o → (¬ ncl E g b o ∧ ¬ kcl g b o) ∧ b < H.size := fun k hk b o hb => ⟨(g7 k hk).2.2 b o hb, (g7 k hk).1.lt hb⟩
  generalize hG2 : ({ p := q, iso := P.iso, cnt := c2, ib := g.ib, io := g.io + (P.mn + 1) * E.s, ic := g.ic - (P.mn + 1), cb := q + 1, kb := g.kb, ko := g.ko + (P.mn + 1), kc := g.kc - (P.mn + 1) } : Ng) = g2 at *
  have sub2 : ∀ b o, ncl E g2 b o → ncl E g b o ∨ H.size ≤ b := fun b o hb => by
    subst hG2
    rcases hb with ⟨h1, h2⟩ | ⟨h1, h2, h3⟩
    · right; simp only at h1; omega
    · left; exact .inr ⟨h1, by simp only at h2; omega, by simp only at h3; rw [Nat.sub_mul] at h3; omega⟩
  have sub2k : ∀ b o, kcl g2 b o → kcl g b o ∨ H.size ≤ b := fun b o hb => by
    subst hG2
    rcases hb with ⟨h1, h2⟩ | ⟨h1, h2, h3⟩
    · right; simp only at h1; omega
    · left; exact .inr ⟨h1, by simp only at h2; omega, by simp only at h3; omega⟩
  have hp2 : g2.p = q ∧ g2.iso = P.iso ∧ g2.cnt = c2 ∧ g2.cb = q + 1 := by subst hG2; exact ⟨rfl, rfl, rfl, rfl⟩
  refine ⟨({ g with cnt := c1, ic := P.mn, kc := P.mn + 1 }, X.take P.mn, K.take (P.mn + 1)), (g2, X.drop (P.mn + 1), K.drop (P.mn + 1)), hp2.1, ⟨hf.mono fun b o _ hz => hz.elim .inl (fun h => .inr (.inl h)), ⟨n1, ?_, g3, hL1.symm, ?_, ?_, fun k hk => ?_, w1⟩, ⟨?_, ?_, hp2.2.1, ?_, ?_, ?_, fun k hk => ?_, w2⟩, rfl, ?_, e1, e2, fun b o hb => ?_, fun b o hb => ?_, fun b o hb hb2 => ?_⟩⟩
  · show KidM H' _ (Gt.ps h (K.take (P.mn + 1)))
    rw [Gt.ps, List.map_take]; exact k1
  · show (X.take P.mn).length ≤ _; omega
  · show (K.take (P.mn + 1)).length = (X.take P.mn).length + 1; omega
  · have hk' := List.mem_of_mem_take hk
    exact ⟨(gOk k hk').1, (gOk k hk').2, fun b o hb => ⟨fun hc => (kdis k hk' b o hb).1.1 (sub1 b o hc), fun hc => (kdis k hk' b o hb).1.2 (sub1k b o hc)⟩⟩
  · show NodeM E H' g2 (X.drop (P.mn + 1)) (.pointer (some ⟨g2.cb, 0, none⟩))
    rw [hp2.2.2.2]; exact n2
  · show KidM H' _ (Gt.ps h (K.drop (P.mn + 1)))
    rw [Gt.ps, List.map_drop]; exact k2
  · show g2.cnt = (Pl.inter _ _).length
    rw [hp2.2.2.1]; exact hL2.symm
  · show (X.drop (P.mn + 1)).length ≤ _; omega
  · show (K.drop (P.mn + 1)).length = (X.drop (P.mn + 1)).length + 1; omega
  · have hk' := List.mem_of_mem_drop hk
    refine ⟨(gOk k hk').1, (gOk k hk').2, fun b o hb => ?_⟩
    have hd := kdis k hk' b o hb
    exact ⟨fun hc => (sub2 b o hc).elim hd.1.1 (fun h => by omega), fun hc => (sub2k b o hc).elim hd.1.2 (fun h => by omega)⟩
  · show Pl.inter X (K.map (Gt.L h)) = Pl.inter _ _ ++ med :: Pl.inter _ _
    rw [List.map_take, List.map_drop, ← Pl.inter_item _ _ _ _ _ (by rw [← List.map_take, List.length_map, e1]; omega), List.take_append_drop, ← split_item hmed]
  · left
    rcases hb with hb | hb | ⟨k, hk, hb⟩
    · exact .inl (sub1 b o hb)
    · exact .inr (.inl (sub1k b o hb))
    · exact .inr (.inr ⟨k, List.mem_of_mem_take hk, hb⟩)
  · rcases hb with hb | hb | ⟨k, hk, hb⟩
    · exact (sub2 b o hb).elim (fun h => .inl (.inl h)) .inr
    · exact (sub2k b o hb).elim (fun h => .inl (.inr (.inl h))) .inr
    · exact .inl (.inr (.inr ⟨k, List.mem_of_mem_drop hk, hb⟩))
  · have ne1 := gN.ne
    have ne2 := gK.n1
    have ne3 := gK.n2
    have ne4 := gK.n3
    have ne5 := gK.n4
    have ne6 := gK.n5
    replace hb : ncl E { g with cnt := c1, ic := P.mn, kc := P.mn + 1 } b o ∨ kcl { g with cnt := c1, ic := P.mn, kc := P.mn + 1 } b o ∨ ∃ k ∈ K.take (P.mn + 1), Gt.af h k b o := hb
    replace hb2 : ncl E g2 b o ∨ kcl g2 b o ∨ ∃ k ∈ K.drop (P.mn + 1), Gt.af h k b o := hb2
    rcases hb with hb | hb | ⟨k, hk, hb⟩
    · rcases hb2 with hb2 | hb2 | ⟨k', hk', hb2⟩
      · subst hG2
        rcases hb with ⟨h1, h2⟩ | ⟨h1, h2, h3⟩ <;> rcases hb2 with ⟨h4, h5⟩ | ⟨h4, h5, h6⟩
        · simp only at h1 h4; omega
        · simp only at h1 h4; omega
        · simp only at h1 h4; omega
        · simp only at h3 h5; omega
      · subst hG2
        rcases hb with ⟨h1, h2⟩ | ⟨h1, h2, h3⟩ <;> rcases hb2 with ⟨h4, h5⟩ | ⟨h4, h5, h6⟩ <;> simp only at h1 h4 <;> omega
      · exact (kdis k' (List.mem_of_mem_drop hk') b o hb2).1.1 (sub1 b o hb)
    · rcases hb2 with hb2 | hb2 | ⟨k', hk', hb2⟩
      · subst hG2
        rcases hb with ⟨h1, h2⟩ | ⟨h1, h2, h3⟩ <;> rcases hb2 with ⟨h4, h5⟩ | ⟨h4, h5, h6⟩ <;> simp only at h1 h4 <;> omega
      · subst hG2
        rcases hb with ⟨h1, h2⟩ | ⟨h1, h2, h3⟩ <;> rcases hb2 with ⟨h4, h5⟩ | ⟨h4, h5, h6⟩
        · simp only at h1 h4; omega
        · simp only at h1 h4; omega
        · simp only at h1 h4; omega
        · simp only at h3 h5; omega
      · exact (kdis k' (List.mem_of_mem_drop hk') b o hb2).1.2 (sub1k b o hb)
    · have hd := kdis k (List.mem_of_mem_take hk) b o hb
      rcases hb2 with hb2 | hb2 | ⟨k', hk', hb2⟩
      · exact (sub2 b o hb2).elim hd.1.1 (fun h => by omega)
      · exact (sub2k b o hb2).elim hd.1.2 (fun h => by omega)
      · exact w3 k hk k' hk' b o hb hb2
end Go.Bt
