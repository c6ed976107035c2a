/- An inner node that is being changed: its items, its array of children, the children. Conditions: none. -/
import Derived.Test.YtknkmaigdgfhlaaBg
import Derived.Test.YtknkmaigdgfhlaaPm
namespace Go.Bt
open Go
set_option linter.unusedVariables false
variable {α : Type} {E : Elt α}

theorem Pl.ins_len {α : Type} (X : List α) (e : α) (i : Nat) (hi : i ≤ X.length) : ((X ++ [e]).take (i + 1) ++ X.drop i ++ (X ++ [e]).drop (i + 1 + (X.drop i).length)).length = X.length + 1 := by
  simp only [List.length_append, List.length_take, List.length_drop, List.length_singleton]; omega

/-! ### Items -/
theorem NodeM.set {H H' : Mem} {g : Ng} {X : List α} {kp : Value} {i : Nat} {x : α} (hN : NodeM E H g X kp) (W : Wrote H H' g.ib (g.io + i * E.s) (E.enc x)) (hi : i < X.length) : NodeM E H' g (X.take i ++ x :: X.drop (i + 1)) kp :=
  hN.items W.fr (fun o _ hz => hN.ne hz.1) (hN.sl.set W hi) (by simp; omega)
theorem NodeM.cpy {H H' : Mem} {g : Ng} {X Y : List α} {kp : Value} {i : Nat} (hN : NodeM E H g X kp) (W : Wrote H H' g.ib (g.io + i * E.s) (row E Y)) (hi : i + Y.length ≤ X.length) : NodeM E H' g (X.take i ++ Y ++ X.drop (i + Y.length)) kp :=
  hN.items W.fr (fun o _ hz => hN.ne hz.1) (hN.sl.put W hi) (by simp; omega)
theorem Wrote.in_items {H H' : Mem} {g : Ng} {X Y : List α} {kp : Value} {i : Nat} (hN : NodeM E H g X kp) (W : Wrote H H' g.ib (g.io + i * E.s) (row E Y)) (hi : i + Y.length ≤ X.length) {b o : Nat} (hz : rng g.ib (g.io + i * E.s) (row E Y).length b o) : b = g.ib ∧ g.io ≤ o ∧ o < g.io + g.ic * E.s := by
  have h1 := hz.2.1
  have h2 := hz.2.2
  rw [row_len] at h2
  have h3 : (i + Y.length) * E.s ≤ g.ic * E.s := Nat.mul_le_mul_right _ (Nat.le_trans hi hN.sl.hle)
  rw [Nat.add_mul] at h3
  exact ⟨hz.1, by omega, by omega⟩
theorem Wrote.as_row {H H' : Mem} {b o : Nat} {x : α} (W : Wrote H H' b o (E.enc x)) : Wrote H H' b o (row E [x]) := by rw [row_one]; exact W

/-- What a node's own writing leaves alone. -/
theorem NodeM.in1 {H H' : Mem} {g : Ng} {j n : Nat} (hj : j + n ≤ 4) {b o : Nat} (hz : rng g.p j n b o) : ncl E g b o := .inl ⟨hz.1, by have := hz.2.2; omega⟩

/-! ### Children's array -/
structure KidO (H : Mem) (g : Ng) (os : List (Option Nat)) : Prop where
  c : cl H g.cb 0 = some (.slice (some ⟨g.kb, g.ko, none⟩) os.length g.kc)
  wr : Wr H g.cb 0 1
  sl : SlE EP H g.kb g.ko g.kc os
  kc : 0 < g.kc
  n1 : g.cb ≠ g.kb
  n2 : g.p ≠ g.cb
  n3 : g.p ≠ g.kb
  n4 : g.ib ≠ g.cb
  n5 : g.ib ≠ g.kb

theorem KidM.o {H : Mem} {g : Ng} {ks : List Nat} (h : KidM H g ks) : KidO H g (ks.map some) := ⟨by rw [List.length_map]; exact h.c, h.wr, h.sl, h.kc, h.n1, h.n2, h.n3, h.n4, h.n5⟩
theorem KidO.m {H : Mem} {g : Ng} {ks : List Nat} (h : KidO H g (ks.map some)) : KidM H g ks := ⟨by have := h.c; rwa [List.length_map] at this, h.wr, h.sl, h.kc, h.n1, h.n2, h.n3, h.n4, h.n5⟩
theorem KidO.fr {os : List (Option Nat)} {H H' : Mem} {g : Ng} {Z : Nat → Nat → Prop} (h : KidO H g os) (hf : Fr Z H H') (hz : ∀ b o, kcl g b o → ¬ Z b o) : KidO H' g os where
  c := hf.keep h.c (hz _ _ (.inl ⟨rfl, by omega⟩))
  wr := hf.wr h.wr
  sl := h.sl.fr hf fun i h1 h2 => hz _ _ (.inr ⟨rfl, h1, by have e : EP.s = 1 := rfl; rw [e, Nat.mul_one] at h2; exact h2⟩)
  kc := h.kc
  n1 := h.n1
  n2 := h.n2
  n3 := h.n3
  n4 := h.n4
  n5 := h.n5
theorem KidO.lt {H : Mem} {g : Ng} {os : List (Option Nat)} (h : KidO H g os) {b o : Nat} (hb : kcl g b o) : b < H.size := by
  rcases hb with ⟨rfl, _⟩ | ⟨rfl, h1, h2⟩
  · exact cl_lt h.c
  · obtain ⟨⟨v, hv⟩, _⟩ := h.sl.wr 0 (Nat.mul_pos h.kc EP.pos)
    exact cl_lt hv
theorem KidO.at {H : Mem} {g : Ng} {os : List (Option Nat)} (h : KidO H g os) {i q : Nat} (hi : os[i]? = some (some q)) : cl H g.kb (g.ko + i * 1) = some (ptr q) := h.sl.cell (i := i) (x := some q) hi (j := 0) rfl

/-- An inner node, its array of children, and children that lie somewhere. -/
structure Inn (H : Mem) (P : Ps) (h : Nat) (g : Ng) (X : List α) (os : List (Option Nat)) (K : List (Gt E h)) : Prop where
  n : NodeM E H g X (.pointer (some ⟨g.cb, 0, none⟩))
  k : KidO H g os
  c : Kids H P h g K
  iso : g.iso = P.iso

def innc {E : Elt α} (h : Nat) (g : Ng) (K : List (Gt E h)) (b o : Nat) : Prop := ncl E g b o ∨ kcl g b o ∨ ∃ k ∈ K, Gt.af h k b o

section
variable {H H' : Mem} {P : Ps} {h : Nat} {g : Ng} {X : List α} {os : List (Option Nat)} {K : List (Gt E h)}

theorem Gt.Good.inn (hg : Gt.Good H P (h + 1) ((g, X, K) : Gt E (h + 1))) : Inn H P h g X ((Gt.ps h K).map some) K := ⟨hg.1, KidM.o hg.2.1, hg.kids, hg.2.2.1⟩
theorem Inn.good (hI : Inn H P h g X ((Gt.ps h K).map some) K) (h1 : g.cnt = (Pl.inter X (K.map (Gt.L h))).length) (h2 : X.length ≤ P.mx) (h3 : K.length = X.length + 1) : Gt.Good H P (h + 1) ((g, X, K) : Gt E (h + 1)) :=
  ⟨hI.n, hI.k.m, hI.iso, h1, h2, h3, hI.c.1, hI.c.2⟩
theorem Inn.lt (hI : Inn H P h g X os K) {b o : Nat} (hb : innc h g K b o) : b < H.size := by
  rcases hb with hb | hb | ⟨k, hk, hb⟩
  · exact NodeM.lt hI.n hb
  · exact hI.k.lt hb
  · exact (hI.c.1 k hk).1.lt hb
theorem Inn.fr {Z : Nat → Nat → Prop} (hI : Inn H P h g X os K) (hf : Fr Z H H') (hz : ∀ b o, innc h g K b o → ¬ Z b o) : Inn H' P h g X os K where
  n := NodeM.fr E hI.n hf fun b o hb => hz b o (.inl hb)
  k := hI.k.fr hf fun b o hb => hz b o (.inr (.inl hb))
  c := ⟨fun k hk => ⟨(hI.c.1 k hk).1.fr hf fun b o hb => hz b o (.inr (.inr ⟨k, hk, hb⟩)), (hI.c.1 k hk).2⟩, hI.c.2⟩
  iso := hI.iso
/-- The node's cells are written. -/
theorem Inn.node {Z : Nat → Nat → Prop} {g' : Ng} {X' : List α} (hI : Inn H P h g X os K) (hf : Fr Z H H') (hz : ∀ b o, Z b o → ncl E g b o) (hn : NodeM E H' g' X' (.pointer (some ⟨g.cb, 0, none⟩)))
    (e : g'.p = g.p ∧ g'.iso = g.iso ∧ g'.cb = g.cb ∧ g'.kb = g.kb ∧ g'.ko = g.ko ∧ g'.kc = g.kc) (n4 : g'.ib ≠ g.cb) (n5 : g'.ib ≠ g.kb) (hc : ∀ b o, b < H.size → ncl E g' b o → ncl E g b o ∨ ∀ k ∈ K, ¬ Gt.af h k b o) : Inn H' P h g' X' os K := by
  obtain ⟨e1, e2, e3, e4, e5, e6⟩ := e
  have hkz : ∀ b o, kcl g b o → ¬ Z b o := fun b o hb hz' => by
    have hn' := hz b o hz'
    rcases hb with ⟨h1, h2⟩ | ⟨h1, h2⟩ <;> rcases hn' with ⟨h3, h4⟩ | ⟨h3, h4⟩
    · exact hI.k.n2 (h3.symm.trans h1)
    · exact hI.k.n4 (h3.symm.trans h1)
    · exact hI.k.n3 (h3.symm.trans h1)
    · exact hI.k.n5 (h3.symm.trans h1)
  have hk := hI.k.fr hf hkz
  refine ⟨by rw [e3]; exact hn, ⟨by rw [e3, e4, e5, e6]; exact hk.c, by rw [e3]; exact hk.wr, by rw [e4, e5, e6]; exact hk.sl, by rw [e6]; exact hk.kc, by rw [e3, e4]; exact hk.n1, by rw [e1, e3]; exact hk.n2, by rw [e1, e4]; exact hk.n3, by rw [e3]; exact n4, by rw [e4]; exact n5⟩, ?_, e2.trans hI.iso⟩
  have hc1 := hI.c.fr hf fun b o _ hz' => .inl (hz b o hz')
  refine ⟨fun k hkk => ⟨(hc1.1 k hkk).1, (hc1.1 k hkk).2.1, fun b o hb => ⟨fun hn' => ?_, fun hk' => ?_⟩⟩, hc1.2⟩
  · rcases hc b o ((hI.c.1 k hkk).1.lt hb) hn' with h1 | h1
    · exact ((hI.c.1 k hkk).2.2 b o hb).1 h1
    · exact h1 k hkk hb
  · refine ((hI.c.1 k hkk).2.2 b o hb).2 ?_
    unfold kcl at hk' ⊢
    rw [e3, e4, e5, e6] at hk'
    exact hk'
theorem Inn.nodeI {Z : Nat → Nat → Prop} {X' : List α} (hI : Inn H P h g X os K) (hf : Fr Z H H') (hz : ∀ b o, Z b o → ncl E g b o) (hn : NodeM E H' g X' (.pointer (some ⟨g.cb, 0, none⟩))) : Inn H' P h g X' os K :=
  hI.node hf hz hn ⟨rfl, rfl, rfl, rfl, rfl, rfl⟩ hI.k.n4 hI.k.n5 fun _ _ _ h => .inl h
theorem Inn.set {i : Nat} {x : α} (hI : Inn H P h g X os K) (W : Wrote H H' g.ib (g.io + i * E.s) (E.enc x)) (hi : i < X.length) : Inn H' P h g (X.take i ++ x :: X.drop (i + 1)) os K :=
  hI.nodeI W.as_row.fr (fun b o hz => .inr (W.as_row.in_items hI.n (by rw [List.length_singleton]; omega) hz)) (hI.n.set W hi)
theorem Inn.cpy {i : Nat} {Y : List α} (hI : Inn H P h g X os K) (W : Wrote H H' g.ib (g.io + i * E.s) (row E Y)) (hi : i + Y.length ≤ X.length) : Inn H' P h g (X.take i ++ Y ++ X.drop (i + Y.length)) os K :=
  hI.nodeI W.fr (fun b o hz => .inr (W.in_items hI.n hi hz)) (hI.n.cpy W hi)
theorem Inn.count {n : Nat} (hI : Inn H P h g X os K) (W : Wrote H H' g.p 1 [.int .i64 (n : Int)]) : Inn H' P h { g with cnt := n } X os K :=
  hI.node W.fr (fun b o hz => NodeM.in1 (H := H) (H' := H') (by simp) hz) (hI.n.count W) ⟨rfl, rfl, rfl, rfl, rfl, rfl⟩ hI.k.n4 hI.k.n5 fun _ _ _ h => .inl h
theorem Inn.app {m b' o' c' : Nat} {news : List Value} (hI : Inn H P h g X os K) (ha : App H H' g.ib g.io X.length g.ic m E.s (row E X) news b' o' c') : Inn H' P h g X os K :=
  hI.nodeI (ha.in_node hI.n) (fun b o hz => hz) (hI.n.appd ha)
theorem App.fresh {m b' o' c' : Nat} {news : List Value} {len s : Nat} {xs : List Value} (hI : Inn H P h g X os K) (ha : App H H' g.ib g.io len g.ic m s xs news b' o' c') : (b' = g.ib ∧ o' = g.io ∧ c' = g.ic) ∨ ∀ b o, innc h g K b o → b ≠ b' := by
  rcases ha.place with ⟨h1, h2, h3, _⟩ | ⟨h1, _⟩
  · exact .inl ⟨h1, h2, h3⟩
  · exact .inr fun b o hb e => by have := hI.lt hb; omega
theorem App.freshk {m b' o' c' : Nat} {news : List Value} {len s : Nat} {xs : List Value} (hI : Inn H P h g X os K) (ha : App H H' g.kb g.ko len g.kc m s xs news b' o' c') : (b' = g.kb ∧ o' = g.ko ∧ c' = g.kc) ∨ ∀ b o, innc h g K b o → b ≠ b' := by
  rcases ha.place with ⟨h1, h2, h3, _⟩ | ⟨h1, _⟩
  · exact .inl ⟨h1, h2, h3⟩
  · exact .inr fun b o hb e => by have := hI.lt hb; omega
theorem Inn.hdr {X' : List α} {b' o' c' : Nat} (hI : Inn H P h g X os K) (W : Wrote H H' g.p 2 [.slice (some ⟨b', o', none⟩) X'.length c']) (hs : SlE E H b' o' c' X') (hc : 0 < c')
    (hb : (b' = g.ib ∧ o' = g.io ∧ c' = g.ic) ∨ ∀ b o, innc h g K b o → b ≠ b') : Inn H' P h { g with ib := b', io := o', ic := c' } X' os K := by
  have hne : g.p ≠ b' ∧ b' ≠ g.cb ∧ b' ≠ g.kb := by
    rcases hb with ⟨rfl, rfl, rfl⟩ | hb
    · exact ⟨hI.n.ne, hI.k.n4, hI.k.n5⟩
    · exact ⟨hb g.p 0 (.inl (.inl ⟨rfl, by omega⟩)), fun e => hb g.cb 0 (.inr (.inl (.inl ⟨rfl, by omega⟩))) e.symm, fun e => hb g.kb g.ko (.inr (.inl (.inr ⟨rfl, Nat.le_refl _, by have := hI.k.kc; omega⟩))) e.symm⟩
  refine hI.node W.fr (fun b o hz => NodeM.in1 (H := H) (H' := H') (by simp) hz) (hI.n.hdr W hs hc hne.1) ⟨rfl, rfl, rfl, rfl, rfl, rfl⟩ hne.2.1 hne.2.2 fun b o _ hz => ?_
  rcases hb with ⟨rfl, rfl, rfl⟩ | hb
  · exact .inl hz
  · rcases hz with hz | hz
    · exact .inl (.inl hz)
    · exact .inr fun k hk hkb => hb b o (.inr (.inr ⟨k, hk, hkb⟩)) hz.1

/-- The children's array is written. -/
theorem Inn.kids {Z : Nat → Nat → Prop} {os' : List (Option Nat)} {b' o' c' : Nat} (hI : Inn H P h g X os K) (hf : Fr Z H H') (hz : ∀ b o, Z b o → kcl g b o)
    (hc : cl H' g.cb 0 = some (.slice (some ⟨b', o', none⟩) os'.length c')) (hs : SlE EP H' b' o' c' os') (hc0 : 0 < c') (hb : (b' = g.kb ∧ o' = g.ko ∧ c' = g.kc) ∨ ∀ b o, innc h g K b o → b ≠ b') :
    Inn H' P h { g with kb := b', ko := o', kc := c' } X os' K := by
  have hne : g.cb ≠ b' ∧ g.p ≠ b' ∧ g.ib ≠ b' := by
    rcases hb with ⟨rfl, rfl, rfl⟩ | hb
    · exact ⟨hI.k.n1, hI.k.n3, hI.k.n5⟩
    · exact ⟨hb g.cb 0 (.inr (.inl (.inl ⟨rfl, by omega⟩))), hb g.p 0 (.inl (.inl ⟨rfl, by omega⟩)), hb g.ib g.io (.inl (.inr ⟨rfl, Nat.le_refl _, by have := Nat.mul_pos hI.n.ic E.pos; omega⟩))⟩
  have hnz : ∀ b o, ncl E g b o → ¬ Z b o := fun b o hn' hz' => by
    have hb := hz b o hz'
    rcases hb with ⟨h1, h2⟩ | ⟨h1, h2⟩ <;> rcases hn' with ⟨h3, h4⟩ | ⟨h3, h4⟩
    · exact hI.k.n2 (h3.symm.trans h1)
    · exact hI.k.n4 (h3.symm.trans h1)
    · exact hI.k.n3 (h3.symm.trans h1)
    · exact hI.k.n5 (h3.symm.trans h1)
  have hn := NodeM.fr E hI.n hf hnz
  refine ⟨⟨hn.c0, hn.c1, hn.c2, hn.c3, hn.wr, hn.sl, hn.ic, hn.ne⟩, ⟨hc, hf.wr hI.k.wr, hs, hc0, hne.1, hI.k.n2, hne.2.1, hI.k.n4, hne.2.2⟩, ?_, hI.iso⟩
  have hc1 := hI.c.fr hf fun b o _ hz' => .inr (hz b o hz')
  refine ⟨fun k hkk => ⟨(hc1.1 k hkk).1, (hc1.1 k hkk).2.1, fun b o hbb => ⟨fun hn' => ((hI.c.1 k hkk).2.2 b o hbb).1 hn', fun hk' => ?_⟩⟩, hc1.2⟩
  rcases hb with ⟨rfl, rfl, rfl⟩ | hb
  · exact ((hI.c.1 k hkk).2.2 b o hbb).2 hk'
  · rcases hk' with hk' | hk'
    · exact ((hI.c.1 k hkk).2.2 b o hbb).2 (.inl hk')
    · exact hb b o (.inr (.inr ⟨k, hkk, hbb⟩)) hk'.1
theorem Inn.kset {i : Nat} {q : Option Nat} {u : List Value} (hI : Inn H P h g X os K) (W : Wrote H H' g.kb (g.ko + i * 1) u) (hu : u = EP.enc q) (hi : i < os.length) : Inn H' P h g X (os.take i ++ q :: os.drop (i + 1)) K := by
  subst hu
  have h1 := Nat.le_trans (Nat.succ_le_of_lt hi) hI.k.sl.hle
  have := hI.kids (os' := os.take i ++ q :: os.drop (i + 1)) W.fr (fun b o hz => .inr ⟨hz.1, by have := hz.2.1; omega, by have := hz.2.2; rw [EP.len, show EP.s = 1 from rfl] at this; omega⟩)
    (by rw [show (os.take i ++ q :: os.drop (i + 1)).length = os.length by simp; omega]; exact W.fr.keep hI.k.c (nr (.inl hI.k.n1))) (hI.k.sl.set W hi) hI.k.kc (.inl ⟨rfl, rfl, rfl⟩)
  exact this
theorem Inn.kcpy {i : Nat} {Y : List (Option Nat)} (hI : Inn H P h g X os K) (W : Wrote H H' g.kb (g.ko + i * 1) (row EP Y)) (hi : i + Y.length ≤ os.length) : Inn H' P h g X (os.take i ++ Y ++ os.drop (i + Y.length)) K := by
  have h1 := Nat.le_trans hi hI.k.sl.hle
  have := hI.kids (os' := os.take i ++ Y ++ os.drop (i + Y.length)) W.fr (fun b o hz => .inr ⟨hz.1, by have := hz.2.1; omega, by have := hz.2.2; rw [row_len, show EP.s = 1 from rfl] at this; omega⟩)
    (by rw [show (os.take i ++ Y ++ os.drop (i + Y.length)).length = os.length by simp; omega]; exact W.fr.keep hI.k.c (nr (.inl hI.k.n1))) (hI.k.sl.put W hi) hI.k.kc (.inl ⟨rfl, rfl, rfl⟩)
  exact this
theorem Inn.kapp {m b' o' c' : Nat} {news : List Value} (hI : Inn H P h g X os K) (ha : App H H' g.kb g.ko os.length g.kc m 1 (row EP os) news b' o' c') : Inn H' P h g X os K := by
  have hle := hI.k.sl.hle
  have := hI.kids (os' := os) (b' := g.kb) (o' := g.ko) (c' := g.kc) ha.fr (fun b o hz => .inr ⟨hz.1, by have := hz.2.1; omega, by have := hz.2.2; omega⟩)
    (ha.fr.keep hI.k.c (nr (.inl hI.k.n1))) ⟨hI.k.sl.hlen, hle, ha.fr.rd hI.k.sl.rd (fun i hi => nr (by have := hI.k.sl.hlen; rw [show EP.s = 1 from rfl] at this; omega)), ha.fr.wr hI.k.sl.wr⟩ hI.k.kc (.inl ⟨rfl, rfl, rfl⟩)
  exact this
theorem Inn.khdr {os' : List (Option Nat)} {b' o' c' : Nat} (hI : Inn H P h g X os K) (W : Wrote H H' g.cb 0 [.slice (some ⟨b', o', none⟩) os'.length c']) (hs : SlE EP H b' o' c' os') (hc : 0 < c')
    (hb : (b' = g.kb ∧ o' = g.ko ∧ c' = g.kc) ∨ ∀ b o, innc h g K b o → b ≠ b') : Inn H' P h { g with kb := b', ko := o', kc := c' } X os' K := by
  have hne : g.cb ≠ b' := by
    rcases hb with ⟨rfl, rfl, rfl⟩ | hb
    · exact hI.k.n1
    · exact hb g.cb 0 (.inr (.inl (.inl ⟨rfl, by omega⟩)))
  exact hI.kids W.fr (fun b o hz => .inl ⟨hz.1, by have := hz.2.2; simpa using this⟩) W.at (hs.fr W.fr fun i _ _ => nr (.inl (Ne.symm hne))) hc hb
/-- Some children are replaced. -/
theorem Inn.repl {Z : Nat → Nat → Prop} {K1 A K2 M : List (Gt E h)} (hI : Inn H P h g X os (K1 ++ A ++ K2)) (hf : Fr Z H H') (hZ : ∀ b o, Z b o → ∃ a ∈ A, Gt.af h a b o)
    (hM : ∀ m ∈ M, Gt.Good H' P h m ∧ P.mn ≤ (Gt.X h m).length ∧ ∀ b o, Gt.af h m b o → (∃ a ∈ A, Gt.af h a b o) ∨ H.size ≤ b) (hP : M.Pairwise fun k k' => ∀ b o, Gt.af h k b o → ¬ Gt.af h k' b o) :
    Inn H' P h g X os (K1 ++ M ++ K2) where
  n := NodeM.fr E hI.n hf fun b o hb hz => by
    obtain ⟨a, ha, hab⟩ := hZ b o hz
    exact ((hI.c.1 a (List.mem_append_left _ (List.mem_append_right _ ha))).2.2 b o hab).1 hb
  k := hI.k.fr hf fun b o hb hz => by
    obtain ⟨a, ha, hab⟩ := hZ b o hz
    exact ((hI.c.1 a (List.mem_append_left _ (List.mem_append_right _ ha))).2.2 b o hab).2 hb
  c := hI.c.repl hf (fun b o _ hz => .inl (hZ b o hz)) (fun b o hb => hb.elim (fun h => NodeM.lt hI.n h) (fun h => hI.k.lt h)) hM hP
  iso := hI.iso
end

/-! ### Appending one -/
theorem NodeM.push {H H' H'' : Mem} {g : Ng} {X : List α} {kp : Value} {e : α} {b' o' c' : Nat} (hN : NodeM E H g X kp) (ha : App H H' g.ib g.io X.length g.ic 1 E.s (row E X) (E.enc e) b' o' c')
    (W : Wrote H' H'' g.p 2 [.slice (some ⟨b', o', none⟩) (X.length + 1) c']) : NodeM E H'' { g with ib := b', io := o', ic := c' } (X ++ [e]) kp :=
  (hN.appd ha).hdr (by rw [List.length_append]; exact W) (SlE.app ha) (ha.cap_pos (by decide)) (ha.ne hN.ne (cl_lt hN.c0))
theorem Inn.push {H H' H'' : Mem} {P : Ps} {h : Nat} {g : Ng} {X : List α} {os : List (Option Nat)} {K : List (Gt E h)} {e : α} {b' o' c' : Nat} (hI : Inn H P h g X os K) (ha : App H H' g.ib g.io X.length g.ic 1 E.s (row E X) (E.enc e) b' o' c')
    (W : Wrote H' H'' g.p 2 [.slice (some ⟨b', o', none⟩) (X.length + 1) c']) : Inn H'' P h { g with ib := b', io := o', ic := c' } (X ++ [e]) os K :=
  (hI.app ha).hdr (by rw [List.length_append]; exact W) (SlE.app ha) (ha.cap_pos (by decide)) (ha.fresh hI)
theorem Inn.kpush {H H' H'' : Mem} {P : Ps} {h : Nat} {g : Ng} {X : List α} {os : List (Option Nat)} {K : List (Gt E h)} {e : Option Nat} {u : List Value} {b' o' c' : Nat} (hI : Inn H P h g X os K) (hu : u = EP.enc e) (ha : App H H' g.kb g.ko os.length g.kc 1 1 (row EP os) u b' o' c')
    (W : Wrote H' H'' g.cb 0 [.slice (some ⟨b', o', none⟩) (os.length + 1) c']) : Inn H'' P h { g with kb := b', ko := o', kc := c' } X (os ++ [e]) K := by
  subst hu
  exact (hI.kapp ha).khdr (by rw [List.length_append]; exact W) (SlE.app ha) (ha.cap_pos (by decide)) (ha.freshk hI)
theorem App.inside {H H' : Mem} {b o len cap m s : Nat} {xs news : List Value} {b' o' c' : Nat} (ha : App H H' b o len cap m s xs news b' o' c') {b1 o1 : Nat} (h1 : b1 < H.size) (h2 : b1 = b' ∧ o' ≤ o1 ∧ o1 < o' + c' * s) : b1 = b ∧ o ≤ o1 ∧ o1 < o + cap * s := by
  rcases ha.place with ⟨rfl, rfl, rfl, _⟩ | ⟨e, _⟩
  · exact h2
  · have := h2.1; omega
theorem SlE.tail {H : Mem} {b o c : Nat} {X : List α} {e : α} (h : SlE E H b o c (X ++ [e])) {i : Nat} (hi : i ≤ X.length) : Rd H b (o + i * E.s) (row E (X.drop i)) := by
  have := h.sub i (X.length - i) (by rw [List.length_append]; omega)
  rwa [List.drop_append_of_le_length hi, List.take_append_of_le_length (by rw [List.length_drop]; omega), List.take_of_length_le (by rw [List.length_drop]; omega)] at this
theorem Inn.cells {H : Mem} {P : Ps} {h : Nat} {g : Ng} {X : List α} {os : List (Option Nat)} {K : List (Gt E h)} (hI : Inn H P h g X os K) : g.p < H.size ∧ g.ib < H.size ∧ g.cb < H.size ∧ g.kb < H.size :=
  ⟨hI.lt (o := 0) (.inl (.inl ⟨rfl, by omega⟩)), hI.lt (o := g.io) (.inl (.inr ⟨rfl, Nat.le_refl _, by have := Nat.mul_pos hI.n.ic E.pos; omega⟩)),
    hI.lt (o := 0) (.inr (.inl (.inl ⟨rfl, by omega⟩))), hI.lt (o := g.ko) (.inr (.inl (.inr ⟨rfl, Nat.le_refl _, by have := hI.k.kc; omega⟩)))⟩
theorem NodeM.cells {H : Mem} {g : Ng} {X : List α} {kp : Value} (hN : NodeM E H g X kp) : g.p < H.size ∧ g.ib < H.size :=
  ⟨cl_lt hN.c0, NodeM.lt hN (b := g.ib) (o := g.io) (.inr ⟨rfl, Nat.le_refl _, by have := Nat.mul_pos hN.ic E.pos; omega⟩)⟩
theorem off_node {g : Ng} {b : Nat} (hc : 0 < g.ic) (h : ∀ o, ¬ ncl E g b o) : b ≠ g.p ∧ b ≠ g.ib :=
  ⟨fun e => h 0 (.inl ⟨e, by omega⟩), fun e => h g.io (.inr ⟨e, Nat.le_refl _, by have := Nat.mul_pos hc E.pos; omega⟩)⟩
theorem off_kids {g : Ng} {b : Nat} (hc : 0 < g.kc) (h : ∀ o, ¬ kcl g b o) : b ≠ g.cb ∧ b ≠ g.kb :=
  ⟨fun e => h 0 (.inl ⟨e, by omega⟩), fun e => h g.ko (.inr ⟨e, Nat.le_refl _, by omega⟩)⟩

/-! ### Setting an item -/
structure SetT (O : Pl.Swo α) (H H' : Mem) (P : Ps) (h : Nat) (t t' : Gt E h) (x : α) : Prop where
  fr : Fr (Gt.af h t) H H'
  g : Gt.Good H' P h t'
  p : Gt.p h t' = Gt.p h t
  a : ∀ b o, Gt.af h t' b o → Gt.af h t b o ∨ H.size ≤ b
  l : Gt.L h t' = Pl.put O x (Gt.L h t)
  x : (Gt.X h t).length ≤ (Gt.X h t').length
/-- There is room for the item on its way. -/
def Gt.NF (O : Pl.Swo α) (P : Ps) (x : α) : (h : Nat) → Gt E h → Prop
  | 0, t => t.2.length < P.mx
  | h + 1, t => Pl.fnd O x t.2.1 = true ∨ ∀ k, t.2.2[Pl.pos O x t.2.1]? = some k → (Gt.X h k).length < P.mx

/-- The count in a node's cell. -/
def cnOf (H : Mem) (q : Nat) : Nat := match cl H q 1 with
  | some (.int _ z) => z.toNat
  | _ => 0
theorem Gt.Good.cnOf {H : Mem} {P : Ps} {h : Nat} {t : Gt E h} (hg : Gt.Good H P h t) : cl H (Gt.p h t) 1 = some (.int .i64 (Bt.cnOf H (Gt.p h t) : Int)) ∧ Bt.cnOf H (Gt.p h t) = (Gt.L h t).length := by
  obtain ⟨kp, hn⟩ := hg.node
  have e := hn.c1
  have e2 : Bt.cnOf H (Gt.p h t) = (Gt.g h t).cnt := by
    unfold Bt.cnOf
    show (match cl H (Gt.g h t).p 1 with
      | some (.int _ z) => z.toNat
      | _ => 0) = _
    rw [e]
    exact Int.toNat_natCast _
  rw [e2]
  exact ⟨e, hg.cnt⟩
theorem Gt.af_p {h : Nat} {t : Gt E h} {o : Nat} (ho : o < 4) : Gt.af h t (Gt.p h t) o := Gt.af_node (.inl ⟨rfl, ho⟩)
theorem Sl.none (H : Mem) (b o s : Nat) : Sl H b o 0 0 s [] := ⟨by simp, Nat.le_refl _, Rd.nil _ _ _, fun i hi => by rw [Nat.zero_mul] at hi; exact absurd hi (Nat.not_lt_zero i)⟩
theorem App.fromNone {H H' : Mem} {b o m s : Nat} {xs news : List Value} {b' o' c' : Nat} (ha : App H H' b o 0 0 m s xs news b' o' c') (hm : 0 < m) : b' = H.size ∧ o' = 0 ∧ H'.size = H.size + 1 ∧ m ≤ c' ∧ Fr nowhere H H' := by
  have h1 := ha.sl.hle
  refine ⟨?_, ?_, ?_, by omega, ha.fr.mono fun b1 o1 _ hz => by have h2 := hz.2.1; have h3 := hz.2.2; simp only [Nat.sub_self, Nat.zero_mul, Nat.add_zero] at h2 h3; omega⟩ <;> rcases ha.place with h | h <;> omega
end Go.Bt
