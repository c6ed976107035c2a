/- Several nodes that change together: what stays apart; items appended, a slice cut short. Conditions: none. -/
import Derived.Test.YtgmmhpmchibakaaToZr
namespace Go.Bt
open Go
set_option linter.unusedVariables false
section
variable {P : Program} {B : World} {f : FuncId} {Q : Value → Mem → Prop} {n : Nat} {r : Env} {c c2 : Item} {k : List Item} {H : Mem} {σ : Type}
end
abbrev Rg := Nat → Nat → Prop
/-- No cell of both. -/
def Off (A C : Rg) : Prop := ∀ b o, A b o → ¬ C b o
theorem Off.symm {A C : Rg} (h : Off A C) : Off C A := fun b o hc ha => h b o ha hc
/-- What A has become: old cells of A, and new blocks. -/
def Gro (H : Mem) (A A' : Rg) : Prop := ∀ b o, A' b o → A b o ∨ H.size ≤ b
theorem Gro.refl (H : Mem) (A : Rg) : Gro H A A := fun _ _ h => .inl h
theorem Gro.off {H : Mem} {A A' C : Rg} (g : Gro H A A') (d : Off C A) (l : ∀ b o, C b o → b < H.size) : Off C A' :=
  fun b o hc ha => (g b o ha).elim (d b o hc) (fun h => Nat.not_lt.2 h (l b o hc))
theorem Gro.tr {H H1 : Mem} {A A' A'' : Rg} (g : Gro H A A') (hs : H.size ≤ H1.size) (g' : Gro H1 A' A'') : Gro H A A'' :=
  fun b o h => (g' b o h).elim (g b o) (fun h => .inr (Nat.le_trans hs h))
theorem Gro.not {H : Mem} {A A' : Rg} (g : Gro H A A') {b o : Nat} (hb : b < H.size) (hn : ¬ A b o) : ¬ A' b o := fun h => (g b o h).elim hn (fun h => by omega)
variable {α : Type} {E : Elt α}
/-- An inner node alone. -/
abbrev Rn (E : Elt α) (H : Mem) (P : Ps) (g : Ng) (X : List α) (os : List (Option Nat)) : Prop := Inn (E := E) H P 0 g X os []
abbrev rn (E : Elt α) (g : Ng) : Rg := innc (E := E) 0 g []
theorem rn_iff {g : Ng} {b o : Nat} : rn E g b o ↔ ncl E g b o ∨ kcl g b o := by
  constructor
  · rintro (h | h | ⟨k, hk, _⟩)
    · exact .inl h
    · exact .inr h
    · cases hk
  · rintro (h | h)
    · exact .inl h
    · exact .inr (.inl h)

section
variable {H H' H'' : Mem} {P : Ps} {g : Ng} {X : List α} {os : List (Option Nat)} {kp : Value} {h : Nat} {K : List (Gt E h)}
/-- A slice cut short. -/
theorem NodeM.cut {k : Nat} (hN : NodeM E H g X kp) (W : Wrote H H' g.p 2 [.slice (some ⟨g.ib, g.io, none⟩) k g.ic]) (hk : k ≤ X.length) : NodeM E H' g (X.take k) kp :=
  hN.hdr (X' := X.take k) (by rw [List.length_take, Nat.min_eq_left hk]; exact W) (hN.sl.take k) hN.ic hN.ne
theorem Inn.cut {k : Nat} (hI : Inn H P h g X os K) (W : Wrote H H' g.p 2 [.slice (some ⟨g.ib, g.io, none⟩) k g.ic]) (hk : k ≤ X.length) : Inn H' P h g (X.take k) os K :=
  hI.hdr (X' := X.take k) (by rw [List.length_take, Nat.min_eq_left hk]; exact W) (hI.n.sl.take k) hI.n.ic (.inl ⟨rfl, rfl, rfl⟩)
end
namespace Pl
end Pl
end Go.Bt
namespace Go.Bt
open Go
set_option linter.unusedVariables false
variable {α : Type} {E : Elt α}
theorem sum_mem {β : Type} (f : β → Nat) {l : List β} {z : β} (h : z ∈ l) : f z ≤ (l.map f).sum := by
  induction l with
  | nil => cases h
  | cons a l ih =>
    rw [List.map_cons, List.sum_cons]
    rcases List.mem_cons.1 h with rfl | h
    · omega
    · have := ih h; omega
/-- A leaf, or an inner node alone. -/
def Rw (E : Elt α) (H : Mem) (P : Ps) (lf : Bool) (g : Ng) (X : List α) (os : List (Option Nat)) : Prop := match lf with
  | true => NodeM E H g X (.pointer none) ∧ g.iso = P.iso ∧ os = []
  | false => Rn E H P g X os
def rwc (E : Elt α) (lf : Bool) (g : Ng) : Rg := match lf with
  | true => ncl E g
  | false => rn E g
def cnO (cn : Nat → Nat) : Option Nat → Nat
  | some q => cn q
  | none => 0
/-- Two children next to each other, and the item between them. -/
structure RebIn (E : Elt α) (H : Mem) (P : Ps) (D : Nat → Prop) (lf : Bool) (cn : Nat → Nat) (i : Nat) (g gl gr : Ng) (X Xl Xr : List α) (os osl osr : List (Option Nat)) (x : α) : Prop where
  n : Rn E H P g X os
  l : Rw E H P lf gl Xl osl
  r : Rw E H P lf gr Xr osr
  dln : Off (rwc E lf gl) (rn E g)
  drn : Off (rwc E lf gr) (rn E g)
  dlr : Off (rwc E lf gl) (rwc E lf gr)
  tn : ∀ b o, rn E g b o → ¬ D b
  tl : ∀ b o, rwc E lf gl b o → ¬ D b
  tr : ∀ b o, rwc E lf gr b o → ¬ D b
  dD : ∀ b, D b → b < H.size
  x : X[i]? = some x
  pl : os[i]? = some (some gl.p)
  pr : os[i + 1]? = some (some gr.p)
  len : os.length = X.length + 1
  xm : X.length ≤ P.mx
  lm : Xl.length ≤ P.mx
  rm : Xr.length ≤ P.mx
  kl : lf = false → osl.length = Xl.length + 1
  kr : lf = false → osr.length = Xr.length + 1
  cl : gl.cnt = Xl.length + (osl.map (cnO cn)).sum
  cr : gr.cnt = Xr.length + (osr.map (cnO cn)).sum
  cq : ∀ z ∈ osl ++ osr, ∃ q, z = some q ∧ Bt.cl H q 1 = some (.int .i64 (cn q : Int)) ∧ ¬ rn E g q 1 ∧ ¬ rwc E lf gl q 1 ∧ ¬ rwc E lf gr q 1
  b : gl.cnt + gr.cnt < 4611686018427387904
  sh : Xl.length < P.mn ∨ Xr.length < P.mn
  ml : P.mn ≤ Xl.length + 1
  mr : P.mn ≤ Xr.length + 1
end Go.Bt
/- Trees whose children are evened out: from the nodes in memory to the trees. Conditions: none. -/
namespace Go.Bt
open Go
set_option linter.unusedVariables false
variable {α : Type} {E : Elt α}
theorem Inn.alone {H : Mem} {P : Ps} {h : Nat} {g : Ng} {X : List α} {os : List (Option Nat)} {K : List (Gt E h)} (hI : Inn H P h g X os K) : Rn E H P g X os :=
  ⟨hI.n, hI.k, ⟨fun k hk => absurd hk (List.not_mem_nil), List.Pairwise.nil⟩, hI.iso⟩
theorem sum_os {H : Mem} {h : Nat} {K : List (Gt E h)} {P : Ps} (hK : ∀ k ∈ K, Gt.Good H P h k) : (((Gt.ps h K).map some).map (cnO (cnOf H))).sum = ((K.map (Gt.L h)).map List.length).sum := by
  congr 1
  unfold Gt.ps
  rw [List.map_map, List.map_map, List.map_map]
  exact List.map_congr_left fun k hk => ((hK k hk).cnOf).2
end Go.Bt
namespace Go.Bt
open Go
set_option linter.unusedVariables false
variable {α : Type} {E : Elt α}
theorem Inn.sub {H : Mem} {P : Ps} {h : Nat} {g : Ng} {X : List α} {os : List (Option Nat)} {K K' : List (Gt E h)} (hI : Inn H P h g X os K) (hs : K'.Sublist K) : Inn H P h g X os K' :=
  ⟨hI.n, hI.k, ⟨fun k hk => hI.c.1 k (hs.subset hk), hI.c.2.sublist hs⟩, hI.iso⟩
theorem innc_sub {h : Nat} {g : Ng} {K K' : List (Gt E h)} (hs : ∀ k ∈ K', k ∈ K) {b o : Nat} (hb : innc h g K' b o) : innc h g K b o :=
  hb.imp id fun hb => hb.imp id fun ⟨k, hk, hb⟩ => ⟨k, hs k hk, hb⟩
/-- Two children next to each other of a node, one of them short of an item. -/
structure RebT (H : Mem) (P : Ps) (D : Nat → Prop) (h i : Nat) (g : Ng) (X : List α) (K1 K2 : List (Gt E h)) (u v : Gt E h) (x : α) : Prop where
  n : Inn H P h g X ((Gt.ps h (K1 ++ [u, v] ++ K2)).map some) (K1 ++ K2)
  l : Gt.Good H P h u
  r : Gt.Good H P h v
  ol : Off (Gt.af h u) (innc h g (K1 ++ K2))
  or' : Off (Gt.af h v) (innc h g (K1 ++ K2))
  olr : Off (Gt.af h u) (Gt.af h v)
  tn : ∀ b o, innc h g (K1 ++ K2) b o → ¬ D b
  tl : ∀ b o, Gt.af h u b o → ¬ D b
  tr : ∀ b o, Gt.af h v b o → ¬ D b
  dD : ∀ b, D b → b < H.size
  hi : K1.length = i
  x : X[i]? = some x
  len : (K1 ++ [u, v] ++ K2).length = X.length + 1
  xm : X.length ≤ P.mx
  b : (Gt.L h u).length + (Gt.L h v).length < 4611686018427387904
  sh : (Gt.X h u).length < P.mn ∨ (Gt.X h v).length < P.mn
  ml : P.mn ≤ (Gt.X h u).length + 1
  mr : P.mn ≤ (Gt.X h v).length + 1
theorem rn_innc {h : Nat} {g : Ng} {K : List (Gt E h)} {b o : Nat} (hb : rn E g b o) : innc h g K b o := (rn_iff.1 hb).elim .inl (fun h => .inr (.inl h))
section
variable {H : Mem} {P : Ps} {D : Nat → Prop} {h i : Nat} {g : Ng} {X : List α} {x : α}
theorem ps_at {K1 K2 : List (Gt E h)} {tl tr : Gt E h} : ((Gt.ps h (K1 ++ [tl, tr] ++ K2)).map some)[K1.length]? = some (some (Gt.p h tl)) ∧ ((Gt.ps h (K1 ++ [tl, tr] ++ K2)).map some)[K1.length + 1]? = some (some (Gt.p h tr)) ∧
    ((Gt.ps h (K1 ++ [tl, tr] ++ K2)).map some).length = (K1 ++ [tl, tr] ++ K2).length := by
  refine ⟨?_, ?_, by simp [Gt.ps]⟩ <;> simp [Gt.ps]
theorem RebT.inS {K1 K2 : List (Gt E (h + 1))} {u v : Gt E (h + 1)} (ht : RebT H P D (h + 1) i g X K1 K2 u v x) :
    RebIn E H P D false (cnOf H) i g (Gt.g (h + 1) u) (Gt.g (h + 1) v) X (Gt.X (h + 1) u) (Gt.X (h + 1) v) ((Gt.ps (h + 1) (K1 ++ [u, v] ++ K2)).map some) ((Gt.ps h u.2.2).map some) ((Gt.ps h v.2.2).map some) x ∧ (∀ k ∈ u.2.2 ++ v.2.2, Off (Gt.af h k) (rn E g)) := by
  obtain ⟨n, l, r, ol, or', olr, tn, tl, tr, dD, hi, hx, len, xm, b, sh, ml, mr⟩ := ht
  subst hi
  obtain ⟨gl, Xl, Kl⟩ := u
  obtain ⟨gr, Xr, Kr⟩ := v
  obtain ⟨p1, p2, p3⟩ := ps_at (E := E) (h := h + 1) (K1 := K1) (K2 := K2) (tl := (gl, Xl, Kl)) (tr := (gr, Xr, Kr))
  have c1 : gl.cnt = (Pl.inter Xl (Kl.map (Gt.L h))).length := l.2.2.2.1
  have c2 : gr.cnt = (Pl.inter Xr (Kr.map (Gt.L h))).length := r.2.2.2.1
  have k1 : Kl.length = Xl.length + 1 := l.2.2.2.2.2.1
  have k2 : Kr.length = Xr.length + 1 := r.2.2.2.2.2.1
  have rl : ∀ b o, rn E gl b o → Gt.af (h + 1) ((gl, Xl, Kl) : Gt E (h + 1)) b o := fun b o hb => (rn_iff.1 hb).elim .inl (fun h => .inr (.inl h))
  have rr : ∀ b o, rn E gr b o → Gt.af (h + 1) ((gr, Xr, Kr) : Gt E (h + 1)) b o := fun b o hb => (rn_iff.1 hb).elim .inl (fun h => .inr (.inl h))
  have gng : ∀ k ∈ Kl ++ Kr, Off (Gt.af h k) (rn E g) := fun k hk b o hb hr => (List.mem_append.1 hk).elim (fun hk => ol b o (.inr (.inr ⟨k, hk, hb⟩)) (rn_innc hr)) (fun hk => or' b o (.inr (.inr ⟨k, hk, hb⟩)) (rn_innc hr))
  replace b : (Pl.inter Xl (Kl.map (Gt.L h))).length + (Pl.inter Xr (Kr.map (Gt.L h))).length < 4611686018427387904 := b
  refine ⟨⟨n.alone, (Gt.Good.inn l).alone, (Gt.Good.inn r).alone, fun b o h1 h2 => ol b o (rl b o h1) (rn_innc h2), fun b o h1 h2 => or' b o (rr b o h1) (rn_innc h2), fun b o h1 h2 => olr b o (rl b o h1) (rr b o h2), fun b o h => tn b o (rn_innc h), fun b o h => tl b o (rl b o h), fun b o h => tr b o (rr b o h), dD, hx, p1, p2, p3.trans len, xm, l.2.2.2.2.1, r.2.2.2.2.1,
    fun _ => (show ((Gt.ps h Kl).map some).length = Xl.length + 1 by simpa [Gt.ps] using k1), fun _ => (show ((Gt.ps h Kr).map some).length = Xr.length + 1 by simpa [Gt.ps] using k2), ?_, ?_, fun z hz => ?_, (show gl.cnt + gr.cnt < 4611686018427387904 by omega), sh, ml, mr⟩, gng⟩
  · show gl.cnt = Xl.length + (((Gt.ps h Kl).map some).map (cnO (cnOf H))).sum
    rw [sum_os (P := P) fun k hk => (l.2.2.2.2.2.2.1 k hk).1, c1, Pl.inter_length _ _ (by rw [List.length_map]; exact k1)]
  · show gr.cnt = Xr.length + (((Gt.ps h Kr).map some).map (cnO (cnOf H))).sum
    rw [sum_os (P := P) fun k hk => (r.2.2.2.2.2.2.1 k hk).1, c2, Pl.inter_length _ _ (by rw [List.length_map]; exact k2)]
  · have hz' : ∃ k ∈ Kl ++ Kr, z = some (Gt.p h k) := by
      simp only [Gt.ps, List.mem_append, List.mem_map] at hz ⊢
      rcases hz with ⟨_, ⟨k, hk, rfl⟩, rfl⟩ | ⟨_, ⟨k, hk, rfl⟩, rfl⟩
      · exact ⟨k, .inl hk, rfl⟩
      · exact ⟨k, .inr hk, rfl⟩
    obtain ⟨k, hk, rfl⟩ := hz'
    have hgk : Gt.Good H P h k ∧ Off (Gt.af h k) (rn E gl) ∧ Off (Gt.af h k) (rn E gr) := by
      rcases List.mem_append.1 hk with hk | hk
      · obtain ⟨q1, _, q3⟩ := l.2.2.2.2.2.2.1 k hk
        exact ⟨q1, fun b o hb hr => (rn_iff.1 hr).elim (q3 b o hb).1 (q3 b o hb).2, fun b o hb hr => olr b o (.inr (.inr ⟨k, hk, hb⟩)) (rr b o hr)⟩
      · obtain ⟨q1, _, q3⟩ := r.2.2.2.2.2.2.1 k hk
        exact ⟨q1, fun b o hb hr => olr b o (rl b o hr) (.inr (.inr ⟨k, hk, hb⟩)), fun b o hb hr => (rn_iff.1 hr).elim (q3 b o hb).1 (q3 b o hb).2⟩
    have hp : Gt.af h k (Gt.p h k) 1 := Gt.af_p (by omega)
    exact ⟨Gt.p h k, rfl, (hgk.1.cnOf).1, gng k hk _ _ hp, hgk.2.1 _ _ hp, hgk.2.2 _ _ hp⟩
end
end Go.Bt
namespace Go.Bt
open Go
set_option linter.unusedVariables false
variable {α : Type} {E : Elt α}
/-- What a deletion does to a tree. -/
structure DelT (H H' : Mem) (P : Ps) (h : Nat) (t t' : Gt E h) (L' : List α) : Prop where
  fr : Fr (Gt.af h t) H H'
  g : Gt.Good H' P h t'
  p : Gt.p h t' = Gt.p h t
  a : Gro H (Gt.af h t) (Gt.af h t')
  l : Gt.L h t' = L'
  x : (Gt.X h t).length ≤ (Gt.X h t').length + 1
namespace Pl
/-- The last one, or the one that is equal to x: it, and the others. -/
def dlr {α : Type} (O : Swo α) (mx : Bool) (x : α) (L : List α) : Option (α × List α) := match mx with
  | true => L.getLast?.map fun y => (y, L.dropLast)
  | false => (got O x L).map fun y => (y, del O x L)
end Pl
/-- A node whose i-th child has lost an item. -/
structure DMid (H H' : Mem) (P : Ps) (h : Nat) (g : Ng) (X : List α) (K : List (Gt E h)) (i : Nat) (X1 : List α) (k' : Gt E h) (L' : List α) : Prop where
  n : Inn H' P h g X1 ((Gt.ps h K).map some) (K.take i ++ K.drop (i + 1))
  k : Gt.Good H' P h k'
  p : ∃ k, K[i]? = some k ∧ Gt.p h k' = Gt.p h k ∧ Gro H (Gt.af h k) (Gt.af h k')
  mn : P.mn ≤ (Gt.X h k').length + 1
  l : Pl.inter X1 ((K.take i ++ [k'] ++ K.drop (i + 1)).map (Gt.L h)) = L'
  len : X1.length = X.length
  fr : Fr (Gt.af (h + 1) ((g, X, K) : Gt E (h + 1))) H H'
theorem Gt.Good.ne {H : Mem} {P : Ps} : ∀ {h : Nat} {t : Gt E h}, Gt.Good H P h t → 1 ≤ (Gt.X h t).length → 1 ≤ (Gt.L h t).length
  | 0, _, _, hx => hx
  | _ + 1, t, hg, hx => by
    have : (Gt.L _ t).length = _ := Pl.inter_length t.2.1 (t.2.2.map (Gt.L _)) (by rw [List.length_map]; exact hg.2.2.2.2.2.1)
    rw [this]
    exact Nat.le_trans hx (Nat.le_add_right _ _)
section
variable {H H' : Mem} {P : Ps} {h : Nat} {g : Ng} {X : List α} {os : List (Option Nat)} {K : List (Gt E h)} {i : Nat} {k k' : Gt E h}
theorem kid_split (hk : K[i]? = some k) : K = K.take i ++ [k] ++ K.drop (i + 1) := by
  obtain ⟨h1, h2⟩ := List.getElem?_eq_some_iff.1 hk
  rw [List.append_assoc, List.singleton_append, ← h2, List.getElem_cons_drop, List.take_append_drop]
theorem kid_off (hI : Inn H P h g X os K) (hk : K[i]? = some k) : Off (Gt.af h k) (innc h g (K.take i ++ K.drop (i + 1))) := fun b o hb hn => by
  have hs := kid_split hk
  have hc := hI.c
  obtain ⟨h1, h2⟩ := hc
  have hkK : k ∈ K := List.mem_of_getElem? hk
  rcases hn with hn | hn | ⟨m, hm, hn⟩
  · exact (h1 k hkK).2.2 b o hb |>.1 hn
  · exact (h1 k hkK).2.2 b o hb |>.2 hn
  · rw [hs, List.append_assoc, List.pairwise_append, List.singleton_append, List.pairwise_cons] at h2
    obtain ⟨_, ⟨p2, _⟩, p3⟩ := h2
    rcases List.mem_append.1 hm with hm | hm
    · exact p3 m hm k List.mem_cons_self b o hn hb
    · exact p2 m hm b o hb hn
theorem DMid.off {X1 L' : List α} (d : DMid H H' P h g X K i X1 k' L') (hI : Inn H P h g X os K) : Off (Gt.af h k') (innc h g (K.take i ++ K.drop (i + 1))) := by
  obtain ⟨k, hk, hp, hg⟩ := d.p
  exact (hg.off (kid_off hI hk).symm fun b o hb => hI.lt (innc_sub (fun m hm => (List.mem_append.1 hm).elim List.mem_of_mem_take List.mem_of_mem_drop) hb)).symm
end
namespace Pl
variable {α : Type} (O : Swo α)
end Pl
end Go.Bt
namespace Go.Bt.Pl
variable {α : Type} (O : Swo α)
end Go.Bt.Pl
/- An order carried over to other items. Conditions: none. -/
namespace Go.Bt.Pl
set_option linter.unusedVariables false
variable {α β : Type} {O : Swo α} {O2 : Swo β} {f : α → β} (hf : ∀ x y, O2.lt (f x) (f y) = O.lt x y)
include hf
end Go.Bt.Pl
/- A list that is changed step by step, and what is told of each step. Conditions: none. -/
namespace Go.Bt.Pl
variable {α β γ : Type}
def runs (f : List α → β → List α × γ) (l : List α) (ks : List β) : List α × List γ := ks.foldl (fun s k => ((f s.1 k).1, s.2 ++ [(f s.1 k).2])) (l, [])
end Go.Bt.Pl
namespace Go.Bt.Pl
end Go.Bt.Pl
/- The way down one side of a tree: counts that change on it, a leaf that changes at its end. Conditions: none. -/
namespace Go.Bt
open Go
set_option linter.unusedVariables false
variable {α : Type} {E : Elt α}
/-- The outermost child's place: the last one's, or the first one's. -/
def cix (d : Bool) (n : Nat) : Nat := bif d then n - 1 else 0
/-- The nodes on the way. -/
def Gt.sp (d : Bool) : (h : Nat) → Gt E h → Nat → Prop
  | 0, t, q => q = t.1.p
  | h + 1, t, q => q = t.1.p ∨ ∃ k, t.2.2[cix d t.2.2.length]? = some k ∧ Gt.sp d h k q
/-- The leaf at its end. -/
def Gt.lf (d : Bool) : (h : Nat) → Gt E h → Ng × List α
  | 0, t => t
  | h + 1, t => match t.2.2[cix d t.2.2.length]? with
    | some k => Gt.lf d h k
    | none => (t.1, [])
theorem Gt.sp_p (d : Bool) : ∀ {h : Nat} {t : Gt E h}, Gt.sp d h t (Gt.p h t)
  | 0, _ => rfl
  | _ + 1, _ => .inl rfl
theorem Gt.sp_af {d : Bool} : ∀ {h : Nat} {t : Gt E h} {q : Nat}, Gt.sp d h t q → ∀ o, o < 4 → Gt.af h t q o
  | 0, t, q, hq, o, ho => .inl ⟨hq, ho⟩
  | h + 1, t, q, hq, o, ho => by
    rcases hq with rfl | ⟨k, hk, hq⟩
    · exact .inl (.inl ⟨rfl, ho⟩)
    · exact .inr (.inr ⟨k, List.mem_of_getElem? hk, Gt.sp_af hq o ho⟩)
theorem Gt.Good.spcn {d : Bool} {H : Mem} {P : Ps} : ∀ {h : Nat} {t : Gt E h}, Gt.Good H P h t → ∀ {q : Nat}, Gt.sp d h t q → cl H q 1 = some (.int .i64 (Bt.cnOf H q : Int))
  | 0, t, hg, q, hq => by subst hq; exact (hg.cnOf).1
  | h + 1, t, hg, q, hq => by
    rcases hq with rfl | ⟨k, hk, hq⟩
    · exact (hg.cnOf).1
    · exact Gt.Good.spcn (hg.2.2.2.2.2.2.1 k (List.mem_of_getElem? hk)).1 hq
/-- Cells that read as they did. -/
theorem NodeM.eqv {H H' : Mem} {g : Ng} {X : List α} {kp : Value} {Z : Rg} (hn : NodeM E H g X kp) (hf : Fr Z H H') (he : ∀ b o, ncl E g b o → cl H' b o = cl H b o) : NodeM E H' g X kp where
  c0 := (he _ _ (.inl ⟨rfl, by omega⟩)).trans hn.c0
  c1 := (he _ _ (.inl ⟨rfl, by omega⟩)).trans hn.c1
  c2 := (he _ _ (.inl ⟨rfl, by omega⟩)).trans hn.c2
  c3 := (he _ _ (.inl ⟨rfl, by omega⟩)).trans hn.c3
  wr := hf.wr hn.wr
  sl := ⟨hn.sl.hlen, hn.sl.hle, fun i v hv => by
    have hi := (List.getElem?_eq_some_iff.1 hv).1
    rw [hn.sl.hlen] at hi
    have h3 := Nat.mul_le_mul_right E.s hn.sl.hle
    exact (he _ _ (.inr ⟨rfl, by omega, by omega⟩)).trans (hn.sl.rd i v hv), hf.wr hn.sl.wr⟩
  ic := hn.ic
  ne := hn.ne
theorem KidM.eqv {H H' : Mem} {g : Ng} {ks : List Nat} {Z : Rg} (hk : KidM H g ks) (hf : Fr Z H H') (he : ∀ b o, kcl g b o → cl H' b o = cl H b o) : KidM H' g ks where
  c := (he _ _ (.inl ⟨rfl, by omega⟩)).trans hk.c
  wr := hf.wr hk.wr
  sl := ⟨hk.sl.hlen, hk.sl.hle, fun i v hv => by
    have hi := (List.getElem?_eq_some_iff.1 hv).1
    rw [hk.sl.hlen] at hi
    have h3 := hk.sl.hle
    rw [show EP.s = 1 from rfl] at hi
    exact (he _ _ (.inr ⟨rfl, by omega, by omega⟩)).trans (hk.sl.rd i v hv), hf.wr hk.sl.wr⟩
  kc := hk.kc
  n1 := hk.n1
  n2 := hk.n2
  n3 := hk.n3
  n4 := hk.n4
  n5 := hk.n5
theorem Gt.Good.eqv {P : Ps} {Z : Rg} {H H' : Mem} (hf : Fr Z H H') : ∀ {h : Nat} {t : Gt E h}, Gt.Good H P h t → (∀ b o, Gt.af h t b o → cl H' b o = cl H b o) → Gt.Good H' P h t
  | 0, _, ⟨h1, h2⟩, he => ⟨h1.eqv hf he, h2⟩
  | h + 1, _, ⟨h1, h2, h3, h4, h5, h6, h7, h8⟩, he =>
    ⟨h1.eqv hf fun b o hb => he b o (.inl hb), h2.eqv hf fun b o hb => he b o (.inr (.inl hb)), h3, h4, h5, h6,
      fun k hk => ⟨Gt.Good.eqv hf (h7 k hk).1 fun b o hb => he b o (.inr (.inr ⟨k, hk, hb⟩)), (h7 k hk).2⟩, h8⟩
/-- Where the walk down the side is. -/
structure Spn (H0 H : Mem) (P : Ps) (d : Bool) (δ : Nat → Nat) (h0 : Nat) (t0 : Gt E h0) (D : Nat → Prop) (h : Nat) (t : Gt E h) : Prop where
  g : Gt.Good H0 P h t
  fr : Fr (fun b o => o = 1 ∧ D b) H0 H
  val : ∀ q, D q → cl H q 1 = some (.int .i64 (δ (Bt.cnOf H0 q) : Int))
  off : ∀ q, D q → ¬ Gt.af h t q 1
  all : ∀ q, Gt.sp d h0 t0 q ↔ D q ∨ Gt.sp d h t q
  lf : Gt.lf d h t = Gt.lf d h0 t0
  sub : ∀ b o, Gt.af h t b o → Gt.af h0 t0 b o
  x1 : 1 ≤ (Gt.X h t).length
  le : (Gt.L h t).length ≤ (Gt.L h0 t0).length
  mn : h < h0 → P.mn ≤ (Gt.X h t).length
theorem kid_le {h : Nat} {t : Gt E (h + 1)} (hl : t.2.2.length = t.2.1.length + 1) {k : Gt E h} (hk : k ∈ t.2.2) : (Gt.L h k).length ≤ (Gt.L (h + 1) t).length := by
  have h1 : (Gt.L (h + 1) t).length = _ := Pl.inter_length t.2.1 (t.2.2.map (Gt.L h)) (by rw [List.length_map]; exact hl)
  have h2 : (Gt.L h k).length ≤ ((t.2.2.map (Gt.L h)).map List.length).sum := sum_mem List.length (List.mem_map.2 ⟨k, hk, rfl⟩)
  omega
section
variable {H0 H H' : Mem} {P : Ps} {d : Bool} {δ : Nat → Nat} {h0 h : Nat} {t0 : Gt E h0} {D : Nat → Prop}
theorem Spn.cnt {t : Gt E h} (s : Spn H0 H P d δ h0 t0 D h t) : cl H (Gt.p h t) 1 = some (.int .i64 (Bt.cnOf H0 (Gt.p h t) : Int)) :=
  s.fr.keep (s.g.cnOf).1 fun hz => s.off _ hz.2 (Gt.af_p (by omega))
/-- One step down. -/
theorem Spn.step {t : Gt E (h + 1)} {k : Gt E h} (h1 : 1 ≤ P.mn) (s : Spn H0 H P d δ h0 t0 D (h + 1) t) (hk : t.2.2[cix d t.2.2.length]? = some k) (W : Wrote H H' t.1.p 1 [.int .i64 (δ (Bt.cnOf H0 t.1.p) : Int)]) :
    Spn H0 H' P d δ h0 t0 (fun q => D q ∨ q = t.1.p) h k := by
  obtain ⟨q1, q2, q3⟩ := s.g.2.2.2.2.2.2.1 k (List.mem_of_getElem? hk)
  have hD : ∀ q, D q → q ≠ t.1.p := fun q hq e => s.off q hq (by rw [e]; exact Gt.af_p (t := t) (by omega))
  refine ⟨q1, s.fr.trans' W.fr (fun b o _ hz => ⟨hz.1, .inl hz.2⟩) (fun b o _ hz => ?_), fun q hq => ?_, fun q hq hb => ?_, fun q => ?_, ?_, fun b o hb => s.sub b o (.inr (.inr ⟨k, List.mem_of_getElem? hk, hb⟩)), Nat.le_trans h1 q2, Nat.le_trans (kid_le s.g.2.2.2.2.2.1 (List.mem_of_getElem? hk)) s.le, fun _ => q2⟩
  · have h1 := hz.1; have h2 := hz.2.1; have h3 := hz.2.2
    simp only [List.length_cons, List.length_nil] at h3
    exact ⟨by omega, .inr h1⟩
  · rcases hq with hq | rfl
    · exact W.fr.keep (s.val q hq) (nr (.inl (hD q hq)))
    · exact W.at
  · rcases hq with hq | rfl
    · exact s.off q hq (.inr (.inr ⟨k, List.mem_of_getElem? hk, hb⟩))
    · exact (q3 _ _ hb).1 (.inl ⟨rfl, by omega⟩)
  · rw [s.all q]
    constructor
    · rintro (hq | hq)
      · exact .inl (.inl hq)
      · rcases hq with rfl | ⟨k', hk', hq⟩
        · exact .inl (.inr rfl)
        · rw [hk] at hk'; cases hk'; exact .inr hq
    · rintro ((hq | rfl) | hq)
      · exact .inl hq
      · exact .inr (.inl rfl)
      · exact .inr (.inr ⟨k, hk, hq⟩)
  · rw [← s.lf]
    show _ = (match t.2.2[cix d t.2.2.length]? with
      | some k => Gt.lf d h k
      | none => (t.1, []))
    rw [hk]
end
end Go.Bt
namespace Go.Bt
open Go
set_option linter.unusedVariables false
variable {α : Type} {E : Elt α}
/-- A node's own cells, but for its count, are none of a spine's counts. -/
theorem Gt.Good.own {H : Mem} {P : Ps} {d : Bool} {h : Nat} {t : Gt E (h + 1)} (hg : Gt.Good H P (h + 1) t) {b o : Nat} (hb : ncl E t.1 b o ∨ kcl t.1 b o) (hne : ¬ (b = t.1.p ∧ o = 1)) : ¬ (o = 1 ∧ Gt.sp d (h + 1) t b) := by
  rintro ⟨ho, hs⟩
  rcases hs with rfl | ⟨k, hk, hs⟩
  · exact hne ⟨rfl, ho⟩
  · have h1 := (hg.2.2.2.2.2.2.1 k (List.mem_of_getElem? hk)).2.2 b o (Gt.sp_af hs o (by omega))
    exact hb.elim h1.1 h1.2
/-- The walk back: the counts are set right again. -/
structure Sp2 (H0 H : Mem) (P : Ps) (d : Bool) (δ : Nat → Nat) (h0 : Nat) (t0 : Gt E h0) (bx : Nat) (D : Nat → Prop) (h : Nat) (t : Gt E h) : Prop where
  g : Gt.Good H0 P h t
  fr : Fr (fun b o => (o = 1 ∧ Gt.sp d h0 t0 b) ∨ b = bx) H0 H
  nb : ∀ o, ¬ Gt.af h0 t0 bx o
  val : ∀ q, D q → cl H q 1 = some (.int .i64 (Bt.cnOf H0 q : Int))
  val2 : ∀ q, Gt.sp d h t q → cl H q 1 = some (.int .i64 (δ (Bt.cnOf H0 q) : Int))
  off : ∀ q, D q → ¬ Gt.af h t q 1
  all : ∀ q, Gt.sp d h0 t0 q ↔ D q ∨ Gt.sp d h t q
  sub : ∀ b o, Gt.af h t b o → Gt.af h0 t0 b o
  le : (Gt.L h t).length ≤ (Gt.L h0 t0).length
  x1 : 1 ≤ (Gt.X h t).length
section
variable {H0 H H' : Mem} {P : Ps} {d : Bool} {δ : Nat → Nat} {h0 h bx : Nat} {t0 : Gt E h0} {D : Nat → Prop}
theorem Sp2.keep {t : Gt E (h + 1)} (s : Sp2 H0 H P d δ h0 t0 bx D (h + 1) t) {b o : Nat} {v : Value} (hb : ncl E t.1 b o ∨ kcl t.1 b o) (hne : ¬ (b = t.1.p ∧ o = 1)) (hv : cl H0 b o = some v) : cl H b o = some v := by
  have haf : Gt.af (h + 1) t b o := hb.elim .inl (fun h => .inr (.inl h))
  refine s.fr.keep hv fun hz => ?_
  rcases hz with ⟨ho, hs⟩ | rfl
  · rcases (s.all b).1 hs with hD | hs
    · exact s.off b hD (ho ▸ haf)
    · exact s.g.own hb hne ⟨ho, hs⟩
  · exact s.nb o (s.sub _ _ haf)
theorem Sp2.inner {t : Gt E (h + 1)} (s : Sp2 H0 H P d δ h0 t0 bx D (h + 1) t) {k : Gt E h} (hk : t.2.2[cix d t.2.2.length]? = some k) :
    cl H t.1.p 3 = some (.pointer (some ⟨t.1.cb, 0, none⟩)) ∧ cl H t.1.cb 0 = some (.slice (some ⟨t.1.kb, t.1.ko, none⟩) t.2.2.length t.1.kc) ∧ cl H t.1.kb (t.1.ko + cix d t.2.2.length * 1) = some (ptr (Gt.p h k)) := by
  have hK := s.g.2.1
  have hi := (List.getElem?_eq_some_iff.1 hk).1
  have hc := hK.c
  rw [Gt.ps, List.length_map] at hc
  have hle := hK.sl.hle
  rw [List.length_map, Gt.ps, List.length_map] at hle
  refine ⟨s.keep (.inl (.inl ⟨rfl, by omega⟩)) (by omega) s.g.1.c3, s.keep (.inr (.inl ⟨rfl, by omega⟩)) (by omega) hc, s.keep (.inr (.inr ⟨rfl, by omega, by omega⟩)) (fun e => hK.n3 e.1.symm) ?_⟩
  exact hK.o.at (by rw [Gt.ps, List.map_map, List.getElem?_map, hk]; rfl)
theorem Sp2.wfr {t : Gt E h} (s : Sp2 H0 H P d δ h0 t0 bx D h t) (W : Wrote H H' (Gt.p h t) 1 [.int .i64 (Bt.cnOf H0 (Gt.p h t) : Int)]) : Fr (fun b o => (o = 1 ∧ Gt.sp d h0 t0 b) ∨ b = bx) H0 H' :=
  s.fr.trans' W.fr (fun _ _ _ h => h) fun b o _ hz => by
    have h1 := hz.1; have h2 := hz.2.1; have h3 := hz.2.2
    simp only [List.length_cons, List.length_nil] at h3
    exact .inl ⟨by omega, h1 ▸ (s.all _).2 (.inr (Gt.sp_p d))⟩
theorem Sp2.step {t : Gt E (h + 1)} {k : Gt E h} (h1 : 1 ≤ P.mn) (s : Sp2 H0 H P d δ h0 t0 bx D (h + 1) t) (hk : t.2.2[cix d t.2.2.length]? = some k) (W : Wrote H H' t.1.p 1 [.int .i64 (Bt.cnOf H0 t.1.p : Int)]) :
    Sp2 H0 H' P d δ h0 t0 bx (fun q => D q ∨ q = t.1.p) h k := by
  obtain ⟨q1, q2, q3⟩ := s.g.2.2.2.2.2.2.1 k (List.mem_of_getElem? hk)
  have hD : ∀ q, D q → q ≠ t.1.p := fun q hq e => s.off q hq (by rw [e]; exact Gt.af_p (t := t) (by omega))
  have hpk : ∀ q, Gt.sp d h k q → q ≠ t.1.p := fun q hq e => (q3 _ _ (Gt.sp_af hq 1 (by omega))).1 (.inl ⟨e, by omega⟩)
  refine ⟨q1, s.wfr (t := t) W, s.nb, fun q hq => ?_, fun q hq => W.fr.keep (s.val2 q (.inr ⟨k, hk, hq⟩)) (nr (.inl (hpk q hq))), fun q hq hb => ?_, fun q => ?_, fun b o hb => s.sub b o (.inr (.inr ⟨k, List.mem_of_getElem? hk, hb⟩)), Nat.le_trans (kid_le s.g.2.2.2.2.2.1 (List.mem_of_getElem? hk)) s.le, Nat.le_trans h1 q2⟩
  · rcases hq with hq | rfl
    · exact W.fr.keep (s.val q hq) (nr (.inl (hD q hq)))
    · exact W.at
  · rcases hq with hq | rfl
    · exact s.off q hq (.inr (.inr ⟨k, List.mem_of_getElem? hk, hb⟩))
    · exact (q3 _ _ hb).1 (.inl ⟨rfl, by omega⟩)
  · rw [s.all q]
    constructor
    · rintro (hq | hq)
      · exact .inl (.inl hq)
      · rcases hq with rfl | ⟨k', hk', hq⟩
        · exact .inl (.inr rfl)
        · rw [hk] at hk'; cases hk'; exact .inr hq
    · rintro ((hq | rfl) | hq)
      · exact .inl hq
      · exact .inr (.inl rfl)
      · exact .inr (.inr ⟨k, hk, hq⟩)
/-- At the leaf: all is as it was. -/
theorem Sp2.fin {t : Gt E 0} (s : Sp2 H0 H P d δ h0 t0 bx D 0 t) (hg0 : Gt.Good H0 P h0 t0) (W : Wrote H H' t.1.p 1 [.int .i64 (Bt.cnOf H0 t.1.p : Int)]) : Gt.Good H' P h0 t0 := by
  have hf := s.wfr (t := t) W
  have hD : ∀ q, D q → q ≠ t.1.p := fun q hq e => s.off q hq (by rw [e]; exact Gt.af_p (t := t) (by omega))
  refine hg0.eqv hf fun b o hb => ?_
  by_cases hs : o = 1 ∧ Gt.sp d h0 t0 b
  · obtain ⟨rfl, hs⟩ := hs
    rw [hg0.spcn hs]
    rcases (s.all b).1 hs with hq | hq
    · exact W.fr.keep (s.val b hq) (nr (.inl (hD b hq)))
    · have e : b = t.1.p := hq
      subst e
      exact W.at
  · exact hf.cell b o (hg0.lt hb) fun hz => hz.elim hs fun e => s.nb o (e ▸ hb)
end
namespace Pl
variable {α : Type} (O : Swo α)
end Pl
end Go.Bt
namespace Go.Bt
open Go
variable {α : Type} {E : Elt α}
section
variable {H0 H : Mem} {P : Ps} {d : Bool} {δ : Nat → Nat} {h0 h bx : Nat} {t0 : Gt E h0} {D : Nat → Prop} {l X : List α} {g : Ng}
theorem Sp2.pos {t : Gt E h} (s : Sp2 H0 H P d δ h0 t0 bx D h t) : 1 ≤ (Gt.L h t).length := s.g.ne s.x1
end
end Go.Bt
/- Appending to a list that a function gathers, nothing or something. Conditions: none. -/
namespace Go.Bt
open Go
set_option linter.unusedVariables false
/-- append(nil, y...) of an empty slice. -/
theorem run_append_00 {P : Program} {B : World} {H : Mem} {t e ty : TypeId} {s by' : Nat} {z : Value} (T : SlT P t e s by' z) (a : Option Addr) (c : Nat) (d : Nat) :
    (Builtin.append_ #[t, t] ty #[.slice none 0 0, .slice a 0 c]).run P (mk B H d) = .ok (.slice none 0 0) (mk B H d) := by
  simp [Builtin.append_, run_und T.und, T.sz _, Builtin.lenOf, run_firstCells_empty]
section
variable {P : Program} {B : World} {f : FuncId} {Q : Value → Mem → Prop} {n : Nat} {r : Env} {k : List Item} {H : Mem} {l : List Oper} {C : Mem → Prop} {p : List (Nat × Nat)}
variable {i kd d : Nat} {ty : TypeId} {pos : String} {af : Array Edge} {gd : Option (Nat × Bool)}
theorem O.app00 {t e : TypeId} {s by' : Nat} {z : Value} {x y : Operand} {a : Option Addr} {c : Nat} (hi : l[i]? = some ⟨some d, .call ⟨.builtin .append, #[x, y], #[t, t]⟩, ty, pos, af, gd⟩)
    (hg : guardOn l r gd = true) (hd : Nat.blt d n = true) (T : SlT P t e s by' z) (hx : ev r x = some (.slice none 0 0)) (hy : ev r y = some (.slice a 0 c))
    (h : C H ∧ Pl P B f Q n l C k p ((d, .slice none 0 0) :: r) H) : Pl P B f Q n l C k ((i, 2) :: p) r H :=
  Pl.loudV hi rfl hg hd (fun u H' => u = .slice none 0 0 ∧ H' = H)
    (fun a2 d' ha => by
      refine ⟨_, H, d', ?_, rfl, rfl⟩
      simp only [execOp, resolve, List.map_toArray, List.map_cons, List.map_nil, ha.eval hx, ha.eval hy, Sem.run_bind, Sem.run_pure, Result.andThen_ok, invoke, builtin]
      rw [run_append_00 T]; rfl)
    (fun u H' h1 => by
      obtain ⟨rfl, rfl⟩ := h1
      exact h)
/-- append(x, y...) of what has been gathered, whatever y is. -/
theorem O.appAI {α : Type} {E : Elt α} {t e : TypeId} {by' : Nat} {z : Value} {x y : Operand} {v u : Value} {l' Y : List α} {Z : Nat → Prop} (hi : l[i]? = some ⟨some d, .call ⟨.builtin .append, #[x, y], #[t, t]⟩, ty, pos, af, gd⟩)
    (hg : guardOn l r gd = true) (hd : Nat.blt d n = true) (T : SlT P t e E.s by' z) (hx : ev r x = some v) (hA : Acc E Z H v l') (hy : ev r y = some u)
    (hv : InS E H u Y) (hb : (l'.length + Y.length) * by' ≤ 140737488355328) (h63 : l'.length + Y.length < 9223372036854775808)
    (h : ∀ v' H', Acc E (fun b => Z b ∨ (b = H.size ∧ b < H'.size)) H' v' (l' ++ Y) → Fr (fun b _ => Z b) H H' → H'.size ≤ H.size + 1 → C H' ∧ Pl P B f Q n l C k p ((d, v') :: r) H') : Pl P B f Q n l C k ((i, 2) :: p) r H := by
  rcases hA with ⟨rfl, rfl⟩ | hA
  · rcases Nat.eq_zero_or_pos Y.length with h0 | h0
    · obtain rfl : Y = [] := List.eq_nil_of_length_eq_zero h0
      obtain ⟨a, c, rfl⟩ := hv.len
      exact O.app00 hi hg hd T hx hy (h _ _ (.inl ⟨rfl, rfl⟩) (Fr.refl _ _) (by omega))
    · refine O.appA hi hg hd T hx (.inl ⟨rfl, rfl⟩ : Acc E Z H _ []) hy ?_ h0 hb h63 h
      rcases hv with ⟨b, o, c, e, _, hr⟩ | ⟨rfl, _⟩
      · exact ⟨b, o, c, e, hr⟩
      · cases h0
  · exact O.appI hi hg hd T hx hA hy hv hb h63 fun v' H' h1 h2 h3 => h v' H' (.inr h1) h2 h3
end
end Go.Bt
