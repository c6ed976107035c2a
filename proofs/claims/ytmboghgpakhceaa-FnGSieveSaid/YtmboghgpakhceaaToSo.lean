/- Several nodes that change together: what stays apart; items appended, a slice cut short. Conditions: none. -/
import Derived.Test.YtmboghgpakhceaaToAe
namespace Go.Bt
open Go
set_option linter.unusedVariables false
section
variable {P : Program} {B : World} {f : FuncId} {Q : Value → Mem → Prop} {n : Nat} {r : Env} {c c2 : Item} {k : List Item} {H : Mem} {σ : Type}
/-- A point that the roads through the next item reach: from there on once. -/
theorem Go'.join (J : σ → Mem → Prop) (q : σ → Env) (ht : ∀ s H',J s H' → Go' P B f Q n (q s) k H') (h : (∀ s H',J s H' → Go' P B f Q n (q s) k H') → Go' P B f Q n r (c :: k) H) : Go' P B f Q n r (c :: k) H := h ht
theorem Go'.join2 (J : σ → Mem → Prop) (q : σ → Env) (ht : ∀ s H',J s H' → Go' P B f Q n (q s) k H') (h : (∀ s H',J s H' → Go' P B f Q n (q s) k H') → Go' P B f Q n r (c :: c2 :: k) H) : Go' P B f Q n r (c :: c2 :: k) H := h ht
end
abbrev Rg := Nat → Nat → Prop
/-- No cell of both. -/
def Off (A C : Rg) : Prop := ∀ b o,A b o → ¬ C b o
theorem Off.symm {A C : Rg} (h : Off A C) : Off C A := fun b o hc ha => h b o ha hc
/-- What A has become: old cells of A,and new blocks. -/
def Gro (H : Mem) (A A' : Rg) : Prop := ∀ b o,A' b o → A b o ∨ H.size ≤ b
theorem Gro.refl (H : Mem) (A : Rg) : Gro H A A := fun _ _ h => .inl h
theorem Gro.off {H : Mem} {A A' C : Rg} (g : Gro H A A') (d : Off C A) (l : ∀ b o,C b o → b < H.size) : Off C A' :=
  fun b o hc ha => (g b o ha).elim (d b o hc) (fun h => Nat.not_lt.2 h (l b o hc))
theorem Gro.tr {H H1 : Mem} {A A' A'' : Rg} (g : Gro H A A') (hs : H.size ≤ H1.size) (g' : Gro H1 A' A'') : Gro H A A'' :=
  fun b o h => (g' b o h).elim (g b o) (fun h => .inr (Nat.le_trans hs h))
theorem Gro.not {H : Mem} {A A' : Rg} (g : Gro H A A') {b o : Nat} (hb : b < H.size) (hn : ¬ A b o) : ¬ A' b o := fun h => (g b o h).elim hn (fun h => by omega)
/-- The whole frame,one step on. -/
theorem Fr.tot {Z A A0 : Rg} {H0 H H' : Mem} (hF : Fr Z H0 H) (f : Fr A H H') (s : Gro H0 A0 A) (hz : ∀ b o,A0 b o → Z b o) : Fr Z H0 H' :=
  hF.trans' f (fun _ _ _ h => h) (fun b o hb h => (s b o h).elim (hz b o) (fun h => by omega))
variable {α : Type} {E : Elt α}
/-- An inner node alone. -/
abbrev Rn (E : Elt α) (H : Mem) (P : Ps) (g : Ng) (X : List α) (os : List (Option Nat)) : Prop := Inn (E := E) H P 0 g X os []
abbrev rn (E : Elt α) (g : Ng) : Rg := innc (E := E) 0 g []
theorem rn_iff {g : Ng} {b o : Nat} : rn E g b o ↔ ncl E g b o ∨ kcl g b o := by
  constructor
  · rintro (h | h | ⟨k,hk,_⟩)
    · exact .inl h
    · exact .inr h
    · cases hk
  · rintro (h | h)
    · exact .inl h
    · exact .inr (.inl h)

section
variable {H H' H'' : Mem} {P : Ps} {g : Ng} {X : List α} {os : List (Option Nat)} {kp : Value} {h : Nat} {K : List (Gt E h)}
theorem NodeM.fSet {i : Nat} {x : α} (hN : NodeM E H g X kp) (W : Wrote H H' g.ib (g.io + i * E.s) (E.enc x)) (hi : i < X.length) : Fr (ncl E g) H H' :=
  W.as_row.fr.mono fun b o _ hz => .inr (W.as_row.in_items hN (by rw [List.length_singleton]; omega) hz)
theorem NodeM.fCpy {i : Nat} {Y : List α} (hN : NodeM E H g X kp) (W : Wrote H H' g.ib (g.io + i * E.s) (row E Y)) (hi : i + Y.length ≤ X.length) : Fr (ncl E g) H H' :=
  W.fr.mono fun b o _ hz => .inr (W.in_items hN hi hz)
theorem Wrote.fHdr {j : Nat} {v : Value} (W : Wrote H H' g.p j [v]) (hj : j < 4) : Fr (ncl E g) H H' := W.fr.mono fun b o _ hz => .inl ⟨hz.1,by have := hz.2.2; simp only [List.length_cons,List.length_nil] at this; omega⟩
theorem Fr.inN (hf : Fr (ncl E g) H H') : Fr (innc h g K) H H' := hf.mono fun _ _ _ hz => .inl hz
theorem Inn.fKset {i : Nat} {u : List Value} (hI : Inn H P h g X os K) (W : Wrote H H' g.kb (g.ko + i * 1) u) (hu : u.length = 1) (hi : i < os.length) : Fr (innc h g K) H H' := by
  have h1 := hI.k.sl.hle
  exact W.fr.mono fun b o _ hz => .inr (.inl (.inr ⟨hz.1,by have := hz.2.1; omega,by have := hz.2.2; omega⟩))
theorem Inn.fKcpy {i : Nat} {Y : List (Option Nat)} (hI : Inn H P h g X os K) (W : Wrote H H' g.kb (g.ko + i * 1) (row EP Y)) (hi : i + Y.length ≤ os.length) : Fr (innc h g K) H H' := by
  have h1 := hI.k.sl.hle
  exact W.fr.mono fun b o _ hz => .inr (.inl (.inr ⟨hz.1,by have := hz.2.1; omega,by have := hz.2.2; rw [row_len,show EP.s = 1 from rfl] at this; omega⟩))
theorem Wrote.fKhdr {v : Value} (W : Wrote H H' g.cb 0 [v]) : Fr (innc h g K) H H' := W.fr.mono fun b o _ hz => .inr (.inl (.inl ⟨hz.1,by have := hz.2.2; simpa using this⟩))
theorem Inn.fKapp {m b' o' c' : Nat} {news : List Value} (hI : Inn H P h g X os K) (ha : App H H' g.kb g.ko os.length g.kc m 1 (row EP os) news b' o' c') : Fr (innc h g K) H H' := by
  have hle := hI.k.sl.hle
  exact ha.fr.mono fun b o _ hz => .inr (.inl (.inr ⟨hz.1,by have := hz.2.1; omega,by have := hz.2.2; omega⟩))
theorem App.gro {len m s : Nat} {xs news : List Value} {b' o' c' : Nat} (ha : App H H' g.ib g.io len g.ic m s xs news b' o' c') : Gro H (Bt.ncl E g) (Bt.ncl E { g with ib := b',io := o',ic := c' }) :=
  fun b o hb => (ha.ncl hb).imp id (fun h => by omega)
theorem App.groI {len m s : Nat} {xs news : List Value} {b' o' c' : Nat} (ha : App H H' g.ib g.io len g.ic m s xs news b' o' c') : Gro H (rn E g) (rn E { g with ib := b',io := o',ic := c' }) := fun b o hb => by
  rcases rn_iff.1 hb with hb | hb
  · exact (ha.gro b o hb).imp .inl id
  · exact .inl (rn_iff.2 (.inr hb))
theorem App.groK {len m s : Nat} {xs news : List Value} {b' o' c' : Nat} (ha : App H H' g.kb g.ko len g.kc m s xs news b' o' c') : Gro H (rn E g) (rn E { g with kb := b',ko := o',kc := c' }) := fun b o hb => by
  rcases rn_iff.1 hb with hb | hb | hb
  · exact .inl (rn_iff.2 (.inl hb))
  · exact .inl (rn_iff.2 (.inr (.inl hb)))
  · rcases ha.place with ⟨h1,h2,h3,_⟩ | ⟨h1,_⟩
    · subst h1 h2 h3; exact .inl (rn_iff.2 (.inr (.inr hb)))
    · right; have := hb.1; simp only at this; omega
/-- A slice cut short. -/
theorem NodeM.cut {k : Nat} (hN : NodeM E H g X kp) (W : Wrote H H' g.p 2 [.slice (some ⟨g.ib,g.io,none⟩) k g.ic]) (hk : k ≤ X.length) : NodeM E H' g (X.take k) kp :=
  hN.hdr (X' := X.take k) (by rw [List.length_take,Nat.min_eq_left hk]; exact W) (hN.sl.take k) hN.ic hN.ne
theorem Inn.cut {k : Nat} (hI : Inn H P h g X os K) (W : Wrote H H' g.p 2 [.slice (some ⟨g.ib,g.io,none⟩) k g.ic]) (hk : k ≤ X.length) : Inn H' P h g (X.take k) os K :=
  hI.hdr (X' := X.take k) (by rw [List.length_take,Nat.min_eq_left hk]; exact W) (hI.n.sl.take k) hI.n.ic (.inl ⟨rfl,rfl,rfl⟩)
theorem Inn.kcut {k : Nat} (hI : Inn H P h g X os K) (W : Wrote H H' g.cb 0 [.slice (some ⟨g.kb,g.ko,none⟩) k g.kc]) (hk : k ≤ os.length) : Inn H' P h g X (os.take k) K :=
  hI.khdr (os' := os.take k) (by rw [List.length_take,Nat.min_eq_left hk]; exact W) (hI.k.sl.take k) hI.k.kc (.inl ⟨rfl,rfl,rfl⟩)
/-- Several appended. -/
theorem NodeM.pushs {m b' o' c' : Nat} {Y : List α} (hN : NodeM E H g X kp) (ha : App H H' g.ib g.io X.length g.ic m E.s (row E X) (row E Y) b' o' c') (hm : m = Y.length) (h0 : 0 < X.length)
    (W : Wrote H' H'' g.p 2 [.slice (some ⟨b',o',none⟩) (X.length + m) c']) : NodeM E H'' { g with ib := b',io := o',ic := c' } (X ++ Y) kp := by
  subst hm
  exact (hN.appd ha).hdr (by rw [List.length_append]; exact W) (SlE.apps ha) (by have := ha.sl.hle; omega) (ha.ne hN.ne (cl_lt hN.c0))
theorem Inn.pushs {m b' o' c' : Nat} {Y : List α} (hI : Inn H P h g X os K) (ha : App H H' g.ib g.io X.length g.ic m E.s (row E X) (row E Y) b' o' c') (hm : m = Y.length) (h0 : 0 < X.length)
    (W : Wrote H' H'' g.p 2 [.slice (some ⟨b',o',none⟩) (X.length + m) c']) : Inn H'' P h { g with ib := b',io := o',ic := c' } (X ++ Y) os K := by
  subst hm
  exact (hI.app ha).hdr (by rw [List.length_append]; exact W) (SlE.apps ha) (by have := ha.sl.hle; omega) (ha.fresh hI)
theorem Inn.kpushs {m b' o' c' : Nat} {Y : List (Option Nat)} (hI : Inn H P h g X os K) (ha : App H H' g.kb g.ko os.length g.kc m 1 (row EP os) (row EP Y) b' o' c') (hm : m = Y.length) (h0 : 0 < os.length)
    (W : Wrote H' H'' g.cb 0 [.slice (some ⟨b',o',none⟩) (os.length + m) c']) : Inn H'' P h { g with kb := b',ko := o',kc := c' } X (os ++ Y) K := by
  subst hm
  exact (hI.kapp ha).khdr (by rw [List.length_append]; exact W) (SlE.apps ha) (by have := ha.sl.hle; omega) (ha.freshk hI)
theorem Inn.lt' (hI : Inn H P h g X os K) : ∀ b o,innc h g K b o → b < H.size := fun b o hb => hI.lt hb
theorem NodeM.lt' (hN : NodeM E H g X kp) : ∀ b o,ncl E g b o → b < H.size := fun b o hb => NodeM.lt hN hb
end
namespace Pl
/-- One is taken out: those behind it are moved up,the last cell is emptied and cut off. -/
theorem cut_at {α : Type} (X : List α) (e : α) (i : Nat) (hi : i < X.length) :
    ((X.take i ++ X.drop (i + 1) ++ X.drop (i + (X.drop (i + 1)).length)).take (X.length - 1) ++ e :: (X.take i ++ X.drop (i + 1) ++ X.drop (i + (X.drop (i + 1)).length)).drop (X.length - 1 + 1)).take (X.length - 1) = X.take i ++ X.drop (i + 1) := by
  have h1 : (X.take i ++ X.drop (i + 1)).length = X.length - 1 := by simp; omega
  have h2 : (X.take i ++ X.drop (i + 1) ++ X.drop (i + (X.drop (i + 1)).length)).take (X.length - 1) = X.take i ++ X.drop (i + 1) := by rw [← h1,List.take_left]
  rw [h2,← h1,List.take_left]
theorem cutoff_last {α : Type} (X : List α) (e : α) (hi : 0 < X.length) : (X.take (X.length - 1) ++ e :: X.drop (X.length - 1 + 1)).take (X.length - 1) = X.take (X.length - 1) := by
  have h1 : (X.take (X.length - 1)).length = X.length - 1 := by simp
  rw [List.take_append_of_le_length (by omega),List.take_take,Nat.min_self]
theorem last_split {α : Type} {X : List α} {y : α} (h : X[X.length - 1]? = some y) : X = X.take (X.length - 1) ++ [y] := by
  obtain ⟨h1,h2⟩ := List.getElem?_eq_some_iff.1 h
  have := List.take_append_drop (X.length - 1) X
  rw [← List.getElem_cons_drop (h := h1),h2,List.drop_of_length_le (by omega)] at this
  exact this.symm
theorem head_split {α : Type} {X : List α} {y : α} (h : X[0]? = some y) : X = y :: X.drop (0 + 1) := by
  cases X with
  | nil => simp at h
  | cons z X => simp at h; subst h; rfl
end Pl
end Go.Bt
namespace Go.Bt
open Go
set_option linter.unusedVariables false
theorem Gro.offD {H : Mem} {A A' : Rg} {D : Nat → Prop} (g : Gro H A A') (t : ∀ b o,A b o → ¬ D b) (l : ∀ b,D b → b < H.size) : ∀ b o,A' b o → ¬ D b :=
  fun b o h hd => (g b o h).elim (fun h => t b o h hd) (fun h => Nat.not_lt.2 h (l b hd))
variable {α : Type} {E : Elt α}
theorem SlE.rdDrop {H : Mem} {b o c : Nat} {X : List α} (h : SlE E H b o c X) {i o2 : Nat} (ho : i < c → o2 = o + i * E.s) (hi : i ≤ X.length) : Rd H b o2 (row E (X.drop i)) := by
  rcases Nat.lt_or_ge i c with hc | hc
  · rw [ho hc]
    have := h.sub i (X.length - i) hi
    rwa [List.take_of_length_le (by rw [List.length_drop]; omega)] at this
  · rw [List.drop_of_length_le (Nat.le_trans h.hle hc)]
    exact Rd.nil _ _ _
theorem sum_mem {β : Type} (f : β → Nat) {l : List β} {z : β} (h : z ∈ l) : f z ≤ (l.map f).sum := by
  induction l with
  | nil => cases h
  | cons a l ih =>
    rw [List.map_cons,List.sum_cons]
    rcases List.mem_cons.1 h with rfl | h
    · omega
    · have := ih h; omega
/-- A leaf,or an inner node alone. -/
def Rw (E : Elt α) (H : Mem) (P : Ps) (lf : Bool) (g : Ng) (X : List α) (os : List (Option Nat)) : Prop := match lf with
  | true => NodeM E H g X (.pointer none) ∧ g.iso = P.iso ∧ os = []
  | false => Rn E H P g X os
def rwc (E : Elt α) (lf : Bool) (g : Ng) : Rg := match lf with
  | true => ncl E g
  | false => rn E g
def cnO (cn : Nat → Nat) : Option Nat → Nat
  | some q => cn q
  | none => 0
/-- Two children next to each other,and the item between them. -/
structure RebIn (E : Elt α) (H : Mem) (P : Ps) (D : Nat → Prop) (lf : Bool) (cn : Nat → Nat) (i : Nat) (g gl gr : Ng) (X Xl Xr : List α) (os osl osr : List (Option Nat)) (x : α) : Prop where
  n : Rn E H P g X os
  l : Rw E H P lf gl Xl osl
  r : Rw E H P lf gr Xr osr
  dln : Off (rwc E lf gl) (rn E g)
  drn : Off (rwc E lf gr) (rn E g)
  dlr : Off (rwc E lf gl) (rwc E lf gr)
  tn : ∀ b o,rn E g b o → ¬ D b
  tl : ∀ b o,rwc E lf gl b o → ¬ D b
  tr : ∀ b o,rwc E lf gr b o → ¬ D b
  dD : ∀ b,D b → b < H.size
  x : X[i]? = some x
  pl : os[i]? = some (some gl.p)
  pr : os[i + 1]? = some (some gr.p)
  len : os.length = X.length + 1
  xm : X.length ≤ P.mx
  lm : Xl.length ≤ P.mx
  rm : Xr.length ≤ P.mx
  kl : lf = false → osl.length = Xl.length + 1
  kr : lf = false → osr.length = Xr.length + 1
  cl : gl.cnt = Xl.length + (osl.map (cnO cn)).sum
  cr : gr.cnt = Xr.length + (osr.map (cnO cn)).sum
  cq : ∀ z ∈ osl ++ osr,∃ q,z = some q ∧ Bt.cl H q 1 = some (.int .i64 (cn q : Int)) ∧ ¬ rn E g q 1 ∧ ¬ rwc E lf gl q 1 ∧ ¬ rwc E lf gr q 1
  b : gl.cnt + gr.cnt < 4611686018427387904
  sh : Xl.length < P.mn ∨ Xr.length < P.mn
  ml : P.mn ≤ Xl.length + 1
  mr : P.mn ≤ Xr.length + 1
/-- What has become of them: one child,or two with another item between them. -/
def RebOut (E : Elt α) (H H' : Mem) (P : Ps) (lf : Bool) (cn : Nat → Nat) (i : Nat) (g gl gr : Ng) (X Xl Xr : List α) (os osl osr : List (Option Nat)) (x : α) : Prop :=
  Fr (fun b o => rn E g b o ∨ rwc E lf gl b o ∨ rwc E lf gr b o) H H' ∧
  ∃ g' gl',g'.p = g.p ∧ g'.cnt = g.cnt ∧ gl'.p = gl.p ∧ Gro H (rn E g) (rn E g') ∧ Gro H (rwc E lf gl) (rwc E lf gl') ∧ Off (rwc E lf gl') (rn E g') ∧
  ((Xl.length + Xr.length < P.mx ∧ Rn E H' P g' (X.take i ++ X.drop (i + 1)) (os.take (i + 1) ++ os.drop (i + 1 + 1)) ∧ Rw E H' P lf gl' (Xl ++ x :: Xr) (osl ++ osr) ∧ gl'.cnt = gl.cnt + (gr.cnt + 1)) ∨
   ∃ gr' Xl' Xr' osl' osr' y,gr'.p = gr.p ∧ Gro H (rwc E lf gr) (rwc E lf gr') ∧ Off (rwc E lf gr') (rn E g') ∧ Off (rwc E lf gl') (rwc E lf gr') ∧
      Rn E H' P g' (X.take i ++ y :: X.drop (i + 1)) os ∧ Rw E H' P lf gl' Xl' osl' ∧ Rw E H' P lf gr' Xr' osr' ∧ gl'.cnt = Xl'.length + (osl'.map (cnO cn)).sum ∧ gr'.cnt = Xr'.length + (osr'.map (cnO cn)).sum ∧
      Xl' ++ y :: Xr' = Xl ++ x :: Xr ∧ osl' ++ osr' = osl ++ osr ∧ P.mn ≤ Xl'.length ∧ P.mn ≤ Xr'.length ∧ Xl'.length ≤ P.mx ∧ Xr'.length ≤ P.mx ∧ (lf = false → osl'.length = Xl'.length + 1))
end Go.Bt
/- Trees whose children are evened out: from the nodes in memory to the trees. Conditions: none. -/
namespace Go.Bt
open Go
set_option linter.unusedVariables false
variable {α : Type} {E : Elt α}
theorem Inn.alone {H : Mem} {P : Ps} {h : Nat} {g : Ng} {X : List α} {os : List (Option Nat)} {K : List (Gt E h)} (hI : Inn H P h g X os K) : Rn E H P g X os :=
  ⟨hI.n,hI.k,⟨fun k hk => absurd hk (List.not_mem_nil),List.Pairwise.nil⟩,hI.iso⟩
/-- A node anew,and some children anew. -/
theorem Inn.putM {Z RA : Rg} {H H' : Mem} {P : Ps} {h : Nat} {g g' : Ng} {X X' : List α} {os os' : List (Option Nat)} {K1 K2 M : List (Gt E h)} (hI : Inn H P h g X os (K1 ++ K2)) (hn : Rn E H' P g' X' os') (hf : Fr Z H H')
    (hZ : ∀ b o,b < H.size → Z b o → rn E g b o ∨ RA b o) (hg : Gro H (rn E g) (rn E g')) (hRA : Off RA (innc h g (K1 ++ K2)))
    (hM : ∀ m ∈ M,Gt.Good H' P h m ∧ P.mn ≤ (Gt.X h m).length ∧ Gro H RA (Gt.af h m) ∧ Off (Gt.af h m) (rn E g')) (hP : M.Pairwise fun k k' => Off (Gt.af h k) (Gt.af h k')) :
    Inn H' P h g' X' os' (K1 ++ M ++ K2) := by
  have hold : ∀ k ∈ K1 ++ K2,(Gt.Good H' P h k ∧ P.mn ≤ (Gt.X h k).length ∧ ∀ b o,Gt.af h k b o → ¬ ncl E g' b o ∧ ¬ kcl g' b o) := fun k hk => by
    obtain ⟨h1,h2,h3⟩ := hI.c.1 k hk
    have hn1 : ∀ b o,Gt.af h k b o → ¬ rn E g b o := fun b o hb hr => (rn_iff.1 hr).elim (h3 b o hb).1 (h3 b o hb).2
    have hn2 : ∀ b o,Gt.af h k b o → ¬ RA b o := fun b o hb hr => hRA b o hr (.inr (.inr ⟨k,hk,hb⟩))
    refine ⟨h1.fr hf fun b o hb hz => (hZ b o (h1.lt hb) hz).elim (hn1 b o hb) (hn2 b o hb),h2,fun b o hb => ?_⟩
    have : ¬ rn E g' b o := hg.not (h1.lt hb) (hn1 b o hb)
    exact ⟨fun h => this (rn_iff.2 (.inl h)),fun h => this (rn_iff.2 (.inr h))⟩
  have cross : ∀ k ∈ K1 ++ K2,∀ m ∈ M,Off (Gt.af h k) (Gt.af h m) := fun k hk m hm => (hM m hm).2.2.1.off (fun b o hb hr => hRA b o hr (.inr (.inr ⟨k,hk,hb⟩))) fun b o hb => (hI.c.1 k hk).1.lt hb
  refine ⟨hn.n,hn.k,⟨fun k hk => ?_,?_⟩,hn.iso⟩
  · simp only [List.mem_append] at hk
    rcases hk with (hk | hk) | hk
    · exact hold k (List.mem_append_left _ hk)
    · obtain ⟨h1,h2,_,h4⟩ := hM k hk
      exact ⟨h1,h2,fun b o hb => ⟨fun h => h4 b o hb (rn_iff.2 (.inl h)),fun h => h4 b o hb (rn_iff.2 (.inr h))⟩⟩
    · exact hold k (List.mem_append_right _ hk)
  · have hp := hI.c.2
    rw [List.pairwise_append] at hp
    obtain ⟨p1,p2,p12⟩ := hp
    rw [List.append_assoc,List.pairwise_append,List.pairwise_append]
    refine ⟨p1,⟨hP,p2,fun m hm k hk b o hmb hb => cross k (List.mem_append_right _ hk) m hm b o hb hmb⟩,fun k hk m hm b o hb hmb => ?_⟩
    rcases List.mem_append.1 hm with hm | hm
    · exact cross k (List.mem_append_left _ hk) m hm b o hb hmb
    · exact p12 k hk m hm b o hb hmb
/-- A tree that stands in a new heap,its cells being old ones of A or new ones,none of them the node's. -/
def GoodM (H H' : Mem) (P : Ps) (RA : Rg) (g' : Ng) (h : Nat) (m : Gt E h) : Prop := Gt.Good H' P h m ∧ P.mn ≤ (Gt.X h m).length ∧ Gro H RA (Gt.af h m) ∧ Off (Gt.af h m) (rn E g')
/-- Two children have been put together,or evened out. -/
def RebMid (H H' : Mem) (P : Ps) (h : Nat) (RA : Rg) (i : Nat) (g : Ng) (X : List α) (os : List (Option Nat)) (pl pr : Nat) (L0 : List α) (E : Elt α) : Prop :=
  ∃ g',g'.p = g.p ∧ g'.cnt = g.cnt ∧ Gro H (rn E g) (rn E g') ∧ Fr (fun b o => rn E g b o ∨ RA b o) H H' ∧
    ((∃ m : Gt E h,Rn E H' P g' (X.take i ++ X.drop (i + 1)) (os.take (i + 1) ++ os.drop (i + 1 + 1)) ∧ Gt.p h m = pl ∧ GoodM H H' P RA g' h m ∧ Gt.L h m = L0) ∨
     ∃ (m1 m2 : Gt E h) (y : α),Rn E H' P g' (X.take i ++ y :: X.drop (i + 1)) os ∧ Gt.p h m1 = pl ∧ Gt.p h m2 = pr ∧ GoodM H H' P RA g' h m1 ∧ GoodM H H' P RA g' h m2 ∧ Off (Gt.af h m1) (Gt.af h m2) ∧ Gt.L h m1 ++ y :: Gt.L h m2 = L0)
theorem reb_leaf {D : Nat → Prop} {H H' : Mem} {P : Ps} (hm1 : 1 ≤ P.mn) {cn : Nat → Nat} {i : Nat} {g gl gr : Ng} {X Xl Xr : List α} {os : List (Option Nat)} {x : α} (hi : RebIn E H P D true cn i g gl gr X Xl Xr os [] [] x) (ho : RebOut E H H' P true cn i g gl gr X Xl Xr os [] [] x) (hc : gl.cnt = Xl.length ∧ gr.cnt = Xr.length) :
    RebMid H H' P 0 (fun b o => ncl E gl b o ∨ ncl E gr b o) i g X os gl.p gr.p (Xl ++ x :: Xr) E := by
  obtain ⟨hf,g',gl',e1,e2,e3,gg,ggl,dl,hr⟩ := ho
  refine ⟨g',e1,e2,gg,hf.mono (fun b o _ h => h.elim .inl .inr),?_⟩
  have hml := hi.ml
  have hmr := hi.mr
  rcases hr with ⟨hlt,hn,⟨hl,hli,_⟩,hcn⟩ | ⟨gr',Xl',Xr',osl',osr',y,e4,ggr,dr,dlr,hn,⟨hl,hli,rfl⟩,⟨hr,hri,rfl⟩,hcl,hcr,hx,_,b1,b2,b3,b4,_⟩
  · have hll : (Xl ++ x :: Xr).length = Xl.length + (Xr.length + 1) := by simp
    refine .inl ⟨((gl',Xl ++ x :: Xr) : Gt E 0),hn,e3,⟨⟨hl,hli,?_,?_⟩,?_,fun b o hb => (ggl b o hb).imp .inl id,dl⟩,rfl⟩
    · show gl'.cnt = _
      rw [hcn,hll,hc.1,hc.2]
    · show (Xl ++ x :: Xr).length ≤ _
      rw [hll]; omega
    · show _ ≤ (Xl ++ x :: Xr).length
      rw [hll]; omega
  · simp only [List.map_nil,List.sum_nil,Nat.add_zero] at hcl hcr
    exact .inr ⟨((gl',Xl') : Gt E 0),((gr',Xr') : Gt E 0),y,hn,e3,e4,⟨⟨hl,hli,hcl,b3⟩,b1,fun b o hb => (ggl b o hb).imp .inl id,dl⟩,⟨⟨hr,hri,hcr,b4⟩,b2,fun b o hb => (ggr b o hb).imp .inr id,dr⟩,dlr,hx⟩

theorem sum_os {H : Mem} {h : Nat} {K : List (Gt E h)} {P : Ps} (hK : ∀ k ∈ K,Gt.Good H P h k) : (((Gt.ps h K).map some).map (cnO (cnOf H))).sum = ((K.map (Gt.L h)).map List.length).sum := by
  congr 1
  unfold Gt.ps
  rw [List.map_map,List.map_map,List.map_map]
  exact List.map_congr_left fun k hk => ((hK k hk).cnOf).2
theorem split_ps {h : Nat} {K : List (Gt E h)} {a b : List (Option Nat)} (e : a ++ b = (Gt.ps h K).map some) : a = (Gt.ps h (K.take a.length)).map some ∧ b = (Gt.ps h (K.drop a.length)).map some := by
  unfold Gt.ps at *
  rw [List.map_take,List.map_take,List.map_drop,List.map_drop,← e]
  simp
/-- A node with children of an older heap. -/
theorem good_kids {Z : Rg} {H H' : Mem} {P : Ps} {h : Nat} {g : Ng} {X : List α} {K : List (Gt E h)} (hr : Rn E H' P g X ((Gt.ps h K).map some)) (hf : Fr Z H H')
    (hK : ∀ k ∈ K,Gt.Good H P h k ∧ P.mn ≤ (Gt.X h k).length ∧ (∀ b o,Gt.af h k b o → ¬ Z b o) ∧ Off (Gt.af h k) (rn E g)) (hp : K.Pairwise fun k k' => Off (Gt.af h k) (Gt.af h k'))
    (hc : g.cnt = (Pl.inter X (K.map (Gt.L h))).length) (hx : X.length ≤ P.mx) (hl : K.length = X.length + 1) : Gt.Good H' P (h + 1) ((g,X,K) : Gt E (h + 1)) :=
  ⟨hr.n,KidO.m hr.k,hr.iso,hc,hx,hl,fun k hk => ⟨(hK k hk).1.fr hf (hK k hk).2.2.1,(hK k hk).2.1,fun b o hb => ⟨fun h => (hK k hk).2.2.2 b o hb (rn_iff.2 (.inl h)),fun h => (hK k hk).2.2.2 b o hb (rn_iff.2 (.inr h))⟩⟩,hp⟩
theorem reb_inner {D : Nat → Prop} {H H' : Mem} {P : Ps} (hm1 : 1 ≤ P.mn) {h i : Nat} {g gl gr : Ng} {X Xl Xr : List α} {Kl Kr : List (Gt E h)} {os : List (Option Nat)} {x : α}
    (hl : Gt.Good H P (h + 1) ((gl,Xl,Kl) : Gt E (h + 1))) (hr : Gt.Good H P (h + 1) ((gr,Xr,Kr) : Gt E (h + 1))) (hdl : Off (Gt.af (h + 1) ((gl,Xl,Kl) : Gt E (h + 1))) (Gt.af (h + 1) ((gr,Xr,Kr) : Gt E (h + 1))))
    (hng : ∀ k ∈ Kl ++ Kr,Off (Gt.af h k) (rn E g))
    (hi : RebIn E H P D false (cnOf H) i g gl gr X Xl Xr os ((Gt.ps h Kl).map some) ((Gt.ps h Kr).map some) x) (ho : RebOut E H H' P false (cnOf H) i g gl gr X Xl Xr os ((Gt.ps h Kl).map some) ((Gt.ps h Kr).map some) x) :
    RebMid H H' P (h + 1) (fun b o => Gt.af (h + 1) ((gl,Xl,Kl) : Gt E (h + 1)) b o ∨ Gt.af (h + 1) ((gr,Xr,Kr) : Gt E (h + 1)) b o) i g X os gl.p gr.p (Gt.L (h + 1) ((gl,Xl,Kl) : Gt E (h + 1)) ++ x :: Gt.L (h + 1) ((gr,Xr,Kr) : Gt E (h + 1))) E := by
  obtain ⟨hf,g',gl',e1,e2,e3,gg,ggl,dl,hh⟩ := ho
  have hml := hi.ml
  have hmr := hi.mr
  have hKl : Kl.length = Xl.length + 1 := hl.2.2.2.2.2.1
  have hKr : Kr.length = Xr.length + 1 := hr.2.2.2.2.2.1
  have rl : ∀ b o,rn E gl b o → Gt.af (h + 1) ((gl,Xl,Kl) : Gt E (h + 1)) b o := fun b o hb => (rn_iff.1 hb).elim .inl (fun h => .inr (.inl h))
  have rr : ∀ b o,rn E gr b o → Gt.af (h + 1) ((gr,Xr,Kr) : Gt E (h + 1)) b o := fun b o hb => (rn_iff.1 hb).elim .inl (fun h => .inr (.inl h))
  have hfull : Fr (fun b o => rn E g b o ∨ (Gt.af (h + 1) ((gl,Xl,Kl) : Gt E (h + 1)) b o ∨ Gt.af (h + 1) ((gr,Xr,Kr) : Gt E (h + 1)) b o)) H H' :=
    hf.mono fun b o _ hz => hz.elim .inl fun hz => .inr (hz.imp (rl b o) (rr b o))
  have kAll : ∀ k ∈ Kl ++ Kr,Gt.Good H P h k ∧ P.mn ≤ (Gt.X h k).length ∧ (∀ b o,Gt.af h k b o → ¬ (rn E g b o ∨ rwc E false gl b o ∨ rwc E false gr b o)) ∧ Off (Gt.af h k) (rn E gl) ∧ Off (Gt.af h k) (rn E gr) := fun k hk => by
    have hg0 := hng k hk
    rcases List.mem_append.1 hk with hk | hk
    · obtain ⟨q1,q2,q3⟩ := hl.2.2.2.2.2.2.1 k hk
      have a1 : Off (Gt.af h k) (rn E gl) := fun b o hb hr => (rn_iff.1 hr).elim (q3 b o hb).1 (q3 b o hb).2
      have a2 : Off (Gt.af h k) (rn E gr) := fun b o hb hr => hdl b o (.inr (.inr ⟨k,hk,hb⟩)) (rr b o hr)
      exact ⟨q1,q2,fun b o hb hz => hz.elim (hg0 b o hb) fun hz => hz.elim (a1 b o hb) (a2 b o hb),a1,a2⟩
    · obtain ⟨q1,q2,q3⟩ := hr.2.2.2.2.2.2.1 k hk
      have a1 : Off (Gt.af h k) (rn E gr) := fun b o hb hr => (rn_iff.1 hr).elim (q3 b o hb).1 (q3 b o hb).2
      have a2 : Off (Gt.af h k) (rn E gl) := fun b o hb hr => hdl b o (rl b o hr) (.inr (.inr ⟨k,hk,hb⟩))
      exact ⟨q1,q2,fun b o hb hz => hz.elim (hg0 b o hb) fun hz => hz.elim (a2 b o hb) (a1 b o hb),a2,a1⟩
  have pAll : (Kl ++ Kr).Pairwise fun k k' => Off (Gt.af h k) (Gt.af h k') := by
    rw [List.pairwise_append]
    exact ⟨hl.2.2.2.2.2.2.2,hr.2.2.2.2.2.2.2,fun k hk k' hk' b o hb hb' => hdl b o (.inr (.inr ⟨k,hk,hb⟩)) (.inr (.inr ⟨k',hk',hb'⟩))⟩
  have kaf : ∀ k ∈ Kl ++ Kr,∀ b o,Gt.af h k b o → Gt.af (h + 1) ((gl,Xl,Kl) : Gt E (h + 1)) b o ∨ Gt.af (h + 1) ((gr,Xr,Kr) : Gt E (h + 1)) b o := fun k hk b o hb =>
    (List.mem_append.1 hk).imp (fun hk => .inr (.inr ⟨k,hk,hb⟩)) (fun hk => .inr (.inr ⟨k,hk,hb⟩))
  have glen : ∀ K : List (Gt E h),(∀ k ∈ K,k ∈ Kl ++ Kr) → (((Gt.ps h K).map some).map (cnO (cnOf H))).sum = ((K.map (Gt.L h)).map List.length).sum := fun K hK => sum_os (P := P) fun k hk => (kAll k (hK k hk)).1
  have mk : ∀ {gm : Ng} {Xm : List α} {K : List (Gt E h)},Rn E H' P gm Xm ((Gt.ps h K).map some) → (∀ k ∈ K,k ∈ Kl ++ Kr) → K.Pairwise (fun k k' => Off (Gt.af h k) (Gt.af h k')) → (∀ k ∈ K,Off (Gt.af h k) (rn E gm)) →
      gm.cnt = Xm.length + (((Gt.ps h K).map some).map (cnO (cnOf H))).sum → Xm.length ≤ P.mx → K.length = Xm.length + 1 → Gt.Good H' P (h + 1) ((gm,Xm,K) : Gt E (h + 1)) := fun {gm Xm K} h1 h2 h3 h4 h5 h6 h7 =>
    good_kids h1 hf (fun k hk => ⟨(kAll k (h2 k hk)).1,(kAll k (h2 k hk)).2.1,(kAll k (h2 k hk)).2.2.1,h4 k hk⟩) h3 (by rw [h5,glen K h2,Pl.inter_length _ _ (by rw [List.length_map]; exact h7)]) h6 h7
  have offg' : ∀ k ∈ Kl ++ Kr,Off (Gt.af h k) (rn E g') := fun k hk => gg.off (hng k hk) fun b o hb => (kAll k hk).1.lt hb
  refine ⟨g',e1,e2,gg,hfull,?_⟩
  have hLL : Gt.L (h + 1) ((gl,Xl,Kl) : Gt E (h + 1)) ++ x :: Gt.L (h + 1) ((gr,Xr,Kr) : Gt E (h + 1)) = Pl.inter (Xl ++ x :: Xr) ((Kl ++ Kr).map (Gt.L h)) := by
    rw [List.map_append,Pl.inter_item _ _ _ _ _ (by rw [List.length_map]; omega)]; rfl
  rw [hLL]
  rcases hh with ⟨hlt,hn,hl',hcn⟩ | ⟨gr',Xl',Xr',osl',osr',y,e4,ggr,dr,dlr,hn,hl',hr',hcl,hcr,hx,hos,b1,b2,b3,b4,b5⟩
  · have hll : (Xl ++ x :: Xr).length = Xl.length + (Xr.length + 1) := by simp
    replace hl' : Rn E H' P gl' (Xl ++ x :: Xr) ((Gt.ps h Kl).map some ++ (Gt.ps h Kr).map some) := hl'
    rw [show (Gt.ps h Kl).map some ++ (Gt.ps h Kr).map some = (Gt.ps h (Kl ++ Kr)).map some by simp [Gt.ps]] at hl'
    have offl' : ∀ k ∈ Kl ++ Kr,Off (Gt.af h k) (rn E gl') := fun k hk => Gro.off ggl (kAll k hk).2.2.2.1 fun b o hb => (kAll k hk).1.lt hb
    have hG := mk hl' (fun _ h => h) pAll offl' (by
      rw [hcn,hll,show ((Gt.ps h (Kl ++ Kr)).map some) = (Gt.ps h Kl).map some ++ (Gt.ps h Kr).map some by simp [Gt.ps],List.map_append,List.sum_append]
      have := hi.cl
      have := hi.cr
      omega) (by rw [hll]; omega) (by rw [hll,List.length_append]; omega)
    refine .inl ⟨((gl',Xl ++ x :: Xr,Kl ++ Kr) : Gt E (h + 1)),hn,e3,⟨hG,?_,fun b o hb => ?_,fun b o hb => ?_⟩,rfl⟩
    · show _ ≤ (Xl ++ x :: Xr).length
      rw [hll]; omega
    · rcases hb with hb | hb | ⟨k,hk,hb⟩
      · exact (ggl b o (rn_iff.2 (.inl hb))).imp (fun h => .inl (rl b o h)) id
      · exact (ggl b o (rn_iff.2 (.inr hb))).imp (fun h => .inl (rl b o h)) id
      · exact .inl (kaf k hk b o hb)
    · rcases hb with hb | hb | ⟨k,hk,hb⟩
      · exact dl b o (rn_iff.2 (.inl hb))
      · exact dl b o (rn_iff.2 (.inr hb))
      · exact offg' k hk b o hb
  · obtain ⟨s1,s2⟩ := split_ps (K := Kl ++ Kr) (hos.trans (by simp [Gt.ps]))
    have hol := b5 rfl
    generalize hA : (Kl ++ Kr).take osl'.length = A at s1
    generalize hB : (Kl ++ Kr).drop osl'.length = B at s2
    have hAB : A ++ B = Kl ++ Kr := by rw [← hA,← hB,List.take_append_drop]
    subst s1 s2
    have lA : A.length = Xl'.length + 1 := by simpa [Gt.ps] using hol
    have hlen : Xl'.length + (Xr'.length + 1) = Xl.length + (Xr.length + 1) := by have := congrArg List.length hx; simpa using this
    have lB : B.length = Xr'.length + 1 := by
      have := congrArg List.length hAB
      simp only [List.length_append] at this
      omega
    have sA : ∀ k ∈ A,k ∈ Kl ++ Kr := fun k hk => by rw [← hAB]; exact List.mem_append_left _ hk
    have sB : ∀ k ∈ B,k ∈ Kl ++ Kr := fun k hk => by rw [← hAB]; exact List.mem_append_right _ hk
    rw [← hAB,List.pairwise_append] at pAll
    obtain ⟨pA,pB,pAB⟩ := pAll
    have oA : ∀ k ∈ Kl ++ Kr,Off (Gt.af h k) (rn E gl') := fun k hk => Gro.off ggl (kAll k hk).2.2.2.1 fun b o hb => (kAll k hk).1.lt hb
    have oB : ∀ k ∈ Kl ++ Kr,Off (Gt.af h k) (rn E gr') := fun k hk => Gro.off ggr (kAll k hk).2.2.2.2 fun b o hb => (kAll k hk).1.lt hb
    have gA := mk hl' sA pA (fun k hk => oA k (sA k hk)) hcl b3 lA
    have gB := mk hr' sB pB (fun k hk => oB k (sB k hk)) hcr b4 lB
    refine .inr ⟨((gl',Xl',A) : Gt E (h + 1)),((gr',Xr',B) : Gt E (h + 1)),y,hn,e3,e4,⟨gA,b1,fun b o hb => ?_,fun b o hb => ?_⟩,⟨gB,b2,fun b o hb => ?_,fun b o hb => ?_⟩,fun b o hb hb2 => ?_,?_⟩
    · rcases hb with hb | hb | ⟨k,hk,hb⟩
      · exact (ggl b o (rn_iff.2 (.inl hb))).imp (fun h => .inl (rl b o h)) id
      · exact (ggl b o (rn_iff.2 (.inr hb))).imp (fun h => .inl (rl b o h)) id
      · exact .inl (kaf k (sA k hk) b o hb)
    · rcases hb with hb | hb | ⟨k,hk,hb⟩
      · exact dl b o (rn_iff.2 (.inl hb))
      · exact dl b o (rn_iff.2 (.inr hb))
      · exact offg' k (sA k hk) b o hb
    · rcases hb with hb | hb | ⟨k,hk,hb⟩
      · exact (ggr b o (rn_iff.2 (.inl hb))).imp (fun h => .inr (rr b o h)) id
      · exact (ggr b o (rn_iff.2 (.inr hb))).imp (fun h => .inr (rr b o h)) id
      · exact .inl (kaf k (sB k hk) b o hb)
    · rcases hb with hb | hb | ⟨k,hk,hb⟩
      · exact dr b o (rn_iff.2 (.inl hb))
      · exact dr b o (rn_iff.2 (.inr hb))
      · exact offg' k (sB k hk) b o hb
    · have n1 : ncl E gl' b o ∨ kcl gl' b o → rn E gl' b o := fun h => rn_iff.2 h
      have n2 : ncl E gr' b o ∨ kcl gr' b o → rn E gr' b o := fun h => rn_iff.2 h
      rcases hb with hb | hb | ⟨k,hk,hb⟩ <;> rcases hb2 with hb2 | hb2 | ⟨k',hk',hb2⟩
      · exact dlr b o (n1 (.inl hb)) (n2 (.inl hb2))
      · exact dlr b o (n1 (.inl hb)) (n2 (.inr hb2))
      · exact oA k' (sB k' hk') b o hb2 (n1 (.inl hb))
      · exact dlr b o (n1 (.inr hb)) (n2 (.inl hb2))
      · exact dlr b o (n1 (.inr hb)) (n2 (.inr hb2))
      · exact oA k' (sB k' hk') b o hb2 (n1 (.inr hb))
      · exact oB k (sA k hk) b o hb (n2 (.inl hb2))
      · exact oB k (sA k hk) b o hb (n2 (.inr hb2))
      · exact pAB k hk k' hk' b o hb hb2
    · show Pl.inter Xl' (A.map (Gt.L h)) ++ y :: Pl.inter Xr' (B.map (Gt.L h)) = _
      rw [← Pl.inter_item _ _ _ _ _ (by rw [List.length_map]; omega),← List.map_append,hAB,hx]
/-- What a node has become whose children were evened out. -/
theorem reb_fin {H H' : Mem} {P : Ps} {h i : Nat} {g : Ng} {X : List α} {K1 K2 : List (Gt E h)} {tl tr : Gt E h} {x : α} (hI : Inn H P h g X ((Gt.ps h (K1 ++ [tl,tr] ++ K2)).map some) (K1 ++ K2)) (hi : K1.length = i) (hx : X[i]? = some x)
    (hK : (K1 ++ [tl,tr] ++ K2).length = X.length + 1) (hxm : X.length ≤ P.mx) {RA : Rg} (hRA : Off RA (innc h g (K1 ++ K2)))
    (hm : RebMid H H' P h RA i g X ((Gt.ps h (K1 ++ [tl,tr] ++ K2)).map some) (Gt.p h tl) (Gt.p h tr) (Gt.L h tl ++ x :: Gt.L h tr) E) :
    ∃ (g' : Ng) (X' : List α) (K' : List (Gt E h)),g'.p = g.p ∧ g'.cnt = g.cnt ∧ Fr (fun b o => innc h g (K1 ++ K2) b o ∨ RA b o) H H' ∧ Inn H' P h g' X' ((Gt.ps h K').map some) K' ∧ K'.length = X'.length + 1 ∧
      Pl.inter X' (K'.map (Gt.L h)) = Pl.inter X ((K1 ++ [tl,tr] ++ K2).map (Gt.L h)) ∧ X'.length ≤ P.mx ∧ X.length ≤ X'.length + 1 ∧ Gro H (fun b o => innc h g (K1 ++ K2) b o ∨ RA b o) (innc h g' K') := by
  subst hi
  obtain ⟨hxl,hxe⟩ := List.getElem?_eq_some_iff.1 hx
  obtain ⟨g',e1,e2,gg,hf,hr⟩ := hm
  have hrn : ∀ b o,rn E g b o → innc h g (K1 ++ K2) b o := fun b o hb => (rn_iff.1 hb).elim .inl (fun h => .inr (.inl h))
  have hf' : Fr (fun b o => innc h g (K1 ++ K2) b o ∨ RA b o) H H' := hf.mono fun b o _ hz => hz.imp (hrn b o) id
  have grow : ∀ M : List (Gt E h),(∀ m ∈ M,Gro H RA (Gt.af h m)) → Gro H (fun b o => innc h g (K1 ++ K2) b o ∨ RA b o) (innc h g' (K1 ++ M ++ K2)) := fun M hM b o hb => by
    rcases hb with hb | hb | ⟨k,hk,hb⟩
    · exact (gg b o (rn_iff.2 (.inl hb))).imp (fun h => .inl (hrn b o h)) id
    · exact (gg b o (rn_iff.2 (.inr hb))).imp (fun h => .inl (hrn b o h)) id
    · simp only [List.mem_append] at hk
      rcases hk with (hk | hk) | hk
      · exact .inl (.inl (.inr (.inr ⟨k,List.mem_append_left _ hk,hb⟩)))
      · exact (hM k hk b o hb).imp .inr id
      · exact .inl (.inl (.inr (.inr ⟨k,List.mem_append_right _ hk,hb⟩)))
  have hspX : X = X.take K1.length ++ x :: X.drop (K1.length + 1) := by rw [← hxe,List.getElem_cons_drop,List.take_append_drop]
  have lT : (X.take K1.length).length = K1.length := by rw [List.length_take]; omega
  have hK2 : K2.length = (X.drop (K1.length + 1)).length := by
    simp only [List.length_append,List.length_cons,List.length_nil] at hK
    rw [List.length_drop]; omega
  have hinter : Pl.inter X ((K1 ++ [tl,tr] ++ K2).map (Gt.L h)) = Pl.inter (X.take K1.length ++ X.drop (K1.length + 1)) (K1.map (Gt.L h) ++ (Gt.L h tl ++ x :: Gt.L h tr) :: K2.map (Gt.L h)) := by
    rw [Pl.inter_split (by rw [List.length_map]; exact lT) (by rw [List.length_map]; exact hK2.symm),← hspX]
    simp
  rcases hr with ⟨m,hn,ep,hm,eL⟩ | ⟨m1,m2,y,hn,ep1,ep2,hm1,hm2,hd,eL⟩
  · have hos : ((Gt.ps h (K1 ++ [tl,tr] ++ K2)).map some).take (K1.length + 1) ++ ((Gt.ps h (K1 ++ [tl,tr] ++ K2)).map some).drop (K1.length + 1 + 1) = (Gt.ps h (K1 ++ [m] ++ K2)).map some := by
      have : Gt.ps h (K1 ++ [tl,tr] ++ K2) = (Gt.ps h K1 ++ [Gt.p h tl]) ++ Gt.p h tr :: Gt.ps h K2 := by simp [Gt.ps]
      have h1 : (Gt.ps h K1 ++ [Gt.p h tl]).length = K1.length + 1 := by simp [Gt.ps]
      rw [this,← List.map_take,← List.map_drop,← h1,List.take_left,← List.drop_drop,List.drop_left]
      simp [Gt.ps,ep]
    rw [hos] at hn
    have hI' := hI.putM hn hf (fun b o _ hz => hz) gg hRA (M := [m]) (fun k hk => by rw [List.mem_singleton] at hk; subst hk; exact hm) (List.pairwise_singleton _ _)
    refine ⟨g',_,K1 ++ [m] ++ K2,e1,e2,hf',hI',?_,?_,?_,?_,grow [m] fun k hk => by rw [List.mem_singleton] at hk; subst hk; exact hm.2.2.1⟩
    · simp only [List.length_append,List.length_cons,List.length_nil,lT]; omega
    · rw [hinter,← eL]; simp
    · simp only [List.length_append,lT,List.length_drop]; omega
    · simp only [List.length_append,lT,List.length_drop]; omega
  · have hos : (Gt.ps h (K1 ++ [tl,tr] ++ K2)).map some = (Gt.ps h (K1 ++ [m1,m2] ++ K2)).map some := by simp [Gt.ps,ep1,ep2]
    rw [hos] at hn
    have hI' := hI.putM hn hf (fun b o _ hz => hz) gg hRA (M := [m1,m2]) (fun k hk => by simp only [List.mem_cons,List.not_mem_nil,or_false] at hk; rcases hk with rfl | rfl; exact hm1; exact hm2) (List.pairwise_pair.2 hd)
    refine ⟨g',_,K1 ++ [m1,m2] ++ K2,e1,e2,hf',hI',?_,?_,?_,?_,grow [m1,m2] fun k hk => by simp only [List.mem_cons,List.not_mem_nil,or_false] at hk; rcases hk with rfl | rfl; exact hm1.2.2.1; exact hm2.2.2.1⟩
    · simp only [List.length_append,List.length_cons,List.length_nil,lT]; omega
    · rw [hinter,← eL,Pl.inter_split (by rw [List.length_map]; exact lT) (by rw [List.length_map]; exact hK2.symm)]
      simp
    · simp only [List.length_append,List.length_cons,lT,List.length_drop]; omega
    · simp only [List.length_append,List.length_cons,lT,List.length_drop]; omega
end Go.Bt
namespace Go.Bt
open Go
set_option linter.unusedVariables false
variable {α : Type} {E : Elt α}
theorem Inn.sub {H : Mem} {P : Ps} {h : Nat} {g : Ng} {X : List α} {os : List (Option Nat)} {K K' : List (Gt E h)} (hI : Inn H P h g X os K) (hs : K'.Sublist K) : Inn H P h g X os K' :=
  ⟨hI.n,hI.k,⟨fun k hk => hI.c.1 k (hs.subset hk),hI.c.2.sublist hs⟩,hI.iso⟩
theorem innc_sub {h : Nat} {g : Ng} {K K' : List (Gt E h)} (hs : ∀ k ∈ K',k ∈ K) {b o : Nat} (hb : innc h g K' b o) : innc h g K b o :=
  hb.imp id fun hb => hb.imp id fun ⟨k,hk,hb⟩ => ⟨k,hs k hk,hb⟩
/-- Two children next to each other of a node,one of them short of an item. -/
structure RebT (H : Mem) (P : Ps) (D : Nat → Prop) (h i : Nat) (g : Ng) (X : List α) (K1 K2 : List (Gt E h)) (u v : Gt E h) (x : α) : Prop where
  n : Inn H P h g X ((Gt.ps h (K1 ++ [u,v] ++ K2)).map some) (K1 ++ K2)
  l : Gt.Good H P h u
  r : Gt.Good H P h v
  ol : Off (Gt.af h u) (innc h g (K1 ++ K2))
  or' : Off (Gt.af h v) (innc h g (K1 ++ K2))
  olr : Off (Gt.af h u) (Gt.af h v)
  tn : ∀ b o,innc h g (K1 ++ K2) b o → ¬ D b
  tl : ∀ b o,Gt.af h u b o → ¬ D b
  tr : ∀ b o,Gt.af h v b o → ¬ D b
  dD : ∀ b,D b → b < H.size
  hi : K1.length = i
  x : X[i]? = some x
  len : (K1 ++ [u,v] ++ K2).length = X.length + 1
  xm : X.length ≤ P.mx
  b : (Gt.L h u).length + (Gt.L h v).length < 4611686018427387904
  sh : (Gt.X h u).length < P.mn ∨ (Gt.X h v).length < P.mn
  ml : P.mn ≤ (Gt.X h u).length + 1
  mr : P.mn ≤ (Gt.X h v).length + 1
theorem rn_innc {h : Nat} {g : Ng} {K : List (Gt E h)} {b o : Nat} (hb : rn E g b o) : innc h g K b o := (rn_iff.1 hb).elim .inl (fun h => .inr (.inl h))
section
variable {H : Mem} {P : Ps} {D : Nat → Prop} {h i : Nat} {g : Ng} {X : List α} {x : α}
theorem ps_at {K1 K2 : List (Gt E h)} {tl tr : Gt E h} : ((Gt.ps h (K1 ++ [tl,tr] ++ K2)).map some)[K1.length]? = some (some (Gt.p h tl)) ∧ ((Gt.ps h (K1 ++ [tl,tr] ++ K2)).map some)[K1.length + 1]? = some (some (Gt.p h tr)) ∧
    ((Gt.ps h (K1 ++ [tl,tr] ++ K2)).map some).length = (K1 ++ [tl,tr] ++ K2).length := by
  refine ⟨?_,?_,by simp [Gt.ps]⟩ <;> simp [Gt.ps]
theorem RebT.in0 {K1 K2 : List (Gt E 0)} {u v : Gt E 0} (cn : Nat → Nat) (ht : RebT H P D 0 i g X K1 K2 u v x) : RebIn E H P D true cn i g (Gt.g 0 u) (Gt.g 0 v) X (Gt.X 0 u) (Gt.X 0 v) ((Gt.ps 0 (K1 ++ [u,v] ++ K2)).map some) [] [] x := by
  obtain ⟨n,l,r,ol,or',olr,tn,tl,tr,dD,hi,hx,len,xm,b,sh,ml,mr⟩ := ht
  subst hi
  obtain ⟨gl,Xl⟩ := u
  obtain ⟨gr,Xr⟩ := v
  obtain ⟨p1,p2,p3⟩ := ps_at (E := E) (h := 0) (K1 := K1) (K2 := K2) (tl := (gl,Xl)) (tr := (gr,Xr))
  have c1 : gl.cnt = Xl.length := l.2.2.1
  have c2 : gr.cnt = Xr.length := r.2.2.1
  replace b : Xl.length + Xr.length < 4611686018427387904 := b
  exact ⟨n.alone,⟨l.1,l.2.1,rfl⟩,⟨r.1,r.2.1,rfl⟩,fun b o h1 h2 => ol b o h1 (rn_innc h2),fun b o h1 h2 => or' b o h1 (rn_innc h2),olr,fun b o h => tn b o (rn_innc h),tl,tr,dD,hx,p1,p2,p3.trans len,xm,l.2.2.2,r.2.2.2,
    fun h => Bool.noConfusion h,fun h => Bool.noConfusion h,c1,c2,fun z hz => absurd hz List.not_mem_nil,(show gl.cnt + gr.cnt < 4611686018427387904 by omega),sh,ml,mr⟩
theorem RebT.inS {K1 K2 : List (Gt E (h + 1))} {u v : Gt E (h + 1)} (ht : RebT H P D (h + 1) i g X K1 K2 u v x) :
    RebIn E H P D false (cnOf H) i g (Gt.g (h + 1) u) (Gt.g (h + 1) v) X (Gt.X (h + 1) u) (Gt.X (h + 1) v) ((Gt.ps (h + 1) (K1 ++ [u,v] ++ K2)).map some) ((Gt.ps h u.2.2).map some) ((Gt.ps h v.2.2).map some) x ∧ (∀ k ∈ u.2.2 ++ v.2.2,Off (Gt.af h k) (rn E g)) := by
  obtain ⟨n,l,r,ol,or',olr,tn,tl,tr,dD,hi,hx,len,xm,b,sh,ml,mr⟩ := ht
  subst hi
  obtain ⟨gl,Xl,Kl⟩ := u
  obtain ⟨gr,Xr,Kr⟩ := v
  obtain ⟨p1,p2,p3⟩ := ps_at (E := E) (h := h + 1) (K1 := K1) (K2 := K2) (tl := (gl,Xl,Kl)) (tr := (gr,Xr,Kr))
  have c1 : gl.cnt = (Pl.inter Xl (Kl.map (Gt.L h))).length := l.2.2.2.1
  have c2 : gr.cnt = (Pl.inter Xr (Kr.map (Gt.L h))).length := r.2.2.2.1
  have k1 : Kl.length = Xl.length + 1 := l.2.2.2.2.2.1
  have k2 : Kr.length = Xr.length + 1 := r.2.2.2.2.2.1
  have rl : ∀ b o,rn E gl b o → Gt.af (h + 1) ((gl,Xl,Kl) : Gt E (h + 1)) b o := fun b o hb => (rn_iff.1 hb).elim .inl (fun h => .inr (.inl h))
  have rr : ∀ b o,rn E gr b o → Gt.af (h + 1) ((gr,Xr,Kr) : Gt E (h + 1)) b o := fun b o hb => (rn_iff.1 hb).elim .inl (fun h => .inr (.inl h))
  have gng : ∀ k ∈ Kl ++ Kr,Off (Gt.af h k) (rn E g) := fun k hk b o hb hr => (List.mem_append.1 hk).elim (fun hk => ol b o (.inr (.inr ⟨k,hk,hb⟩)) (rn_innc hr)) (fun hk => or' b o (.inr (.inr ⟨k,hk,hb⟩)) (rn_innc hr))
  replace b : (Pl.inter Xl (Kl.map (Gt.L h))).length + (Pl.inter Xr (Kr.map (Gt.L h))).length < 4611686018427387904 := b
  refine ⟨⟨n.alone,(Gt.Good.inn l).alone,(Gt.Good.inn r).alone,fun b o h1 h2 => ol b o (rl b o h1) (rn_innc h2),fun b o h1 h2 => or' b o (rr b o h1) (rn_innc h2),fun b o h1 h2 => olr b o (rl b o h1) (rr b o h2),fun b o h => tn b o (rn_innc h),fun b o h => tl b o (rl b o h),fun b o h => tr b o (rr b o h),dD,hx,p1,p2,p3.trans len,xm,l.2.2.2.2.1,r.2.2.2.2.1,
    fun _ => (show ((Gt.ps h Kl).map some).length = Xl.length + 1 by simpa [Gt.ps] using k1),fun _ => (show ((Gt.ps h Kr).map some).length = Xr.length + 1 by simpa [Gt.ps] using k2),?_,?_,fun z hz => ?_,(show gl.cnt + gr.cnt < 4611686018427387904 by omega),sh,ml,mr⟩,gng⟩
  · show gl.cnt = Xl.length + (((Gt.ps h Kl).map some).map (cnO (cnOf H))).sum
    rw [sum_os (P := P) fun k hk => (l.2.2.2.2.2.2.1 k hk).1,c1,Pl.inter_length _ _ (by rw [List.length_map]; exact k1)]
  · show gr.cnt = Xr.length + (((Gt.ps h Kr).map some).map (cnO (cnOf H))).sum
    rw [sum_os (P := P) fun k hk => (r.2.2.2.2.2.2.1 k hk).1,c2,Pl.inter_length _ _ (by rw [List.length_map]; exact k2)]
  · have hz' : ∃ k ∈ Kl ++ Kr,z = some (Gt.p h k) := by
      simp only [Gt.ps,List.mem_append,List.mem_map] at hz ⊢
      rcases hz with ⟨_,⟨k,hk,rfl⟩,rfl⟩ | ⟨_,⟨k,hk,rfl⟩,rfl⟩
      · exact ⟨k,.inl hk,rfl⟩
      · exact ⟨k,.inr hk,rfl⟩
    obtain ⟨k,hk,rfl⟩ := hz'
    have hgk : Gt.Good H P h k ∧ Off (Gt.af h k) (rn E gl) ∧ Off (Gt.af h k) (rn E gr) := by
      rcases List.mem_append.1 hk with hk | hk
      · obtain ⟨q1,_,q3⟩ := l.2.2.2.2.2.2.1 k hk
        exact ⟨q1,fun b o hb hr => (rn_iff.1 hr).elim (q3 b o hb).1 (q3 b o hb).2,fun b o hb hr => olr b o (.inr (.inr ⟨k,hk,hb⟩)) (rr b o hr)⟩
      · obtain ⟨q1,_,q3⟩ := r.2.2.2.2.2.2.1 k hk
        exact ⟨q1,fun b o hb hr => olr b o (rl b o hr) (.inr (.inr ⟨k,hk,hb⟩)),fun b o hb hr => (rn_iff.1 hr).elim (q3 b o hb).1 (q3 b o hb).2⟩
    have hp : Gt.af h k (Gt.p h k) 1 := Gt.af_p (by omega)
    exact ⟨Gt.p h k,rfl,(hgk.1.cnOf).1,gng k hk _ _ hp,hgk.2.1 _ _ hp,hgk.2.2 _ _ hp⟩
end
/-- From the two children's nodes to the tree. -/
theorem RebT.fin0 {H H' : Mem} {P : Ps} {D : Nat → Prop} {i : Nat} {g : Ng} {X : List α} {x : α} (h1 : 1 ≤ P.mn) {K1 K2 : List (Gt E 0)} {u v : Gt E 0} {cn : Nat → Nat} (ht : RebT H P D 0 i g X K1 K2 u v x)
    (ho : RebOut E H H' P true cn i g (Gt.g 0 u) (Gt.g 0 v) X (Gt.X 0 u) (Gt.X 0 v) ((Gt.ps 0 (K1 ++ [u,v] ++ K2)).map some) [] [] x) :
    ∃ (g' : Ng) (X' : List α) (K' : List (Gt E 0)),g'.p = g.p ∧ g'.cnt = g.cnt ∧ Fr (fun b o => innc 0 g (K1 ++ K2) b o ∨ (Gt.af 0 u b o ∨ Gt.af 0 v b o)) H H' ∧ Inn H' P 0 g' X' ((Gt.ps 0 K').map some) K' ∧ K'.length = X'.length + 1 ∧
      Pl.inter X' (K'.map (Gt.L 0)) = Pl.inter X ((K1 ++ [u,v] ++ K2).map (Gt.L 0)) ∧ X'.length ≤ P.mx ∧ X.length ≤ X'.length + 1 ∧ Gro H (fun b o => innc 0 g (K1 ++ K2) b o ∨ (Gt.af 0 u b o ∨ Gt.af 0 v b o)) (innc 0 g' K') :=
  reb_fin ht.n ht.hi ht.x ht.len ht.xm (fun b o hb => hb.elim (ht.ol b o) (ht.or' b o)) (reb_leaf h1 (ht.in0 cn) ho ⟨ht.l.2.2.1,ht.r.2.2.1⟩)
theorem RebT.finS {H H' : Mem} {P : Ps} {D : Nat → Prop} {h i : Nat} {g : Ng} {X : List α} {x : α} (h1 : 1 ≤ P.mn) {K1 K2 : List (Gt E (h + 1))} {u v : Gt E (h + 1)} (ht : RebT H P D (h + 1) i g X K1 K2 u v x)
    (ho : RebOut E H H' P false (cnOf H) i g (Gt.g (h + 1) u) (Gt.g (h + 1) v) X (Gt.X (h + 1) u) (Gt.X (h + 1) v) ((Gt.ps (h + 1) (K1 ++ [u,v] ++ K2)).map some) ((Gt.ps h u.2.2).map some) ((Gt.ps h v.2.2).map some) x) :
    ∃ (g' : Ng) (X' : List α) (K' : List (Gt E (h + 1))),g'.p = g.p ∧ g'.cnt = g.cnt ∧ Fr (fun b o => innc (h + 1) g (K1 ++ K2) b o ∨ (Gt.af (h + 1) u b o ∨ Gt.af (h + 1) v b o)) H H' ∧ Inn H' P (h + 1) g' X' ((Gt.ps (h + 1) K').map some) K' ∧ K'.length = X'.length + 1 ∧
      Pl.inter X' (K'.map (Gt.L (h + 1))) = Pl.inter X ((K1 ++ [u,v] ++ K2).map (Gt.L (h + 1))) ∧ X'.length ≤ P.mx ∧ X.length ≤ X'.length + 1 ∧
      Gro H (fun b o => innc (h + 1) g (K1 ++ K2) b o ∨ (Gt.af (h + 1) u b o ∨ Gt.af (h + 1) v b o)) (innc (h + 1) g' K') :=
  reb_fin ht.n ht.hi ht.x ht.len ht.xm (fun b o hb => hb.elim (ht.ol b o) (ht.or' b o)) (reb_inner h1 ht.l ht.r ht.olr (ht.inS).2 (ht.inS).1 ho)
end Go.Bt
namespace Go.Bt
open Go
set_option linter.unusedVariables false
variable {α : Type} {E : Elt α}
/-- What a deletion does to a tree. -/
structure DelT (H H' : Mem) (P : Ps) (h : Nat) (t t' : Gt E h) (L' : List α) : Prop where
  fr : Fr (Gt.af h t) H H'
  g : Gt.Good H' P h t'
  p : Gt.p h t' = Gt.p h t
  a : Gro H (Gt.af h t) (Gt.af h t')
  l : Gt.L h t' = L'
  x : (Gt.X h t).length ≤ (Gt.X h t').length + 1
namespace Pl
/-- The last one,or the one that is equal to x: it,and the others. -/
def dlr {α : Type} (O : Swo α) (mx : Bool) (x : α) (L : List α) : Option (α × List α) := match mx with
  | true => L.getLast?.map fun y => (y,L.dropLast)
  | false => (got O x L).map fun y => (y,del O x L)
/-- Where it stands. -/
def Sel {α : Type} (O : Swo α) (mx : Bool) (x : α) (X : List α) (s : Nat × Bool) : Prop := (s.2 = true → s.1 < X.length) ∧ s.1 ≤ X.length ∧ (mx = true → s = (X.length - 1,true)) ∧ (mx = false → s = (pos O x X,fnd O x X))
theorem sel_max {α : Type} (O : Swo α) (x : α) {X : List α} (h : 1 ≤ X.length) : Sel O true x X (X.length - 1,true) := ⟨fun _ => by simp only; omega,by simp only; omega,fun _ => rfl,fun h => Bool.noConfusion h⟩
theorem sel_key {α : Type} (O : Swo α) (x : α) (X : List α) : Sel O false x X (pos O x X,fnd O x X) := ⟨fun h => fnd_pos_lt O h,pos_le O x X,fun h => Bool.noConfusion h,fun _ => rfl⟩
theorem dlr_leaf {α : Type} (O : Swo α) {mx : Bool} {x y : α} {X : List α} {i : Nat} (hs : Sel O mx x X (i,true)) (hy : X[i]? = some y) : dlr O mx x X = some (y,X.take i ++ X.drop (i + 1)) := by
  obtain ⟨h1,_,h2,h3⟩ := hs
  have hi := h1 rfl
  simp only at hi
  cases mx with
  | true =>
    have h4 := congrArg Prod.fst (h2 rfl)
    simp only at h4
    have : X.getLast? = some y := by rw [List.getLast?_eq_getElem?,← h4,hy]
    simp only [dlr,this,Option.map_some,Option.some.injEq,Prod.mk.injEq,true_and]
    rw [List.dropLast_eq_take,h4,List.drop_of_length_le (by omega),List.append_nil]
  | false =>
    have h4 := h3 rfl
    have e1 : i = pos O x X := congrArg Prod.fst h4
    have e2 : true = fnd O x X := congrArg Prod.snd h4
    simp only [dlr]
    rw [got_some O e2.symm,← e1,hy]
    simp only [Option.map_some,Option.some.injEq,Prod.mk.injEq,true_and]
    unfold del
    rw [← e2,← e1]; rfl
theorem dlr_none {α : Type} (O : Swo α) {mx : Bool} {x : α} {X : List α} {i : Nat} (hs : Sel O mx x X (i,false)) : dlr O mx x X = none := by
  obtain ⟨_,_,h2,h3⟩ := hs
  cases mx with
  | true => have := congrArg Prod.snd (h2 rfl); cases this
  | false =>
    have e2 : false = fnd O x X := congrArg Prod.snd (h3 rfl)
    simp only [dlr]
    rw [got_none O e2.symm]; rfl
end Pl
/-- A node whose i-th child has lost an item. -/
structure DMid (H H' : Mem) (P : Ps) (h : Nat) (g : Ng) (X : List α) (K : List (Gt E h)) (i : Nat) (X1 : List α) (k' : Gt E h) (L' : List α) : Prop where
  n : Inn H' P h g X1 ((Gt.ps h K).map some) (K.take i ++ K.drop (i + 1))
  k : Gt.Good H' P h k'
  p : ∃ k,K[i]? = some k ∧ Gt.p h k' = Gt.p h k ∧ Gro H (Gt.af h k) (Gt.af h k')
  mn : P.mn ≤ (Gt.X h k').length + 1
  l : Pl.inter X1 ((K.take i ++ [k'] ++ K.drop (i + 1)).map (Gt.L h)) = L'
  len : X1.length = X.length
  fr : Fr (Gt.af (h + 1) ((g,X,K) : Gt E (h + 1))) H H'
theorem Gt.Good.ne {H : Mem} {P : Ps} : ∀ {h : Nat} {t : Gt E h},Gt.Good H P h t → 1 ≤ (Gt.X h t).length → 1 ≤ (Gt.L h t).length
  | 0,_,_,hx => hx
  | _ + 1,t,hg,hx => by
    have : (Gt.L _ t).length = _ := Pl.inter_length t.2.1 (t.2.2.map (Gt.L _)) (by rw [List.length_map]; exact hg.2.2.2.2.2.1)
    rw [this]
    exact Nat.le_trans hx (Nat.le_add_right _ _)
section
variable {H H' : Mem} {P : Ps} {h : Nat} {g : Ng} {X : List α} {os : List (Option Nat)} {K : List (Gt E h)} {i : Nat} {k k' : Gt E h}
theorem kid_split (hk : K[i]? = some k) : K = K.take i ++ [k] ++ K.drop (i + 1) := by
  obtain ⟨h1,h2⟩ := List.getElem?_eq_some_iff.1 hk
  rw [List.append_assoc,List.singleton_append,← h2,List.getElem_cons_drop,List.take_append_drop]
theorem kid_off (hI : Inn H P h g X os K) (hk : K[i]? = some k) : Off (Gt.af h k) (innc h g (K.take i ++ K.drop (i + 1))) := fun b o hb hn => by
  have hs := kid_split hk
  have hc := hI.c
  obtain ⟨h1,h2⟩ := hc
  have hkK : k ∈ K := List.mem_of_getElem? hk
  rcases hn with hn | hn | ⟨m,hm,hn⟩
  · exact (h1 k hkK).2.2 b o hb |>.1 hn
  · exact (h1 k hkK).2.2 b o hb |>.2 hn
  · rw [hs,List.append_assoc,List.pairwise_append,List.singleton_append,List.pairwise_cons] at h2
    obtain ⟨_,⟨p2,_⟩,p3⟩ := h2
    rcases List.mem_append.1 hm with hm | hm
    · exact p3 m hm k List.mem_cons_self b o hn hb
    · exact p2 m hm b o hb hn
/-- The child has been dealt with: the node as it was. -/
theorem kid_sub (hk : K[i]? = some k) : (K.take i ++ K.drop (i + 1)).Sublist K := by
  conv => rhs; rw [kid_split hk]
  rw [List.append_assoc]
  exact List.Sublist.append_left (List.sublist_append_right _ _) _
theorem Inn.kid (hI : Inn H P h g X os K) (hk : K[i]? = some k) (hf : Fr (Gt.af h k) H H') : Inn H' P h g X os (K.take i ++ K.drop (i + 1)) :=
  (hI.sub (kid_sub hk)).fr hf fun b o hb hz => kid_off hI hk b o hz hb
theorem DMid.pk {X1 L' : List α} (d : DMid H H' P h g X K i X1 k' L') : (Gt.ps h K).map some = (Gt.ps h (K.take i ++ [k'] ++ K.drop (i + 1))).map some := by
  obtain ⟨k,hk,hp,_⟩ := d.p
  conv => lhs; rw [kid_split hk]
  simp [Gt.ps,hp]
theorem DMid.off {X1 L' : List α} (d : DMid H H' P h g X K i X1 k' L') (hI : Inn H P h g X os K) : Off (Gt.af h k') (innc h g (K.take i ++ K.drop (i + 1))) := by
  obtain ⟨k,hk,hp,hg⟩ := d.p
  exact (hg.off (kid_off hI hk).symm fun b o hb => hI.lt (innc_sub (fun m hm => (List.mem_append.1 hm).elim List.mem_of_mem_take List.mem_of_mem_drop) hb)).symm
/-- What the child's cells are. -/
theorem DMid.gro {X1 L' : List α} (d : DMid H H' P h g X K i X1 k' L') : Gro H (Gt.af (h + 1) ((g,X,K) : Gt E (h + 1))) (fun b o => innc h g (K.take i ++ K.drop (i + 1)) b o ∨ Gt.af h k' b o) := fun b o hb => by
  obtain ⟨k,hk,hp,hg⟩ := d.p
  rcases hb with hb | hb
  · exact .inl (innc_sub (K := K) (fun m hm => (List.mem_append.1 hm).elim List.mem_of_mem_take List.mem_of_mem_drop) hb)
  · exact (hg b o hb).imp (fun h => .inr (.inr ⟨k,List.mem_of_getElem? hk,h⟩)) id
end
namespace Pl
variable {α : Type} (O : Swo α)
theorem inter_take {X : List α} {K : List (List α)} {i : Nat} {k m : List α} (hl : K.length = X.length + 1) (hk : K[i]? = some k) :
    inter X (K.take i ++ [m] ++ K.drop (i + 1)) = pre (X.take i) (K.take i) ++ m ++ post (X.drop i) (K.drop (i + 1)) := by
  have hi := (List.getElem?_eq_some_iff.1 hk).1
  have := inter_focus (X.take i) (X.drop i) (K.take i) m (K.drop (i + 1)) (by rw [List.length_take,List.length_take]; omega) (by rw [List.length_drop,List.length_drop]; omega)
  rw [List.take_append_drop] at this
  rw [List.append_assoc,List.singleton_append,this]
theorem inter_self {X : List α} {K : List (List α)} {i : Nat} {k : List α} (hl : K.length = X.length + 1) (hk : K[i]? = some k) :
    inter X K = pre (X.take i) (K.take i) ++ k ++ post (X.drop i) (K.drop (i + 1)) := by
  rw [← inter_take (m := k) hl hk]
  congr 1
  obtain ⟨h1,h2⟩ := List.getElem?_eq_some_iff.1 hk
  rw [List.append_assoc,List.singleton_append,← h2,List.getElem_cons_drop,List.take_append_drop]
/-- The last child loses its last item. -/
theorem del_last {X : List α} {K : List (List α)} {k m : List α} {y : α} (hl : K.length = X.length + 1) (hk : K[X.length]? = some k) (e : k = m ++ [y]) :
    inter X K = inter X (K.take X.length ++ [m] ++ K.drop (X.length + 1)) ++ [y] := by
  rw [inter_self hl hk,inter_take hl hk,e,List.drop_of_length_le (l := X) (Nat.le_refl _)]
  simp [post]
/-- An item of the node gives way to the last one of the child ahead of it. -/
theorem del_node {X : List α} {K : List (List α)} {k m : List α} {y x : α} {i : Nat} (hl : K.length = X.length + 1) (hk : K[i]? = some k) (hx : X[i]? = some x) (e : k = m ++ [y]) :
    inter (X.take i ++ y :: X.drop (i + 1)) (K.take i ++ [m] ++ K.drop (i + 1)) = inter (X.take i) (K.take (i + 1)) ++ inter (X.drop (i + 1)) (K.drop (i + 1)) := by
  have hi := (List.getElem?_eq_some_iff.1 hk).1
  have hxi := (List.getElem?_eq_some_iff.1 hx).1
  have lT : (X.take i).length = i := by rw [List.length_take]; omega
  have lK : (K.take i).length = i := by rw [List.length_take]; omega
  rw [inter_item _ _ _ _ _ (by simp only [List.length_append,List.length_cons,List.length_nil,lT,lK])]
  have h1 : K.take (i + 1) = K.take i ++ [k] := by rw [List.take_add_one,hk]; rfl
  have h2 : ∀ z : List α,inter (X.take i) (K.take i ++ [z]) = pre (X.take i) (K.take i) ++ z := fun z => by
    have := inter_focus (X.take i) [] (K.take i) z [] (by rw [lT,lK]) rfl
    simpa [post] using this
  rw [h1,h2,h2,e]
  simp
end Pl
end Go.Bt
namespace Go.Bt.Pl
variable {α : Type} (O : Swo α)
/-- A deletion that goes on in a child. -/
theorem dlr_child {x y : α} {X : List α} {K : List (List α)} {k m : List α} {i : Nat} (hs : Srt O (inter X K)) (hl : K.length = X.length + 1) (h : fnd O x X = false) (hi : pos O x X = i) (hk : K[i]? = some k) (hd : dlr O false x k = some (y,m)) :
    dlr O false x (inter X K) = some (y,inter X (K.take i ++ [m] ++ K.drop (i + 1))) := by
  subst hi
  obtain ⟨e,h1,h2,h3⟩ := inter_child O hs hl h hk
  simp only [dlr,Option.map_eq_some_iff,Prod.mk.injEq] at hd ⊢
  obtain ⟨z,hz,rfl,hm⟩ := hd
  refine ⟨z,?_,rfl,?_⟩
  · rw [e,got_mid O h1 h2]; exact hz
  · rw [List.append_assoc,List.singleton_append,h3,e,del_mid O h1 h2,hm]
theorem dlr_none_child {x : α} {X : List α} {K : List (List α)} {k : List α} (hs : Srt O (inter X K)) (hl : K.length = X.length + 1) (h : fnd O x X = false) (hk : K[pos O x X]? = some k) (hd : dlr O false x k = none) : dlr O false x (inter X K) = none := by
  obtain ⟨e,h1,h2,h3⟩ := inter_child O hs hl h hk
  simp only [dlr,Option.map_eq_none_iff] at hd ⊢
  rw [e,got_mid O h1 h2]; exact hd
theorem dlr_len {mx : Bool} {x y : α} {L m : List α} (hd : dlr O mx x L = some (y,m)) : L.length = m.length + 1 := by
  cases mx with
  | true =>
    simp only [dlr,Option.map_eq_some_iff,Prod.mk.injEq] at hd
    obtain ⟨z,hz,_,rfl⟩ := hd
    have : L ≠ [] := fun e => by rw [e] at hz; cases hz
    rw [List.length_dropLast]
    have := List.length_pos_iff.2 this
    omega
  | false =>
    simp only [dlr,Option.map_eq_some_iff,Prod.mk.injEq] at hd
    obtain ⟨z,hz,_,rfl⟩ := hd
    have h1 := length_del O x L
    have h2 := got_isSome O x L
    rw [hz] at h2
    rw [← h2] at h1
    exact h1.symm
theorem dlr_max {x y : α} {L m : List α} (hd : dlr O true x L = some (y,m)) : L = m ++ [y] := by
  simp only [dlr,Option.map_eq_some_iff,Prod.mk.injEq] at hd
  obtain ⟨z,hz,rfl,rfl⟩ := hd
  have hne : L ≠ [] := fun e => by rw [e] at hz; cases hz
  rw [List.getLast?_eq_some_getLast hne] at hz
  have := List.dropLast_concat_getLast hne
  rw [Option.some.inj hz] at this
  exact this.symm
theorem dlr_max' {x y : α} {L m : List α} (e : L = m ++ [y]) : dlr O true x L = some (y,m) := by
  subst e
  simp [dlr]
theorem dlr_max_ne {x : α} {L : List α} (hl : 1 ≤ L.length) (hd : dlr O true x L = none) : False := by
  simp only [dlr,Option.map_eq_none_iff,List.getLast?_eq_none_iff] at hd
  subst hd
  simp at hl
/-- A deletion of a node's own item. -/
theorem dlr_found {x : α} {X : List α} {K : List (List α)} {k m : List α} {y z : α} {i : Nat} (hs : Srt O (inter X K)) (hl : K.length = X.length + 1) (h : fnd O x X = true) (hi : pos O x X = i) (hk : K[i]? = some k) (hx : X[i]? = some z) (e : k = m ++ [y]) :
    dlr O false x (inter X K) = some (z,inter (X.take i ++ y :: X.drop (i + 1)) (K.take i ++ [m] ++ K.drop (i + 1))) := by
  subst hi
  obtain ⟨y',hy',_,_,_,_,q2,_,_,q5⟩ := inter_found O hs hl h
  obtain rfl : y' = z := Option.some.inj (hy'.symm.trans hx)
  simp only [dlr,q2,Option.map_some,q5,del_node hl hk hx e]
end Go.Bt.Pl
/- A change of the heap parted in two: one block first,then the others. Conditions: none. -/
namespace Go.Bt
open Go
theorem Fr.split {Z : Nat → Nat → Prop} {H H' : Mem} {hb : Nat} (hlt : hb < H.size) (hf : Fr (fun b o => Z b o ∨ b = hb) H H') :
    ∃ Hm : Mem,Hm.size = H.size ∧ Fr (fun b _ => b = hb) H Hm ∧ Fr Z Hm H' := by
  have hlt' : hb < H'.size := Nat.lt_of_lt_of_le hlt hf.size
  obtain ⟨Hm,hm⟩ : ∃ Hm : Mem,Hm = H.setIfInBounds hb H'[hb] := ⟨_,rfl⟩
  have hs : Hm.size = H.size := by rw [hm,Array.size_setIfInBounds]
  have e1 : ∀ b,b ≠ hb → Hm[b]? = H[b]? := fun b hn => by rw [hm,Array.getElem?_setIfInBounds,if_neg (fun e => hn e.symm)]
  have e2 : Hm[hb]? = H'[hb]? := by rw [hm,Array.getElem?_setIfInBounds,if_pos rfl,if_pos hlt,Array.getElem?_eq_getElem hlt']
  have c1 : ∀ b o,b ≠ hb → cl Hm b o = cl H b o ∧ fz Hm b o = fz H b o ∧ shp Hm b = shp H b := fun b o hn => by
    unfold cl fz shp; rw [e1 b hn]; exact ⟨rfl,rfl,rfl⟩
  have c2 : ∀ o,cl Hm hb o = cl H' hb o ∧ fz Hm hb o = fz H' hb o ∧ shp Hm hb = shp H' hb := fun o => by
    unfold cl fz shp; rw [e2]; exact ⟨rfl,rfl,rfl⟩
  refine ⟨Hm,hs,⟨Nat.le_of_eq hs.symm,fun b o _ hn => (c1 b o hn).1,fun b o hb' => ?_,fun b hb' => ?_,fun b _ hn => e1 b (hn 0)⟩,⟨by rw [hs]; exact hf.size,fun b o hb' hn => ?_,fun b o hb' => ?_,fun b hb' => ?_,fun b hb' hn => ?_⟩⟩
  · by_cases e : b = hb
    · subst e; exact (c2 o).2.1.trans (hf.frz b o hb')
    · exact (c1 b o e).2.1
  · by_cases e : b = hb
    · subst e; exact (c2 0).2.2.trans (hf.shape b hb')
    · exact (c1 b 0 e).2.2
  · rw [hs] at hb'
    by_cases e : b = hb
    · subst e; exact (c2 o).1.symm
    · exact (hf.cell b o hb' (fun h => h.elim hn e)).trans (c1 b o e).1.symm
  · rw [hs] at hb'
    by_cases e : b = hb
    · subst e; exact (c2 o).2.1.symm
    · exact (hf.frz b o hb').trans (c1 b o e).2.1.symm
  · rw [hs] at hb'
    by_cases e : b = hb
    · subst e; exact (c2 0).2.2.symm
    · exact (hf.shape b hb').trans (c1 b 0 e).2.2.symm
  · rw [hs] at hb'
    by_cases e : b = hb
    · subst e; exact e2.symm
    · exact (hf.blk b hb' (fun o h => h.elim (hn o) e)).trans (e1 b e).symm
end Go.Bt
/- An order carried over to other items. Conditions: none. -/
namespace Go.Bt.Pl
set_option linter.unusedVariables false
variable {α β : Type} {O : Swo α} {O2 : Swo β} {f : α → β} (hf : ∀ x y,O2.lt (f x) (f y) = O.lt x y)
include hf
end Go.Bt.Pl
/- A list that is changed step by step,and what is told of each step. Conditions: none. -/
namespace Go.Bt.Pl
variable {α β γ : Type}
def runs (f : List α → β → List α × γ) (l : List α) (ks : List β) : List α × List γ := ks.foldl (fun s k => ((f s.1 k).1,s.2 ++ [(f s.1 k).2])) (l,[])
theorem runs_nil (f : List α → β → List α × γ) (l : List α) : runs f l [] = (l,[]) := rfl
theorem runs_snoc (f : List α → β → List α × γ) (l : List α) (ks : List β) (k : β) : runs f l (ks ++ [k]) = ((f (runs f l ks).1 k).1,(runs f l ks).2 ++ [(f (runs f l ks).1 k).2]) := by
  simp [runs]
theorem runs_take (f : List α → β → List α × γ) (l : List α) {ks : List β} {j : Nat} {k : β} (h : ks[j]? = some k) : runs f l (ks.take (j + 1)) = ((f (runs f l (ks.take j)).1 k).1,(runs f l (ks.take j)).2 ++ [(f (runs f l (ks.take j)).1 k).2]) := by
  rw [List.take_add_one,h]; exact runs_snoc f l _ k
theorem runs_inv {f : List α → β → List α × γ} {p : List α → Prop} (hf : ∀ l k,p l → p (f l k).1) {l : List α} (hl : p l) (ks : List β) : p (runs f l ks).1 := by
  unfold runs
  have : ∀ (ks : List β) (s : List α × List γ),p s.1 → p (ks.foldl (fun s k => ((f s.1 k).1,s.2 ++ [(f s.1 k).2])) s).1 := by
    intro ks
    induction ks with
    | nil => exact fun s h => h
    | cons k ks ih => exact fun s h => ih _ (hf _ _ h)
  exact this ks _ hl
theorem runs_len (f : List α → β → List α × γ) (l : List α) (ks : List β) : (runs f l ks).2.length = ks.length := by
  unfold runs
  have : ∀ (ks : List β) (s : List α × List γ),(ks.foldl (fun s k => ((f s.1 k).1,s.2 ++ [(f s.1 k).2])) s).2.length = s.2.length + ks.length := by
    intro ks
    induction ks with
    | nil => exact fun s => rfl
    | cons k ks ih => intro s; rw [List.foldl_cons,ih]; simp; omega
  simpa using this ks (l,[])
theorem runs_le {f : List α → β → List α × γ} (hf : ∀ l k,(f l k).1.length ≤ l.length) (l : List α) (ks : List β) : (runs f l ks).1.length ≤ l.length :=
  runs_inv (p := fun m => m.length ≤ l.length) (fun m k h => Nat.le_trans (hf m k) h) (Nat.le_refl _) ks
/-- Deleting,and what was deleted. -/
def delk (O : Swo α) (l : List α) (x : α) : List α × Option α := (del O x l,got O x l)
theorem delk_le (O : Swo α) (l : List α) (x : α) : (delk O l x).1.length ≤ l.length := by
  have := length_del O x l
  show (del O x l).length ≤ l.length
  omega
theorem runs_delk_srt (O : Swo α) {l : List α} (h : Srt O l) (ks : List α) : Srt O (runs (delk O) l ks).1 := runs_inv (p := Srt O) (fun _ _ h => h.del O) h ks
/-- Taking the last one (true) or the first one. -/
def popk (l : List α) (b : Bool) : List α × Option α := match b with
  | true => (l.dropLast,l.getLast?)
  | false => (l.tail,l.head?)
end Go.Bt.Pl
namespace Go.Bt.Pl
end Go.Bt.Pl
/- The way down one side of a tree: counts that change on it,a leaf that changes at its end. Conditions: none. -/
namespace Go.Bt
open Go
set_option linter.unusedVariables false
variable {α : Type} {E : Elt α}
/-- The outermost child's place: the last one's,or the first one's. -/
def cix (d : Bool) (n : Nat) : Nat := bif d then n - 1 else 0
/-- The nodes on the way. -/
def Gt.sp (d : Bool) : (h : Nat) → Gt E h → Nat → Prop
  | 0,t,q => q = t.1.p
  | h + 1,t,q => q = t.1.p ∨ ∃ k,t.2.2[cix d t.2.2.length]? = some k ∧ Gt.sp d h k q
/-- The leaf at its end. -/
def Gt.lf (d : Bool) : (h : Nat) → Gt E h → Ng × List α
  | 0,t => t
  | h + 1,t => match t.2.2[cix d t.2.2.length]? with
    | some k => Gt.lf d h k
    | none => (t.1,[])
theorem Gt.sp_p (d : Bool) : ∀ {h : Nat} {t : Gt E h},Gt.sp d h t (Gt.p h t)
  | 0,_ => rfl
  | _ + 1,_ => .inl rfl
theorem Gt.sp_af {d : Bool} : ∀ {h : Nat} {t : Gt E h} {q : Nat},Gt.sp d h t q → ∀ o,o < 4 → Gt.af h t q o
  | 0,t,q,hq,o,ho => .inl ⟨hq,ho⟩
  | h + 1,t,q,hq,o,ho => by
    rcases hq with rfl | ⟨k,hk,hq⟩
    · exact .inl (.inl ⟨rfl,ho⟩)
    · exact .inr (.inr ⟨k,List.mem_of_getElem? hk,Gt.sp_af hq o ho⟩)
theorem Gt.Good.spcn {d : Bool} {H : Mem} {P : Ps} : ∀ {h : Nat} {t : Gt E h},Gt.Good H P h t → ∀ {q : Nat},Gt.sp d h t q → cl H q 1 = some (.int .i64 (Bt.cnOf H q : Int))
  | 0,t,hg,q,hq => by subst hq; exact (hg.cnOf).1
  | h + 1,t,hg,q,hq => by
    rcases hq with rfl | ⟨k,hk,hq⟩
    · exact (hg.cnOf).1
    · exact Gt.Good.spcn (hg.2.2.2.2.2.2.1 k (List.mem_of_getElem? hk)).1 hq
/-- Cells that read as they did. -/
theorem NodeM.eqv {H H' : Mem} {g : Ng} {X : List α} {kp : Value} {Z : Rg} (hn : NodeM E H g X kp) (hf : Fr Z H H') (he : ∀ b o,ncl E g b o → cl H' b o = cl H b o) : NodeM E H' g X kp where
  c0 := (he _ _ (.inl ⟨rfl,by omega⟩)).trans hn.c0
  c1 := (he _ _ (.inl ⟨rfl,by omega⟩)).trans hn.c1
  c2 := (he _ _ (.inl ⟨rfl,by omega⟩)).trans hn.c2
  c3 := (he _ _ (.inl ⟨rfl,by omega⟩)).trans hn.c3
  wr := hf.wr hn.wr
  sl := ⟨hn.sl.hlen,hn.sl.hle,fun i v hv => by
    have hi := (List.getElem?_eq_some_iff.1 hv).1
    rw [hn.sl.hlen] at hi
    have h3 := Nat.mul_le_mul_right E.s hn.sl.hle
    exact (he _ _ (.inr ⟨rfl,by omega,by omega⟩)).trans (hn.sl.rd i v hv),hf.wr hn.sl.wr⟩
  ic := hn.ic
  ne := hn.ne
theorem KidM.eqv {H H' : Mem} {g : Ng} {ks : List Nat} {Z : Rg} (hk : KidM H g ks) (hf : Fr Z H H') (he : ∀ b o,kcl g b o → cl H' b o = cl H b o) : KidM H' g ks where
  c := (he _ _ (.inl ⟨rfl,by omega⟩)).trans hk.c
  wr := hf.wr hk.wr
  sl := ⟨hk.sl.hlen,hk.sl.hle,fun i v hv => by
    have hi := (List.getElem?_eq_some_iff.1 hv).1
    rw [hk.sl.hlen] at hi
    have h3 := hk.sl.hle
    rw [show EP.s = 1 from rfl] at hi
    exact (he _ _ (.inr ⟨rfl,by omega,by omega⟩)).trans (hk.sl.rd i v hv),hf.wr hk.sl.wr⟩
  kc := hk.kc
  n1 := hk.n1
  n2 := hk.n2
  n3 := hk.n3
  n4 := hk.n4
  n5 := hk.n5
theorem Gt.Good.eqv {P : Ps} {Z : Rg} {H H' : Mem} (hf : Fr Z H H') : ∀ {h : Nat} {t : Gt E h},Gt.Good H P h t → (∀ b o,Gt.af h t b o → cl H' b o = cl H b o) → Gt.Good H' P h t
  | 0,_,⟨h1,h2⟩,he => ⟨h1.eqv hf he,h2⟩
  | h + 1,_,⟨h1,h2,h3,h4,h5,h6,h7,h8⟩,he =>
    ⟨h1.eqv hf fun b o hb => he b o (.inl hb),h2.eqv hf fun b o hb => he b o (.inr (.inl hb)),h3,h4,h5,h6,
      fun k hk => ⟨Gt.Good.eqv hf (h7 k hk).1 fun b o hb => he b o (.inr (.inr ⟨k,hk,hb⟩)),(h7 k hk).2⟩,h8⟩
/-- Where the walk down the side is. -/
structure Spn (H0 H : Mem) (P : Ps) (d : Bool) (δ : Nat → Nat) (h0 : Nat) (t0 : Gt E h0) (D : Nat → Prop) (h : Nat) (t : Gt E h) : Prop where
  g : Gt.Good H0 P h t
  fr : Fr (fun b o => o = 1 ∧ D b) H0 H
  val : ∀ q,D q → cl H q 1 = some (.int .i64 (δ (Bt.cnOf H0 q) : Int))
  off : ∀ q,D q → ¬ Gt.af h t q 1
  all : ∀ q,Gt.sp d h0 t0 q ↔ D q ∨ Gt.sp d h t q
  lf : Gt.lf d h t = Gt.lf d h0 t0
  sub : ∀ b o,Gt.af h t b o → Gt.af h0 t0 b o
  x1 : 1 ≤ (Gt.X h t).length
  le : (Gt.L h t).length ≤ (Gt.L h0 t0).length
  mn : h < h0 → P.mn ≤ (Gt.X h t).length
theorem kid_le {h : Nat} {t : Gt E (h + 1)} (hl : t.2.2.length = t.2.1.length + 1) {k : Gt E h} (hk : k ∈ t.2.2) : (Gt.L h k).length ≤ (Gt.L (h + 1) t).length := by
  have h1 : (Gt.L (h + 1) t).length = _ := Pl.inter_length t.2.1 (t.2.2.map (Gt.L h)) (by rw [List.length_map]; exact hl)
  have h2 : (Gt.L h k).length ≤ ((t.2.2.map (Gt.L h)).map List.length).sum := sum_mem List.length (List.mem_map.2 ⟨k,hk,rfl⟩)
  omega
section
variable {H0 H H' : Mem} {P : Ps} {d : Bool} {δ : Nat → Nat} {h0 h : Nat} {t0 : Gt E h0} {D : Nat → Prop}
theorem Spn.cnt {t : Gt E h} (s : Spn H0 H P d δ h0 t0 D h t) : cl H (Gt.p h t) 1 = some (.int .i64 (Bt.cnOf H0 (Gt.p h t) : Int)) :=
  s.fr.keep (s.g.cnOf).1 fun hz => s.off _ hz.2 (Gt.af_p (by omega))
/-- One step down. -/
theorem Spn.step {t : Gt E (h + 1)} {k : Gt E h} (h1 : 1 ≤ P.mn) (s : Spn H0 H P d δ h0 t0 D (h + 1) t) (hk : t.2.2[cix d t.2.2.length]? = some k) (W : Wrote H H' t.1.p 1 [.int .i64 (δ (Bt.cnOf H0 t.1.p) : Int)]) :
    Spn H0 H' P d δ h0 t0 (fun q => D q ∨ q = t.1.p) h k := by
  obtain ⟨q1,q2,q3⟩ := s.g.2.2.2.2.2.2.1 k (List.mem_of_getElem? hk)
  have hD : ∀ q,D q → q ≠ t.1.p := fun q hq e => s.off q hq (by rw [e]; exact Gt.af_p (t := t) (by omega))
  refine ⟨q1,s.fr.trans' W.fr (fun b o _ hz => ⟨hz.1,.inl hz.2⟩) (fun b o _ hz => ?_),fun q hq => ?_,fun q hq hb => ?_,fun q => ?_,?_,fun b o hb => s.sub b o (.inr (.inr ⟨k,List.mem_of_getElem? hk,hb⟩)),Nat.le_trans h1 q2,Nat.le_trans (kid_le s.g.2.2.2.2.2.1 (List.mem_of_getElem? hk)) s.le,fun _ => q2⟩
  · have h1 := hz.1; have h2 := hz.2.1; have h3 := hz.2.2
    simp only [List.length_cons,List.length_nil] at h3
    exact ⟨by omega,.inr h1⟩
  · rcases hq with hq | rfl
    · exact W.fr.keep (s.val q hq) (nr (.inl (hD q hq)))
    · exact W.at
  · rcases hq with hq | rfl
    · exact s.off q hq (.inr (.inr ⟨k,List.mem_of_getElem? hk,hb⟩))
    · exact (q3 _ _ hb).1 (.inl ⟨rfl,by omega⟩)
  · rw [s.all q]
    constructor
    · rintro (hq | hq)
      · exact .inl (.inl hq)
      · rcases hq with rfl | ⟨k',hk',hq⟩
        · exact .inl (.inr rfl)
        · rw [hk] at hk'; cases hk'; exact .inr hq
    · rintro ((hq | rfl) | hq)
      · exact .inl hq
      · exact .inr (.inl rfl)
      · exact .inr (.inr ⟨k,hk,hq⟩)
  · rw [← s.lf]
    show _ = (match t.2.2[cix d t.2.2.length]? with
      | some k => Gt.lf d h k
      | none => (t.1,[]))
    rw [hk]
end
end Go.Bt
namespace Go.Bt
open Go
set_option linter.unusedVariables false
variable {α : Type} {E : Elt α}
/-- A node's own cells,but for its count,are none of a spine's counts. -/
theorem Gt.Good.own {H : Mem} {P : Ps} {d : Bool} {h : Nat} {t : Gt E (h + 1)} (hg : Gt.Good H P (h + 1) t) {b o : Nat} (hb : ncl E t.1 b o ∨ kcl t.1 b o) (hne : ¬ (b = t.1.p ∧ o = 1)) : ¬ (o = 1 ∧ Gt.sp d (h + 1) t b) := by
  rintro ⟨ho,hs⟩
  rcases hs with rfl | ⟨k,hk,hs⟩
  · exact hne ⟨rfl,ho⟩
  · have h1 := (hg.2.2.2.2.2.2.1 k (List.mem_of_getElem? hk)).2.2 b o (Gt.sp_af hs o (by omega))
    exact hb.elim h1.1 h1.2
/-- The walk back: the counts are set right again. -/
structure Sp2 (H0 H : Mem) (P : Ps) (d : Bool) (δ : Nat → Nat) (h0 : Nat) (t0 : Gt E h0) (bx : Nat) (D : Nat → Prop) (h : Nat) (t : Gt E h) : Prop where
  g : Gt.Good H0 P h t
  fr : Fr (fun b o => (o = 1 ∧ Gt.sp d h0 t0 b) ∨ b = bx) H0 H
  nb : ∀ o,¬ Gt.af h0 t0 bx o
  val : ∀ q,D q → cl H q 1 = some (.int .i64 (Bt.cnOf H0 q : Int))
  val2 : ∀ q,Gt.sp d h t q → cl H q 1 = some (.int .i64 (δ (Bt.cnOf H0 q) : Int))
  off : ∀ q,D q → ¬ Gt.af h t q 1
  all : ∀ q,Gt.sp d h0 t0 q ↔ D q ∨ Gt.sp d h t q
  sub : ∀ b o,Gt.af h t b o → Gt.af h0 t0 b o
  le : (Gt.L h t).length ≤ (Gt.L h0 t0).length
  x1 : 1 ≤ (Gt.X h t).length
section
variable {H0 H H' : Mem} {P : Ps} {d : Bool} {δ : Nat → Nat} {h0 h bx : Nat} {t0 : Gt E h0} {D : Nat → Prop}
theorem Sp2.keep {t : Gt E (h + 1)} (s : Sp2 H0 H P d δ h0 t0 bx D (h + 1) t) {b o : Nat} {v : Value} (hb : ncl E t.1 b o ∨ kcl t.1 b o) (hne : ¬ (b = t.1.p ∧ o = 1)) (hv : cl H0 b o = some v) : cl H b o = some v := by
  have haf : Gt.af (h + 1) t b o := hb.elim .inl (fun h => .inr (.inl h))
  refine s.fr.keep hv fun hz => ?_
  rcases hz with ⟨ho,hs⟩ | rfl
  · rcases (s.all b).1 hs with hD | hs
    · exact s.off b hD (ho ▸ haf)
    · exact s.g.own hb hne ⟨ho,hs⟩
  · exact s.nb o (s.sub _ _ haf)
theorem Sp2.inner {t : Gt E (h + 1)} (s : Sp2 H0 H P d δ h0 t0 bx D (h + 1) t) {k : Gt E h} (hk : t.2.2[cix d t.2.2.length]? = some k) :
    cl H t.1.p 3 = some (.pointer (some ⟨t.1.cb,0,none⟩)) ∧ cl H t.1.cb 0 = some (.slice (some ⟨t.1.kb,t.1.ko,none⟩) t.2.2.length t.1.kc) ∧ cl H t.1.kb (t.1.ko + cix d t.2.2.length * 1) = some (ptr (Gt.p h k)) := by
  have hK := s.g.2.1
  have hi := (List.getElem?_eq_some_iff.1 hk).1
  have hc := hK.c
  rw [Gt.ps,List.length_map] at hc
  have hle := hK.sl.hle
  rw [List.length_map,Gt.ps,List.length_map] at hle
  refine ⟨s.keep (.inl (.inl ⟨rfl,by omega⟩)) (by omega) s.g.1.c3,s.keep (.inr (.inl ⟨rfl,by omega⟩)) (by omega) hc,s.keep (.inr (.inr ⟨rfl,by omega,by omega⟩)) (fun e => hK.n3 e.1.symm) ?_⟩
  exact hK.o.at (by rw [Gt.ps,List.map_map,List.getElem?_map,hk]; rfl)
theorem Sp2.wfr {t : Gt E h} (s : Sp2 H0 H P d δ h0 t0 bx D h t) (W : Wrote H H' (Gt.p h t) 1 [.int .i64 (Bt.cnOf H0 (Gt.p h t) : Int)]) : Fr (fun b o => (o = 1 ∧ Gt.sp d h0 t0 b) ∨ b = bx) H0 H' :=
  s.fr.trans' W.fr (fun _ _ _ h => h) fun b o _ hz => by
    have h1 := hz.1; have h2 := hz.2.1; have h3 := hz.2.2
    simp only [List.length_cons,List.length_nil] at h3
    exact .inl ⟨by omega,h1 ▸ (s.all _).2 (.inr (Gt.sp_p d))⟩
theorem Sp2.step {t : Gt E (h + 1)} {k : Gt E h} (h1 : 1 ≤ P.mn) (s : Sp2 H0 H P d δ h0 t0 bx D (h + 1) t) (hk : t.2.2[cix d t.2.2.length]? = some k) (W : Wrote H H' t.1.p 1 [.int .i64 (Bt.cnOf H0 t.1.p : Int)]) :
    Sp2 H0 H' P d δ h0 t0 bx (fun q => D q ∨ q = t.1.p) h k := by
  obtain ⟨q1,q2,q3⟩ := s.g.2.2.2.2.2.2.1 k (List.mem_of_getElem? hk)
  have hD : ∀ q,D q → q ≠ t.1.p := fun q hq e => s.off q hq (by rw [e]; exact Gt.af_p (t := t) (by omega))
  have hpk : ∀ q,Gt.sp d h k q → q ≠ t.1.p := fun q hq e => (q3 _ _ (Gt.sp_af hq 1 (by omega))).1 (.inl ⟨e,by omega⟩)
  refine ⟨q1,s.wfr (t := t) W,s.nb,fun q hq => ?_,fun q hq => W.fr.keep (s.val2 q (.inr ⟨k,hk,hq⟩)) (nr (.inl (hpk q hq))),fun q hq hb => ?_,fun q => ?_,fun b o hb => s.sub b o (.inr (.inr ⟨k,List.mem_of_getElem? hk,hb⟩)),Nat.le_trans (kid_le s.g.2.2.2.2.2.1 (List.mem_of_getElem? hk)) s.le,Nat.le_trans h1 q2⟩
  · rcases hq with hq | rfl
    · exact W.fr.keep (s.val q hq) (nr (.inl (hD q hq)))
    · exact W.at
  · rcases hq with hq | rfl
    · exact s.off q hq (.inr (.inr ⟨k,List.mem_of_getElem? hk,hb⟩))
    · exact (q3 _ _ hb).1 (.inl ⟨rfl,by omega⟩)
  · rw [s.all q]
    constructor
    · rintro (hq | hq)
      · exact .inl (.inl hq)
      · rcases hq with rfl | ⟨k',hk',hq⟩
        · exact .inl (.inr rfl)
        · rw [hk] at hk'; cases hk'; exact .inr hq
    · rintro ((hq | rfl) | hq)
      · exact .inl hq
      · exact .inr (.inl rfl)
      · exact .inr (.inr ⟨k,hk,hq⟩)
/-- At the leaf: all is as it was. -/
theorem Sp2.fin {t : Gt E 0} (s : Sp2 H0 H P d δ h0 t0 bx D 0 t) (hg0 : Gt.Good H0 P h0 t0) (W : Wrote H H' t.1.p 1 [.int .i64 (Bt.cnOf H0 t.1.p : Int)]) : Gt.Good H' P h0 t0 := by
  have hf := s.wfr (t := t) W
  have hD : ∀ q,D q → q ≠ t.1.p := fun q hq e => s.off q hq (by rw [e]; exact Gt.af_p (t := t) (by omega))
  refine hg0.eqv hf fun b o hb => ?_
  by_cases hs : o = 1 ∧ Gt.sp d h0 t0 b
  · obtain ⟨rfl,hs⟩ := hs
    rw [hg0.spcn hs]
    rcases (s.all b).1 hs with hq | hq
    · exact W.fr.keep (s.val b hq) (nr (.inl (hD b hq)))
    · have e : b = t.1.p := hq
      subst e
      exact W.at
  · exact hf.cell b o (hg0.lt hb) fun hz => hz.elim hs fun e => s.nb o (e ▸ hb)
end
namespace Pl
variable {α : Type} (O : Swo α)
end Pl
end Go.Bt
namespace Go.Bt
open Go
variable {α : Type} {E : Elt α}
section
variable {H0 H : Mem} {P : Ps} {d : Bool} {δ : Nat → Nat} {h0 h bx : Nat} {t0 : Gt E h0} {D : Nat → Prop} {l X : List α} {g : Ng}
theorem Sp2.pos {t : Gt E h} (s : Sp2 H0 H P d δ h0 t0 bx D h t) : 1 ≤ (Gt.L h t).length := s.g.ne s.x1
end
end Go.Bt
/- Values of size 0: they are kept in cells that there are none of. Conditions: none. -/
namespace Go.Bt
open Go
set_option linter.unusedVariables false
theorem Go'.mono {P : Program} {B : World} {f : FuncId} {Q Q' : Value → Mem → Prop} {n : Nat} {r : Env} {k : List Item} {H : Mem} (hq : ∀ v H',Q v H' → Q' v H') (h : Go' P B f Q n r k H) : Go' P B f Q' n r k H :=
  fun d a ha b cs hb hk =>
    let ⟨v,w'',fr,h1,h2,h3,h4⟩ := h d a ha b cs hb hk
    ⟨v,w'',fr,by obtain ⟨H',d',e,q⟩ := h1; exact ⟨H',d',e,hq _ _ q⟩,h2,h3,h4⟩
theorem Wr.nil (H : Mem) (b o : Nat) : Wr H b o 0 := fun i hi => absurd hi (Nat.not_lt_zero i)
section
variable {P : Program} {B : World} {f : FuncId} {Q : Value → Mem → Prop} {n : Nat} {r : Env} {k : List Item} {H : Mem} {l : List Oper} {C : Mem → Prop} {p : List (Nat × Nat)}
variable {i kd d : Nat} {ty : TypeId} {pos : String} {af : Array Edge} {gd : Option (Nat × Bool)}
end
end Go.Bt
/- Numbers put into order: neither their order nor how often they come matters. Conditions: none. -/
namespace Go.Bt.Pl
set_option linter.unusedVariables false
theorem srt_ext {α : Type} {O : Swo α} : ∀ {l1 l2 : List α},Srt O l1 → Srt O l2 → (∀ y,y ∈ l1 ↔ y ∈ l2) → l1 = l2
  | [],[],_,_,_ => rfl
  | [],z :: l2,_,_,h => by have := (h z).2 List.mem_cons_self; cases this
  | x :: l1,[],_,_,h => by have := (h x).1 List.mem_cons_self; cases this
  | x :: l1,z :: l2,h1,h2,h => by
    have g1 := (Srt.cons O).1 h1
    have g2 := (Srt.cons O).1 h2
    have e : x = z := by
      rcases List.mem_cons.1 ((h x).1 List.mem_cons_self) with e | hx
      · exact e
      · rcases List.mem_cons.1 ((h z).2 List.mem_cons_self) with e | hz
        · exact e.symm
        · have a := g2.1 x hx
          have b := g1.1 z hz
          rw [O.asy a] at b; cases b
    subst e
    rw [srt_ext g1.2 g2.2 fun y => ?_]
    constructor
    · intro hy
      rcases List.mem_cons.1 ((h y).1 (List.mem_cons_of_mem _ hy)) with e | hy2
      · subst e; have := g1.1 _ hy; rw [O.irr] at this; cases this
      · exact hy2
    · intro hy
      rcases List.mem_cons.1 ((h y).2 (List.mem_cons_of_mem _ hy)) with e | hy2
      · subst e; have := g2.1 _ hy; rw [O.irr] at this; cases this
      · exact hy2
end Go.Bt.Pl
