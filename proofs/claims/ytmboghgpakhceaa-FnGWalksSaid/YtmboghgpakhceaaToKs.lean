/- Numbers put into order: neither their order nor how often they come matters. Conditions: none. -/
import Derived.ChangeArms
import Derived.Deep.Slices
import Derived.Deep.Strs
import Derived.ChangeSame
import Derived.Test.YtmboghgpakhceaaToHi
namespace Go.Bt.Pl
set_option linter.unusedVariables false
end Go.Bt.Pl
/- Where an iterator stands in a tree: the way from the root,the rank of the item. Conditions: none. -/
namespace Go.Bt
open Go
set_option linter.unusedVariables false
namespace Pl
/-- How many items stand before the list i of those that lie between the items. -/
def bl {α : Type} (K : List (List α)) (i : Nat) : Nat := ((K.take i).map fun k => k.length + 1).sum
theorem bl_0 {α : Type} (K : List (List α)) : bl K 0 = 0 := by simp [bl]
theorem bl_succ {α : Type} {K : List (List α)} {i : Nat} {k : List α} (h : K[i]? = some k) : bl K (i + 1) = bl K i + k.length + 1 := by
  unfold bl
  rw [List.take_add_one,h]
  simp
  omega
theorem inter_bl {α : Type} : ∀ (X : List α) (K : List (List α)),K.length = X.length + 1 → ∀ {i : Nat} {k : List α},K[i]? = some k →
    (∀ j,j < k.length → (inter X K)[bl K i + j]? = k[j]?) ∧ bl K i + k.length ≤ (inter X K).length ∧ (i = X.length → bl K i + k.length = (inter X K).length) ∧ ∀ y,X[i]? = some y → (inter X K)[bl K i + k.length]? = some y
  | [],[k0],_,i,k,hk => by
    have hi : i = 0 := by
      rcases i with _ | i
      · rfl
      · simp at hk
    subst hi
    simp only [List.getElem?_cons_zero,Option.some.injEq] at hk
    subst hk
    simp [bl,inter]
  | x :: X,k0 :: K,h,i,k,hk => by
    have hlen : (inter (x :: X) (k0 :: K)).length = k0.length + 1 + (inter X K).length := by simp [inter]; omega
    rcases i with _ | i
    · simp only [List.getElem?_cons_zero,Option.some.injEq] at hk
      subst hk
      rw [bl_0,hlen]
      refine ⟨fun j hj => ?_,by omega,fun hh => by simp at hh,fun y hy => ?_⟩
      · rw [Nat.zero_add]; simp only [inter]; rw [List.getElem?_append_left hj]
      · simp only [List.getElem?_cons_zero,Option.some.injEq] at hy
        subst hy
        rw [Nat.zero_add]; simp only [inter]; rw [List.getElem?_append_right (Nat.le_refl _),Nat.sub_self]; rfl
    · simp only [List.getElem?_cons_succ] at hk
      obtain ⟨h1,h2,h3,h4⟩ := inter_bl X K (by simpa using h) hk
      have hb : bl (k0 :: K) (i + 1) = k0.length + 1 + bl K i := by simp [bl]
      have hget : ∀ m,(inter (x :: X) (k0 :: K))[k0.length + 1 + m]? = (inter X K)[m]? := fun m => by
        simp only [inter]
        rw [List.getElem?_append_right (by omega),show k0.length + 1 + m - k0.length = m + 1 by omega,List.getElem?_cons_succ]
      rw [hb,hlen]
      refine ⟨fun j hj => ?_,by omega,fun hh => ?_,fun y hy => ?_⟩
      · rw [Nat.add_assoc,hget]; exact h1 j hj
      · have := h3 (by simpa using hh); omega
      · rw [Nat.add_assoc,hget]; exact h4 y (by simpa using hy)
  | [],[],h,_,_,_ => by simp at h
  | [],_ :: _ :: _,h,_,_,_ => by simp at h
  | _ :: _,[],h,_,_,_ => by simp at h
end Pl
section
variable {α : Type} {E : Elt α}
/-- The nodes and places on the way from the root t0 to the subtree s,the nearest first; a items of the tree stand before s. -/
def Ctx {h0 : Nat} (t0 : Gt E h0) : List (Nat × Int) → (h : Nat) → Gt E h → Nat → Prop
  | [],h,s,a => (⟨h0,t0⟩ : (h : Nat) × Gt E h) = ⟨h,s⟩ ∧ a = 0
  | x :: fs,h,s,a => ∃ (g : Ng) (X : List α) (K : List (Gt E h)) (i a' : Nat),x = (g.p,(i : Int)) ∧ K[i]? = some s ∧ Ctx t0 fs (h + 1) (g,X,K) a' ∧ a = a' + Pl.bl (K.map (Gt.L h)) i
theorem Ctx.root {h0 : Nat} (t0 : Gt E h0) : Ctx t0 [] h0 t0 0 := ⟨rfl,rfl⟩
theorem Ctx.good {H : Mem} {P : Ps} {h0 : Nat} {t0 : Gt E h0} (hP : 1 ≤ P.mn) (hg : Gt.Good H P h0 t0) (hx : 1 ≤ (Gt.X h0 t0).length) : ∀ {fs : List (Nat × Int)} {h : Nat} {s : Gt E h} {a : Nat},Ctx t0 fs h s a → Gt.Good H P h s ∧ 1 ≤ (Gt.X h s).length ∧ fs.length + h = h0 ∧ ∀ b o,Gt.af h s b o → Gt.af h0 t0 b o
  | [],h,s,a,hc => by
    obtain ⟨e,_⟩ := hc
    cases e
    exact ⟨hg,hx,by simp,fun _ _ h => h⟩
  | x :: fs,h,s,a,hc => by
    obtain ⟨g,X,K,i,a',_,hi,hc',_⟩ := hc
    obtain ⟨h1,_,h3,h4⟩ := Ctx.good hP hg hx hc'
    have hk : s ∈ K := List.mem_of_getElem? hi
    have h5 := h1.kids.1 s hk
    exact ⟨h5.1,Nat.le_trans hP h5.2.1,by rw [List.length_cons]; omega,fun b o hb => h4 b o (.inr (.inr ⟨s,hk,hb⟩))⟩
/-- What the list of the tree has where the subtree stands. -/
theorem Ctx.list {H : Mem} {P : Ps} {h0 : Nat} {t0 : Gt E h0} (hP : 1 ≤ P.mn) (hg : Gt.Good H P h0 t0) (hx : 1 ≤ (Gt.X h0 t0).length) : ∀ {fs : List (Nat × Int)} {h : Nat} {s : Gt E h} {a : Nat},Ctx t0 fs h s a → (∀ j,j < (Gt.L h s).length → (Gt.L h0 t0)[a + j]? = (Gt.L h s)[j]?) ∧ a + (Gt.L h s).length ≤ (Gt.L h0 t0).length
  | [],h,s,a,hc => by
    obtain ⟨e,rfl⟩ := hc
    cases e
    exact ⟨fun j _ => by rw [Nat.zero_add],by omega⟩
  | x :: fs,h,s,a,hc => by
    obtain ⟨g,X,K,i,a',_,hi,hc',rfl⟩ := hc
    obtain ⟨h1,h2⟩ := Ctx.list hP hg hx hc'
    have hgd := (Ctx.good hP hg hx hc').1
    have hKl : (K.map (Gt.L h)).length = X.length + 1 := by rw [List.length_map]; exact hgd.2.2.2.2.2.1
    have hi' : (K.map (Gt.L h))[i]? = some (Gt.L h s) := by rw [List.getElem?_map,hi]; rfl
    obtain ⟨b1,b2,_,_⟩ := Pl.inter_bl X (K.map (Gt.L h)) hKl hi'
    have e : Gt.L (h + 1) ((g,X,K) : Gt E (h + 1)) = Pl.inter X (K.map (Gt.L h)) := rfl
    rw [e] at h1 h2
    refine ⟨fun j hj => ?_,by omega⟩
    rw [Nat.add_assoc,h1 _ (by omega)]
    exact b1 j hj
/-- The iterator stands at the item of rank q. -/
def Stand {h0 : Nat} (t0 : Gt E h0) (fr : List (Nat × Int)) (q : Nat) : Prop :=
  (∃ (fs : List (Nat × Int)) (g : Ng) (X : List α) (a i : Nat),fr = (g.p,(i : Int)) :: fs ∧ Ctx t0 fs 0 ((g,X) : Gt E 0) a ∧ i < X.length ∧ q = a + i) ∨
  ∃ (fs : List (Nat × Int)) (h : Nat) (g : Ng) (X : List α) (K : List (Gt E h)) (a i : Nat),fr = (g.p,(i : Int)) :: fs ∧ Ctx t0 fs (h + 1) ((g,X,K) : Gt E (h + 1)) a ∧ i < X.length ∧ q + 1 = a + Pl.bl (K.map (Gt.L h)) (i + 1)
/-- The item at which it stands: in which node it is. -/
theorem Stand.item {H : Mem} {P : Ps} {h0 : Nat} {t0 : Gt E h0} {fr : List (Nat × Int)} {q : Nat} (hP : 1 ≤ P.mn) (hg : Gt.Good H P h0 t0) (hx : 1 ≤ (Gt.X h0 t0).length) (h : Stand t0 fr q) :
    ∃ (fs : List (Nat × Int)) (g : Ng) (X : List α) (kp : Value) (i : Nat) (y : α),fr = (g.p,(i : Int)) :: fs ∧ NodeM E H g X kp ∧ i < X.length ∧ X[i]? = some y ∧ (Gt.L h0 t0)[q]? = some y ∧ fs.length ≤ h0 := by
  rcases h with ⟨fs,g,X,a,i,e,hc,hi,hq⟩ | ⟨fs,h,g,X,K,a,i,e,hc,hi,hq⟩
  · have hgd := (Ctx.good hP hg hx hc).1
    have hl := (Ctx.list hP hg hx hc).1 i hi
    have hy : X[i]? = some X[i] := List.getElem?_eq_getElem hi
    exact ⟨fs,g,X,_,i,X[i],e,hgd.1,hi,hy,by rw [hq,hl]; exact hy,by have := (Ctx.good hP hg hx hc).2.2.1; omega⟩
  · have hgd := (Ctx.good hP hg hx hc).1
    have hKl : K.length = X.length + 1 := hgd.2.2.2.2.2.1
    obtain ⟨k,hk⟩ : ∃ k,K[i]? = some k := ⟨K[i],List.getElem?_eq_getElem (by omega)⟩
    have hk' : (K.map (Gt.L h))[i]? = some (Gt.L h k) := by rw [List.getElem?_map,hk]; rfl
    have hy : X[i]? = some X[i] := List.getElem?_eq_getElem hi
    obtain ⟨_,_,_,b4⟩ := Pl.inter_bl X (K.map (Gt.L h)) (by rw [List.length_map]; exact hKl) hk'
    have hb := b4 _ hy
    have hl := (Ctx.list hP hg hx hc).1 (Pl.bl (K.map (Gt.L h)) i + (Gt.L h k).length) (List.getElem?_eq_some_iff.1 hb).1
    rw [Pl.bl_succ hk'] at hq
    exact ⟨fs,g,X,_,i,X[i],e,hgd.1,hi,hy,by rw [show q = a + (Pl.bl (K.map (Gt.L h)) i + (Gt.L h k).length) by omega,hl]; exact hb,by have := (Ctx.good hP hg hx hc).2.2.1; omega⟩
/-- The stack,as it lies in memory. -/
def EK : Elt (Nat × Int) := { enc := fun x => [.pointer (some ⟨x.1,0,none⟩),.int .i64 x.2],s := 2,len := fun _ => rfl,one := fun _ => rfl,pos := by decide }
theorem Acc.form {β : Type} {F : Elt β} {Z : Nat → Prop} {H : Mem} {v : Value} {l : List β} (h : Acc F Z H v l) : ∃ a m c,v = .slice a m c := by
  rcases h with ⟨e,_⟩ | ⟨b,o,c,e,_⟩
  · exact ⟨_,_,_,e⟩
  · exact ⟨_,_,_,e⟩
theorem Acc.take {β : Type} {F : Elt β} {Z : Nat → Prop} {H : Mem} {b o c i : Nat} {l : List β} (h : SlE F H b o c l) (hz : Z b) (hb : b < H.size) (hi : i ≤ l.length) : Acc F Z H (.slice (some ⟨b,o,none⟩) i c) (l.take i) :=
  .inr ⟨b,o,c,by rw [List.length_take,Nat.min_eq_left hi],hz,hb,h.take i⟩
end
end Go.Bt
namespace Go.Bt
open Go
set_option linter.unusedVariables false
section
variable {α : Type} {E : Elt α} {H0 H H' : Mem} {it tr : Nat} {mt sk as ae : Bool} {Z0 Z : Nat → Prop} {fr fs : List (Nat × Int)} {kv : α} {p : Nat} {z : Int}
/-- An iterator in memory: since H0 no cell was changed but its own and those of Z0. -/
structure Itr (E : Elt α) (H0 H : Mem) (it tr : Nat) (mt : Bool) (Z0 : Nat → Prop) (sk as ae : Bool) (Z : Nat → Prop) (fr : List (Nat × Int)) (kv : α) : Prop where
  c0 : cl H it 0 = some (.pointer (some ⟨tr,0,none⟩))
  c1 : cl H it 1 = some (.bool mt)
  c2 : cl H it 2 = some (.bool sk)
  c3 : cl H it 3 = some (.bool as)
  c4 : cl H it 4 = some (.bool ae)
  st : ∃ sv,cl H it 5 = some sv ∧ Acc EK Z H sv fr.reverse
  kv : Rd H it 6 (E.enc kv)
  wr : Wr H it 0 (6 + E.s)
  nz : ¬ Z it
  f : Fr (fun b _ => b = it ∨ Z0 b) H0 H
  zz : ∀ b,Z b → Z0 b ∨ H0.size ≤ b
theorem Itr.w (h : Itr E H0 H it tr mt Z0 sk as ae Z fr kv) (i : Nat) (hi : i < 6) : Wr H it i 1 := h.wr.at0 i 1 (by omega)
/-- Another stack,which was made beside it. -/
theorem Itr.push' (h : Itr E H0 H it tr mt Z0 sk as ae Z fr kv) {H4 H5 : Mem} {Y : Nat → Prop} {fr' : List (Nat × Int)} {v4 : Value} (hf : Fr (fun b _ => Z b) H H4) (hA4 : Acc EK Y H4 v4 fr'.reverse) (hY : ∀ b,Y b → Z b ∨ H.size ≤ b) (W : Wrote H4 H5 it 5 [v4]) :
    Itr E H0 H5 it tr mt Z0 sk as ae Y fr' kv :=
  have hn : ¬ Z it := h.nz
  have hl : it < H.size := cl_lt h.c0
  have hny : ¬ Y it := fun hz => (hY _ hz).elim h.nz (fun h => by omega)
  have hk : ∀ {o : Nat} {v : Value},o ≠ 5 → cl H it o = some v → cl H5 it o = some v := fun ho hc => W.keep1 (hf.keep hc hn) (.inr ho)
  { c0 := hk (by decide) h.c0,c1 := hk (by decide) h.c1,c2 := hk (by decide) h.c2,c3 := hk (by decide) h.c3,c4 := hk (by decide) h.c4
    st := ⟨v4,W.at,hA4.fr W.fr fun b o _ hb hz => hny (by have e : b = it := hz.1; rw [e] at hb; exact hb)⟩
    kv := W.fr.rd (hf.rd h.kv fun _ _ => hn) fun i _ hz => by have := hz.2.2; simp only [List.length_singleton] at this; omega
    wr := W.fr.wr (hf.wr h.wr)
    nz := hny
    f := (h.f.trans' hf (fun _ _ _ h => h) fun b o hb hz => (h.zz b hz).elim .inr (fun h => by omega)).trans' W.fr (fun _ _ _ h => h) fun b o _ hz => .inl hz.1
    zz := fun b hb => (hY b hb).elim (h.zz b) fun hge => .inr (by have := h.f.size; omega) }
/-- A place is put on the stack. -/
theorem Itr.push (h : Itr E H0 H it tr mt Z0 sk as ae Z fr kv) {H3 H4 H5 : Mem} {v4 : Value} {x : Nat × Int} (hm : Fr nowhere H H3) (hF4 : Fr (fun b _ => Z b) H3 H4) (hA4 : Acc EK (fun b => Z b ∨ (b = H3.size ∧ b < H4.size)) H4 v4 (fr.reverse ++ [x])) (W : Wrote H4 H5 it 5 [v4]) :
    Itr E H0 H5 it tr mt Z0 sk as ae (fun b => Z b ∨ (b = H3.size ∧ b < H4.size)) (x :: fr) kv := by
  have hs3 := hm.size
  exact h.push' (hm.trans' hF4 (fun _ _ _ h => h.elim) (fun _ _ _ h => h)) (by rw [List.reverse_cons]; exact hA4) (fun b hb => hb.elim .inl (fun h => .inr (by omega))) W
/-- The place on top of the stack. -/
structure TopC (H : Mem) (it b o c p : Nat) (z : Int) (n : Nat) : Prop where
  c5 : cl H it 5 = some (.slice (some ⟨b,o,none⟩) (n + 1) c)
  cp : cl H b (o + n * 2) = some (.pointer (some ⟨p,0,none⟩))
  ci : cl H b (o + n * 2 + 1) = some (.int .i64 z)
  wi : Wr H b (o + n * 2 + 1) 1
  le : n + 1 ≤ c
theorem Itr.stk (h : Itr E H0 H it tr mt Z0 sk as ae Z ((p,z) :: fs) kv) : ∃ b o c,cl H it 5 = some (.slice (some ⟨b,o,none⟩) (fs.length + 1) c) ∧ Z b ∧ b < H.size ∧ SlE EK H b o c (fs.reverse ++ [(p,z)]) := by
  obtain ⟨sv,h1,h2⟩ := h.st
  rw [List.reverse_cons] at h2
  rcases h2 with ⟨_,e⟩ | ⟨b,o,c,rfl,hz,hb,hs⟩
  · simp at e
  · rw [List.length_append,List.length_reverse,List.length_singleton] at h1
    exact ⟨b,o,c,h1,hz,hb,hs⟩
theorem TopC.of {b o c : Nat} (h1 : cl H it 5 = some (.slice (some ⟨b,o,none⟩) (fs.length + 1) c)) (hs : SlE EK H b o c (fs.reverse ++ [(p,z)])) : TopC H it b o c p z fs.length := by
  have hl : (fs.reverse ++ [(p,z)]).length = fs.length + 1 := by rw [List.length_append,List.length_reverse,List.length_singleton]
  have hx : (fs.reverse ++ [(p,z)])[fs.length]? = some (p,z) := by rw [List.getElem?_append_right (by rw [List.length_reverse]; exact Nat.le_refl _),List.length_reverse,Nat.sub_self]; rfl
  exact ⟨h1,hs.cell hx (j := 0) rfl,hs.cell hx (j := 1) rfl,by
    have := (hs.wri (i := fs.length) (by omega)).part 1 1 (by decide)
    exact this,by have := hs.hle; omega⟩
theorem Itr.top (h : Itr E H0 H it tr mt Z0 sk as ae Z ((p,z) :: fs) kv) : ∃ b o c,TopC H it b o c p z fs.length := by
  obtain ⟨b,o,c,h1,_,_,hs⟩ := h.stk
  exact ⟨b,o,c,TopC.of h1 hs⟩
/-- The stack is emptied. -/
theorem Itr.empty (h : Itr E H0 H it tr mt Z0 sk as ae Z fr kv) {a : Option Addr} {m c : Nat} (hc : cl H it 5 = some (.slice a m c)) : ∀ {a' : Option Addr},(a = none → a' = none) → (∀ b o,a = some ⟨b,o,none⟩ → ∃ o',a' = some ⟨b,o',none⟩ ∧ (0 < c → o' = o)) → Acc EK Z H (.slice a' 0 c) ([] : List (Nat × Int)) := by
  intro a' h0 h1
  obtain ⟨sv,e1,e2⟩ := h.st
  have e := e1.symm.trans hc
  simp only [Option.some.injEq] at e
  subst e
  rcases e2 with ⟨e,_⟩ | ⟨b,o,c',e,hz,hb,hs⟩
  · simp only [Value.slice.injEq] at e
    obtain ⟨rfl,rfl,rfl⟩ := e
    rw [h0 rfl]
    exact Acc.nil _ _ _
  · simp only [Value.slice.injEq] at e
    obtain ⟨rfl,rfl,rfl⟩ := e
    obtain ⟨o',rfl,ho⟩ := h1 b o rfl
    refine .inr ⟨b,o',c,rfl,hz,hb,rfl,Nat.zero_le _,Rd.nil _ _ _,fun i hi => ?_⟩
    have hc0 : 0 < c := by
      rcases Nat.eq_zero_or_pos c with e | e
      · subst e; simp at hi
      · exact e
    rw [ho hc0]
    exact hs.wr i hi
/-- Where the iterator stands. -/
def StI (r : Option ((h : Nat) × Gt E h)) (l : List α) (sk : Bool) (fr : List (Nat × Int)) (kv : α) : Option Nat → Prop
  | none => fr = []
  | some q => sk = true ∧ l[q]? = some kv ∧ ∃ h t,r = some ⟨h,t⟩ ∧ Stand t fr q
/-- The tree that is visited. -/
structure TreeR (H : Mem) (tr : Nat) (P : Ps) (S : Nat → Prop) (l : List α) (r : Option ((h : Nat) × Gt E h)) : Prop where
  iso : cl H tr 0 = some (.int .u64 (P.iso : Int))
  own : S tr
  lt : ∀ b,S b → b < H.size
  ll : l.length ≤ 4294967296
  mn : 1 ≤ P.mn
  rt : match r with
    | none => l = [] ∧ cl H tr 2 = some (.pointer none)
    | some ⟨h,t⟩ => Gt.Good H P h t ∧ 1 ≤ (Gt.X h t).length ∧ Gt.L h t = l ∧ cl H tr 2 = some (ptr (Gt.p h t)) ∧ ∀ b o,Gt.af h t b o → S b
theorem TreeR.keep {P : Ps} {S : Nat → Prop} {l : List α} {r : Option ((h : Nat) × Gt E h)} (h : TreeR H tr P S l r) {X : Nat → Nat → Prop} (hf : Fr X H H') (hx : ∀ b o,S b → ¬ X b o) : TreeR H' tr P S l r where
  iso := hf.keep h.iso (hx _ _ h.own)
  own := h.own
  lt := fun b hb => Nat.lt_of_lt_of_le (h.lt b hb) hf.size
  ll := h.ll
  mn := h.mn
  rt := by
    have h1 := h.rt
    cases r with
    | none => exact ⟨h1.1,hf.keep h1.2 (hx _ _ h.own)⟩
    | some s =>
      obtain ⟨hh,t⟩ := s
      obtain ⟨h2,h3,h4,h5,h6⟩ := h1
      exact ⟨h2.fr hf fun b o hb => hx b o (h6 b o hb),h3,h4,hf.keep h5 (hx _ _ h.own),h6⟩
/-- What a move of the iterator leaves. -/
def ItPost (E : Elt α) (H H' : Mem) (it tr : Nat) (mt : Bool) (Z0 : Nat → Prop) (r : Option ((h : Nat) × Gt E h)) (l : List α) (st : Option Nat) : Prop :=
  ∃ sk as ae Z fr kv,Itr E H H' it tr mt Z0 sk as ae Z fr kv ∧ StI r l sk fr kv st
theorem ItPost.trans {H1 H3 : Mem} {P : Ps} {S : Nat → Prop} {Z2 : Nat → Prop} {r : Option ((h : Nat) × Gt E h)} {l : List α} {sk' as' ae' : Bool} {kv' : α} {fr' : List (Nat × Int)} {q : Option Nat} (h : Itr E H H1 it tr mt Z sk' as' ae' Z2 fr' kv') (hp : ItPost E H1 H3 it tr mt Z2 r l q) : ItPost E H H3 it tr mt Z r l q := by
  obtain ⟨sk,as,ae,Z3,fr,kv,hI,hS⟩ := hp
  have hs1 := h.f.size
  exact ⟨sk,as,ae,Z3,fr,kv,{ hI with
    f := h.f.trans' hI.f (fun _ _ _ h => h) fun b o hb hz => hz.elim .inl fun hz => (h.zz b hz).elim .inr fun hge => by omega
    zz := fun b hb => (hI.zz b hb).elim (h.zz b) fun hge => .inr (by omega) },hS⟩
end
end Go.Bt
namespace Go.Bt
open Go
set_option linter.unusedVariables false
namespace Pl
end Pl
section
variable {P : Program} {B : World} {f : FuncId} {Q : Value → Mem → Prop} {n : Nat} {r : Env} {k : List Item} {H : Mem} {l : List Oper} {C : Mem → Prop} {p : List (Nat × Nat)}
variable {i kd d : Nat} {ty : TypeId} {pos : String} {af : Array Edge} {gd : Option (Nat × Bool)}
end
end Go.Bt
/- The lists that a walk over a tree hands on,node by node. Conditions: none. -/
namespace Go.Bt
open Go
set_option linter.unusedVariables false
namespace Pl
theorem sing_flat {α : Type} : ∀ X : List α,(X.map fun y => [y]).flatten = X
  | [] => rfl
  | x :: X => by rw [List.map_cons,List.flatten_cons,sing_flat X]; rfl
theorem inter_flat {α : Type} : ∀ (X : List α) (K : List (List (List α))),(inter (X.map fun y => [y]) K).flatten = inter X (K.map List.flatten)
  | X,[] => by simp only [inter,List.map_nil]; exact sing_flat X
  | [],k :: _ => rfl
  | x :: X,k :: K => by
    simp only [List.map_cons,inter,List.flatten_append,List.flatten_cons,inter_flat X K,List.singleton_append]
theorem mem_inter {α : Type} {c : α} : ∀ {X : List α} {K : List (List α)},c ∈ inter X K → c ∈ X ∨ ∃ k ∈ K,c ∈ k
  | X,[],h => .inl (by simpa only [inter] using h)
  | [],k :: _,h => .inr ⟨k,List.mem_cons_self,by simpa only [inter] using h⟩
  | x :: X,k :: K,h => by
    simp only [inter,List.mem_append,List.mem_cons] at h
    rcases h with h | rfl | h
    · exact .inr ⟨k,List.mem_cons_self,h⟩
    · exact .inl List.mem_cons_self
    · rcases mem_inter h with h | ⟨k',hk,h⟩
      · exact .inl (List.mem_cons_of_mem _ h)
      · exact .inr ⟨k',List.mem_cons_of_mem _ hk,h⟩
theorem flat_len {α : Type} : ∀ {l : List (List α)},(∀ c ∈ l,1 ≤ c.length) → l.length ≤ l.flatten.length
  | [],_ => Nat.le_refl _
  | c :: l,h => by
    have h1 := h c List.mem_cons_self
    have h2 := flat_len (l := l) fun c hc => h c (List.mem_cons_of_mem _ hc)
    simp only [List.length_cons,List.flatten_cons,List.length_append]
    omega
end Pl
variable {α : Type} {E : Elt α}
/-- The lists that a walk hands on. -/
def Ab.ch : (h : Nat) → Ab α h → List (List α)
  | 0,a => [a]
  | h + 1,a => Pl.inter (a.1.map fun y => [y]) (a.2.map (Ab.ch h))
def Gt.ch : (h : Nat) → Gt E h → List (List α)
  | 0,t => [t.2]
  | h + 1,t => Pl.inter (t.2.1.map fun y => [y]) (t.2.2.map (Gt.ch h))
theorem Gt.ch_ab : ∀ (h : Nat) (t : Gt E h),Ab.ch h (Gt.ab h t) = Gt.ch h t
  | 0,_ => rfl
  | h + 1,t => by
    show Pl.inter (t.2.1.map _) ((t.2.2.map (Gt.ab h)).map (Ab.ch h)) = Pl.inter (t.2.1.map _) (t.2.2.map (Gt.ch h))
    rw [List.map_map]
    congr 1
    exact List.map_congr_left fun k _ => Gt.ch_ab h k
theorem Gt.ch_flat : ∀ (h : Nat) (t : Gt E h),(Gt.ch h t).flatten = Gt.L h t
  | 0,t => by show [t.2].flatten = t.2; simp
  | h + 1,t => by
    show (Pl.inter (t.2.1.map _) (t.2.2.map (Gt.ch h))).flatten = Pl.inter t.2.1 (t.2.2.map (Gt.L h))
    rw [Pl.inter_flat,List.map_map]
    congr 1
    exact List.map_congr_left fun k _ => Gt.ch_flat h k
theorem Gt.ch_ok {H : Mem} {P : Ps} (h1 : 1 ≤ P.mn) (h2 : 1 ≤ P.mx) : ∀ {h : Nat} {t : Gt E h},Gt.Good H P h t → 1 ≤ (Gt.X h t).length → ∀ c ∈ Gt.ch h t,1 ≤ c.length ∧ c.length ≤ P.mx
  | 0,(g,X),hg,hx,c,hc => by
    have e : c = X := by
      have : c ∈ [X] := hc
      simpa using this
    subst e
    exact ⟨hx,hg.2.2.2⟩
  | h + 1,(g,X,K),hg,hx,c,hc => by
    rcases Pl.mem_inter hc with hc | ⟨k,hk,hc⟩
    · obtain ⟨y,_,rfl⟩ := List.mem_map.1 hc
      exact ⟨Nat.le_refl 1,h2⟩
    · obtain ⟨k0,hk0,rfl⟩ := List.mem_map.1 hk
      have hgk := hg.2.2.2.2.2.2.1 k0 hk0
      exact Gt.ch_ok h1 h2 hgk.1 (Nat.le_trans h1 hgk.2.1) c hc
def AbT.ch : AbT α → List (List α)
  | none => []
  | some s => Ab.ch s.1 s.2
end Go.Bt
/- Values of size 0: they are kept in cells that there are none of. Conditions: none. -/
namespace Go.Bt
open Go
set_option linter.unusedVariables false
theorem Go'.mono {P : Program} {B : World} {f : FuncId} {Q Q' : Value → Mem → Prop} {n : Nat} {r : Env} {k : List Item} {H : Mem} (hq : ∀ v H',Q v H' → Q' v H') (h : Go' P B f Q n r k H) : Go' P B f Q' n r k H :=
  fun d a ha b cs hb hk =>
    let ⟨v,w'',fr,h1,h2,h3,h4⟩ := h d a ha b cs hb hk
    ⟨v,w'',fr,by obtain ⟨H',d',e,q⟩ := h1; exact ⟨H',d',e,hq _ _ q⟩,h2,h3,h4⟩
theorem Wr.nil (H : Mem) (b o : Nat) : Wr H b o 0 := fun i hi => absurd hi (Nat.not_lt_zero i)
section
variable {P : Program} {B : World} {f : FuncId} {Q : Value → Mem → Prop} {n : Nat} {r : Env} {k : List Item} {H : Mem} {l : List Oper} {C : Mem → Prop} {p : List (Nat × Nat)}
variable {i kd d : Nat} {ty : TypeId} {pos : String} {af : Array Edge} {gd : Option (Nat × Bool)}
end
end Go.Bt
/- The order in which items are set does not matter if no two of them are equal. Conditions: none. -/
namespace Go.Bt.Pl
variable {α : Type} (O : Swo α)
end Go.Bt.Pl
/- Slices of flat values that came in,whatever their type. Conditions: none. -/
namespace Go.Bt
open Go
set_option linter.unusedVariables false
section
variable {P : Program} {B : World} {f : FuncId} {Q : Value → Mem → Prop} {n : Nat} {r : Env} {k : List Item} {H : Mem} {σ : Type} {i1 i2 i3 i4 : Item}
end
section
variable {α : Type} {E : Elt α} {H0 H H' : Mem} {it tr : Nat} {mt sk as ae : Bool} {Z0 Z : Nat → Prop} {fr : List (Nat × Int)} {kv : α}
end
inductive Kd where
  | int (k : IntKind)
  | bool
  | str
def Kd.ok : Kd → Value → Prop
  | .int k,v => ∃ n,v = .int k n ∧ (Lit.int k n).wf = true
  | .bool,v => ∃ b,v = .bool b
  | .str,v => ∃ s : ByteArray,v = .string s ∧ s.size ≤ maxLen
def AllOk : List Kd → List Value → Prop
  | [],[] => True
  | k :: ks,v :: vs => k.ok v ∧ AllOk ks vs
  | _,_ => False
theorem AllOk.app : ∀ {ks : List Kd} {vs : List Value} {ks' : List Kd} {vs' : List Value},AllOk ks vs → AllOk ks' vs' → AllOk (ks ++ ks') (vs ++ vs')
  | [],[],_,_,_,h => h
  | _ :: _,_ :: _,_,_,h,h' => ⟨h.1,h.2.app h'⟩
  | [],_ :: _,_,_,h,_ => h.elim
  | _ :: _,[],_,_,h,_ => h.elim
theorem AllOk.len : ∀ {ks : List Kd} {vs : List Value},AllOk ks vs → vs.length = ks.length
  | [],[],_ => rfl
  | _ :: _,_ :: _,h => by rw [List.length_cons,List.length_cons,h.2.len]
  | [],_ :: _,h => h.elim
  | _ :: _,[],h => h.elim
def kindsF (P : Program) (g : TypeId → Option (List Kd)) : Nat → List Field → Option (List Kd)
  | _,[] => some []
  | off,f :: fs =>
    match g f.type with
    | none => none
    | some a => if f.offset = off ∧ P.cellsOf f.type = a.length then (kindsF P g (off + a.length) fs).map (a ++ ·) else none
/-- The kinds of the cells of a flat type. -/
def kinds (P : Program) : Nat → TypeId → Option (List Kd)
  | 0,_ => none
  | n + 1,t =>
    match P.underlying t with
    | some .bool => some [.bool]
    | some (.int k) => some [.int k]
    | some .string => some [.str]
    | some (.struct fs) =>
      match kindsF P (kinds P n) 0 fs.toList with
      | some ks => if P.cellsOf t = ks.length then some ks else none
      | none => none
    | _ => none
section
variable {H : Type} {enc : TypeId × Value → H} {P : Program} {w : World} {base : Nat} {spare : Nat → Bool} {held : Bool}
end
theorem AllOk.get1 {k : Kd} {ks : List Kd} {vs : List Value} (h : AllOk (k :: ks) vs) : ∃ v vs',vs = v :: vs' ∧ k.ok v ∧ AllOk ks vs' := by
  cases vs with
  | nil => exact h.elim
  | cons v vs => exact ⟨v,vs,rfl,h.1,h.2⟩
theorem AllOk.nil' {vs : List Value} (h : AllOk [] vs) : vs = [] := by
  cases vs with
  | nil => rfl
  | cons v vs => exact h.elim
end Go.Bt
/- What the moves of an iterator tell. Conditions: none. -/
namespace Go.Bt
open Go
set_option linter.unusedVariables false
/-- A move: its number,its item. -/
def EMv : Elt (Int × Int × Int) := { enc := fun m => [.int .i64 m.1,.int .i64 m.2.1,.int .i64 m.2.2],s := 3,len := fun _ => rfl,one := fun _ => rfl,pos := by decide }
theorem EMv.of (vs : List Value) (h : AllOk [.int .i64,.int .i64,.int .i64] vs) : ∃ y,EMv.enc y = vs := by
  obtain ⟨x1,v1,e1,⟨a,e2,_⟩,h1⟩ := h.get1
  obtain ⟨x2,v2,e3,⟨b,e4,_⟩,h2⟩ := h1.get1
  obtain ⟨x3,v3,e5,⟨c,e6,_⟩,h3⟩ := h2.get1
  rw [e1,e3,e5,e2,e4,e6,h3.nil']
  exact ⟨(a,b,c),rfl⟩
namespace Pl
/-- A place in a list of n items,if it is one. -/
def cut (n : Nat) (z : Int) : Option Nat := if 0 ≤ z ∧ z < (n : Int) then some z.toNat else none
theorem cut_nat (n q : Nat) : cut n (q : Int) = if q < n then some q else none := by
  unfold cut
  by_cases h : q < n
  · rw [if_pos ⟨by omega,by omega⟩,if_pos h]; rfl
  · rw [if_neg (by omega),if_neg h]
theorem cut_last (n : Nat) : cut n ((n : Int) - 1) = if 0 < n then some (n - 1) else none := by
  by_cases h : 0 < n
  · rw [show (n : Int) - 1 = ((n - 1 : Nat) : Int) by omega,cut_nat,if_pos (by omega),if_pos h]
  · rw [if_neg h,cut,if_neg (by omega)]
theorem cut_first (n : Nat) : cut n 0 = if 0 < n then some 0 else none := cut_nat n 0
theorem cut_next (n q : Nat) : cut n ((q : Int) + 1) = if q + 1 < n then some (q + 1) else none := cut_nat n (q + 1)
theorem cut_neg (n : Nat) : cut n (-1) = none := by rw [cut,if_neg (by omega)]
section
variable {α : Type} (O : Swo α) (l : List α)
/-- Where a move leads from a place (−1 or the list's length: nowhere). -/
def mvTo (m : Int × α) (st : Option Nat) : Int :=
  if m.1 = 2 ∨ m.1 = 3 then (match st with | none => -1 | some q => if m.1 = 2 then (q : Int) + 1 else (q : Int) - 1)
  else if m.1 = 1 then (l.length : Int) - 1
  else if m.1 = 4 ∨ m.1 = 5 then (pos O m.2 l : Int)
  else 0
/-- Whether it is told. -/
def mvTold (m : Int × α) (st : Option Nat) : Bool := if m.1 = 2 ∨ m.1 = 3 then st.isSome || l.isEmpty else true
end
/-- Two lists agree wherever it is told. -/
def Agree {γ : Type} (a b : List γ) (t : List Bool) : Prop := a.length = b.length ∧ t.length = b.length ∧ ∀ j : Nat,t[j]? = some true → a[j]? = b[j]?
theorem Agree.nil {γ : Type} : Agree ([] : List γ) [] [] := ⟨rfl,rfl,fun _ _ => rfl⟩
theorem Agree.snoc {γ : Type} {a b : List γ} {t : List Bool} {x y : γ} {k : Bool} (h : Agree a b t) (hk : k = true → x = y) : Agree (a ++ [x]) (b ++ [y]) (t ++ [k]) := by
  obtain ⟨h1,h2,h3⟩ := h
  refine ⟨by simp [h1],by simp [h2],fun j hj => ?_⟩
  rcases Nat.lt_trichotomy j b.length with hlt | rfl | hgt
  · rw [List.getElem?_append_left (by omega)] at hj
    rw [List.getElem?_append_left (by omega),List.getElem?_append_left hlt]
    exact h3 j hj
  · rw [← h2,List.getElem?_append_right (Nat.le_refl _),Nat.sub_self] at hj
    simp only [List.getElem?_cons_zero,Option.some.injEq] at hj
    rw [List.getElem?_append_right (Nat.le_of_eq h1),h1,Nat.sub_self,List.getElem?_append_right (Nat.le_refl _),Nat.sub_self,hk hj]
  · rw [List.getElem?_eq_none_iff.2 (by simp; omega)] at hj
    cases hj
end Pl
end Go.Bt
namespace Go.Bt
open Go
namespace Pl
section
variable {α : Type} (O : Swo α) (l : List α)
/-- What a move did: where it is told,it came to what the reference says; else the reference stands nowhere. -/
structure Res (m : Int × α) (s0 : Option Nat) (b : Bool) (st : Option Nat) : Prop where
  told : mvTold l m s0 = true → b = st.isSome ∧ st = cut l.length (mvTo O l m s0)
  not : mvTold l m s0 = false → cut l.length (mvTo O l m s0) = none
variable {O l}
theorem Res.out {m : Int × α} {s0 st : Option Nat} {b : Bool} (h : Res O l m s0 b st) {kv : α} (hkv : ∀ q,st = some q → l[q]? = some kv) (ht : mvTold l m s0 = true) : (if b = true then some kv else none) = (cut l.length (mvTo O l m s0)).bind (l[·]?) := by
  obtain ⟨h1,h2⟩ := h.told ht
  rw [← h2,h1]
  cases st with
  | none => rfl
  | some q => exact (hkv q rfl).symm
theorem Res.first {m : Int × α} {s0 : Option Nat} (h1 : m.1 ≠ 1) (h2 : m.1 ≠ 2) (h3 : m.1 ≠ 3) (h4 : m.1 ≠ 4) (h5 : m.1 ≠ 5) : Res O l m s0 (decide (0 < l.length)) (if 0 < l.length then some 0 else none) := by
  have e : mvTo O l m s0 = 0 := by unfold mvTo; rw [if_neg (by omega),if_neg h1,if_neg (by omega)]
  refine ⟨fun _ => ⟨?_,by rw [e,cut_first]⟩,fun h => ?_⟩
  · by_cases h : 0 < l.length <;> simp [h]
  · unfold mvTold at h; rw [if_neg (by omega)] at h; cases h
theorem Res.last {m : Int × α} {s0 : Option Nat} (h1 : m.1 = 1) : Res O l m s0 (decide (0 < l.length)) (if 0 < l.length then some (l.length - 1) else none) := by
  have e : mvTo O l m s0 = (l.length : Int) - 1 := by unfold mvTo; rw [if_neg (by omega),if_pos h1]
  refine ⟨fun _ => ⟨?_,by rw [e,cut_last]⟩,fun h => ?_⟩
  · by_cases h : 0 < l.length <;> simp [h]
  · unfold mvTold at h; rw [if_neg (by omega)] at h; cases h
theorem Res.next {m : Int × α} {s0 st st' : Option Nat} {b : Bool} (h1 : m.1 = 2) (hs : ∀ q,s0 = some q → st = some q) (h : ∀ q,st = some q → b = decide (q + 1 < l.length) ∧ st' = if q + 1 < l.length then some (q + 1) else none) (hn : l = [] → b = false ∧ st' = none) : Res O l m s0 b st' := by
  cases s0 with
  | some q =>
    have e : mvTo O l m (some q) = (q : Int) + 1 := by unfold mvTo; rw [if_pos (.inl h1)]; simp only; rw [if_pos h1]
    obtain ⟨h2,h3⟩ := h q (hs q rfl)
    refine ⟨fun _ => ⟨?_,by rw [e,cut_next]; exact h3⟩,fun h => ?_⟩
    · rw [h2,h3]; by_cases h : q + 1 < l.length <;> simp [h]
    · unfold mvTold at h; rw [if_pos (.inl h1)] at h; cases h
  | none =>
    have e : mvTo O l m none = -1 := by unfold mvTo; rw [if_pos (.inl h1)]
    refine ⟨fun h => ?_,fun _ => by rw [e,cut_neg]⟩
    unfold mvTold at h
    rw [if_pos (.inl h1)] at h
    obtain ⟨h2,h3⟩ := hn (by simpa using h)
    rw [e,cut_neg,h2,h3]; exact ⟨rfl,rfl⟩
end
end Pl
end Go.Bt
namespace Go.Bt
open Go
namespace Pl
section
variable {α : Type} (O : Swo α) (T : List α)
end
end Pl
end Go.Bt
/- A slice of truth values that came in. Conditions: those that each theorem names. -/
namespace Go.Bt
open Go
set_option linter.unusedVariables false
theorem slice_inG {α : Type} (E : Elt α) {Hh : Type} {enc : TypeId × Value → Hh} {P : Program} {w : World} {fuel : Nat} {t e : TypeId} {a : Option Addr} {len cap : Nat} {x : DataW Hh × List MemPlace} (ht : P.underlying t = some (.slice e))
    (hce : P.cellsOf e = E.s) (hE : ∀ (n : Nat) (cs : List Value) (y : DataW Hh × List MemPlace),DataW.trod enc P w 0 (fun _ => true) true n e cs = some y → ∃ y,E.enc y = cs) (h : DataW.trod enc P w 0 (fun _ => true) true fuel t [.slice a len cap] = some x) : ∃ l,InS E w.heap (.slice a len cap) l := by
  rcases Go.Deep.open_slice ht h with ⟨hcs,_⟩ | ⟨a',len',cap',m',n,D,Pl,hcs,_,hl,_,hm,_,hx⟩
  · simp at hcs
    obtain ⟨rfl,rfl,rfl⟩ := hcs
    exact ⟨[],.inr ⟨rfl,_,_,rfl⟩⟩
  · simp at hcs
    obtain ⟨rfl,rfl,rfl⟩ := hcs
    simp only [if_true] at hm
    subst hm
    rcases Nat.eq_zero_or_pos m' with rfl | hc
    · obtain rfl : len = 0 := by omega
      exact ⟨[],.inr ⟨rfl,_,_,rfl⟩⟩
    · have hex : ∀ i,i < m' → ∃ y : α,w.cells? 0 (a'.add (i * E.s)) E.s = some (E.enc y) := fun i hi => by
        obtain ⟨cs',h1,h2⟩ := hx i hi
        obtain ⟨y,hy⟩ := hE _ _ _ h2
        rw [hce] at h1
        exact ⟨y,by rw [hy]; exact h1⟩
      have hx' : ∀ i,∃ y : α,i < m' → w.cells? 0 (a'.add (i * E.s)) E.s = some (E.enc y) := fun i => by
        by_cases hi : i < m'
        · obtain ⟨y,hy⟩ := hex i hi
          exact ⟨y,fun _ => hy⟩
        · obtain ⟨y,_⟩ := hex 0 hc
          exact ⟨y,fun hh => absurd hh hi⟩
      obtain ⟨f,hf⟩ : ∃ f : Nat → α,∀ i,i < m' → w.cells? 0 (a'.add (i * E.s)) E.s = some (E.enc (f i)) := ⟨fun i => Classical.choose (hx' i),fun i => Classical.choose_spec (hx' i)⟩
      obtain ⟨b,o,s⟩ := a'
      have cell : ∀ i j,i < m' → j < E.s → w.cell? ((Addr.add ⟨b,o,s⟩ (i * E.s)).add j) = (E.enc (f i))[j]? := fun i j hi hj => (World.cells?_some (hf i hi)).2.2 j hj
      have hs : s = none := by
        have h0 := cell 0 0 hc E.pos
        cases s with
        | none => rfl
        | some k =>
          have hne : (E.enc (f 0))[0]? ≠ none := by
            intro hh
            have := List.getElem?_eq_none_iff.1 hh
            rw [E.len] at this
            have := E.pos
            omega
          rw [← h0] at hne
          simp only [Nat.zero_mul,Addr.add,if_true,World.cell?] at hne
          split at hne <;> simp at hne
      subst hs
      refine ⟨(List.range len).map f,.inl ⟨b,o,m',by simp,by simpa using hl,fun j v hv => ?_⟩⟩
      have hj := (List.getElem?_eq_some_iff.1 hv).1
      rw [row_len,List.length_map,List.length_range] at hj
      have hi : j / E.s < len := Nat.div_lt_of_lt_mul (by rw [Nat.mul_comm]; exact hj)
      have hr : j % E.s < E.s := Nat.mod_lt _ E.pos
      have hq : ((List.range len).map f)[j / E.s]? = some (f (j / E.s)) := by simp [hi]
      have hjm : j / E.s * E.s + j % E.s = j := by rw [Nat.mul_comm]; exact Nat.div_add_mod j E.s
      have h1 := cell (j / E.s) (j % E.s) (by omega) hr
      have hlt : j % E.s < (E.enc (f (j / E.s))).length := by rw [E.len]; exact hr
      have hg := row_get E hq (j % E.s) _ (List.getElem?_eq_getElem hlt)
      rw [hjm] at hg
      have hvv := Option.some.inj (hv.symm.trans hg)
      have cc : ∀ n,World.cell? w ⟨b,n,none⟩ = cl w.heap b n := fun n => by rw [← mk_self w]; exact mk_cell _ _ _ _ _
      rw [Addr.add_lit,Addr.add_lit,cc] at h1
      rw [show o + j = o + j / E.s * E.s + j % E.s by omega,h1,hvv]
      exact List.getElem?_eq_getElem hlt
end Go.Bt
/- How structs that come in are opened: how a tree is made,an item,the options of a range. Conditions: none. -/
namespace Go.Bt
open Go Go.ChangeShapes
section
variable {Hh : Type} {enc : TypeId × Value → Hh} {P : Program} {w : World} {fuel : Nat} {t e : TypeId} {f0 f1 f2 : Field} {cs : List Value} {x : DataW Hh × List MemPlace}
theorem len1 {α : Type} {l : List α} {c : α} (h : l = [c]) : l = [c] := h
theorem open_mk (ht : P.underlying t = some (.struct #[f0,f1,f2])) (o0 : f0.offset = 0) (o1 : f1.offset = 1) (o2 : f2.offset = 2) (h0 : P.underlying f0.type = some (.slice e)) (hce : P.cellsOf e = 1) (he : P.underlying e = some (.int .i64))
    (h1 : P.underlying f1.type = some (.int .i64)) (h2 : P.underlying f2.type = some .bool) (c0 : P.cellsOf f0.type = 1) (c1 : P.cellsOf f1.type = 1) (c2 : P.cellsOf f2.type = 1) (ct : P.cellsOf t = 3)
    (h : DataW.trod enc P w 0 (fun _ => true) true fuel t cs = some x) (hsl : ∀ v n y,DataW.trod enc P w 0 (fun _ => true) true n f0.type [v] = some y → ∃ a m c,v = .slice a m c) :
    ∃ (v : Value) (l : List Int) (z : Int) (b : Bool),cs = [v,.int .i64 z,.bool b] ∧ InS EN w.heap v l := by
  obtain ⟨y0,y1,y2,n,_,hl,t0,t1,t2⟩ := Go.Deep.trod_struct3 ht h
  rw [ct] at hl
  obtain ⟨a0,a1,a2,rfl⟩ : ∃ a0 a1 a2,cs = [a0,a1,a2] := by
    match cs,hl with
    | [a0,a1,a2],_ => exact ⟨a0,a1,a2,rfl⟩
  rw [o0,c0] at t0
  rw [o1,c1] at t1
  rw [o2,c2] at t2
  obtain ⟨z,hz,_⟩ := DataW.trod_int h1 t1
  obtain ⟨b,hb,_⟩ := DataW.trod_bool h2 t2
  obtain ⟨a,m,c,rfl⟩ := hsl a0 n y0 t0
  obtain ⟨l,hi⟩ := slice_inG EN (a := a) (len := m) (cap := c) h0 hce (fun n cs y hy => by obtain ⟨z,hz,_⟩ := DataW.trod_int he hy; exact ⟨z,hz.symm⟩) t0
  have ez : a1 = .int .i64 z := by simpa using hz
  have eb : a2 = .bool b := by simpa using hb
  exact ⟨_,l,z,b,by rw [ez,eb],hi⟩
/-- What is a slice by its type is one. -/
theorem trod_isl (ht : P.underlying t = some (.slice e)) {v : Value} {n : Nat} {y : DataW Hh × List MemPlace} (h : DataW.trod enc P w 0 (fun _ => true) true n t [v] = some y) : ∃ a m c,v = .slice a m c := by
  rcases Go.Deep.open_slice ht h with ⟨hcs,_⟩ | ⟨a',len',cap',m',n,D,Pl,hcs,_⟩
  · exact ⟨_,_,_,by simpa using hcs⟩
  · exact ⟨_,_,_,by simpa using hcs⟩
end
end Go.Bt
