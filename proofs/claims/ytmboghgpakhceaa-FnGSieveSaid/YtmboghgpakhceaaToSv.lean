/- Where an iterator stands in a tree: the way from the root, the rank of the item. Conditions: none. -/
import Derived.ChangeArms
import Derived.Deep.Slices
import Derived.Test.YtmboghgpakhceaaToSo
import Derived.Test.YtmboghgpakhceaaToAe
namespace Go.Bt
open Go
set_option linter.unusedVariables false
namespace Pl
/-- How many items stand before the list i of those that lie between the items. -/
def bl {α : Type} (K : List (List α)) (i : Nat) : Nat := ((K.take i).map fun k => k.length + 1).sum
theorem bl_0 {α : Type} (K : List (List α)) : bl K 0 = 0 := by simp [bl]
theorem bl_succ {α : Type} {K : List (List α)} {i : Nat} {k : List α} (h : K[i]? = some k) : bl K (i + 1) = bl K i + k.length + 1 := by
  unfold bl
  rw [List.take_add_one,h]
  simp
  omega
theorem inter_bl {α : Type} : ∀ (X : List α) (K : List (List α)),K.length = X.length + 1 → ∀ {i : Nat} {k : List α},K[i]? = some k →
    (∀ j,j < k.length → (inter X K)[bl K i + j]? = k[j]?) ∧ bl K i + k.length ≤ (inter X K).length ∧ (i = X.length → bl K i + k.length = (inter X K).length) ∧ ∀ y,X[i]? = some y → (inter X K)[bl K i + k.length]? = some y
  | [],[k0],_,i,k,hk => by
    have hi : i = 0 := by
      rcases i with _ | i
      · rfl
      · simp at hk
    subst hi
    simp only [List.getElem?_cons_zero,Option.some.injEq] at hk
    subst hk
    simp [bl,inter]
  | x :: X,k0 :: K,h,i,k,hk => by
    have hlen : (inter (x :: X) (k0 :: K)).length = k0.length + 1 + (inter X K).length := by simp [inter]; omega
    rcases i with _ | i
    · simp only [List.getElem?_cons_zero,Option.some.injEq] at hk
      subst hk
      rw [bl_0,hlen]
      refine ⟨fun j hj => ?_,by omega,fun hh => by simp at hh,fun y hy => ?_⟩
      · rw [Nat.zero_add]; simp only [inter]; rw [List.getElem?_append_left hj]
      · simp only [List.getElem?_cons_zero,Option.some.injEq] at hy
        subst hy
        rw [Nat.zero_add]; simp only [inter]; rw [List.getElem?_append_right (Nat.le_refl _),Nat.sub_self]; rfl
    · simp only [List.getElem?_cons_succ] at hk
      obtain ⟨h1,h2,h3,h4⟩ := inter_bl X K (by simpa using h) hk
      have hb : bl (k0 :: K) (i + 1) = k0.length + 1 + bl K i := by simp [bl]
      have hget : ∀ m,(inter (x :: X) (k0 :: K))[k0.length + 1 + m]? = (inter X K)[m]? := fun m => by
        simp only [inter]
        rw [List.getElem?_append_right (by omega),show k0.length + 1 + m - k0.length = m + 1 by omega,List.getElem?_cons_succ]
      rw [hb,hlen]
      refine ⟨fun j hj => ?_,by omega,fun hh => ?_,fun y hy => ?_⟩
      · rw [Nat.add_assoc,hget]; exact h1 j hj
      · have := h3 (by simpa using hh); omega
      · rw [Nat.add_assoc,hget]; exact h4 y (by simpa using hy)
  | [],[],h,_,_,_ => by simp at h
  | [],_ :: _ :: _,h,_,_,_ => by simp at h
  | _ :: _,[],h,_,_,_ => by simp at h
end Pl
section
variable {α : Type} {E : Elt α}
/-- The nodes and places on the way from the root t0 to the subtree s,the nearest first; a items of the tree stand before s. -/
def Ctx {h0 : Nat} (t0 : Gt E h0) : List (Nat × Int) → (h : Nat) → Gt E h → Nat → Prop
  | [],h,s,a => (⟨h0,t0⟩ : (h : Nat) × Gt E h) = ⟨h,s⟩ ∧ a = 0
  | x :: fs,h,s,a => ∃ (g : Ng) (X : List α) (K : List (Gt E h)) (i a' : Nat),x = (g.p,(i : Int)) ∧ K[i]? = some s ∧ Ctx t0 fs (h + 1) (g,X,K) a' ∧ a = a' + Pl.bl (K.map (Gt.L h)) i
theorem Ctx.root {h0 : Nat} (t0 : Gt E h0) : Ctx t0 [] h0 t0 0 := ⟨rfl,rfl⟩
theorem Ctx.down {h0 h : Nat} {t0 : Gt E h0} {fs : List (Nat × Int)} {g : Ng} {X : List α} {K : List (Gt E h)} {a i : Nat} {s : Gt E h} (hc : Ctx t0 fs (h + 1) (g,X,K) a) (hi : K[i]? = some s) :
    Ctx t0 ((g.p,(i : Int)) :: fs) h s (a + Pl.bl (K.map (Gt.L h)) i) := ⟨g,X,K,i,a,rfl,hi,hc,rfl⟩
theorem Ctx.good {H : Mem} {P : Ps} {h0 : Nat} {t0 : Gt E h0} (hP : 1 ≤ P.mn) (hg : Gt.Good H P h0 t0) (hx : 1 ≤ (Gt.X h0 t0).length) : ∀ {fs : List (Nat × Int)} {h : Nat} {s : Gt E h} {a : Nat},Ctx t0 fs h s a → Gt.Good H P h s ∧ 1 ≤ (Gt.X h s).length ∧ fs.length + h = h0 ∧ ∀ b o,Gt.af h s b o → Gt.af h0 t0 b o
  | [],h,s,a,hc => by
    obtain ⟨e,_⟩ := hc
    cases e
    exact ⟨hg,hx,by simp,fun _ _ h => h⟩
  | x :: fs,h,s,a,hc => by
    obtain ⟨g,X,K,i,a',_,hi,hc',_⟩ := hc
    obtain ⟨h1,_,h3,h4⟩ := Ctx.good hP hg hx hc'
    have hk : s ∈ K := List.mem_of_getElem? hi
    have h5 := h1.kids.1 s hk
    exact ⟨h5.1,Nat.le_trans hP h5.2.1,by rw [List.length_cons]; omega,fun b o hb => h4 b o (.inr (.inr ⟨s,hk,hb⟩))⟩
/-- What the list of the tree has where the subtree stands. -/
theorem Ctx.list {H : Mem} {P : Ps} {h0 : Nat} {t0 : Gt E h0} (hP : 1 ≤ P.mn) (hg : Gt.Good H P h0 t0) (hx : 1 ≤ (Gt.X h0 t0).length) : ∀ {fs : List (Nat × Int)} {h : Nat} {s : Gt E h} {a : Nat},Ctx t0 fs h s a → (∀ j,j < (Gt.L h s).length → (Gt.L h0 t0)[a + j]? = (Gt.L h s)[j]?) ∧ a + (Gt.L h s).length ≤ (Gt.L h0 t0).length
  | [],h,s,a,hc => by
    obtain ⟨e,rfl⟩ := hc
    cases e
    exact ⟨fun j _ => by rw [Nat.zero_add],by omega⟩
  | x :: fs,h,s,a,hc => by
    obtain ⟨g,X,K,i,a',_,hi,hc',rfl⟩ := hc
    obtain ⟨h1,h2⟩ := Ctx.list hP hg hx hc'
    have hgd := (Ctx.good hP hg hx hc').1
    have hKl : (K.map (Gt.L h)).length = X.length + 1 := by rw [List.length_map]; exact hgd.2.2.2.2.2.1
    have hi' : (K.map (Gt.L h))[i]? = some (Gt.L h s) := by rw [List.getElem?_map,hi]; rfl
    obtain ⟨b1,b2,_,_⟩ := Pl.inter_bl X (K.map (Gt.L h)) hKl hi'
    have e : Gt.L (h + 1) ((g,X,K) : Gt E (h + 1)) = Pl.inter X (K.map (Gt.L h)) := rfl
    rw [e] at h1 h2
    refine ⟨fun j hj => ?_,by omega⟩
    rw [Nat.add_assoc,h1 _ (by omega)]
    exact b1 j hj
/-- The iterator stands at the item of rank q. -/
def Stand {h0 : Nat} (t0 : Gt E h0) (fr : List (Nat × Int)) (q : Nat) : Prop :=
  (∃ (fs : List (Nat × Int)) (g : Ng) (X : List α) (a i : Nat),fr = (g.p,(i : Int)) :: fs ∧ Ctx t0 fs 0 ((g,X) : Gt E 0) a ∧ i < X.length ∧ q = a + i) ∨
  ∃ (fs : List (Nat × Int)) (h : Nat) (g : Ng) (X : List α) (K : List (Gt E h)) (a i : Nat),fr = (g.p,(i : Int)) :: fs ∧ Ctx t0 fs (h + 1) ((g,X,K) : Gt E (h + 1)) a ∧ i < X.length ∧ q + 1 = a + Pl.bl (K.map (Gt.L h)) (i + 1)
/-- The item at which it stands: in which node it is. -/
theorem Stand.item {H : Mem} {P : Ps} {h0 : Nat} {t0 : Gt E h0} {fr : List (Nat × Int)} {q : Nat} (hP : 1 ≤ P.mn) (hg : Gt.Good H P h0 t0) (hx : 1 ≤ (Gt.X h0 t0).length) (h : Stand t0 fr q) :
    ∃ (fs : List (Nat × Int)) (g : Ng) (X : List α) (kp : Value) (i : Nat) (y : α),fr = (g.p,(i : Int)) :: fs ∧ NodeM E H g X kp ∧ i < X.length ∧ X[i]? = some y ∧ (Gt.L h0 t0)[q]? = some y ∧ fs.length ≤ h0 := by
  rcases h with ⟨fs,g,X,a,i,e,hc,hi,hq⟩ | ⟨fs,h,g,X,K,a,i,e,hc,hi,hq⟩
  · have hgd := (Ctx.good hP hg hx hc).1
    have hl := (Ctx.list hP hg hx hc).1 i hi
    have hy : X[i]? = some X[i] := List.getElem?_eq_getElem hi
    exact ⟨fs,g,X,_,i,X[i],e,hgd.1,hi,hy,by rw [hq,hl]; exact hy,by have := (Ctx.good hP hg hx hc).2.2.1; omega⟩
  · have hgd := (Ctx.good hP hg hx hc).1
    have hKl : K.length = X.length + 1 := hgd.2.2.2.2.2.1
    obtain ⟨k,hk⟩ : ∃ k,K[i]? = some k := ⟨K[i],List.getElem?_eq_getElem (by omega)⟩
    have hk' : (K.map (Gt.L h))[i]? = some (Gt.L h k) := by rw [List.getElem?_map,hk]; rfl
    have hy : X[i]? = some X[i] := List.getElem?_eq_getElem hi
    obtain ⟨_,_,_,b4⟩ := Pl.inter_bl X (K.map (Gt.L h)) (by rw [List.length_map]; exact hKl) hk'
    have hb := b4 _ hy
    have hl := (Ctx.list hP hg hx hc).1 (Pl.bl (K.map (Gt.L h)) i + (Gt.L h k).length) (List.getElem?_eq_some_iff.1 hb).1
    rw [Pl.bl_succ hk'] at hq
    exact ⟨fs,g,X,_,i,X[i],e,hgd.1,hi,hy,by rw [show q = a + (Pl.bl (K.map (Gt.L h)) i + (Gt.L h k).length) by omega,hl]; exact hb,by have := (Ctx.good hP hg hx hc).2.2.1; omega⟩
/-- The stack,as it lies in memory. -/
def EK : Elt (Nat × Int) := { enc := fun x => [.pointer (some ⟨x.1,0,none⟩),.int .i64 x.2],s := 2,len := fun _ => rfl,one := fun _ => rfl,pos := by decide }
theorem Acc.form {β : Type} {F : Elt β} {Z : Nat → Prop} {H : Mem} {v : Value} {l : List β} (h : Acc F Z H v l) : ∃ a m c,v = .slice a m c := by
  rcases h with ⟨e,_⟩ | ⟨b,o,c,e,_⟩
  · exact ⟨_,_,_,e⟩
  · exact ⟨_,_,_,e⟩
theorem Acc.take {β : Type} {F : Elt β} {Z : Nat → Prop} {H : Mem} {b o c i : Nat} {l : List β} (h : SlE F H b o c l) (hz : Z b) (hb : b < H.size) (hi : i ≤ l.length) : Acc F Z H (.slice (some ⟨b,o,none⟩) i c) (l.take i) :=
  .inr ⟨b,o,c,by rw [List.length_take,Nat.min_eq_left hi],hz,hb,h.take i⟩
end
end Go.Bt
namespace Go.Bt
open Go
set_option linter.unusedVariables false
section
variable {α : Type} {E : Elt α} {H0 H H' : Mem} {it tr : Nat} {mt sk as ae : Bool} {Z0 Z : Nat → Prop} {fr fs : List (Nat × Int)} {kv : α} {p : Nat} {z : Int}
/-- An iterator in memory: since H0 no cell was changed but its own and those of Z0. -/
structure Itr (E : Elt α) (H0 H : Mem) (it tr : Nat) (mt : Bool) (Z0 : Nat → Prop) (sk as ae : Bool) (Z : Nat → Prop) (fr : List (Nat × Int)) (kv : α) : Prop where
  c0 : cl H it 0 = some (.pointer (some ⟨tr,0,none⟩))
  c1 : cl H it 1 = some (.bool mt)
  c2 : cl H it 2 = some (.bool sk)
  c3 : cl H it 3 = some (.bool as)
  c4 : cl H it 4 = some (.bool ae)
  st : ∃ sv,cl H it 5 = some sv ∧ Acc EK Z H sv fr.reverse
  kv : Rd H it 6 (E.enc kv)
  wr : Wr H it 0 (6 + E.s)
  nz : ¬ Z it
  f : Fr (fun b _ => b = it ∨ Z0 b) H0 H
  zz : ∀ b,Z b → Z0 b ∨ H0.size ≤ b
theorem Itr.w (h : Itr E H0 H it tr mt Z0 sk as ae Z fr kv) (i : Nat) (hi : i < 6) : Wr H it i 1 := h.wr.at0 i 1 (by omega)
/-- Another stack,which was made beside it. -/
theorem Itr.push' (h : Itr E H0 H it tr mt Z0 sk as ae Z fr kv) {H4 H5 : Mem} {Y : Nat → Prop} {fr' : List (Nat × Int)} {v4 : Value} (hf : Fr (fun b _ => Z b) H H4) (hA4 : Acc EK Y H4 v4 fr'.reverse) (hY : ∀ b,Y b → Z b ∨ H.size ≤ b) (W : Wrote H4 H5 it 5 [v4]) :
    Itr E H0 H5 it tr mt Z0 sk as ae Y fr' kv :=
  have hn : ¬ Z it := h.nz
  have hl : it < H.size := cl_lt h.c0
  have hny : ¬ Y it := fun hz => (hY _ hz).elim h.nz (fun h => by omega)
  have hk : ∀ {o : Nat} {v : Value},o ≠ 5 → cl H it o = some v → cl H5 it o = some v := fun ho hc => W.keep1 (hf.keep hc hn) (.inr ho)
  { c0 := hk (by decide) h.c0,c1 := hk (by decide) h.c1,c2 := hk (by decide) h.c2,c3 := hk (by decide) h.c3,c4 := hk (by decide) h.c4
    st := ⟨v4,W.at,hA4.fr W.fr fun b o _ hb hz => hny (by have e : b = it := hz.1; rw [e] at hb; exact hb)⟩
    kv := W.fr.rd (hf.rd h.kv fun _ _ => hn) fun i _ hz => by have := hz.2.2; simp only [List.length_singleton] at this; omega
    wr := W.fr.wr (hf.wr h.wr)
    nz := hny
    f := (h.f.trans' hf (fun _ _ _ h => h) fun b o hb hz => (h.zz b hz).elim .inr (fun h => by omega)).trans' W.fr (fun _ _ _ h => h) fun b o _ hz => .inl hz.1
    zz := fun b hb => (hY b hb).elim (h.zz b) fun hge => .inr (by have := h.f.size; omega) }
/-- A place is put on the stack. -/
theorem Itr.push (h : Itr E H0 H it tr mt Z0 sk as ae Z fr kv) {H3 H4 H5 : Mem} {v4 : Value} {x : Nat × Int} (hm : Fr nowhere H H3) (hF4 : Fr (fun b _ => Z b) H3 H4) (hA4 : Acc EK (fun b => Z b ∨ (b = H3.size ∧ b < H4.size)) H4 v4 (fr.reverse ++ [x])) (W : Wrote H4 H5 it 5 [v4]) :
    Itr E H0 H5 it tr mt Z0 sk as ae (fun b => Z b ∨ (b = H3.size ∧ b < H4.size)) (x :: fr) kv := by
  have hs3 := hm.size
  exact h.push' (hm.trans' hF4 (fun _ _ _ h => h.elim) (fun _ _ _ h => h)) (by rw [List.reverse_cons]; exact hA4) (fun b hb => hb.elim .inl (fun h => .inr (by omega))) W
/-- The place on top of the stack. -/
structure TopC (H : Mem) (it b o c p : Nat) (z : Int) (n : Nat) : Prop where
  c5 : cl H it 5 = some (.slice (some ⟨b,o,none⟩) (n + 1) c)
  cp : cl H b (o + n * 2) = some (.pointer (some ⟨p,0,none⟩))
  ci : cl H b (o + n * 2 + 1) = some (.int .i64 z)
  wi : Wr H b (o + n * 2 + 1) 1
  le : n + 1 ≤ c
theorem Itr.stk (h : Itr E H0 H it tr mt Z0 sk as ae Z ((p,z) :: fs) kv) : ∃ b o c,cl H it 5 = some (.slice (some ⟨b,o,none⟩) (fs.length + 1) c) ∧ Z b ∧ b < H.size ∧ SlE EK H b o c (fs.reverse ++ [(p,z)]) := by
  obtain ⟨sv,h1,h2⟩ := h.st
  rw [List.reverse_cons] at h2
  rcases h2 with ⟨_,e⟩ | ⟨b,o,c,rfl,hz,hb,hs⟩
  · simp at e
  · rw [List.length_append,List.length_reverse,List.length_singleton] at h1
    exact ⟨b,o,c,h1,hz,hb,hs⟩
theorem TopC.of {b o c : Nat} (h1 : cl H it 5 = some (.slice (some ⟨b,o,none⟩) (fs.length + 1) c)) (hs : SlE EK H b o c (fs.reverse ++ [(p,z)])) : TopC H it b o c p z fs.length := by
  have hl : (fs.reverse ++ [(p,z)]).length = fs.length + 1 := by rw [List.length_append,List.length_reverse,List.length_singleton]
  have hx : (fs.reverse ++ [(p,z)])[fs.length]? = some (p,z) := by rw [List.getElem?_append_right (by rw [List.length_reverse]; exact Nat.le_refl _),List.length_reverse,Nat.sub_self]; rfl
  exact ⟨h1,hs.cell hx (j := 0) rfl,hs.cell hx (j := 1) rfl,by
    have := (hs.wri (i := fs.length) (by omega)).part 1 1 (by decide)
    exact this,by have := hs.hle; omega⟩
theorem Itr.top (h : Itr E H0 H it tr mt Z0 sk as ae Z ((p,z) :: fs) kv) : ∃ b o c,TopC H it b o c p z fs.length := by
  obtain ⟨b,o,c,h1,_,_,hs⟩ := h.stk
  exact ⟨b,o,c,TopC.of h1 hs⟩
/-- The stack is emptied. -/
theorem Itr.empty (h : Itr E H0 H it tr mt Z0 sk as ae Z fr kv) {a : Option Addr} {m c : Nat} (hc : cl H it 5 = some (.slice a m c)) : ∀ {a' : Option Addr},(a = none → a' = none) → (∀ b o,a = some ⟨b,o,none⟩ → ∃ o',a' = some ⟨b,o',none⟩ ∧ (0 < c → o' = o)) → Acc EK Z H (.slice a' 0 c) ([] : List (Nat × Int)) := by
  intro a' h0 h1
  obtain ⟨sv,e1,e2⟩ := h.st
  have e := e1.symm.trans hc
  simp only [Option.some.injEq] at e
  subst e
  rcases e2 with ⟨e,_⟩ | ⟨b,o,c',e,hz,hb,hs⟩
  · simp only [Value.slice.injEq] at e
    obtain ⟨rfl,rfl,rfl⟩ := e
    rw [h0 rfl]
    exact Acc.nil _ _ _
  · simp only [Value.slice.injEq] at e
    obtain ⟨rfl,rfl,rfl⟩ := e
    obtain ⟨o',rfl,ho⟩ := h1 b o rfl
    refine .inr ⟨b,o',c,rfl,hz,hb,rfl,Nat.zero_le _,Rd.nil _ _ _,fun i hi => ?_⟩
    have hc0 : 0 < c := by
      rcases Nat.eq_zero_or_pos c with e | e
      · subst e; simp at hi
      · exact e
    rw [ho hc0]
    exact hs.wr i hi
/-- Where the iterator stands. -/
def StI (r : Option ((h : Nat) × Gt E h)) (l : List α) (sk : Bool) (fr : List (Nat × Int)) (kv : α) : Option Nat → Prop
  | none => fr = []
  | some q => sk = true ∧ l[q]? = some kv ∧ ∃ h t,r = some ⟨h,t⟩ ∧ Stand t fr q
/-- The tree that is visited. -/
structure TreeR (H : Mem) (tr : Nat) (P : Ps) (S : Nat → Prop) (l : List α) (r : Option ((h : Nat) × Gt E h)) : Prop where
  iso : cl H tr 0 = some (.int .u64 (P.iso : Int))
  own : S tr
  lt : ∀ b,S b → b < H.size
  ll : l.length ≤ 4294967296
  mn : 1 ≤ P.mn
  rt : match r with
    | none => l = [] ∧ cl H tr 2 = some (.pointer none)
    | some ⟨h,t⟩ => Gt.Good H P h t ∧ 1 ≤ (Gt.X h t).length ∧ Gt.L h t = l ∧ cl H tr 2 = some (ptr (Gt.p h t)) ∧ ∀ b o,Gt.af h t b o → S b
theorem TreeR.keep {P : Ps} {S : Nat → Prop} {l : List α} {r : Option ((h : Nat) × Gt E h)} (h : TreeR H tr P S l r) {X : Nat → Nat → Prop} (hf : Fr X H H') (hx : ∀ b o,S b → ¬ X b o) : TreeR H' tr P S l r where
  iso := hf.keep h.iso (hx _ _ h.own)
  own := h.own
  lt := fun b hb => Nat.lt_of_lt_of_le (h.lt b hb) hf.size
  ll := h.ll
  mn := h.mn
  rt := by
    have h1 := h.rt
    cases r with
    | none => exact ⟨h1.1,hf.keep h1.2 (hx _ _ h.own)⟩
    | some s =>
      obtain ⟨hh,t⟩ := s
      obtain ⟨h2,h3,h4,h5,h6⟩ := h1
      exact ⟨h2.fr hf fun b o hb => hx b o (h6 b o hb),h3,h4,hf.keep h5 (hx _ _ h.own),h6⟩
/-- What a move of the iterator leaves. -/
def ItPost (E : Elt α) (H H' : Mem) (it tr : Nat) (mt : Bool) (Z0 : Nat → Prop) (r : Option ((h : Nat) × Gt E h)) (l : List α) (st : Option Nat) : Prop :=
  ∃ sk as ae Z fr kv,Itr E H H' it tr mt Z0 sk as ae Z fr kv ∧ StI r l sk fr kv st
theorem ItPost.trans {H1 H3 : Mem} {P : Ps} {S : Nat → Prop} {Z2 : Nat → Prop} {r : Option ((h : Nat) × Gt E h)} {l : List α} {sk' as' ae' : Bool} {kv' : α} {fr' : List (Nat × Int)} {q : Option Nat} (h : Itr E H H1 it tr mt Z sk' as' ae' Z2 fr' kv') (hp : ItPost E H1 H3 it tr mt Z2 r l q) : ItPost E H H3 it tr mt Z r l q := by
  obtain ⟨sk,as,ae,Z3,fr,kv,hI,hS⟩ := hp
  have hs1 := h.f.size
  exact ⟨sk,as,ae,Z3,fr,kv,{ hI with
    f := h.f.trans' hI.f (fun _ _ _ h => h) fun b o hb hz => hz.elim .inl fun hz => (h.zz b hz).elim .inr fun hge => by omega
    zz := fun b hb => (hI.zz b hb).elim (h.zz b) fun hge => .inr (by omega) },hS⟩
end
end Go.Bt
namespace Go.Bt
open Go
set_option linter.unusedVariables false
namespace Pl
end Pl
section
variable {P : Program} {B : World} {f : FuncId} {Q : Value → Mem → Prop} {n : Nat} {r : Env} {k : List Item} {H : Mem} {l : List Oper} {C : Mem → Prop} {p : List (Nat × Nat)}
variable {i kd d : Nat} {ty : TypeId} {pos : String} {af : Array Edge} {gd : Option (Nat × Bool)}
end
end Go.Bt
/- Slices of flat values that came in,whatever their type. Conditions: none. -/
namespace Go.Bt
open Go
set_option linter.unusedVariables false
section
variable {P : Program} {B : World} {f : FuncId} {Q : Value → Mem → Prop} {n : Nat} {r : Env} {k : List Item} {H : Mem} {σ : Type} {i1 i2 i3 i4 : Item}
end
section
variable {α : Type} {E : Elt α} {H0 H H' : Mem} {it tr : Nat} {mt sk as ae : Bool} {Z0 Z : Nat → Prop} {fr : List (Nat × Int)} {kv : α}
end
inductive Kd where
  | int (k : IntKind)
  | bool
  | str
def Kd.ok : Kd → Value → Prop
  | .int k,v => ∃ n,v = .int k n ∧ (Lit.int k n).wf = true
  | .bool,v => ∃ b,v = .bool b
  | .str,v => ∃ s : ByteArray,v = .string s ∧ s.size ≤ maxLen
def AllOk : List Kd → List Value → Prop
  | [],[] => True
  | k :: ks,v :: vs => k.ok v ∧ AllOk ks vs
  | _,_ => False
theorem AllOk.app : ∀ {ks : List Kd} {vs : List Value} {ks' : List Kd} {vs' : List Value},AllOk ks vs → AllOk ks' vs' → AllOk (ks ++ ks') (vs ++ vs')
  | [],[],_,_,_,h => h
  | _ :: _,_ :: _,_,_,h,h' => ⟨h.1,h.2.app h'⟩
  | [],_ :: _,_,_,h,_ => h.elim
  | _ :: _,[],_,_,h,_ => h.elim
theorem AllOk.len : ∀ {ks : List Kd} {vs : List Value},AllOk ks vs → vs.length = ks.length
  | [],[],_ => rfl
  | _ :: _,_ :: _,h => by rw [List.length_cons,List.length_cons,h.2.len]
  | [],_ :: _,h => h.elim
  | _ :: _,[],h => h.elim
def kindsF (P : Program) (g : TypeId → Option (List Kd)) : Nat → List Field → Option (List Kd)
  | _,[] => some []
  | off,f :: fs =>
    match g f.type with
    | none => none
    | some a => if f.offset = off ∧ P.cellsOf f.type = a.length then (kindsF P g (off + a.length) fs).map (a ++ ·) else none
/-- The kinds of the cells of a flat type. -/
def kinds (P : Program) : Nat → TypeId → Option (List Kd)
  | 0,_ => none
  | n + 1,t =>
    match P.underlying t with
    | some .bool => some [.bool]
    | some (.int k) => some [.int k]
    | some .string => some [.str]
    | some (.struct fs) =>
      match kindsF P (kinds P n) 0 fs.toList with
      | some ks => if P.cellsOf t = ks.length then some ks else none
      | none => none
    | _ => none
section
variable {H : Type} {enc : TypeId × Value → H} {P : Program} {w : World} {base : Nat} {spare : Nat → Bool} {held : Bool}
end
theorem AllOk.get1 {k : Kd} {ks : List Kd} {vs : List Value} (h : AllOk (k :: ks) vs) : ∃ v vs',vs = v :: vs' ∧ k.ok v ∧ AllOk ks vs' := by
  cases vs with
  | nil => exact h.elim
  | cons v vs => exact ⟨v,vs,rfl,h.1,h.2⟩
theorem AllOk.nil' {vs : List Value} (h : AllOk [] vs) : vs = [] := by
  cases vs with
  | nil => rfl
  | cons v vs => exact h.elim
end Go.Bt
/- What the moves of an iterator tell. Conditions: none. -/
namespace Go.Bt
open Go
set_option linter.unusedVariables false
/-- A move: its number,its item. -/
def EMv : Elt (Int × Int × Int) := { enc := fun m => [.int .i64 m.1,.int .i64 m.2.1,.int .i64 m.2.2],s := 3,len := fun _ => rfl,one := fun _ => rfl,pos := by decide }
theorem EMv.of (vs : List Value) (h : AllOk [.int .i64,.int .i64,.int .i64] vs) : ∃ y,EMv.enc y = vs := by
  obtain ⟨x1,v1,e1,⟨a,e2,_⟩,h1⟩ := h.get1
  obtain ⟨x2,v2,e3,⟨b,e4,_⟩,h2⟩ := h1.get1
  obtain ⟨x3,v3,e5,⟨c,e6,_⟩,h3⟩ := h2.get1
  rw [e1,e3,e5,e2,e4,e6,h3.nil']
  exact ⟨(a,b,c),rfl⟩
namespace Pl
/-- A place in a list of n items,if it is one. -/
def cut (n : Nat) (z : Int) : Option Nat := if 0 ≤ z ∧ z < (n : Int) then some z.toNat else none
theorem cut_nat (n q : Nat) : cut n (q : Int) = if q < n then some q else none := by
  unfold cut
  by_cases h : q < n
  · rw [if_pos ⟨by omega,by omega⟩,if_pos h]; rfl
  · rw [if_neg (by omega),if_neg h]
theorem cut_last (n : Nat) : cut n ((n : Int) - 1) = if 0 < n then some (n - 1) else none := by
  by_cases h : 0 < n
  · rw [show (n : Int) - 1 = ((n - 1 : Nat) : Int) by omega,cut_nat,if_pos (by omega),if_pos h]
  · rw [if_neg h,cut,if_neg (by omega)]
theorem cut_first (n : Nat) : cut n 0 = if 0 < n then some 0 else none := cut_nat n 0
theorem cut_next (n q : Nat) : cut n ((q : Int) + 1) = if q + 1 < n then some (q + 1) else none := cut_nat n (q + 1)
theorem cut_neg (n : Nat) : cut n (-1) = none := by rw [cut,if_neg (by omega)]
section
variable {α : Type} (O : Swo α) (l : List α)
/-- Where a move leads from a place (−1 or the list's length: nowhere). -/
def mvTo (m : Int × α) (st : Option Nat) : Int :=
  if m.1 = 2 ∨ m.1 = 3 then (match st with | none => -1 | some q => if m.1 = 2 then (q : Int) + 1 else (q : Int) - 1)
  else if m.1 = 1 then (l.length : Int) - 1
  else if m.1 = 4 ∨ m.1 = 5 then (pos O m.2 l : Int)
  else 0
/-- Whether it is told. -/
def mvTold (m : Int × α) (st : Option Nat) : Bool := if m.1 = 2 ∨ m.1 = 3 then st.isSome || l.isEmpty else true
end
/-- Two lists agree wherever it is told. -/
def Agree {γ : Type} (a b : List γ) (t : List Bool) : Prop := a.length = b.length ∧ t.length = b.length ∧ ∀ j : Nat,t[j]? = some true → a[j]? = b[j]?
theorem Agree.nil {γ : Type} : Agree ([] : List γ) [] [] := ⟨rfl,rfl,fun _ _ => rfl⟩
end Pl
end Go.Bt
namespace Go.Bt
open Go
namespace Pl
section
variable {α : Type} (O : Swo α) (l : List α)
/-- What a move did: where it is told,it came to what the reference says; else the reference stands nowhere. -/
structure Res (m : Int × α) (s0 : Option Nat) (b : Bool) (st : Option Nat) : Prop where
  told : mvTold l m s0 = true → b = st.isSome ∧ st = cut l.length (mvTo O l m s0)
  not : mvTold l m s0 = false → cut l.length (mvTo O l m s0) = none
variable {O l}
theorem Res.out {m : Int × α} {s0 st : Option Nat} {b : Bool} (h : Res O l m s0 b st) {kv : α} (hkv : ∀ q,st = some q → l[q]? = some kv) (ht : mvTold l m s0 = true) : (if b = true then some kv else none) = (cut l.length (mvTo O l m s0)).bind (l[·]?) := by
  obtain ⟨h1,h2⟩ := h.told ht
  rw [← h2,h1]
  cases st with
  | none => rfl
  | some q => exact (hkv q rfl).symm
theorem Res.first {m : Int × α} {s0 : Option Nat} (h1 : m.1 ≠ 1) (h2 : m.1 ≠ 2) (h3 : m.1 ≠ 3) (h4 : m.1 ≠ 4) (h5 : m.1 ≠ 5) : Res O l m s0 (decide (0 < l.length)) (if 0 < l.length then some 0 else none) := by
  have e : mvTo O l m s0 = 0 := by unfold mvTo; rw [if_neg (by omega),if_neg h1,if_neg (by omega)]
  refine ⟨fun _ => ⟨?_,by rw [e,cut_first]⟩,fun h => ?_⟩
  · by_cases h : 0 < l.length <;> simp [h]
  · unfold mvTold at h; rw [if_neg (by omega)] at h; cases h
theorem Res.last {m : Int × α} {s0 : Option Nat} (h1 : m.1 = 1) : Res O l m s0 (decide (0 < l.length)) (if 0 < l.length then some (l.length - 1) else none) := by
  have e : mvTo O l m s0 = (l.length : Int) - 1 := by unfold mvTo; rw [if_neg (by omega),if_pos h1]
  refine ⟨fun _ => ⟨?_,by rw [e,cut_last]⟩,fun h => ?_⟩
  · by_cases h : 0 < l.length <;> simp [h]
  · unfold mvTold at h; rw [if_neg (by omega)] at h; cases h
theorem Res.next {m : Int × α} {s0 st st' : Option Nat} {b : Bool} (h1 : m.1 = 2) (hs : ∀ q,s0 = some q → st = some q) (h : ∀ q,st = some q → b = decide (q + 1 < l.length) ∧ st' = if q + 1 < l.length then some (q + 1) else none) (hn : l = [] → b = false ∧ st' = none) : Res O l m s0 b st' := by
  cases s0 with
  | some q =>
    have e : mvTo O l m (some q) = (q : Int) + 1 := by unfold mvTo; rw [if_pos (.inl h1)]; simp only; rw [if_pos h1]
    obtain ⟨h2,h3⟩ := h q (hs q rfl)
    refine ⟨fun _ => ⟨?_,by rw [e,cut_next]; exact h3⟩,fun h => ?_⟩
    · rw [h2,h3]; by_cases h : q + 1 < l.length <;> simp [h]
    · unfold mvTold at h; rw [if_pos (.inl h1)] at h; cases h
  | none =>
    have e : mvTo O l m none = -1 := by unfold mvTo; rw [if_pos (.inl h1)]
    refine ⟨fun h => ?_,fun _ => by rw [e,cut_neg]⟩
    unfold mvTold at h
    rw [if_pos (.inl h1)] at h
    obtain ⟨h2,h3⟩ := hn (by simpa using h)
    rw [e,cut_neg,h2,h3]; exact ⟨rfl,rfl⟩
end
end Pl
end Go.Bt
namespace Go.Bt
open Go
namespace Pl
section
variable {α : Type} (O : Swo α) (T : List α)
end
end Pl
end Go.Bt
/- The order in which items are set does not matter if no two of them are equal. Conditions: none. -/
namespace Go.Bt.Pl
variable {α : Type} (O : Swo α)
/-- No two are equal. -/
def Dis (l : List α) : Prop := l.Pairwise fun x y => O.lt x y = true ∨ O.lt y x = true
theorem put_new {x : α} {l : List α} (h : fnd O x l = false) (y : α) : y ∈ put O x l ↔ y ∈ l ∨ y = x := by
  unfold put
  rw [h]
  have e : l = l.take (pos O x l) ++ l.drop (pos O x l) := (List.take_append_drop _ _).symm
  constructor
  · intro hy
    rcases List.mem_append.1 hy with hy | hy
    · exact .inl (List.mem_of_mem_take hy)
    · rcases List.mem_cons.1 hy with hy | hy
      · exact .inr hy
      · exact .inl (List.mem_of_mem_drop hy)
  · rintro (hy | hy)
    · rw [e] at hy
      rcases List.mem_append.1 hy with hy | hy
      · exact List.mem_append_left _ hy
      · exact List.mem_append_right _ (List.mem_cons_of_mem _ (by simpa using hy))
    · exact List.mem_append_right _ (hy ▸ List.mem_cons_self)
theorem fnd_no {x : α} {l : List α} (hs : Srt O l) (h : ∀ y ∈ l,O.lt y x = true ∨ O.lt x y = true) : fnd O x l = false := by
  cases hf : fnd O x l with
  | false => rfl
  | true =>
    obtain ⟨y,hy,h1,h2⟩ := fnd_at O hs hf
    rcases h y (List.mem_of_getElem? hy) with h | h
    · rw [h1] at h; cases h
    · rw [h2] at h; cases h
theorem no_fnd {x : α} {l : List α} (hs : Srt O l) (hf : fnd O x l = false) : ∀ y ∈ l,O.lt y x = true ∨ O.lt x y = true := by
  intro y hy
  rw [← List.take_append_drop (pos O x l) l] at hy
  rcases List.mem_append.1 hy with hy | hy
  · exact .inl ((pos_split O x l).1 y hy)
  · exact .inr (after_pos O hs hf y hy)
theorem puts_dis : ∀ (l : List α),((puts O l).length = l.length → Dis O l) ∧ (Dis O l → ((puts O l).length = l.length ∧ ∀ y,y ∈ puts O l ↔ y ∈ l)) := by
  intro l
  induction h : l.length generalizing l with
  | zero =>
    obtain rfl := List.length_eq_zero_iff.1 h
    exact ⟨fun _ => List.Pairwise.nil,fun _ => ⟨rfl,fun y => Iff.rfl⟩⟩
  | succ n ih =>
    obtain ⟨m,x,rfl⟩ : ∃ m x,l = m ++ [x] := by
      refine ⟨l.dropLast,l.getLast (by intro e; rw [e] at h; simp at h),(List.dropLast_concat_getLast _).symm⟩
    rw [List.length_append,List.length_singleton] at h
    obtain ⟨ih1,ih2⟩ := ih m (by omega)
    have hs := puts_srt O m
    have hl := length_put O x (puts O m)
    have hle := puts_length O m
    rw [puts_snoc]
    constructor
    · intro hh
      cases hf : fnd O x (puts O m) with
      | true => rw [hf] at hl; simp at hl; omega
      | false =>
        rw [hf] at hl
        have hd := ih1 (by simp at hl; omega)
        refine List.pairwise_append.2 ⟨hd,List.pairwise_singleton _ _,fun y hy z hz => ?_⟩
        obtain rfl := List.mem_singleton.1 hz
        exact no_fnd O hs hf y (((ih2 hd).2 y).2 hy)
    · intro hd
      obtain ⟨hd1,_,hd2⟩ := List.pairwise_append.1 hd
      obtain ⟨e1,e2⟩ := ih2 hd1
      have hf : fnd O x (puts O m) = false := fnd_no O hs fun y hy => hd2 y ((e2 y).1 hy) x (List.mem_singleton.2 rfl)
      rw [hf] at hl
      refine ⟨by rw [hl]; simp; omega,fun y => ?_⟩
      rw [put_new O hf,e2 y,List.mem_append,List.mem_singleton]
end Go.Bt.Pl
namespace Go.Bt
open Go
namespace Sv
theorem bez (a b : Nat) : ∃ x y : Int,x * a + y * b = (Nat.gcd a b : Int) := by
  induction a,b using Nat.gcd.induction with
  | H0 n => exact ⟨0,1,by simp⟩
  | H1 m n hm ih =>
    obtain ⟨x,y,h⟩ := ih
    rw [← Nat.gcd_rec] at h
    refine ⟨y - x * (n / m),x,?_⟩
    rw [← h]
    have e : ((n % m : Nat) : Int) = n - m * (n / m) := by
      have := Int.emod_def n m
      omega
    rw [e]
    grind
theorem surj {n s : Nat} (h : Nat.gcd n s = 1) {y : Nat} (hy : y < n) : ∃ i,i < n ∧ i * s % n = y := by
  obtain ⟨z,x,e⟩ := bez n s
  rw [h] at e
  have hn : (0 : Int) < n := by omega
  have h1 := Int.emod_nonneg (x * y) (by omega : (n : Int) ≠ 0)
  have h2 := Int.emod_lt_of_pos (x * y) hn
  refine ⟨((x * y) % n).toNat,by omega,?_⟩
  have h3 : (((x * y) % n).toNat : Int) = (x * y) % n := Int.toNat_of_nonneg h1
  apply Int.ofNat.inj
  show ((((x * y) % n).toNat * s % n : Nat) : Int) = (y : Int)
  rw [Int.natCast_emod,Int.natCast_mul,h3]
  have e2 : (x * y) % n * s = y + n * (-(z * y) - (x * y / n) * s) := by
    have := Int.emod_def (x * y) n
    rw [this]
    grind
  rw [e2,Int.add_mul_emod_self_left]
  exact Int.emod_eq_of_lt (by omega) (by omega)
theorem inj {n s i j : Nat} (h : Nat.gcd n s = 1) (hi : i < n) (hj : j < n) (e : i * s % n = j * s % n) : i = j := by
  obtain ⟨z,x,e1⟩ := bez n s
  rw [h] at e1
  have e2 : ((i * s % n : Nat) : Int) = ((j * s % n : Nat) : Int) := by rw [e]
  rw [Int.natCast_emod,Int.natCast_emod,Int.natCast_mul,Int.natCast_mul] at e2
  have d1 := Int.emod_def (i * s : Int) n
  have d2 := Int.emod_def (j * s : Int) n
  have e3 : (i : Int) = j + n * ((i - j) * z + x * ((i * s) / n - (j * s) / n)) := by
    have e4 : (i * s : Int) - n * ((i * s) / n) = j * s - n * ((j * s) / n) := by rw [← d1,← d2,e2]
    have e5 : ((i : Int) - j) * s = n * ((i * s) / n - (j * s) / n) := by grind
    have e6 : ((i : Int) - j) * 1 = ((i : Int) - j) * (z * n + x * s) := by rw [e1]; rfl
    grind
  have e7 : (i : Int) % n = (j : Int) % n := by
    rw [e3,Int.add_mul_emod_self_left]
  rw [Int.emod_eq_of_lt (by omega) (by omega),Int.emod_eq_of_lt (by omega) (by omega)] at e7
  omega
/-- The numbers in their strides,as items. -/
def stride (n s c : Nat) : List (Int × Int) := (List.range c).map fun i => (((i * s % n : Nat) : Int),(i : Int))
theorem stride_snoc (n s c : Nat) : stride n s (c + 1) = stride n s c ++ [(((c * s % n : Nat) : Int),(c : Int))] := by simp [stride,List.range_succ]
theorem stride_len (n s c : Nat) : (stride n s c).length = c := by simp [stride]
theorem stride_dis {n s : Nat} (h : Nat.gcd n s = 1) : ∀ c,c ≤ n → Pl.Dis (OO []) (stride n s c)
  | 0,_ => List.Pairwise.nil
  | c + 1,hc => by
    rw [stride_snoc]
    refine List.pairwise_append.2 ⟨stride_dis h c (by omega),List.pairwise_singleton _ _,fun x hx y hy => ?_⟩
    rw [List.mem_singleton.1 hy]
    obtain ⟨i,hi,rfl⟩ := List.mem_map.1 hx
    have hi2 := List.mem_range.1 hi
    have hne : i * s % n ≠ c * s % n := fun e => by have := inj h (by omega) (by omega) e; omega
    rcases Nat.lt_or_gt_of_ne hne with hl | hl
    · exact .inl (decide_eq_true (show ((i * s % n : Nat) : Int) < ((c * s % n : Nat) : Int) by omega))
    · exact .inr (decide_eq_true (show ((c * s % n : Nat) : Int) < ((i * s % n : Nat) : Int) by omega))
theorem mem_stride {n s : Nat} {y : Int × Int} : y ∈ stride n s n ↔ ∃ i : Nat,i < n ∧ y = (((i * s % n : Nat) : Int),(i : Int)) := by
  unfold stride
  rw [List.mem_map]
  exact ⟨fun ⟨i,hi,e⟩ => ⟨i,List.mem_range.1 hi,e.symm⟩,fun ⟨i,hi,e⟩ => ⟨i,List.mem_range.2 hi,e.symm⟩⟩
/-- Deleting what is there. -/
theorem del_mem {α : Type} {O : Pl.Swo α} {l : List α} {x : α} (hs : Pl.Srt O l) (hx : x ∈ l) : Pl.got O x l = some x ∧ ∀ y,y ∈ Pl.del O x l ↔ y ∈ l ∧ y ≠ x := by
  obtain ⟨a,c,rfl⟩ := List.append_of_mem hx
  obtain ⟨_,_,h3,_,h5⟩ := Pl.at_item O hs (O.irr x) (O.irr x)
  refine ⟨h3,fun y => ?_⟩
  rw [h5]
  rw [Pl.Srt.append,Pl.Srt.cons] at hs
  have hna : x ∉ a := fun h => by have := hs.2.2 x h x List.mem_cons_self; rw [O.irr] at this; cases this
  have hnc : x ∉ c := fun h => by have := hs.2.1.1 x h; rw [O.irr] at this; cases this
  rw [List.mem_append,List.mem_append,List.mem_cons]
  constructor
  · rintro (h | h)
    · exact ⟨.inl h,fun e => hna (e ▸ h)⟩
    · exact ⟨.inr (.inr h),fun e => hnc (e ▸ h)⟩
  · rintro ⟨h | h | h,h2⟩
    · exact .inl h
    · exact absurd h h2
    · exact .inr h
theorem runs_cons {α β γ : Type} (f : List α → β → List α × γ) (l : List α) (k : β) (ks : List β) : Pl.runs f l (k :: ks) = ((Pl.runs f (f l k).1 ks).1,(f l k).2 :: (Pl.runs f (f l k).1 ks).2) := by
  have h : ∀ (ks : List β) (m : List α) (A B : List γ),ks.foldl (fun s k => ((f s.1 k).1,s.2 ++ [(f s.1 k).2])) (m,A ++ B) = ((ks.foldl (fun s k => ((f s.1 k).1,s.2 ++ [(f s.1 k).2])) (m,B)).1,A ++ (ks.foldl (fun s k => ((f s.1 k).1,s.2 ++ [(f s.1 k).2])) (m,B)).2) := by
    intro ks
    induction ks with
    | nil => intros; rfl
    | cons k ks ih =>
      intro m A B
      simp only [List.foldl_cons,List.append_assoc]
      exact ih _ A _
  exact h ks (f l k).1 [(f l k).2] []
theorem runs_del {α : Type} {O : Pl.Swo α} : ∀ {ks l : List α},Pl.Srt O l → (∀ k ∈ ks,k ∈ l) → ks.Nodup → (Pl.runs (Pl.delk O) l ks).2 = ks.map some ∧ ∀ y,y ∈ (Pl.runs (Pl.delk O) l ks).1 ↔ y ∈ l ∧ y ∉ ks
  | [],l,_,_,_ => ⟨rfl,fun y => by simp [Pl.runs_nil]⟩
  | k :: ks,l,hs,hm,hn => by
    obtain ⟨h1,h2⟩ := del_mem hs (hm k List.mem_cons_self)
    rw [List.nodup_cons] at hn
    obtain ⟨h3,h4⟩ := runs_del (ks := ks) (l := Pl.del O k l) (hs.del O) (fun x hx => (h2 x).2 ⟨hm x (List.mem_cons_of_mem _ hx),fun e => hn.1 (e ▸ hx)⟩) hn.2
    rw [runs_cons]
    refine ⟨?_,fun y => ?_⟩
    · show Pl.got O k l :: (Pl.runs (Pl.delk O) (Pl.del O k l) ks).2 = some k :: ks.map some
      rw [h1,h3]
    show y ∈ (Pl.runs (Pl.delk O) (Pl.del O k l) ks).1 ↔ _
    rw [h4,h2,List.mem_cons]
    constructor
    · rintro ⟨⟨a,b⟩,c⟩; exact ⟨a,fun h => h.elim b c⟩
    · rintro ⟨a,b⟩; exact ⟨⟨a,fun e => b (.inl e)⟩,fun e => b (.inr e)⟩
theorem dis_nodup {α : Type} {O : Pl.Swo α} {l : List α} (h : Pl.Dis O l) : l.Nodup := List.Pairwise.imp (fun {a b} h e => by subst e; rcases h with h | h <;> (rw [O.irr] at h; cases h)) h
def OZ : Pl.Swo Int := { lt := fun x y => decide (x < y),irr := fun x => by simp,ntr := fun h k => by simp at *; omega,asy := fun h => by simp at *; omega }
/-- The numbers that are left. -/
def keep (n k : Nat) : List Nat := (List.range n).filter fun i => decide (i % k ≠ 0)
theorem keep_succ (n k : Nat) : keep (n + 1) k = keep n k ++ if n % k = 0 then [] else [n] := by
  unfold keep
  rw [List.range_succ,List.filter_append]
  congr 1
  by_cases h : n % k = 0 <;> simp [h]
theorem keep_get {k : Nat} : ∀ {n i : Nat},i < n → i % k ≠ 0 → (keep n k)[(keep i k).length]? = some i
  | n + 1,i,hi,hk => by
    rw [keep_succ]
    rcases Nat.lt_or_eq_of_le (Nat.le_of_lt_succ hi) with h | rfl
    · have h1 := keep_get (k := k) h hk
      rw [List.getElem?_append_left (List.getElem?_eq_some_iff.1 h1).1,h1]
    · rw [List.getElem?_append_right (Nat.le_refl _),Nat.sub_self,if_neg hk]; rfl
theorem mem_keep {n k i : Nat} : i ∈ keep n k ↔ i < n ∧ i % k ≠ 0 := by
  unfold keep; rw [List.mem_filter,List.mem_range,decide_eq_true_eq]
theorem keep_srt (k : Nat) : ∀ n,Pl.Srt OZ ((keep n k).map fun (i : Nat) => (i : Int))
  | 0 => List.Pairwise.nil
  | n + 1 => by
    rw [keep_succ,List.map_append]
    refine List.pairwise_append.2 ⟨keep_srt k n,?_,fun x hx y hy => ?_⟩
    · split
      · exact List.Pairwise.nil
      · exact List.pairwise_singleton _ _
    · obtain ⟨i,hi,rfl⟩ := List.mem_map.1 hx
      obtain ⟨j,hj,rfl⟩ := List.mem_map.1 hy
      have h1 := (mem_keep.1 hi).1
      split at hj
      · cases hj
      · rw [List.mem_singleton.1 hj]; exact decide_eq_true (by omega)
/-- The keys that are deleted. -/
def gone (k : Nat) (l : List (Int × Int)) : List (Int × Int) := l.filter fun x => decide (x.1.tmod k = 0)
theorem gone_snoc (k : Nat) (l : List (Int × Int)) (x : Int × Int) : gone k (l ++ [x]) = gone k l ++ if x.1.tmod k = 0 then [x] else [] := by
  unfold gone
  rw [List.filter_append]
  congr 1
  by_cases h : x.1.tmod k = 0 <;> simp [h]
theorem sieve {n s k : Nat} (h : Nat.gcd n s = 1) :
    let R := Pl.runs (Pl.delk (OO [])) (Pl.puts (OO []) (stride n s n)) (gone k (stride n s n))
    R.2 = (gone k (stride n s n)).map some ∧ R.1.map (·.1) = (keep n k).map fun (i : Nat) => (i : Int) := by
  intro R
  have hd := stride_dis h n (Nat.le_refl _)
  obtain ⟨_,hm⟩ := (Pl.puts_dis (OO []) (stride n s n)).2 hd
  obtain ⟨h1,h2⟩ := runs_del (O := OO []) (Pl.puts_srt (OO []) (stride n s n)) (ks := gone k (stride n s n)) (fun x hx => (hm x).2 (List.mem_filter.1 hx).1) ((dis_nodup hd).filter _)
  refine ⟨h1,Pl.srt_ext (O := OZ) ?_ (keep_srt k n) fun z => ?_⟩
  · have hs := Pl.runs_delk_srt (OO []) (Pl.puts_srt (OO []) (stride n s n)) (gone k (stride n s n))
    refine List.pairwise_map.2 (hs.imp fun {a b} hab => ?_)
    exact hab
  · rw [List.mem_map,List.mem_map]
    have key : ∀ i : Nat,((i : Int)).tmod k = 0 ↔ i % k = 0 := fun i => by
      rw [show ((i : Int)).tmod k = ((i % k : Nat) : Int) from (Int.ofNat_tmod i k).symm]; omega
    constructor
    · rintro ⟨y,hy,rfl⟩
      obtain ⟨a,b⟩ := (h2 y).1 hy
      rw [hm] at a
      obtain ⟨i,hi,rfl⟩ := mem_stride.1 a
      refine ⟨i * s % n,mem_keep.2 ⟨Nat.mod_lt _ (by omega),fun e => b ?_⟩,rfl⟩
      exact List.mem_filter.2 ⟨a,decide_eq_true ((key _).2 e)⟩
    · rintro ⟨i,hi,rfl⟩
      obtain ⟨h3,h4⟩ := mem_keep.1 hi
      obtain ⟨j,hj,e⟩ := surj h h3
      refine ⟨((i : Int),(j : Int)),(h2 _).2 ⟨(hm _).2 (mem_stride.2 ⟨j,hj,by rw [e]⟩),fun hg => h4 ?_⟩,rfl⟩
      exact (key i).1 (of_decide_eq_true (List.mem_filter.1 hg).2)
end Sv
end Go.Bt
