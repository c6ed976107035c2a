/- Appending to a list that a function gathers, nothing or something. Conditions: none. -/
import Derived.Test.YtnlempnbagoipaaToCc
namespace Go.Bt
open Go
set_option linter.unusedVariables false
section
variable {P : Program} {B : World} {f : FuncId} {Q : Value → Mem → Prop} {n : Nat} {r : Env} {k : List Item} {H : Mem} {l : List Oper} {C : Mem → Prop} {p : List (Nat × Nat)}
variable {i kd d : Nat} {ty : TypeId} {pos : String} {af : Array Edge} {gd : Option (Nat × Bool)}
/-- A conversion to another kind of integers. -/
theorem O.cvk {src dst : TypeId} {x : Operand} {k1 : IntKind} (kk : IntKind) {z v : Int} (hi : l[i]? = some ⟨some d,.convert src dst x,ty,pos,af,gd⟩) (hg : guardOn l r gd = true) (hd : Nat.blt d n = true)
    (hs : (P.underlying src).isSome = true) (hu : P.underlying dst = some (.int (P.intKind dst))) (hk : P.intKind dst = kk) (hx : ev r x = some (.int k1 z)) (hv : kk.wrap z = v) (hC : C H)
    (h : Pl P B f Q n l C k p ((d,.int kk v) :: r) H) : Pl P B f Q n l C k ((i,2) :: p) r H :=
  Pl.loudV hi rfl hg hd (fun u H' => u = .int kk v ∧ H' = H)
    (fun a d' ha => ⟨_,H,d',by
      have hc : (convert src dst (.int k1 z)).run P (mk B H d') = .ok (.int kk v) (mk B H d') := by rw [run_convert_int _ src dst k1 z hs hu,hk,hv]
      simp [execOp,ha.eval hx,hc],rfl,rfl⟩)
    (fun u H' hu => by obtain ⟨rfl,rfl⟩ := hu; exact ⟨hC,h⟩)
theorem wrap_idU {z : Int} (h : 0 ≤ z ∧ z < 18446744073709551616) : IntKind.u64.wrap z = z := by
  have e : (2 ^ IntKind.u64.bits : Int) = 18446744073709551616 := rfl
  unfold IntKind.wrap
  simp only [IntKind.signed,Bool.false_and,Bool.false_eq_true,if_false]
  rw [e]
  exact Int.emod_eq_of_lt h.1 h.2
theorem wrap_id8 {z : Int} (h : 0 ≤ z ∧ z < 256) : IntKind.u8.wrap z = z := by
  have e : (2 ^ IntKind.u8.bits : Int) = 256 := rfl
  unfold IntKind.wrap
  simp only [IntKind.signed,Bool.false_and,Bool.false_eq_true,if_false]
  rw [e]
  exact Int.emod_eq_of_lt h.1 h.2
end
section
variable {P : Program} {B : World} {f : FuncId} {Q : Value → Mem → Prop} {n : Nat} {r : Env} {H : Mem} {σ : Type}
/-- What stands behind a piece of code,once for all its roads. -/
theorem Go'.share2 {c c2 : Item} {k : List Item} (J : σ → Mem → Prop) (q : σ → Env)
    (ht : ∀ s H',J s H' → Go' P B f Q n (q s) k H') (h : (∀ s H',J s H' → Go' P B f Q n (q s) k H') → Go' P B f Q n r (c :: c2 :: k) H) : Go' P B f Q n r (c :: c2 :: k) H := h ht
/-- A label in a scope that several roads reach: from there on once. -/
theorem Go'.joinL {l : Nat} {body X : Code} {k k2 : List Item} (_hx : gotoIn l (.inScope body :: k) = some (.code (.seq .skip X) :: k2)) (J : σ → Mem → Prop) (q : σ → Env)
    (ht : ∀ s H',J s H' → Go' P B f Q n (q s) (.code X :: k2) H') (h : (∀ s H',J s H' → Go' P B f Q n (q s) (.code X :: k2) H') → Go' P B f Q n r (.code body :: .inScope body :: k) H) : Go' P B f Q n r (.code body :: .inScope body :: k) H := h ht
end
section
variable {P : Program} {B : World} {f : FuncId} {Q : Value → Mem → Prop} {n : Nat} {r : Env} {k : List Item} {H : Mem} {l : List Oper} {C : Mem → Prop} {p : List (Nat × Nat)}
variable {i kd d : Nat} {ty : TypeId} {pos : String} {af : Array Edge} {gd : Option (Nat × Bool)}
theorem run_indexArr {t e : TypeId} {b o s len j : Nat} {kk : IntKind} (hu : P.underlying t = some (.array len e)) (hs : Sz P e s) (hj : j < len) (w : World) : (Instr.indexAt t (.pointer (some ⟨b,o,none⟩)) (.int kk (j : Int))).run P w = .ok (.pointer (some ⟨b,o + j * s,none⟩)) w := by
  have h : (0 : Int) ≤ (j : Int) ∧ (j : Int) < (len : Int) := by omega
  simp only [Instr.indexAt,asIntOf,Instr.sureAddr,Sem.run_bind,Sem.run_pure,Result.andThen_ok,run_und hu,if_pos h,hs _,Int.toNat_natCast,Addr.add_lit]
/-- The address of an element of an array. -/
theorem O.ixr {t e : TypeId} {x ix : Operand} {b o s len j : Nat} {kk : IntKind} {z : Int} (hi : l[i]? = some ⟨some d,.indexAddr t x ix,ty,pos,af,gd⟩) (hk : Nat.blt kd 2 = true) (hg : guardOn l r gd = true) (hd : Nat.blt d n = true)
    (hu : P.underlying t = some (.array len e)) (hs : Sz P e s) (hx : ev r x = some (.pointer (some ⟨b,o,none⟩))) (hix : ev r ix = some (.int kk z)) (hz : z = (j : Int)) (hj : j < len)
    (h : Pl P B f Q n l C k p ((d,.pointer (some ⟨b,o + j * s,none⟩)) :: r) H) : Pl P B f Q n l C k ((i,kd) :: p) r H :=
  Pl.quiet hi hk hg hd (fun a H' d' ha _ => by subst hz; simp [execOp,ha.eval hx,ha.eval hix,run_indexArr hu hs hj]) h
end
end Go.Bt
/- Numbers put into order: neither their order nor how often they come matters. Conditions: none. -/
namespace Go.Bt.Pl
set_option linter.unusedVariables false
end Go.Bt.Pl
/- Where an iterator stands in a tree: the way from the root,the rank of the item. Conditions: none. -/
namespace Go.Bt
open Go
set_option linter.unusedVariables false
namespace Pl
/-- How many items stand before the list i of those that lie between the items. -/
def bl {α : Type} (K : List (List α)) (i : Nat) : Nat := ((K.take i).map fun k => k.length + 1).sum
theorem bl_0 {α : Type} (K : List (List α)) : bl K 0 = 0 := by simp [bl]
theorem bl_succ {α : Type} {K : List (List α)} {i : Nat} {k : List α} (h : K[i]? = some k) : bl K (i + 1) = bl K i + k.length + 1 := by
  unfold bl
  rw [List.take_add_one,h]
  simp
  omega
theorem inter_bl {α : Type} : ∀ (X : List α) (K : List (List α)),K.length = X.length + 1 → ∀ {i : Nat} {k : List α},K[i]? = some k →
    (∀ j,j < k.length → (inter X K)[bl K i + j]? = k[j]?) ∧ bl K i + k.length ≤ (inter X K).length ∧ (i = X.length → bl K i + k.length = (inter X K).length) ∧ ∀ y,X[i]? = some y → (inter X K)[bl K i + k.length]? = some y
  | [],[k0],_,i,k,hk => by
    have hi : i = 0 := by
      rcases i with _ | i
      · rfl
      · simp at hk
    subst hi
    simp only [List.getElem?_cons_zero,Option.some.injEq] at hk
    subst hk
    simp [bl,inter]
  | x :: X,k0 :: K,h,i,k,hk => by
    have hlen : (inter (x :: X) (k0 :: K)).length = k0.length + 1 + (inter X K).length := by simp [inter]; omega
    rcases i with _ | i
    · simp only [List.getElem?_cons_zero,Option.some.injEq] at hk
      subst hk
      rw [bl_0,hlen]
      refine ⟨fun j hj => ?_,by omega,fun hh => by simp at hh,fun y hy => ?_⟩
      · rw [Nat.zero_add]; simp only [inter]; rw [List.getElem?_append_left hj]
      · simp only [List.getElem?_cons_zero,Option.some.injEq] at hy
        subst hy
        rw [Nat.zero_add]; simp only [inter]; rw [List.getElem?_append_right (Nat.le_refl _),Nat.sub_self]; rfl
    · simp only [List.getElem?_cons_succ] at hk
      obtain ⟨h1,h2,h3,h4⟩ := inter_bl X K (by simpa using h) hk
      have hb : bl (k0 :: K) (i + 1) = k0.length + 1 + bl K i := by simp [bl]
      have hget : ∀ m,(inter (x :: X) (k0 :: K))[k0.length + 1 + m]? = (inter X K)[m]? := fun m => by
        simp only [inter]
        rw [List.getElem?_append_right (by omega),show k0.length + 1 + m - k0.length = m + 1 by omega,List.getElem?_cons_succ]
      rw [hb,hlen]
      refine ⟨fun j hj => ?_,by omega,fun hh => ?_,fun y hy => ?_⟩
      · rw [Nat.add_assoc,hget]; exact h1 j hj
      · have := h3 (by simpa using hh); omega
      · rw [Nat.add_assoc,hget]; exact h4 y (by simpa using hy)
  | [],[],h,_,_,_ => by simp at h
  | [],_ :: _ :: _,h,_,_,_ => by simp at h
  | _ :: _,[],h,_,_,_ => by simp at h
end Pl
section
variable {α : Type} {E : Elt α}
/-- The nodes and places on the way from the root t0 to the subtree s,the nearest first; a items of the tree stand before s. -/
def Ctx {h0 : Nat} (t0 : Gt E h0) : List (Nat × Int) → (h : Nat) → Gt E h → Nat → Prop
  | [],h,s,a => (⟨h0,t0⟩ : (h : Nat) × Gt E h) = ⟨h,s⟩ ∧ a = 0
  | x :: fs,h,s,a => ∃ (g : Ng) (X : List α) (K : List (Gt E h)) (i a' : Nat),x = (g.p,(i : Int)) ∧ K[i]? = some s ∧ Ctx t0 fs (h + 1) (g,X,K) a' ∧ a = a' + Pl.bl (K.map (Gt.L h)) i
theorem Ctx.root {h0 : Nat} (t0 : Gt E h0) : Ctx t0 [] h0 t0 0 := ⟨rfl,rfl⟩
theorem Ctx.down {h0 h : Nat} {t0 : Gt E h0} {fs : List (Nat × Int)} {g : Ng} {X : List α} {K : List (Gt E h)} {a i : Nat} {s : Gt E h} (hc : Ctx t0 fs (h + 1) (g,X,K) a) (hi : K[i]? = some s) :
    Ctx t0 ((g.p,(i : Int)) :: fs) h s (a + Pl.bl (K.map (Gt.L h)) i) := ⟨g,X,K,i,a,rfl,hi,hc,rfl⟩
theorem Ctx.good {H : Mem} {P : Ps} {h0 : Nat} {t0 : Gt E h0} (hP : 1 ≤ P.mn) (hg : Gt.Good H P h0 t0) (hx : 1 ≤ (Gt.X h0 t0).length) : ∀ {fs : List (Nat × Int)} {h : Nat} {s : Gt E h} {a : Nat},Ctx t0 fs h s a → Gt.Good H P h s ∧ 1 ≤ (Gt.X h s).length ∧ fs.length + h = h0 ∧ ∀ b o,Gt.af h s b o → Gt.af h0 t0 b o
  | [],h,s,a,hc => by
    obtain ⟨e,_⟩ := hc
    cases e
    exact ⟨hg,hx,by simp,fun _ _ h => h⟩
  | x :: fs,h,s,a,hc => by
    obtain ⟨g,X,K,i,a',_,hi,hc',_⟩ := hc
    obtain ⟨h1,_,h3,h4⟩ := Ctx.good hP hg hx hc'
    have hk : s ∈ K := List.mem_of_getElem? hi
    have h5 := h1.kids.1 s hk
    exact ⟨h5.1,Nat.le_trans hP h5.2.1,by rw [List.length_cons]; omega,fun b o hb => h4 b o (.inr (.inr ⟨s,hk,hb⟩))⟩
/-- What the list of the tree has where the subtree stands. -/
theorem Ctx.list {H : Mem} {P : Ps} {h0 : Nat} {t0 : Gt E h0} (hP : 1 ≤ P.mn) (hg : Gt.Good H P h0 t0) (hx : 1 ≤ (Gt.X h0 t0).length) : ∀ {fs : List (Nat × Int)} {h : Nat} {s : Gt E h} {a : Nat},Ctx t0 fs h s a → (∀ j,j < (Gt.L h s).length → (Gt.L h0 t0)[a + j]? = (Gt.L h s)[j]?) ∧ a + (Gt.L h s).length ≤ (Gt.L h0 t0).length
  | [],h,s,a,hc => by
    obtain ⟨e,rfl⟩ := hc
    cases e
    exact ⟨fun j _ => by rw [Nat.zero_add],by omega⟩
  | x :: fs,h,s,a,hc => by
    obtain ⟨g,X,K,i,a',_,hi,hc',rfl⟩ := hc
    obtain ⟨h1,h2⟩ := Ctx.list hP hg hx hc'
    have hgd := (Ctx.good hP hg hx hc').1
    have hKl : (K.map (Gt.L h)).length = X.length + 1 := by rw [List.length_map]; exact hgd.2.2.2.2.2.1
    have hi' : (K.map (Gt.L h))[i]? = some (Gt.L h s) := by rw [List.getElem?_map,hi]; rfl
    obtain ⟨b1,b2,_,_⟩ := Pl.inter_bl X (K.map (Gt.L h)) hKl hi'
    have e : Gt.L (h + 1) ((g,X,K) : Gt E (h + 1)) = Pl.inter X (K.map (Gt.L h)) := rfl
    rw [e] at h1 h2
    refine ⟨fun j hj => ?_,by omega⟩
    rw [Nat.add_assoc,h1 _ (by omega)]
    exact b1 j hj
theorem Ctx.xl {H : Mem} {P : Ps} {h0 : Nat} {t0 : Gt E h0} (hP : 1 ≤ P.mn) (hg : Gt.Good H P h0 t0) (hx : 1 ≤ (Gt.X h0 t0).length) {fs : List (Nat × Int)} : ∀ {h : Nat} {s : Gt E h} {a : Nat},Ctx t0 fs h s a → (Gt.X h s).length ≤ (Gt.L h0 t0).length
  | 0,s,a,hc => by
    have h1 := (Ctx.list hP hg hx hc).2
    have e : (Gt.L 0 s).length = (Gt.X 0 s).length := rfl
    omega
  | h + 1,(g,X,K),a,hc => by
    have h1 := (Ctx.list hP hg hx hc).2
    have hgd := (Ctx.good hP hg hx hc).1
    have hKL : K.length = X.length + 1 := hgd.2.2.2.2.2.1
    have h2 := (Pl.sublist_inter X (K.map (Gt.L h)) (by rw [List.length_map]; omega)).length_le
    have e : (Gt.L (h + 1) ((g,X,K) : Gt E (h + 1))).length = (Pl.inter X (K.map (Gt.L h))).length := rfl
    show X.length ≤ _
    omega
theorem Gt.high {H : Mem} {P : Ps} (hP : 1 ≤ P.mn) : ∀ {h : Nat} {t : Gt E h},Gt.Good H P h t → 1 ≤ (Gt.X h t).length → h + 1 ≤ (Gt.L h t).length
  | 0,_,_,hx => hx
  | h + 1,(g,X,K),hg,hx => by
    have hKl : K.length = X.length + 1 := hg.2.2.2.2.2.1
    obtain ⟨k,hk⟩ : ∃ k,K[0]? = some k := ⟨K[0],List.getElem?_eq_getElem (by omega)⟩
    have hm : k ∈ K := List.mem_of_getElem? hk
    have h1 := hg.kids.1 k hm
    have h2 := Gt.high hP h1.1 (Nat.le_trans hP h1.2.1)
    have hk' : (K.map (Gt.L h))[0]? = some (Gt.L h k) := by rw [List.getElem?_map,hk]; rfl
    have hx0 : 1 ≤ X.length := hx
    obtain ⟨y,hy⟩ : ∃ y,X[0]? = some y := ⟨X[0],List.getElem?_eq_getElem hx0⟩
    obtain ⟨_,_,_,b4⟩ := Pl.inter_bl X (K.map (Gt.L h)) (by rw [List.length_map]; exact hKl) hk'
    have h3 := (List.getElem?_eq_some_iff.1 (b4 y hy)).1
    rw [Pl.bl_0] at h3
    show h + 1 + 1 ≤ (Pl.inter X (K.map (Gt.L h))).length
    omega
theorem Ctx.item0 {H : Mem} {P : Ps} {h0 : Nat} {t0 : Gt E h0} (hP : 1 ≤ P.mn) (hg : Gt.Good H P h0 t0) (hx : 1 ≤ (Gt.X h0 t0).length) {fs : List (Nat × Int)} {g : Ng} {X : List α} {a i : Nat} {y : α} (hc : Ctx t0 fs 0 ((g,X) : Gt E 0) a) (hy : X[i]? = some y) : (Gt.L h0 t0)[a + i]? = some y :=
  ((Ctx.list hP hg hx hc).1 i (List.getElem?_eq_some_iff.1 hy).1).trans hy
theorem Ctx.item1 {H : Mem} {P : Ps} {h0 h : Nat} {t0 : Gt E h0} (hP : 1 ≤ P.mn) (hg : Gt.Good H P h0 t0) (hx : 1 ≤ (Gt.X h0 t0).length) {fs : List (Nat × Int)} {g : Ng} {X : List α} {K : List (Gt E h)} {a i : Nat} {y : α} {k : List α} (hc : Ctx t0 fs (h + 1) ((g,X,K) : Gt E (h + 1)) a) (hk : (K.map (Gt.L h))[i]? = some k) (hy : X[i]? = some y) :
    (Gt.L h0 t0)[a + (Pl.bl (K.map (Gt.L h)) i + k.length)]? = some y := by
  have hgd := (Ctx.good hP hg hx hc).1
  have hKl : (K.map (Gt.L h)).length = X.length + 1 := by rw [List.length_map]; exact hgd.2.2.2.2.2.1
  have hb := (Pl.inter_bl X (K.map (Gt.L h)) hKl hk).2.2.2 y hy
  exact ((Ctx.list hP hg hx hc).1 _ (List.getElem?_eq_some_iff.1 hb).1).trans hb
/-- The iterator stands at the item of rank q. -/
def Stand {h0 : Nat} (t0 : Gt E h0) (fr : List (Nat × Int)) (q : Nat) : Prop :=
  (∃ (fs : List (Nat × Int)) (g : Ng) (X : List α) (a i : Nat),fr = (g.p,(i : Int)) :: fs ∧ Ctx t0 fs 0 ((g,X) : Gt E 0) a ∧ i < X.length ∧ q = a + i) ∨
  ∃ (fs : List (Nat × Int)) (h : Nat) (g : Ng) (X : List α) (K : List (Gt E h)) (a i : Nat),fr = (g.p,(i : Int)) :: fs ∧ Ctx t0 fs (h + 1) ((g,X,K) : Gt E (h + 1)) a ∧ i < X.length ∧ q + 1 = a + Pl.bl (K.map (Gt.L h)) (i + 1)
/-- It is to be moved on,to the rank q. -/
def Gap {h0 : Nat} (t0 : Gt E h0) (fr : List (Nat × Int)) (q : Nat) : Prop :=
  (∃ (fs : List (Nat × Int)) (g : Ng) (X : List α) (a i : Nat),fr = (g.p,(i : Int) - 1) :: fs ∧ Ctx t0 fs 0 ((g,X) : Gt E 0) a ∧ i ≤ X.length ∧ q = a + i) ∨
  ∃ (fs : List (Nat × Int)) (h : Nat) (g : Ng) (X : List α) (K : List (Gt E h)) (a i : Nat),fr = (g.p,(i : Int)) :: fs ∧ Ctx t0 fs (h + 1) ((g,X,K) : Gt E (h + 1)) a ∧ i < X.length ∧ q = a + Pl.bl (K.map (Gt.L h)) (i + 1)
theorem Stand.gap {h0 : Nat} {t0 : Gt E h0} {fr : List (Nat × Int)} {q : Nat} (h : Stand t0 fr q) : Gap t0 fr (q + 1) := by
  rcases h with ⟨fs,g,X,a,i,e,hc,hi,hq⟩ | ⟨fs,h,g,X,K,a,i,e,hc,hi,hq⟩
  · exact .inl ⟨fs,g,X,a,i + 1,by rw [e]; congr 2; omega,hc,hi,by omega⟩
  · exact .inr ⟨fs,h,g,X,K,a,i,e,hc,hi,hq⟩
/-- The item at which it stands: in which node it is. -/
theorem Stand.item {H : Mem} {P : Ps} {h0 : Nat} {t0 : Gt E h0} {fr : List (Nat × Int)} {q : Nat} (hP : 1 ≤ P.mn) (hg : Gt.Good H P h0 t0) (hx : 1 ≤ (Gt.X h0 t0).length) (h : Stand t0 fr q) :
    ∃ (fs : List (Nat × Int)) (g : Ng) (X : List α) (kp : Value) (i : Nat) (y : α),fr = (g.p,(i : Int)) :: fs ∧ NodeM E H g X kp ∧ i < X.length ∧ X[i]? = some y ∧ (Gt.L h0 t0)[q]? = some y ∧ fs.length ≤ h0 := by
  rcases h with ⟨fs,g,X,a,i,e,hc,hi,hq⟩ | ⟨fs,h,g,X,K,a,i,e,hc,hi,hq⟩
  · have hgd := (Ctx.good hP hg hx hc).1
    have hl := (Ctx.list hP hg hx hc).1 i hi
    have hy : X[i]? = some X[i] := List.getElem?_eq_getElem hi
    exact ⟨fs,g,X,_,i,X[i],e,hgd.1,hi,hy,by rw [hq,hl]; exact hy,by have := (Ctx.good hP hg hx hc).2.2.1; omega⟩
  · have hgd := (Ctx.good hP hg hx hc).1
    have hKl : K.length = X.length + 1 := hgd.2.2.2.2.2.1
    obtain ⟨k,hk⟩ : ∃ k,K[i]? = some k := ⟨K[i],List.getElem?_eq_getElem (by omega)⟩
    have hk' : (K.map (Gt.L h))[i]? = some (Gt.L h k) := by rw [List.getElem?_map,hk]; rfl
    have hy : X[i]? = some X[i] := List.getElem?_eq_getElem hi
    obtain ⟨_,_,_,b4⟩ := Pl.inter_bl X (K.map (Gt.L h)) (by rw [List.length_map]; exact hKl) hk'
    have hb := b4 _ hy
    have hl := (Ctx.list hP hg hx hc).1 (Pl.bl (K.map (Gt.L h)) i + (Gt.L h k).length) (List.getElem?_eq_some_iff.1 hb).1
    rw [Pl.bl_succ hk'] at hq
    exact ⟨fs,g,X,_,i,X[i],e,hgd.1,hi,hy,by rw [show q = a + (Pl.bl (K.map (Gt.L h)) i + (Gt.L h k).length) by omega,hl]; exact hb,by have := (Ctx.good hP hg hx hc).2.2.1; omega⟩
/-- The stack,as it lies in memory. -/
def EK : Elt (Nat × Int) := { enc := fun x => [.pointer (some ⟨x.1,0,none⟩),.int .i64 x.2],s := 2,len := fun _ => rfl,one := fun _ => rfl,pos := by decide }
theorem Acc.form {β : Type} {F : Elt β} {Z : Nat → Prop} {H : Mem} {v : Value} {l : List β} (h : Acc F Z H v l) : ∃ a m c,v = .slice a m c := by
  rcases h with ⟨e,_⟩ | ⟨b,o,c,e,_⟩
  · exact ⟨_,_,_,e⟩
  · exact ⟨_,_,_,e⟩
theorem Acc.take {β : Type} {F : Elt β} {Z : Nat → Prop} {H : Mem} {b o c i : Nat} {l : List β} (h : SlE F H b o c l) (hz : Z b) (hb : b < H.size) (hi : i ≤ l.length) : Acc F Z H (.slice (some ⟨b,o,none⟩) i c) (l.take i) :=
  .inr ⟨b,o,c,by rw [List.length_take,Nat.min_eq_left hi],hz,hb,h.take i⟩
end
end Go.Bt
namespace Go.Bt
open Go
set_option linter.unusedVariables false
section
variable {α : Type} {E : Elt α} {H0 H H' : Mem} {it tr : Nat} {mt sk as ae : Bool} {Z0 Z : Nat → Prop} {fr fs : List (Nat × Int)} {kv : α} {p : Nat} {z : Int}
/-- An iterator in memory: since H0 no cell was changed but its own and those of Z0. -/
structure Itr (E : Elt α) (H0 H : Mem) (it tr : Nat) (mt : Bool) (Z0 : Nat → Prop) (sk as ae : Bool) (Z : Nat → Prop) (fr : List (Nat × Int)) (kv : α) : Prop where
  c0 : cl H it 0 = some (.pointer (some ⟨tr,0,none⟩))
  c1 : cl H it 1 = some (.bool mt)
  c2 : cl H it 2 = some (.bool sk)
  c3 : cl H it 3 = some (.bool as)
  c4 : cl H it 4 = some (.bool ae)
  st : ∃ sv,cl H it 5 = some sv ∧ Acc EK Z H sv fr.reverse
  kv : Rd H it 6 (E.enc kv)
  wr : Wr H it 0 (6 + E.s)
  nz : ¬ Z it
  f : Fr (fun b _ => b = it ∨ Z0 b) H0 H
  zz : ∀ b,Z b → Z0 b ∨ H0.size ≤ b
theorem Itr.re (h : Itr E H0 H it tr mt Z0 sk as ae Z fr kv) : Itr E H H it tr mt Z sk as ae Z fr kv := { h with f := Fr.refl _ _,zz := fun _ hb => .inl hb }
theorem Itr.w (h : Itr E H0 H it tr mt Z0 sk as ae Z fr kv) (i : Nat) (hi : i < 6) : Wr H it i 1 := h.wr.at0 i 1 (by omega)
theorem Itr.wk (h : Itr E H0 H it tr mt Z0 sk as ae Z fr kv) : Wr H it 6 E.s := h.wr.at0 6 E.s (Nat.le_refl _)
theorem Itr.fit (h : Itr E H0 H it tr mt Z0 sk as ae Z fr kv) {o : Nat} {vs : List Value} (W : Wrote H H' it o vs) : Fr (fun b _ => b = it ∨ Z0 b) H0 H' :=
  h.f.trans' W.fr (fun _ _ _ h => h) fun b o _ hz => .inl hz.1
theorem Itr.acc1 (h : Itr E H0 H it tr mt Z0 sk as ae Z fr kv) {o : Nat} {vs : List Value} (W : Wrote H H' it o vs) {sv : Value} {l : List (Nat × Int)} (hA : Acc EK Z H sv l) : Acc EK Z H' sv l :=
  hA.fr W.fr fun b o _ hb hz => h.nz (by have e : b = it := hz.1; rw [e] at hb; exact hb)
theorem Itr.kv1 (h : Itr E H0 H it tr mt Z0 sk as ae Z fr kv) {o : Nat} {v : Value} (W : Wrote H H' it o [v]) (ho : o < 6) : Rd H' it 6 (E.enc kv) :=
  W.fr.rd h.kv fun i _ hz => by have := hz.2.2; simp only [List.length_singleton] at this; omega
theorem Itr.set2 (h : Itr E H0 H it tr mt Z0 sk as ae Z fr kv) {v : Bool} (W : Wrote H H' it 2 [.bool v]) : Itr E H0 H' it tr mt Z0 v as ae Z fr kv where
  c0 := W.keep1 h.c0 (.inr (by decide))
  c1 := W.keep1 h.c1 (.inr (by decide))
  c2 := W.at
  c3 := W.keep1 h.c3 (.inr (by decide))
  c4 := W.keep1 h.c4 (.inr (by decide))
  st := have ⟨sv,h1,h2⟩ := h.st; ⟨sv,W.keep1 h1 (.inr (by decide)),h.acc1 W h2⟩
  kv := h.kv1 W (by decide)
  wr := W.fr.wr h.wr
  nz := h.nz
  f := h.fit W
  zz := h.zz
theorem Itr.set3 (h : Itr E H0 H it tr mt Z0 sk as ae Z fr kv) {v : Bool} (W : Wrote H H' it 3 [.bool v]) : Itr E H0 H' it tr mt Z0 sk v ae Z fr kv where
  c0 := W.keep1 h.c0 (.inr (by decide))
  c1 := W.keep1 h.c1 (.inr (by decide))
  c2 := W.keep1 h.c2 (.inr (by decide))
  c3 := W.at
  c4 := W.keep1 h.c4 (.inr (by decide))
  st := have ⟨sv,h1,h2⟩ := h.st; ⟨sv,W.keep1 h1 (.inr (by decide)),h.acc1 W h2⟩
  kv := h.kv1 W (by decide)
  wr := W.fr.wr h.wr
  nz := h.nz
  f := h.fit W
  zz := h.zz
theorem Itr.set4 (h : Itr E H0 H it tr mt Z0 sk as ae Z fr kv) {v : Bool} (W : Wrote H H' it 4 [.bool v]) : Itr E H0 H' it tr mt Z0 sk as v Z fr kv where
  c0 := W.keep1 h.c0 (.inr (by decide))
  c1 := W.keep1 h.c1 (.inr (by decide))
  c2 := W.keep1 h.c2 (.inr (by decide))
  c3 := W.keep1 h.c3 (.inr (by decide))
  c4 := W.at
  st := have ⟨sv,h1,h2⟩ := h.st; ⟨sv,W.keep1 h1 (.inr (by decide)),h.acc1 W h2⟩
  kv := h.kv1 W (by decide)
  wr := W.fr.wr h.wr
  nz := h.nz
  f := h.fit W
  zz := h.zz
theorem Itr.set5 (h : Itr E H0 H it tr mt Z0 sk as ae Z fr kv) {sv : Value} {fr' : List (Nat × Int)} (hA : Acc EK Z H sv fr'.reverse) (W : Wrote H H' it 5 [sv]) : Itr E H0 H' it tr mt Z0 sk as ae Z fr' kv where
  c0 := W.keep1 h.c0 (.inr (by decide))
  c1 := W.keep1 h.c1 (.inr (by decide))
  c2 := W.keep1 h.c2 (.inr (by decide))
  c3 := W.keep1 h.c3 (.inr (by decide))
  c4 := W.keep1 h.c4 (.inr (by decide))
  st := ⟨sv,W.at,h.acc1 W hA⟩
  kv := h.kv1 W (by decide)
  wr := W.fr.wr h.wr
  nz := h.nz
  f := h.fit W
  zz := h.zz
theorem Itr.set6 (h : Itr E H0 H it tr mt Z0 sk as ae Z fr kv) {x : α} (W : Wrote H H' it 6 (E.enc x)) : Itr E H0 H' it tr mt Z0 sk as ae Z fr x :=
  have hk : ∀ {o : Nat} {v : Value},o < 6 → cl H it o = some v → cl H' it o = some v := fun ho hc => W.fr.keep hc fun hz => by have := hz.2.1; omega
  { c0 := hk (by decide) h.c0,c1 := hk (by decide) h.c1,c2 := hk (by decide) h.c2,c3 := hk (by decide) h.c3,c4 := hk (by decide) h.c4
    st := have ⟨sv,h1,h2⟩ := h.st; ⟨sv,hk (by decide) h1,h.acc1 W h2⟩
    kv := W.all,wr := W.fr.wr h.wr,nz := h.nz,f := h.fit W,zz := h.zz }
/-- Another stack,which was made beside it. -/
theorem Itr.push' (h : Itr E H0 H it tr mt Z0 sk as ae Z fr kv) {H4 H5 : Mem} {Y : Nat → Prop} {fr' : List (Nat × Int)} {v4 : Value} (hf : Fr (fun b _ => Z b) H H4) (hA4 : Acc EK Y H4 v4 fr'.reverse) (hY : ∀ b,Y b → Z b ∨ H.size ≤ b) (W : Wrote H4 H5 it 5 [v4]) :
    Itr E H0 H5 it tr mt Z0 sk as ae Y fr' kv :=
  have hn : ¬ Z it := h.nz
  have hl : it < H.size := cl_lt h.c0
  have hny : ¬ Y it := fun hz => (hY _ hz).elim h.nz (fun h => by omega)
  have hk : ∀ {o : Nat} {v : Value},o ≠ 5 → cl H it o = some v → cl H5 it o = some v := fun ho hc => W.keep1 (hf.keep hc hn) (.inr ho)
  { c0 := hk (by decide) h.c0,c1 := hk (by decide) h.c1,c2 := hk (by decide) h.c2,c3 := hk (by decide) h.c3,c4 := hk (by decide) h.c4
    st := ⟨v4,W.at,hA4.fr W.fr fun b o _ hb hz => hny (by have e : b = it := hz.1; rw [e] at hb; exact hb)⟩
    kv := W.fr.rd (hf.rd h.kv fun _ _ => hn) fun i _ hz => by have := hz.2.2; simp only [List.length_singleton] at this; omega
    wr := W.fr.wr (hf.wr h.wr)
    nz := hny
    f := (h.f.trans' hf (fun _ _ _ h => h) fun b o hb hz => (h.zz b hz).elim .inr (fun h => by omega)).trans' W.fr (fun _ _ _ h => h) fun b o _ hz => .inl hz.1
    zz := fun b hb => (hY b hb).elim (h.zz b) fun hge => .inr (by have := h.f.size; omega) }
/-- A place is put on the stack. -/
theorem Itr.push (h : Itr E H0 H it tr mt Z0 sk as ae Z fr kv) {H3 H4 H5 : Mem} {v4 : Value} {x : Nat × Int} (hm : Fr nowhere H H3) (hF4 : Fr (fun b _ => Z b) H3 H4) (hA4 : Acc EK (fun b => Z b ∨ (b = H3.size ∧ b < H4.size)) H4 v4 (fr.reverse ++ [x])) (W : Wrote H4 H5 it 5 [v4]) :
    Itr E H0 H5 it tr mt Z0 sk as ae (fun b => Z b ∨ (b = H3.size ∧ b < H4.size)) (x :: fr) kv := by
  have hs3 := hm.size
  exact h.push' (hm.trans' hF4 (fun _ _ _ h => h.elim) (fun _ _ _ h => h)) (by rw [List.reverse_cons]; exact hA4) (fun b hb => hb.elim .inl (fun h => .inr (by omega))) W
/-- The place on top of the stack. -/
structure TopC (H : Mem) (it b o c p : Nat) (z : Int) (n : Nat) : Prop where
  c5 : cl H it 5 = some (.slice (some ⟨b,o,none⟩) (n + 1) c)
  cp : cl H b (o + n * 2) = some (.pointer (some ⟨p,0,none⟩))
  ci : cl H b (o + n * 2 + 1) = some (.int .i64 z)
  wi : Wr H b (o + n * 2 + 1) 1
  le : n + 1 ≤ c
theorem Itr.stk (h : Itr E H0 H it tr mt Z0 sk as ae Z ((p,z) :: fs) kv) : ∃ b o c,cl H it 5 = some (.slice (some ⟨b,o,none⟩) (fs.length + 1) c) ∧ Z b ∧ b < H.size ∧ SlE EK H b o c (fs.reverse ++ [(p,z)]) := by
  obtain ⟨sv,h1,h2⟩ := h.st
  rw [List.reverse_cons] at h2
  rcases h2 with ⟨_,e⟩ | ⟨b,o,c,rfl,hz,hb,hs⟩
  · simp at e
  · rw [List.length_append,List.length_reverse,List.length_singleton] at h1
    exact ⟨b,o,c,h1,hz,hb,hs⟩
theorem TopC.of {b o c : Nat} (h1 : cl H it 5 = some (.slice (some ⟨b,o,none⟩) (fs.length + 1) c)) (hs : SlE EK H b o c (fs.reverse ++ [(p,z)])) : TopC H it b o c p z fs.length := by
  have hl : (fs.reverse ++ [(p,z)]).length = fs.length + 1 := by rw [List.length_append,List.length_reverse,List.length_singleton]
  have hx : (fs.reverse ++ [(p,z)])[fs.length]? = some (p,z) := by rw [List.getElem?_append_right (by rw [List.length_reverse]; exact Nat.le_refl _),List.length_reverse,Nat.sub_self]; rfl
  exact ⟨h1,hs.cell hx (j := 0) rfl,hs.cell hx (j := 1) rfl,by
    have := (hs.wri (i := fs.length) (by omega)).part 1 1 (by decide)
    exact this,by have := hs.hle; omega⟩
theorem Itr.top (h : Itr E H0 H it tr mt Z0 sk as ae Z ((p,z) :: fs) kv) : ∃ b o c,TopC H it b o c p z fs.length := by
  obtain ⟨b,o,c,h1,_,_,hs⟩ := h.stk
  exact ⟨b,o,c,TopC.of h1 hs⟩
/-- The place on top is changed. -/
theorem Itr.sti (h : Itr E H0 H it tr mt Z0 sk as ae Z ((p,z) :: fs) kv) {b o c : Nat} {z' : Int} (t : TopC H it b o c p z fs.length) (W : Wrote H H' b (o + fs.length * 2 + 1) [.int .i64 z']) :
    Itr E H0 H' it tr mt Z0 sk as ae Z ((p,z') :: fs) kv ∧ TopC H' it b o c p z' fs.length := by
  obtain ⟨b1,o1,c1,h1,hz,hb,hs⟩ := h.stk
  have e := h1.symm.trans t.c5
  simp only [Option.some.injEq,Value.slice.injEq,Addr.mk.injEq] at e
  obtain ⟨⟨rfl,rfl,_⟩,_,rfl⟩ := e
  have hne : it ≠ b1 := fun e => h.nz (by rw [e]; exact hz)
  have hl : (fs.reverse ++ [(p,z)]).length = fs.length + 1 := by rw [List.length_append,List.length_reverse,List.length_singleton]
  have W' : Wrote H H' b1 (o1 + fs.length * EK.s) (EK.enc (p,z')) := by
    refine ⟨W.fr.mono fun b o _ hh => ?_,W.size,fun i v hv => ?_⟩
    · have h1 := hh.1
      have h2 := hh.2.1
      have h3 := hh.2.2
      simp only [List.length_singleton] at h3
      refine ⟨h1,by show o1 + fs.length * 2 ≤ o; omega,by show o < o1 + fs.length * 2 + 2; omega⟩
    · have hx : (fs.reverse ++ [(p,z)])[fs.length]? = some (p,z) := by rw [List.getElem?_append_right (by rw [List.length_reverse]; exact Nat.le_refl _),List.length_reverse,Nat.sub_self]; rfl
      match i,hv with
      | 0,hv =>
        simp only [EK,List.getElem?_cons_zero,Option.some.injEq] at hv
        subst hv
        exact W.keep1 (hs.cell hx (j := 0) rfl) (.inr (by show o1 + fs.length * 2 + 0 ≠ _; omega))
      | 1,hv =>
        simp only [EK,List.getElem?_cons_succ,List.getElem?_cons_zero,Option.some.injEq] at hv
        subst hv
        exact W.at
      | i + 2,hv => simp [EK] at hv
  have hs' := hs.set W' (by omega)
  rw [show (fs.reverse ++ [(p,z)]).take fs.length ++ (p,z') :: (fs.reverse ++ [(p,z)]).drop (fs.length + 1) = fs.reverse ++ [(p,z')] by
    rw [List.take_append_of_le_length (by rw [List.length_reverse]; exact Nat.le_refl _),List.take_of_length_le (by rw [List.length_reverse]; exact Nat.le_refl _),List.drop_of_length_le (by omega)]] at hs'
  have hk : ∀ {o : Nat} {v : Value},cl H it o = some v → cl H' it o = some v := fun hc => W.keep1 hc (.inl hne)
  refine ⟨{ c0 := hk h.c0,c1 := hk h.c1,c2 := hk h.c2,c3 := hk h.c3,c4 := hk h.c4,st := ?_,kv := W.fr.rd h.kv fun _ _ hz => hne hz.1,wr := W.fr.wr h.wr,nz := h.nz
            f := h.f.trans' W.fr (fun _ _ _ h => h) fun b o hb hh => ?_,zz := h.zz },TopC.of (hk h1) hs'⟩
  · exact ⟨_,hk h1,.inr ⟨b1,o1,c1,by rw [List.length_reverse]; rfl,hz,by rw [W.size]; exact hb,by rw [List.reverse_cons]; exact hs'⟩⟩
  · have e : b = b1 := hh.1
    rw [e] at hb ⊢
    exact (h.zz b1 hz).elim .inr (fun h => by omega)
/-- The place on top is taken away. -/
theorem Itr.pop (h : Itr E H0 H it tr mt Z0 sk as ae Z ((p,z) :: fs) kv) {b o c : Nat} (t : TopC H it b o c p z fs.length) (W : Wrote H H' it 5 [.slice (some ⟨b,o,none⟩) fs.length c]) :
    Itr E H0 H' it tr mt Z0 sk as ae Z fs kv := by
  obtain ⟨b1,o1,c1,h1,hz,hb,hs⟩ := h.stk
  have e := h1.symm.trans t.c5
  simp only [Option.some.injEq,Value.slice.injEq,Addr.mk.injEq] at e
  obtain ⟨⟨rfl,rfl,_⟩,_,rfl⟩ := e
  refine h.set5 ?_ W
  have := Acc.take (Z := Z) (i := fs.length) hs hz hb (by rw [List.length_append,List.length_reverse]; omega)
  rwa [List.take_append_of_le_length (by rw [List.length_reverse]; exact Nat.le_refl _),List.take_of_length_le (by rw [List.length_reverse]; exact Nat.le_refl _)] at this
/-- The stack is emptied. -/
theorem Itr.empty (h : Itr E H0 H it tr mt Z0 sk as ae Z fr kv) {a : Option Addr} {m c : Nat} (hc : cl H it 5 = some (.slice a m c)) : ∀ {a' : Option Addr},(a = none → a' = none) → (∀ b o,a = some ⟨b,o,none⟩ → ∃ o',a' = some ⟨b,o',none⟩ ∧ (0 < c → o' = o)) → Acc EK Z H (.slice a' 0 c) ([] : List (Nat × Int)) := by
  intro a' h0 h1
  obtain ⟨sv,e1,e2⟩ := h.st
  have e := e1.symm.trans hc
  simp only [Option.some.injEq] at e
  subst e
  rcases e2 with ⟨e,_⟩ | ⟨b,o,c',e,hz,hb,hs⟩
  · simp only [Value.slice.injEq] at e
    obtain ⟨rfl,rfl,rfl⟩ := e
    rw [h0 rfl]
    exact Acc.nil _ _ _
  · simp only [Value.slice.injEq] at e
    obtain ⟨rfl,rfl,rfl⟩ := e
    obtain ⟨o',rfl,ho⟩ := h1 b o rfl
    refine .inr ⟨b,o',c,rfl,hz,hb,rfl,Nat.zero_le _,Rd.nil _ _ _,fun i hi => ?_⟩
    have hc0 : 0 < c := by
      rcases Nat.eq_zero_or_pos c with e | e
      · subst e; simp at hi
      · exact e
    rw [ho hc0]
    exact hs.wr i hi
/-- Where the iterator stands. -/
def StI (r : Option ((h : Nat) × Gt E h)) (l : List α) (sk : Bool) (fr : List (Nat × Int)) (kv : α) : Option Nat → Prop
  | none => fr = []
  | some q => sk = true ∧ l[q]? = some kv ∧ ∃ h t,r = some ⟨h,t⟩ ∧ Stand t fr q
/-- The tree that is visited. -/
structure TreeR (H : Mem) (tr : Nat) (P : Ps) (S : Nat → Prop) (l : List α) (r : Option ((h : Nat) × Gt E h)) : Prop where
  iso : cl H tr 0 = some (.int .u64 (P.iso : Int))
  own : S tr
  lt : ∀ b,S b → b < H.size
  ll : l.length ≤ 4294967296
  mn : 1 ≤ P.mn
  rt : match r with
    | none => l = [] ∧ cl H tr 2 = some (.pointer none)
    | some ⟨h,t⟩ => Gt.Good H P h t ∧ 1 ≤ (Gt.X h t).length ∧ Gt.L h t = l ∧ cl H tr 2 = some (ptr (Gt.p h t)) ∧ ∀ b o,Gt.af h t b o → S b
theorem TreeR.keep {P : Ps} {S : Nat → Prop} {l : List α} {r : Option ((h : Nat) × Gt E h)} (h : TreeR H tr P S l r) {X : Nat → Nat → Prop} (hf : Fr X H H') (hx : ∀ b o,S b → ¬ X b o) : TreeR H' tr P S l r where
  iso := hf.keep h.iso (hx _ _ h.own)
  own := h.own
  lt := fun b hb => Nat.lt_of_lt_of_le (h.lt b hb) hf.size
  ll := h.ll
  mn := h.mn
  rt := by
    have h1 := h.rt
    cases r with
    | none => exact ⟨h1.1,hf.keep h1.2 (hx _ _ h.own)⟩
    | some s =>
      obtain ⟨hh,t⟩ := s
      obtain ⟨h2,h3,h4,h5,h6⟩ := h1
      exact ⟨h2.fr hf fun b o hb => hx b o (h6 b o hb),h3,h4,hf.keep h5 (hx _ _ h.own),h6⟩
/-- What a move of the iterator leaves. -/
def ItPost (E : Elt α) (H H' : Mem) (it tr : Nat) (mt : Bool) (Z0 : Nat → Prop) (r : Option ((h : Nat) × Gt E h)) (l : List α) (st : Option Nat) : Prop :=
  ∃ sk as ae Z fr kv,Itr E H H' it tr mt Z0 sk as ae Z fr kv ∧ StI r l sk fr kv st
theorem ItPost.trans {H1 H3 : Mem} {P : Ps} {S : Nat → Prop} {Z2 : Nat → Prop} {r : Option ((h : Nat) × Gt E h)} {l : List α} {sk' as' ae' : Bool} {kv' : α} {fr' : List (Nat × Int)} {q : Option Nat} (h : Itr E H H1 it tr mt Z sk' as' ae' Z2 fr' kv') (hp : ItPost E H1 H3 it tr mt Z2 r l q) : ItPost E H H3 it tr mt Z r l q := by
  obtain ⟨sk,as,ae,Z3,fr,kv,hI,hS⟩ := hp
  have hs1 := h.f.size
  exact ⟨sk,as,ae,Z3,fr,kv,{ hI with
    f := h.f.trans' hI.f (fun _ _ _ h => h) fun b o hb hz => hz.elim .inl fun hz => (h.zz b hz).elim .inr fun hge => by omega
    zz := fun b hb => (hI.zz b hb).elim (h.zz b) fun hge => .inr (by omega) },hS⟩
end
end Go.Bt
namespace Go.Bt
open Go
set_option linter.unusedVariables false
namespace Pl
theorem pre_bl {α : Type} : ∀ (X : List α) (K : List (List α)) (i : Nat),i ≤ X.length → i ≤ K.length → (pre (X.take i) (K.take i)).length = bl K i
  | X,K,0,_,_ => by simp [pre,bl]
  | x :: X,k :: K,i + 1,h1,h2 => by
    have := pre_bl X K i (by simpa using h1) (by simpa using h2)
    simp only [List.take_succ_cons,pre,List.length_append,List.length_cons,this]
    simp [bl]
    omega
  | [],_,i + 1,h,_ => by simp at h
  | _ :: _,[],i + 1,_,h => by simp at h
theorem inter_rank_found {α : Type} {O : Swo α} {x : α} {X : List α} {K : List (List α)} (hs : Srt O (inter X K)) (hl : K.length = X.length + 1) (h : fnd O x X = true) {k : List α} (hk : K[pos O x X]? = some k) :
    pos O x (inter X K) = bl K (pos O x X) + k.length := by
  have hlt := fnd_pos_lt O h
  obtain ⟨y,hy,h1,h2⟩ := fnd_at O (hs.sublist (sublist_inter X K (by omega))) h
  exact (search_found O hs ((inter_bl X K hl hk).2.2.2 y hy) h1 h2).1
theorem inter_rank_child {α : Type} {O : Swo α} {x : α} {X : List α} {K : List (List α)} (hs : Srt O (inter X K)) (hl : K.length = X.length + 1) (h : fnd O x X = false) {k : List α} (hk : K[pos O x X]? = some k) :
    pos O x (inter X K) = bl K (pos O x X) + pos O x k := by
  obtain ⟨he,ha,hc,_⟩ := inter_child O hs hl h hk
  have hp := pos_le O x X
  rw [he,pos_mid O ha hc,pre_bl X K _ hp (by omega)]
end Pl
section
variable {P : Program} {B : World} {f : FuncId} {Q : Value → Mem → Prop} {n : Nat} {r : Env} {k : List Item} {H : Mem} {l : List Oper} {C : Mem → Prop} {p : List (Nat × Nat)}
variable {i kd d : Nat} {ty : TypeId} {pos : String} {af : Array Edge} {gd : Option (Nat × Bool)}
theorem O.slcNil {t e : TypeId} {x : Operand} {hi' : Option Operand} {s : Nat} (hi : l[i]? = some ⟨some d,.slice t x none hi' none,ty,pos,af,gd⟩) (hk : Nat.blt kd 2 = true) (hg : guardOn l r gd = true) (hd : Nat.blt d n = true)
    (hu : P.underlying t = some (.slice e)) (hs : Sz P e s) (hx : ev r x = some (.slice none 0 0)) (hh : bnd r 0 hi' 0)
    (h : Pl P B f Q n l C k p ((d,.slice none 0 0) :: r) H) : Pl P B f Q n l C k ((i,kd) :: p) r H := by
  refine Pl.quiet hi hk hg hd (fun ac H' d' ha _ => ?_) h
  have hb : (Instr.sliceBounds true 0 0 none (hi'.map ac.eval) none).run P (mk B H' d') = .ok (0,0,0) (mk B H' d') := by
    have z0 : ∀ (w : World) (kk : IntKind) (m : Nat) (c : BoundsCode),(Instr.sliceBound (.int kk 0) m c).run P w = .ok 0 w := fun w kk m c => run_sliceBound w kk 0 m c (Nat.zero_le m)
    unfold Instr.sliceBounds
    cases hi' with
    | none => simp
    | some z =>
      obtain ⟨kz,hz⟩ := hh
      simp [ha.eval hz,z0]
  simp only [execOp,ha.eval hx,Sem.run_bind,Sem.run_pure,Instr.sliceAt,run_und hu,Result.andThen_ok,Instr.slice,Option.map_none,hb,hs _]
  rfl
/-- The first ones of what was gathered. -/
theorem O.slcA {β : Type} {F : Elt β} {t e : TypeId} {x : Operand} {hi' : Option Operand} {v : Value} {l' : List β} {j : Nat} {Z : Nat → Prop} (hi : l[i]? = some ⟨some d,.slice t x none hi' none,ty,pos,af,gd⟩) (hk : Nat.blt kd 2 = true) (hg : guardOn l r gd = true) (hd : Nat.blt d n = true)
    (hu : P.underlying t = some (.slice e)) (hs : Sz P e F.s) (hx : ev r x = some v) (hA : Acc F Z H v l') (hh : bnd r l'.length hi' j) (h2 : j ≤ l'.length)
    (h : ∀ v',Acc F Z H v' (l'.take j) → Pl P B f Q n l C k p ((d,v') :: r) H) : Pl P B f Q n l C k ((i,kd) :: p) r H := by
  rcases hA with ⟨rfl,rfl⟩ | ⟨b,o,c,rfl,hz,hb,hS⟩
  · obtain rfl : j = 0 := by simpa using h2
    exact O.slcNil hi hk hg hd hu hs hx hh (h _ (by simpa using Acc.nil F Z H))
  · refine O.slc (jl := 0) (jh := j) (jm := c) hi hk hg hd hu hs hx rfl hh rfl (Nat.zero_le _) (Nat.le_trans h2 hS.hle) (Nat.le_refl _) (by simp) fun o' ho' => h _ ?_
    have hlen : (l'.take j).length = j := by rw [List.length_take]; omega
    rw [Nat.sub_zero,Nat.sub_zero]
    refine .inr ⟨b,o',c,by rw [hlen],hz,hb,?_⟩
    have e := hS.take j
    rcases Nat.eq_zero_or_pos c with rfl | hc
    · obtain rfl : j = 0 := by have := hS.hle; omega
      refine ⟨by simp [row],by simp,by simpa [row] using Rd.nil _ _ _,fun i hi => by simp at hi⟩
    · have : o' = o := by have := ho' hc; omega
      rw [this]; exact e
end
end Go.Bt
/- Values of size 0: they are kept in cells that there are none of. Conditions: none. -/
namespace Go.Bt
open Go
set_option linter.unusedVariables false
theorem Go'.mono {P : Program} {B : World} {f : FuncId} {Q Q' : Value → Mem → Prop} {n : Nat} {r : Env} {k : List Item} {H : Mem} (hq : ∀ v H',Q v H' → Q' v H') (h : Go' P B f Q n r k H) : Go' P B f Q' n r k H :=
  fun d a ha b cs hb hk =>
    let ⟨v,w'',fr,h1,h2,h3,h4⟩ := h d a ha b cs hb hk
    ⟨v,w'',fr,by obtain ⟨H',d',e,q⟩ := h1; exact ⟨H',d',e,hq _ _ q⟩,h2,h3,h4⟩
theorem Wr.nil (H : Mem) (b o : Nat) : Wr H b o 0 := fun i hi => absurd hi (Nat.not_lt_zero i)
section
variable {P : Program} {B : World} {f : FuncId} {Q : Value → Mem → Prop} {n : Nat} {r : Env} {k : List Item} {H : Mem} {l : List Oper} {C : Mem → Prop} {p : List (Nat × Nat)}
variable {i kd d : Nat} {ty : TypeId} {pos : String} {af : Array Edge} {gd : Option (Nat × Bool)}
end
end Go.Bt
/- A change of the heap parted in two: one block first,then the others. Conditions: none. -/
namespace Go.Bt
open Go
theorem Fr.split {Z : Nat → Nat → Prop} {H H' : Mem} {hb : Nat} (hlt : hb < H.size) (hf : Fr (fun b o => Z b o ∨ b = hb) H H') :
    ∃ Hm : Mem,Hm.size = H.size ∧ Fr (fun b _ => b = hb) H Hm ∧ Fr Z Hm H' := by
  have hlt' : hb < H'.size := Nat.lt_of_lt_of_le hlt hf.size
  obtain ⟨Hm,hm⟩ : ∃ Hm : Mem,Hm = H.setIfInBounds hb H'[hb] := ⟨_,rfl⟩
  have hs : Hm.size = H.size := by rw [hm,Array.size_setIfInBounds]
  have e1 : ∀ b,b ≠ hb → Hm[b]? = H[b]? := fun b hn => by rw [hm,Array.getElem?_setIfInBounds,if_neg (fun e => hn e.symm)]
  have e2 : Hm[hb]? = H'[hb]? := by rw [hm,Array.getElem?_setIfInBounds,if_pos rfl,if_pos hlt,Array.getElem?_eq_getElem hlt']
  have c1 : ∀ b o,b ≠ hb → cl Hm b o = cl H b o ∧ fz Hm b o = fz H b o ∧ shp Hm b = shp H b := fun b o hn => by
    unfold cl fz shp; rw [e1 b hn]; exact ⟨rfl,rfl,rfl⟩
  have c2 : ∀ o,cl Hm hb o = cl H' hb o ∧ fz Hm hb o = fz H' hb o ∧ shp Hm hb = shp H' hb := fun o => by
    unfold cl fz shp; rw [e2]; exact ⟨rfl,rfl,rfl⟩
  refine ⟨Hm,hs,⟨Nat.le_of_eq hs.symm,fun b o _ hn => (c1 b o hn).1,fun b o hb' => ?_,fun b hb' => ?_,fun b _ hn => e1 b (hn 0)⟩,⟨by rw [hs]; exact hf.size,fun b o hb' hn => ?_,fun b o hb' => ?_,fun b hb' => ?_,fun b hb' hn => ?_⟩⟩
  · by_cases e : b = hb
    · subst e; exact (c2 o).2.1.trans (hf.frz b o hb')
    · exact (c1 b o e).2.1
  · by_cases e : b = hb
    · subst e; exact (c2 0).2.2.trans (hf.shape b hb')
    · exact (c1 b 0 e).2.2
  · rw [hs] at hb'
    by_cases e : b = hb
    · subst e; exact (c2 o).1.symm
    · exact (hf.cell b o hb' (fun h => h.elim hn e)).trans (c1 b o e).1.symm
  · rw [hs] at hb'
    by_cases e : b = hb
    · subst e; exact (c2 o).2.1.symm
    · exact (hf.frz b o hb').trans (c1 b o e).2.1.symm
  · rw [hs] at hb'
    by_cases e : b = hb
    · subst e; exact (c2 0).2.2.symm
    · exact (hf.shape b hb').trans (c1 b 0 e).2.2.symm
  · rw [hs] at hb'
    by_cases e : b = hb
    · subst e; exact e2.symm
    · exact (hf.blk b hb' (fun o h => h.elim (hn o) e)).trans (e1 b e).symm
end Go.Bt
/- A node to whose items one was appended that is none: until it is written over. Conditions: none. -/
namespace Go.Bt
open Go
set_option linter.unusedVariables false
variable {α : Type} {E : Elt α}
/-- An array of items with one place behind them that is to be written. -/
structure SlR (E : Elt α) (H : Mem) (b o c : Nat) (X : List α) : Prop where
  hle : X.length + 1 ≤ c
  rd : Rd H b o (row E X)
  wr : Wr H b o (c * E.s)
theorem SlR.wrm {H : Mem} {b o c : Nat} {X : List α} (h : SlR E H b o c X) {i m : Nat} (hi : i + m ≤ X.length + 1) : Wr H b (o + i * E.s) (m * E.s) := fun j hj => by
  have h1 := h.wr (i * E.s + j) (by
    have h2 := h.hle
    have h3 : (i + m) * E.s ≤ c * E.s := Nat.mul_le_mul_right E.s (by omega)
    rw [Nat.add_mul] at h3
    omega)
  rw [Nat.add_assoc]; exact h1
theorem SlR.wri {H : Mem} {b o c : Nat} {X : List α} (h : SlR E H b o c X) {i : Nat} (hi : i < X.length + 1) : Wr H b (o + i * E.s) E.s := by
  have := h.wrm (i := i) (m := 1) (by omega)
  rwa [Nat.one_mul] at this
theorem SlR.tail {H : Mem} {b o c : Nat} {X : List α} (h : SlR E H b o c X) {i : Nat} (hi : i ≤ X.length) : Rd H b (o + i * E.s) (row E (X.drop i)) := by
  have h2 := h.rd
  rw [← List.take_append_drop i X,row_append] at h2
  have h3 := ((Rd.append).1 h2).2
  rwa [row_len,List.length_take,Nat.min_eq_left hi] at h3
theorem SlR.fr {Z : Nat → Nat → Prop} {H H' : Mem} {b o c : Nat} {X : List α} (h : SlR E H b o c X) (hf : Fr Z H H') (hn : ∀ i,o ≤ i → i < o + c * E.s → ¬ Z b i) : SlR E H' b o c X :=
  ⟨h.hle,hf.rd h.rd fun i hi => hn _ (by omega) (by
    rw [row_len] at hi
    have := Nat.mul_le_mul_right E.s h.hle
    rw [Nat.add_mul] at this
    omega),hf.wr h.wr⟩
/-- The others go up by one,and an item is written into the gap. -/
theorem SlR.done {H H' H'' : Mem} {b o c i : Nat} {X : List α} {x : α} (h : SlR E H b o c X) (hi : i ≤ X.length) (W7 : Wrote H H' b (o + (i + 1) * E.s) (row E (X.drop i))) (W8 : Wrote H' H'' b (o + i * E.s) (E.enc x)) : SlE E H'' b o c (X.take i ++ x :: X.drop i) := by
  have hl : (X.take i ++ x :: X.drop i).length = X.length + 1 := by simp; omega
  refine ⟨by rw [row_len],by rw [hl]; exact h.hle,?_,W8.fr.wr (W7.fr.wr h.wr)⟩
  have h2 := h.rd
  rw [← List.take_append_drop i X,row_append] at h2
  have h3 := ((Rd.append).1 h2).1
  have l1 : (row E (X.take i)).length = i * E.s := by rw [row_len,List.length_take,Nat.min_eq_left hi]
  have l2 : (E.enc x).length = E.s := E.len x
  have e1 : (i + 1) * E.s = i * E.s + E.s := Nat.succ_mul _ _
  rw [show X.take i ++ x :: X.drop i = X.take i ++ ([x] ++ X.drop i) from rfl,row_append,row_append,row_one,Rd.append,Rd.append,l1,l2]
  refine ⟨?_,W8.rd,?_⟩
  · refine W8.fr.rd (W7.fr.rd h3 fun j hj => ?_) fun j hj => ?_
    · exact nr (by rw [l1] at hj; omega)
    · exact nr (by rw [l1] at hj; omega)
  · have h4 := W7.rd
    rw [e1,← Nat.add_assoc] at h4
    exact W8.fr.rd h4 fun j hj => nr (by omega)
/-- The node. -/
structure NodeR (E : Elt α) (H : Mem) (g : Ng) (X : List α) (kp : Value) : Prop where
  c0 : cl H g.p 0 = some (.int .u64 (g.iso : Int))
  c1 : cl H g.p 1 = some (.int .i64 (g.cnt : Int))
  c2 : cl H g.p 2 = some (.slice (some ⟨g.ib,g.io,none⟩) (X.length + 1) g.ic)
  c3 : cl H g.p 3 = some kp
  wr : Wr H g.p 0 4
  sl : SlR E H g.ib g.io g.ic X
  ic : 0 < g.ic
  ne : g.p ≠ g.ib
theorem NodeM.pushR {H H' H'' : Mem} {g : Ng} {X : List α} {kp : Value} {news : List Value} {b' o' c' : Nat} (hN : NodeM E H g X kp) (ha : App H H' g.ib g.io X.length g.ic 1 E.s (row E X) news b' o' c')
    (W : Wrote H' H'' g.p 2 [.slice (some ⟨b',o',none⟩) (X.length + 1) c']) : NodeR E H'' { g with ib := b',io := o',ic := c' } X kp := by
  have hA := hN.appd ha
  have hne : g.p ≠ b' := ha.ne hN.ne (cl_lt hN.c0)
  have hsl : SlR E H' b' o' c' X := ⟨ha.sl.hle,((Rd.append).1 ha.sl.rd).1,ha.sl.wr⟩
  exact ⟨W.keep1 hA.c0 (by omega),W.keep1 hA.c1 (by omega),W.at,W.keep1 hA.c3 (by omega),W.fr.wr hA.wr,hsl.fr W.fr fun i h1 h2 => nr (.inl (Ne.symm hne)),ha.cap_pos (by decide),hne⟩
theorem NodeR.in_items {H H' H2 : Mem} {g : Ng} {X Y : List α} {kp : Value} {i : Nat} (hN : NodeR E H2 g X kp) (W : Wrote H H' g.ib (g.io + i * E.s) (row E Y)) (hi : i + Y.length ≤ X.length + 1) {b o : Nat} (hz : rng g.ib (g.io + i * E.s) (row E Y).length b o) : b = g.ib ∧ g.io ≤ o ∧ o < g.io + g.ic * E.s := by
  have h1 := hz.2.1
  have h2 := hz.2.2
  rw [row_len] at h2
  have h3 : (i + Y.length) * E.s ≤ g.ic * E.s := Nat.mul_le_mul_right _ (Nat.le_trans hi hN.sl.hle)
  rw [Nat.add_mul] at h3
  exact ⟨hz.1,by omega,by omega⟩
theorem NodeR.done {H H' H'' : Mem} {g : Ng} {X : List α} {kp : Value} {i : Nat} {x : α} (hN : NodeR E H g X kp) (hi : i ≤ X.length) (W7 : Wrote H H' g.ib (g.io + (i + 1) * E.s) (row E (X.drop i))) (W8 : Wrote H' H'' g.ib (g.io + i * E.s) (E.enc x)) : NodeM E H'' g (X.take i ++ x :: X.drop i) kp where
  c0 := W8.fr.keep (W7.fr.keep hN.c0 (nr (.inl hN.ne))) (nr (.inl hN.ne))
  c1 := W8.fr.keep (W7.fr.keep hN.c1 (nr (.inl hN.ne))) (nr (.inl hN.ne))
  c2 := by rw [show (X.take i ++ x :: X.drop i).length = X.length + 1 by simp; omega]; exact W8.fr.keep (W7.fr.keep hN.c2 (nr (.inl hN.ne))) (nr (.inl hN.ne))
  c3 := W8.fr.keep (W7.fr.keep hN.c3 (nr (.inl hN.ne))) (nr (.inl hN.ne))
  wr := W8.fr.wr (W7.fr.wr hN.wr)
  sl := hN.sl.done hi W7 W8
  ic := hN.ic
  ne := hN.ne
/-- An inner node. -/
structure InnR (H : Mem) (P : Ps) (h : Nat) (g : Ng) (X : List α) (os : List (Option Nat)) (K : List (Gt E h)) : Prop where
  n : NodeR E H g X (.pointer (some ⟨g.cb,0,none⟩))
  k : KidO H g os
  c : Kids H P h g K
  iso : g.iso = P.iso
section
variable {H H' : Mem} {P : Ps} {h : Nat} {g : Ng} {X : List α} {os : List (Option Nat)} {K : List (Gt E h)}
/-- The node's own cells are written: what stays of the rest. -/
theorem Kids.node {Z : Nat → Nat → Prop} {g' : Ng} (hk0 : KidO H g os) (hc0 : Kids H P h g K) (hf : Fr Z H H') (hz : ∀ b o,Z b o → ncl E g b o)
    (e : g'.p = g.p ∧ g'.iso = g.iso ∧ g'.cb = g.cb ∧ g'.kb = g.kb ∧ g'.ko = g.ko ∧ g'.kc = g.kc) (n4 : g'.ib ≠ g.cb) (n5 : g'.ib ≠ g.kb) (hc : ∀ b o,b < H.size → ncl E g' b o → ncl E g b o ∨ ∀ k ∈ K,¬ Gt.af h k b o) : KidO H' g' os ∧ Kids H' P h g' K := by
  obtain ⟨e1,e2,e3,e4,e5,e6⟩ := e
  have hkz : ∀ b o,kcl g b o → ¬ Z b o := fun b o hb hz' => by
    have hn' := hz b o hz'
    rcases hb with ⟨h1,h2⟩ | ⟨h1,h2⟩ <;> rcases hn' with ⟨h3,h4⟩ | ⟨h3,h4⟩
    · exact hk0.n2 (h3.symm.trans h1)
    · exact hk0.n4 (h3.symm.trans h1)
    · exact hk0.n3 (h3.symm.trans h1)
    · exact hk0.n5 (h3.symm.trans h1)
  have hk := hk0.fr hf hkz
  refine ⟨⟨by rw [e3,e4,e5,e6]; exact hk.c,by rw [e3]; exact hk.wr,by rw [e4,e5,e6]; exact hk.sl,by rw [e6]; exact hk.kc,by rw [e3,e4]; exact hk.n1,by rw [e1,e3]; exact hk.n2,by rw [e1,e4]; exact hk.n3,by rw [e3]; exact n4,by rw [e4]; exact n5⟩,?_⟩
  have hc1 := hc0.fr hf fun b o _ hz' => .inl (hz b o hz')
  refine ⟨fun k hkk => ⟨(hc1.1 k hkk).1,(hc1.1 k hkk).2.1,fun b o hb => ⟨fun hn' => ?_,fun hk' => ?_⟩⟩,hc1.2⟩
  · rcases hc b o ((hc0.1 k hkk).1.lt hb) hn' with h1 | h1
    · exact ((hc0.1 k hkk).2.2 b o hb).1 h1
    · exact h1 k hkk hb
  · refine ((hc0.1 k hkk).2.2 b o hb).2 ?_
    unfold kcl at hk' ⊢
    rw [e3,e4,e5,e6] at hk'
    exact hk'
theorem Inn.pushR {H'' : Mem} {news : List Value} {b' o' c' : Nat} (hI : Inn H P h g X os K) (ha : App H H' g.ib g.io X.length g.ic 1 E.s (row E X) news b' o' c')
    (W : Wrote H' H'' g.p 2 [.slice (some ⟨b',o',none⟩) (X.length + 1) c']) : InnR H'' P h { g with ib := b',io := o',ic := c' } X os K := by
  have hA := hI.app ha
  have hb := ha.fresh hI
  have hb' : (b' = g.ib ∧ o' = g.io ∧ c' = g.ic) ∨ ∀ b o,innc h g K b o → b ≠ b' := hb
  have hne : b' ≠ g.cb ∧ b' ≠ g.kb := by
    rcases hb with ⟨rfl,rfl,rfl⟩ | hb
    · exact ⟨hI.k.n4,hI.k.n5⟩
    · exact ⟨fun e => hb g.cb 0 (.inr (.inl (.inl ⟨rfl,by omega⟩))) e.symm,fun e => hb g.kb g.ko (.inr (.inl (.inr ⟨rfl,Nat.le_refl _,by have := hI.k.kc; omega⟩))) e.symm⟩
  obtain ⟨h1,h2⟩ := Kids.node (E := E) (g' := { g with ib := b',io := o',ic := c' }) hA.k hA.c W.fr (fun b o hz => NodeM.in1 (H := H) (H' := H') (by simp) hz) ⟨rfl,rfl,rfl,rfl,rfl,rfl⟩ hne.1 hne.2 fun b o _ hz => by
    rcases hb' with ⟨rfl,rfl,rfl⟩ | hb
    · exact .inl hz
    · rcases hz with hz | hz
      · exact .inl (.inl hz)
      · exact .inr fun k hk hkb => hb b o (.inr (.inr ⟨k,hk,hkb⟩)) hz.1
  exact ⟨hI.n.pushR ha W,h1,h2,hI.iso⟩
theorem InnR.done {H'' : Mem} {i : Nat} {x : α} (hI : InnR H P h g X os K) (hi : i ≤ X.length) (W7 : Wrote H H' g.ib (g.io + (i + 1) * E.s) (row E (X.drop i))) (W8 : Wrote H' H'' g.ib (g.io + i * E.s) (E.enc x)) : Inn H'' P h g (X.take i ++ x :: X.drop i) os K := by
  have hf : Fr (ncl E g) H H'' := (W7.fr.mono fun b o _ hz => .inr (hI.n.in_items W7 (by rw [List.length_drop]; omega) hz)).trans (W8.as_row.fr.mono fun b o _ hz => .inr (hI.n.in_items W8.as_row (by rw [List.length_singleton]; omega) hz))
  obtain ⟨h1,h2⟩ := Kids.node (E := E) (g' := g) hI.k hI.c hf (fun b o hz => hz) ⟨rfl,rfl,rfl,rfl,rfl,rfl⟩ hI.k.n4 hI.k.n5 fun _ _ _ h => .inl h
  exact ⟨hI.n.done hi W7 W8,h1,h2,hI.iso⟩
end
end Go.Bt
/- Several nodes that change together: what stays apart; items appended,a slice cut short. Conditions: none. -/
namespace Go.Bt
open Go
set_option linter.unusedVariables false
section
variable {P : Program} {B : World} {f : FuncId} {Q : Value → Mem → Prop} {n : Nat} {r : Env} {c c2 : Item} {k : List Item} {H : Mem} {σ : Type}
end
abbrev Rg := Nat → Nat → Prop
/-- No cell of both. -/
def Off (A C : Rg) : Prop := ∀ b o,A b o → ¬ C b o
theorem Off.symm {A C : Rg} (h : Off A C) : Off C A := fun b o hc ha => h b o ha hc
/-- What A has become: old cells of A,and new blocks. -/
def Gro (H : Mem) (A A' : Rg) : Prop := ∀ b o,A' b o → A b o ∨ H.size ≤ b
theorem Gro.refl (H : Mem) (A : Rg) : Gro H A A := fun _ _ h => .inl h
theorem Gro.off {H : Mem} {A A' C : Rg} (g : Gro H A A') (d : Off C A) (l : ∀ b o,C b o → b < H.size) : Off C A' :=
  fun b o hc ha => (g b o ha).elim (d b o hc) (fun h => Nat.not_lt.2 h (l b o hc))
theorem Gro.tr {H H1 : Mem} {A A' A'' : Rg} (g : Gro H A A') (hs : H.size ≤ H1.size) (g' : Gro H1 A' A'') : Gro H A A'' :=
  fun b o h => (g' b o h).elim (g b o) (fun h => .inr (Nat.le_trans hs h))
theorem Gro.not {H : Mem} {A A' : Rg} (g : Gro H A A') {b o : Nat} (hb : b < H.size) (hn : ¬ A b o) : ¬ A' b o := fun h => (g b o h).elim hn (fun h => by omega)
variable {α : Type} {E : Elt α}
/-- An inner node alone. -/
abbrev Rn (E : Elt α) (H : Mem) (P : Ps) (g : Ng) (X : List α) (os : List (Option Nat)) : Prop := Inn (E := E) H P 0 g X os []
abbrev rn (E : Elt α) (g : Ng) : Rg := innc (E := E) 0 g []
theorem rn_iff {g : Ng} {b o : Nat} : rn E g b o ↔ ncl E g b o ∨ kcl g b o := by
  constructor
  · rintro (h | h | ⟨k,hk,_⟩)
    · exact .inl h
    · exact .inr h
    · cases hk
  · rintro (h | h)
    · exact .inl h
    · exact .inr (.inl h)

section
variable {H H' H'' : Mem} {P : Ps} {g : Ng} {X : List α} {os : List (Option Nat)} {kp : Value} {h : Nat} {K : List (Gt E h)}
/-- A slice cut short. -/
theorem NodeM.cut {k : Nat} (hN : NodeM E H g X kp) (W : Wrote H H' g.p 2 [.slice (some ⟨g.ib,g.io,none⟩) k g.ic]) (hk : k ≤ X.length) : NodeM E H' g (X.take k) kp :=
  hN.hdr (X' := X.take k) (by rw [List.length_take,Nat.min_eq_left hk]; exact W) (hN.sl.take k) hN.ic hN.ne
theorem Inn.cut {k : Nat} (hI : Inn H P h g X os K) (W : Wrote H H' g.p 2 [.slice (some ⟨g.ib,g.io,none⟩) k g.ic]) (hk : k ≤ X.length) : Inn H' P h g (X.take k) os K :=
  hI.hdr (X' := X.take k) (by rw [List.length_take,Nat.min_eq_left hk]; exact W) (hI.n.sl.take k) hI.n.ic (.inl ⟨rfl,rfl,rfl⟩)
end
namespace Pl
end Pl
end Go.Bt
namespace Go.Bt
open Go
set_option linter.unusedVariables false
variable {α : Type} {E : Elt α}
theorem sum_mem {β : Type} (f : β → Nat) {l : List β} {z : β} (h : z ∈ l) : f z ≤ (l.map f).sum := by
  induction l with
  | nil => cases h
  | cons a l ih =>
    rw [List.map_cons,List.sum_cons]
    rcases List.mem_cons.1 h with rfl | h
    · omega
    · have := ih h; omega
/-- A leaf,or an inner node alone. -/
def Rw (E : Elt α) (H : Mem) (P : Ps) (lf : Bool) (g : Ng) (X : List α) (os : List (Option Nat)) : Prop := match lf with
  | true => NodeM E H g X (.pointer none) ∧ g.iso = P.iso ∧ os = []
  | false => Rn E H P g X os
def rwc (E : Elt α) (lf : Bool) (g : Ng) : Rg := match lf with
  | true => ncl E g
  | false => rn E g
def cnO (cn : Nat → Nat) : Option Nat → Nat
  | some q => cn q
  | none => 0
/-- Two children next to each other,and the item between them. -/
structure RebIn (E : Elt α) (H : Mem) (P : Ps) (D : Nat → Prop) (lf : Bool) (cn : Nat → Nat) (i : Nat) (g gl gr : Ng) (X Xl Xr : List α) (os osl osr : List (Option Nat)) (x : α) : Prop where
  n : Rn E H P g X os
  l : Rw E H P lf gl Xl osl
  r : Rw E H P lf gr Xr osr
  dln : Off (rwc E lf gl) (rn E g)
  drn : Off (rwc E lf gr) (rn E g)
  dlr : Off (rwc E lf gl) (rwc E lf gr)
  tn : ∀ b o,rn E g b o → ¬ D b
  tl : ∀ b o,rwc E lf gl b o → ¬ D b
  tr : ∀ b o,rwc E lf gr b o → ¬ D b
  dD : ∀ b,D b → b < H.size
  x : X[i]? = some x
  pl : os[i]? = some (some gl.p)
  pr : os[i + 1]? = some (some gr.p)
  len : os.length = X.length + 1
  xm : X.length ≤ P.mx
  lm : Xl.length ≤ P.mx
  rm : Xr.length ≤ P.mx
  kl : lf = false → osl.length = Xl.length + 1
  kr : lf = false → osr.length = Xr.length + 1
  cl : gl.cnt = Xl.length + (osl.map (cnO cn)).sum
  cr : gr.cnt = Xr.length + (osr.map (cnO cn)).sum
  cq : ∀ z ∈ osl ++ osr,∃ q,z = some q ∧ Bt.cl H q 1 = some (.int .i64 (cn q : Int)) ∧ ¬ rn E g q 1 ∧ ¬ rwc E lf gl q 1 ∧ ¬ rwc E lf gr q 1
  b : gl.cnt + gr.cnt < 4611686018427387904
  sh : Xl.length < P.mn ∨ Xr.length < P.mn
  ml : P.mn ≤ Xl.length + 1
  mr : P.mn ≤ Xr.length + 1
end Go.Bt
