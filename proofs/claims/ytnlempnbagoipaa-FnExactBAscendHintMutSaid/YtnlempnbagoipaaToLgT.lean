/- Trees whose children are evened out: from the nodes in memory to the trees. Conditions: none. -/
import Derived.ChangeArms
import Derived.Deep.Slices
import Derived.Deep.Strs
import Derived.ChangeSame
import Derived.Test.YtnlempnbagoipaaToRb
import Derived.Test.YtnlempnbagoipaaToCc
import Derived.Test.YtnlempnbagoipaaToLgH
namespace Go.Bt
open Go
set_option linter.unusedVariables false
variable {α : Type} {E : Elt α}
theorem Inn.alone {H : Mem} {P : Ps} {h : Nat} {g : Ng} {X : List α} {os : List (Option Nat)} {K : List (Gt E h)} (hI : Inn H P h g X os K) : Rn E H P g X os :=
  ⟨hI.n,hI.k,⟨fun k hk => absurd hk (List.not_mem_nil),List.Pairwise.nil⟩,hI.iso⟩
theorem sum_os {H : Mem} {h : Nat} {K : List (Gt E h)} {P : Ps} (hK : ∀ k ∈ K,Gt.Good H P h k) : (((Gt.ps h K).map some).map (cnO (cnOf H))).sum = ((K.map (Gt.L h)).map List.length).sum := by
  congr 1
  unfold Gt.ps
  rw [List.map_map,List.map_map,List.map_map]
  exact List.map_congr_left fun k hk => ((hK k hk).cnOf).2
end Go.Bt
namespace Go.Bt
open Go
set_option linter.unusedVariables false
variable {α : Type} {E : Elt α}
theorem Inn.sub {H : Mem} {P : Ps} {h : Nat} {g : Ng} {X : List α} {os : List (Option Nat)} {K K' : List (Gt E h)} (hI : Inn H P h g X os K) (hs : K'.Sublist K) : Inn H P h g X os K' :=
  ⟨hI.n,hI.k,⟨fun k hk => hI.c.1 k (hs.subset hk),hI.c.2.sublist hs⟩,hI.iso⟩
theorem innc_sub {h : Nat} {g : Ng} {K K' : List (Gt E h)} (hs : ∀ k ∈ K',k ∈ K) {b o : Nat} (hb : innc h g K' b o) : innc h g K b o :=
  hb.imp id fun hb => hb.imp id fun ⟨k,hk,hb⟩ => ⟨k,hs k hk,hb⟩
/-- Two children next to each other of a node,one of them short of an item. -/
structure RebT (H : Mem) (P : Ps) (D : Nat → Prop) (h i : Nat) (g : Ng) (X : List α) (K1 K2 : List (Gt E h)) (u v : Gt E h) (x : α) : Prop where
  n : Inn H P h g X ((Gt.ps h (K1 ++ [u,v] ++ K2)).map some) (K1 ++ K2)
  l : Gt.Good H P h u
  r : Gt.Good H P h v
  ol : Off (Gt.af h u) (innc h g (K1 ++ K2))
  or' : Off (Gt.af h v) (innc h g (K1 ++ K2))
  olr : Off (Gt.af h u) (Gt.af h v)
  tn : ∀ b o,innc h g (K1 ++ K2) b o → ¬ D b
  tl : ∀ b o,Gt.af h u b o → ¬ D b
  tr : ∀ b o,Gt.af h v b o → ¬ D b
  dD : ∀ b,D b → b < H.size
  hi : K1.length = i
  x : X[i]? = some x
  len : (K1 ++ [u,v] ++ K2).length = X.length + 1
  xm : X.length ≤ P.mx
  b : (Gt.L h u).length + (Gt.L h v).length < 4611686018427387904
  sh : (Gt.X h u).length < P.mn ∨ (Gt.X h v).length < P.mn
  ml : P.mn ≤ (Gt.X h u).length + 1
  mr : P.mn ≤ (Gt.X h v).length + 1
theorem rn_innc {h : Nat} {g : Ng} {K : List (Gt E h)} {b o : Nat} (hb : rn E g b o) : innc h g K b o := (rn_iff.1 hb).elim .inl (fun h => .inr (.inl h))
section
variable {H : Mem} {P : Ps} {D : Nat → Prop} {h i : Nat} {g : Ng} {X : List α} {x : α}
theorem ps_at {K1 K2 : List (Gt E h)} {tl tr : Gt E h} : ((Gt.ps h (K1 ++ [tl,tr] ++ K2)).map some)[K1.length]? = some (some (Gt.p h tl)) ∧ ((Gt.ps h (K1 ++ [tl,tr] ++ K2)).map some)[K1.length + 1]? = some (some (Gt.p h tr)) ∧
    ((Gt.ps h (K1 ++ [tl,tr] ++ K2)).map some).length = (K1 ++ [tl,tr] ++ K2).length := by
  refine ⟨?_,?_,by simp [Gt.ps]⟩ <;> simp [Gt.ps]
theorem RebT.inS {K1 K2 : List (Gt E (h + 1))} {u v : Gt E (h + 1)} (ht : RebT H P D (h + 1) i g X K1 K2 u v x) :
    RebIn E H P D false (cnOf H) i g (Gt.g (h + 1) u) (Gt.g (h + 1) v) X (Gt.X (h + 1) u) (Gt.X (h + 1) v) ((Gt.ps (h + 1) (K1 ++ [u,v] ++ K2)).map some) ((Gt.ps h u.2.2).map some) ((Gt.ps h v.2.2).map some) x ∧ (∀ k ∈ u.2.2 ++ v.2.2,Off (Gt.af h k) (rn E g)) := by
  obtain ⟨n,l,r,ol,or',olr,tn,tl,tr,dD,hi,hx,len,xm,b,sh,ml,mr⟩ := ht
  subst hi
  obtain ⟨gl,Xl,Kl⟩ := u
  obtain ⟨gr,Xr,Kr⟩ := v
  obtain ⟨p1,p2,p3⟩ := ps_at (E := E) (h := h + 1) (K1 := K1) (K2 := K2) (tl := (gl,Xl,Kl)) (tr := (gr,Xr,Kr))
  have c1 : gl.cnt = (Pl.inter Xl (Kl.map (Gt.L h))).length := l.2.2.2.1
  have c2 : gr.cnt = (Pl.inter Xr (Kr.map (Gt.L h))).length := r.2.2.2.1
  have k1 : Kl.length = Xl.length + 1 := l.2.2.2.2.2.1
  have k2 : Kr.length = Xr.length + 1 := r.2.2.2.2.2.1
  have rl : ∀ b o,rn E gl b o → Gt.af (h + 1) ((gl,Xl,Kl) : Gt E (h + 1)) b o := fun b o hb => (rn_iff.1 hb).elim .inl (fun h => .inr (.inl h))
  have rr : ∀ b o,rn E gr b o → Gt.af (h + 1) ((gr,Xr,Kr) : Gt E (h + 1)) b o := fun b o hb => (rn_iff.1 hb).elim .inl (fun h => .inr (.inl h))
  have gng : ∀ k ∈ Kl ++ Kr,Off (Gt.af h k) (rn E g) := fun k hk b o hb hr => (List.mem_append.1 hk).elim (fun hk => ol b o (.inr (.inr ⟨k,hk,hb⟩)) (rn_innc hr)) (fun hk => or' b o (.inr (.inr ⟨k,hk,hb⟩)) (rn_innc hr))
  replace b : (Pl.inter Xl (Kl.map (Gt.L h))).length + (Pl.inter Xr (Kr.map (Gt.L h))).length < 4611686018427387904 := b
  refine ⟨⟨n.alone,(Gt.Good.inn l).alone,(Gt.Good.inn r).alone,fun b o h1 h2 => ol b o (rl b o h1) (rn_innc h2),fun b o h1 h2 => or' b o (rr b o h1) (rn_innc h2),fun b o h1 h2 => olr b o (rl b o h1) (rr b o h2),fun b o h => tn b o (rn_innc h),fun b o h => tl b o (rl b o h),fun b o h => tr b o (rr b o h),dD,hx,p1,p2,p3.trans len,xm,l.2.2.2.2.1,r.2.2.2.2.1,
    fun _ => (show ((Gt.ps h Kl).map some).length = Xl.length + 1 by simpa [Gt.ps] using k1),fun _ => (show ((Gt.ps h Kr).map some).length = Xr.length + 1 by simpa [Gt.ps] using k2),?_,?_,fun z hz => ?_,(show gl.cnt + gr.cnt < 4611686018427387904 by omega),sh,ml,mr⟩,gng⟩
  · show gl.cnt = Xl.length + (((Gt.ps h Kl).map some).map (cnO (cnOf H))).sum
    rw [sum_os (P := P) fun k hk => (l.2.2.2.2.2.2.1 k hk).1,c1,Pl.inter_length _ _ (by rw [List.length_map]; exact k1)]
  · show gr.cnt = Xr.length + (((Gt.ps h Kr).map some).map (cnO (cnOf H))).sum
    rw [sum_os (P := P) fun k hk => (r.2.2.2.2.2.2.1 k hk).1,c2,Pl.inter_length _ _ (by rw [List.length_map]; exact k2)]
  · have hz' : ∃ k ∈ Kl ++ Kr,z = some (Gt.p h k) := by
      simp only [Gt.ps,List.mem_append,List.mem_map] at hz ⊢
      rcases hz with ⟨_,⟨k,hk,rfl⟩,rfl⟩ | ⟨_,⟨k,hk,rfl⟩,rfl⟩
      · exact ⟨k,.inl hk,rfl⟩
      · exact ⟨k,.inr hk,rfl⟩
    obtain ⟨k,hk,rfl⟩ := hz'
    have hgk : Gt.Good H P h k ∧ Off (Gt.af h k) (rn E gl) ∧ Off (Gt.af h k) (rn E gr) := by
      rcases List.mem_append.1 hk with hk | hk
      · obtain ⟨q1,_,q3⟩ := l.2.2.2.2.2.2.1 k hk
        exact ⟨q1,fun b o hb hr => (rn_iff.1 hr).elim (q3 b o hb).1 (q3 b o hb).2,fun b o hb hr => olr b o (.inr (.inr ⟨k,hk,hb⟩)) (rr b o hr)⟩
      · obtain ⟨q1,_,q3⟩ := r.2.2.2.2.2.2.1 k hk
        exact ⟨q1,fun b o hb hr => olr b o (rl b o hr) (.inr (.inr ⟨k,hk,hb⟩)),fun b o hb hr => (rn_iff.1 hr).elim (q3 b o hb).1 (q3 b o hb).2⟩
    have hp : Gt.af h k (Gt.p h k) 1 := Gt.af_p (by omega)
    exact ⟨Gt.p h k,rfl,(hgk.1.cnOf).1,gng k hk _ _ hp,hgk.2.1 _ _ hp,hgk.2.2 _ _ hp⟩
end
end Go.Bt
namespace Go.Bt
open Go
set_option linter.unusedVariables false
variable {α : Type} {E : Elt α}
/-- What a deletion does to a tree. -/
structure DelT (H H' : Mem) (P : Ps) (h : Nat) (t t' : Gt E h) (L' : List α) : Prop where
  fr : Fr (Gt.af h t) H H'
  g : Gt.Good H' P h t'
  p : Gt.p h t' = Gt.p h t
  a : Gro H (Gt.af h t) (Gt.af h t')
  l : Gt.L h t' = L'
  x : (Gt.X h t).length ≤ (Gt.X h t').length + 1
namespace Pl
/-- The last one,or the one that is equal to x: it,and the others. -/
def dlr {α : Type} (O : Swo α) (mx : Bool) (x : α) (L : List α) : Option (α × List α) := match mx with
  | true => L.getLast?.map fun y => (y,L.dropLast)
  | false => (got O x L).map fun y => (y,del O x L)
end Pl
/-- A node whose i-th child has lost an item. -/
structure DMid (H H' : Mem) (P : Ps) (h : Nat) (g : Ng) (X : List α) (K : List (Gt E h)) (i : Nat) (X1 : List α) (k' : Gt E h) (L' : List α) : Prop where
  n : Inn H' P h g X1 ((Gt.ps h K).map some) (K.take i ++ K.drop (i + 1))
  k : Gt.Good H' P h k'
  p : ∃ k,K[i]? = some k ∧ Gt.p h k' = Gt.p h k ∧ Gro H (Gt.af h k) (Gt.af h k')
  mn : P.mn ≤ (Gt.X h k').length + 1
  l : Pl.inter X1 ((K.take i ++ [k'] ++ K.drop (i + 1)).map (Gt.L h)) = L'
  len : X1.length = X.length
  fr : Fr (Gt.af (h + 1) ((g,X,K) : Gt E (h + 1))) H H'
theorem Gt.Good.ne {H : Mem} {P : Ps} : ∀ {h : Nat} {t : Gt E h},Gt.Good H P h t → 1 ≤ (Gt.X h t).length → 1 ≤ (Gt.L h t).length
  | 0,_,_,hx => hx
  | _ + 1,t,hg,hx => by
    have : (Gt.L _ t).length = _ := Pl.inter_length t.2.1 (t.2.2.map (Gt.L _)) (by rw [List.length_map]; exact hg.2.2.2.2.2.1)
    rw [this]
    exact Nat.le_trans hx (Nat.le_add_right _ _)
section
variable {H H' : Mem} {P : Ps} {h : Nat} {g : Ng} {X : List α} {os : List (Option Nat)} {K : List (Gt E h)} {i : Nat} {k k' : Gt E h}
theorem kid_split (hk : K[i]? = some k) : K = K.take i ++ [k] ++ K.drop (i + 1) := by
  obtain ⟨h1,h2⟩ := List.getElem?_eq_some_iff.1 hk
  rw [List.append_assoc,List.singleton_append,← h2,List.getElem_cons_drop,List.take_append_drop]
theorem kid_off (hI : Inn H P h g X os K) (hk : K[i]? = some k) : Off (Gt.af h k) (innc h g (K.take i ++ K.drop (i + 1))) := fun b o hb hn => by
  have hs := kid_split hk
  have hc := hI.c
  obtain ⟨h1,h2⟩ := hc
  have hkK : k ∈ K := List.mem_of_getElem? hk
  rcases hn with hn | hn | ⟨m,hm,hn⟩
  · exact (h1 k hkK).2.2 b o hb |>.1 hn
  · exact (h1 k hkK).2.2 b o hb |>.2 hn
  · rw [hs,List.append_assoc,List.pairwise_append,List.singleton_append,List.pairwise_cons] at h2
    obtain ⟨_,⟨p2,_⟩,p3⟩ := h2
    rcases List.mem_append.1 hm with hm | hm
    · exact p3 m hm k List.mem_cons_self b o hn hb
    · exact p2 m hm b o hb hn
theorem DMid.off {X1 L' : List α} (d : DMid H H' P h g X K i X1 k' L') (hI : Inn H P h g X os K) : Off (Gt.af h k') (innc h g (K.take i ++ K.drop (i + 1))) := by
  obtain ⟨k,hk,hp,hg⟩ := d.p
  exact (hg.off (kid_off hI hk).symm fun b o hb => hI.lt (innc_sub (fun m hm => (List.mem_append.1 hm).elim List.mem_of_mem_take List.mem_of_mem_drop) hb)).symm
end
namespace Pl
variable {α : Type} (O : Swo α)
end Pl
end Go.Bt
namespace Go.Bt.Pl
variable {α : Type} (O : Swo α)
end Go.Bt.Pl
/- Values of size 0: they are kept in cells that there are none of. Conditions: none. -/
namespace Go.Bt
open Go
set_option linter.unusedVariables false
theorem Go'.mono {P : Program} {B : World} {f : FuncId} {Q Q' : Value → Mem → Prop} {n : Nat} {r : Env} {k : List Item} {H : Mem} (hq : ∀ v H',Q v H' → Q' v H') (h : Go' P B f Q n r k H) : Go' P B f Q' n r k H :=
  fun d a ha b cs hb hk =>
    let ⟨v,w'',fr,h1,h2,h3,h4⟩ := h d a ha b cs hb hk
    ⟨v,w'',fr,by obtain ⟨H',d',e,q⟩ := h1; exact ⟨H',d',e,hq _ _ q⟩,h2,h3,h4⟩
theorem Wr.nil (H : Mem) (b o : Nat) : Wr H b o 0 := fun i hi => absurd hi (Nat.not_lt_zero i)
section
variable {P : Program} {B : World} {f : FuncId} {Q : Value → Mem → Prop} {n : Nat} {r : Env} {k : List Item} {H : Mem} {l : List Oper} {C : Mem → Prop} {p : List (Nat × Nat)}
variable {i kd d : Nat} {ty : TypeId} {pos : String} {af : Array Edge} {gd : Option (Nat × Bool)}
end
end Go.Bt
/- Slices of flat values that came in,whatever their type. Conditions: none. -/
namespace Go.Bt
open Go
set_option linter.unusedVariables false
section
variable {P : Program} {B : World} {f : FuncId} {Q : Value → Mem → Prop} {n : Nat} {r : Env} {k : List Item} {H : Mem} {σ : Type} {i1 i2 i3 i4 : Item}
end
section
variable {α : Type} {E : Elt α} {H0 H H' : Mem} {it tr : Nat} {mt sk as ae : Bool} {Z0 Z : Nat → Prop} {fr : List (Nat × Int)} {kv : α}
end
inductive Kd where
  | int (k : IntKind)
  | bool
  | str
def Kd.ok : Kd → Value → Prop
  | .int k,v => ∃ n,v = .int k n ∧ (Lit.int k n).wf = true
  | .bool,v => ∃ b,v = .bool b
  | .str,v => ∃ s : ByteArray,v = .string s ∧ s.size ≤ maxLen
def AllOk : List Kd → List Value → Prop
  | [],[] => True
  | k :: ks,v :: vs => k.ok v ∧ AllOk ks vs
  | _,_ => False
theorem AllOk.app : ∀ {ks : List Kd} {vs : List Value} {ks' : List Kd} {vs' : List Value},AllOk ks vs → AllOk ks' vs' → AllOk (ks ++ ks') (vs ++ vs')
  | [],[],_,_,_,h => h
  | _ :: _,_ :: _,_,_,h,h' => ⟨h.1,h.2.app h'⟩
  | [],_ :: _,_,_,h,_ => h.elim
  | _ :: _,[],_,_,h,_ => h.elim
theorem AllOk.len : ∀ {ks : List Kd} {vs : List Value},AllOk ks vs → vs.length = ks.length
  | [],[],_ => rfl
  | _ :: _,_ :: _,h => by rw [List.length_cons,List.length_cons,h.2.len]
  | [],_ :: _,h => h.elim
  | _ :: _,[],h => h.elim
def kindsF (P : Program) (g : TypeId → Option (List Kd)) : Nat → List Field → Option (List Kd)
  | _,[] => some []
  | off,f :: fs =>
    match g f.type with
    | none => none
    | some a => if f.offset = off ∧ P.cellsOf f.type = a.length then (kindsF P g (off + a.length) fs).map (a ++ ·) else none
/-- The kinds of the cells of a flat type. -/
def kinds (P : Program) : Nat → TypeId → Option (List Kd)
  | 0,_ => none
  | n + 1,t =>
    match P.underlying t with
    | some .bool => some [.bool]
    | some (.int k) => some [.int k]
    | some .string => some [.str]
    | some (.struct fs) =>
      match kindsF P (kinds P n) 0 fs.toList with
      | some ks => if P.cellsOf t = ks.length then some ks else none
      | none => none
    | _ => none
section
variable {H : Type} {enc : TypeId × Value → H} {P : Program} {w : World} {base : Nat} {spare : Nat → Bool} {held : Bool}
end
theorem AllOk.get1 {k : Kd} {ks : List Kd} {vs : List Value} (h : AllOk (k :: ks) vs) : ∃ v vs',vs = v :: vs' ∧ k.ok v ∧ AllOk ks vs' := by
  cases vs with
  | nil => exact h.elim
  | cons v vs => exact ⟨v,vs,rfl,h.1,h.2⟩
theorem AllOk.nil' {vs : List Value} (h : AllOk [] vs) : vs = [] := by
  cases vs with
  | nil => rfl
  | cons v vs => exact h.elim
end Go.Bt
/- What the moves of an iterator tell. Conditions: none. -/
namespace Go.Bt
open Go
set_option linter.unusedVariables false
/-- A move: its number,its item. -/
def EMv : Elt (Int × Int × Int) := { enc := fun m => [.int .i64 m.1,.int .i64 m.2.1,.int .i64 m.2.2],s := 3,len := fun _ => rfl,one := fun _ => rfl,pos := by decide }
theorem EMv.of (vs : List Value) (h : AllOk [.int .i64,.int .i64,.int .i64] vs) : ∃ y,EMv.enc y = vs := by
  obtain ⟨x1,v1,e1,⟨a,e2,_⟩,h1⟩ := h.get1
  obtain ⟨x2,v2,e3,⟨b,e4,_⟩,h2⟩ := h1.get1
  obtain ⟨x3,v3,e5,⟨c,e6,_⟩,h3⟩ := h2.get1
  rw [e1,e3,e5,e2,e4,e6,h3.nil']
  exact ⟨(a,b,c),rfl⟩
namespace Pl
/-- A place in a list of n items,if it is one. -/
def cut (n : Nat) (z : Int) : Option Nat := if 0 ≤ z ∧ z < (n : Int) then some z.toNat else none
theorem cut_nat (n q : Nat) : cut n (q : Int) = if q < n then some q else none := by
  unfold cut
  by_cases h : q < n
  · rw [if_pos ⟨by omega,by omega⟩,if_pos h]; rfl
  · rw [if_neg (by omega),if_neg h]
theorem cut_last (n : Nat) : cut n ((n : Int) - 1) = if 0 < n then some (n - 1) else none := by
  by_cases h : 0 < n
  · rw [show (n : Int) - 1 = ((n - 1 : Nat) : Int) by omega,cut_nat,if_pos (by omega),if_pos h]
  · rw [if_neg h,cut,if_neg (by omega)]
theorem cut_first (n : Nat) : cut n 0 = if 0 < n then some 0 else none := cut_nat n 0
theorem cut_next (n q : Nat) : cut n ((q : Int) + 1) = if q + 1 < n then some (q + 1) else none := cut_nat n (q + 1)
theorem cut_neg (n : Nat) : cut n (-1) = none := by rw [cut,if_neg (by omega)]
section
variable {α : Type} (O : Swo α) (l : List α)
/-- Where a move leads from a place (−1 or the list's length: nowhere). -/
def mvTo (m : Int × α) (st : Option Nat) : Int :=
  if m.1 = 2 ∨ m.1 = 3 then (match st with | none => -1 | some q => if m.1 = 2 then (q : Int) + 1 else (q : Int) - 1)
  else if m.1 = 1 then (l.length : Int) - 1
  else if m.1 = 4 ∨ m.1 = 5 then (pos O m.2 l : Int)
  else 0
/-- Whether it is told. -/
def mvTold (m : Int × α) (st : Option Nat) : Bool := if m.1 = 2 ∨ m.1 = 3 then st.isSome || l.isEmpty else true
end
/-- Two lists agree wherever it is told. -/
def Agree {γ : Type} (a b : List γ) (t : List Bool) : Prop := a.length = b.length ∧ t.length = b.length ∧ ∀ j : Nat,t[j]? = some true → a[j]? = b[j]?
theorem Agree.nil {γ : Type} : Agree ([] : List γ) [] [] := ⟨rfl,rfl,fun _ _ => rfl⟩
end Pl
end Go.Bt
namespace Go.Bt
open Go
namespace Pl
section
variable {α : Type} (O : Swo α) (l : List α)
/-- What a move did: where it is told,it came to what the reference says; else the reference stands nowhere. -/
structure Res (m : Int × α) (s0 : Option Nat) (b : Bool) (st : Option Nat) : Prop where
  told : mvTold l m s0 = true → b = st.isSome ∧ st = cut l.length (mvTo O l m s0)
  not : mvTold l m s0 = false → cut l.length (mvTo O l m s0) = none
variable {O l}
theorem Res.out {m : Int × α} {s0 st : Option Nat} {b : Bool} (h : Res O l m s0 b st) {kv : α} (hkv : ∀ q,st = some q → l[q]? = some kv) (ht : mvTold l m s0 = true) : (if b = true then some kv else none) = (cut l.length (mvTo O l m s0)).bind (l[·]?) := by
  obtain ⟨h1,h2⟩ := h.told ht
  rw [← h2,h1]
  cases st with
  | none => rfl
  | some q => exact (hkv q rfl).symm
theorem Res.first {m : Int × α} {s0 : Option Nat} (h1 : m.1 ≠ 1) (h2 : m.1 ≠ 2) (h3 : m.1 ≠ 3) (h4 : m.1 ≠ 4) (h5 : m.1 ≠ 5) : Res O l m s0 (decide (0 < l.length)) (if 0 < l.length then some 0 else none) := by
  have e : mvTo O l m s0 = 0 := by unfold mvTo; rw [if_neg (by omega),if_neg h1,if_neg (by omega)]
  refine ⟨fun _ => ⟨?_,by rw [e,cut_first]⟩,fun h => ?_⟩
  · by_cases h : 0 < l.length <;> simp [h]
  · unfold mvTold at h; rw [if_neg (by omega)] at h; cases h
theorem Res.last {m : Int × α} {s0 : Option Nat} (h1 : m.1 = 1) : Res O l m s0 (decide (0 < l.length)) (if 0 < l.length then some (l.length - 1) else none) := by
  have e : mvTo O l m s0 = (l.length : Int) - 1 := by unfold mvTo; rw [if_neg (by omega),if_pos h1]
  refine ⟨fun _ => ⟨?_,by rw [e,cut_last]⟩,fun h => ?_⟩
  · by_cases h : 0 < l.length <;> simp [h]
  · unfold mvTold at h; rw [if_neg (by omega)] at h; cases h
theorem Res.next {m : Int × α} {s0 st st' : Option Nat} {b : Bool} (h1 : m.1 = 2) (hs : ∀ q,s0 = some q → st = some q) (h : ∀ q,st = some q → b = decide (q + 1 < l.length) ∧ st' = if q + 1 < l.length then some (q + 1) else none) (hn : l = [] → b = false ∧ st' = none) : Res O l m s0 b st' := by
  cases s0 with
  | some q =>
    have e : mvTo O l m (some q) = (q : Int) + 1 := by unfold mvTo; rw [if_pos (.inl h1)]; simp only; rw [if_pos h1]
    obtain ⟨h2,h3⟩ := h q (hs q rfl)
    refine ⟨fun _ => ⟨?_,by rw [e,cut_next]; exact h3⟩,fun h => ?_⟩
    · rw [h2,h3]; by_cases h : q + 1 < l.length <;> simp [h]
    · unfold mvTold at h; rw [if_pos (.inl h1)] at h; cases h
  | none =>
    have e : mvTo O l m none = -1 := by unfold mvTo; rw [if_pos (.inl h1)]
    refine ⟨fun h => ?_,fun _ => by rw [e,cut_neg]⟩
    unfold mvTold at h
    rw [if_pos (.inl h1)] at h
    obtain ⟨h2,h3⟩ := hn (by simpa using h)
    rw [e,cut_neg,h2,h3]; exact ⟨rfl,rfl⟩
end
end Pl
end Go.Bt
namespace Go.Bt
open Go
namespace Pl
section
variable {α : Type} (O : Swo α) (T : List α)
end
end Pl
end Go.Bt
/- A slice of truth values that came in. Conditions: those that each theorem names. -/
namespace Go.Bt
open Go
set_option linter.unusedVariables false
theorem slice_inG {α : Type} (E : Elt α) {Hh : Type} {enc : TypeId × Value → Hh} {P : Program} {w : World} {fuel : Nat} {t e : TypeId} {a : Option Addr} {len cap : Nat} {x : DataW Hh × List MemPlace} (ht : P.underlying t = some (.slice e))
    (hce : P.cellsOf e = E.s) (hE : ∀ (n : Nat) (cs : List Value) (y : DataW Hh × List MemPlace),DataW.trod enc P w 0 (fun _ => true) true n e cs = some y → ∃ y,E.enc y = cs) (h : DataW.trod enc P w 0 (fun _ => true) true fuel t [.slice a len cap] = some x) : ∃ l,InS E w.heap (.slice a len cap) l := by
  rcases Go.Deep.open_slice ht h with ⟨hcs,_⟩ | ⟨a',len',cap',m',n,D,Pl,hcs,_,hl,_,hm,_,hx⟩
  · simp at hcs
    obtain ⟨rfl,rfl,rfl⟩ := hcs
    exact ⟨[],.inr ⟨rfl,_,_,rfl⟩⟩
  · simp at hcs
    obtain ⟨rfl,rfl,rfl⟩ := hcs
    simp only [if_true] at hm
    subst hm
    rcases Nat.eq_zero_or_pos m' with rfl | hc
    · obtain rfl : len = 0 := by omega
      exact ⟨[],.inr ⟨rfl,_,_,rfl⟩⟩
    · have hex : ∀ i,i < m' → ∃ y : α,w.cells? 0 (a'.add (i * E.s)) E.s = some (E.enc y) := fun i hi => by
        obtain ⟨cs',h1,h2⟩ := hx i hi
        obtain ⟨y,hy⟩ := hE _ _ _ h2
        rw [hce] at h1
        exact ⟨y,by rw [hy]; exact h1⟩
      have hx' : ∀ i,∃ y : α,i < m' → w.cells? 0 (a'.add (i * E.s)) E.s = some (E.enc y) := fun i => by
        by_cases hi : i < m'
        · obtain ⟨y,hy⟩ := hex i hi
          exact ⟨y,fun _ => hy⟩
        · obtain ⟨y,_⟩ := hex 0 hc
          exact ⟨y,fun hh => absurd hh hi⟩
      obtain ⟨f,hf⟩ : ∃ f : Nat → α,∀ i,i < m' → w.cells? 0 (a'.add (i * E.s)) E.s = some (E.enc (f i)) := ⟨fun i => Classical.choose (hx' i),fun i => Classical.choose_spec (hx' i)⟩
      obtain ⟨b,o,s⟩ := a'
      have cell : ∀ i j,i < m' → j < E.s → w.cell? ((Addr.add ⟨b,o,s⟩ (i * E.s)).add j) = (E.enc (f i))[j]? := fun i j hi hj => (World.cells?_some (hf i hi)).2.2 j hj
      have hs : s = none := by
        have h0 := cell 0 0 hc E.pos
        cases s with
        | none => rfl
        | some k =>
          have hne : (E.enc (f 0))[0]? ≠ none := by
            intro hh
            have := List.getElem?_eq_none_iff.1 hh
            rw [E.len] at this
            have := E.pos
            omega
          rw [← h0] at hne
          simp only [Nat.zero_mul,Addr.add,if_true,World.cell?] at hne
          split at hne <;> simp at hne
      subst hs
      refine ⟨(List.range len).map f,.inl ⟨b,o,m',by simp,by simpa using hl,fun j v hv => ?_⟩⟩
      have hj := (List.getElem?_eq_some_iff.1 hv).1
      rw [row_len,List.length_map,List.length_range] at hj
      have hi : j / E.s < len := Nat.div_lt_of_lt_mul (by rw [Nat.mul_comm]; exact hj)
      have hr : j % E.s < E.s := Nat.mod_lt _ E.pos
      have hq : ((List.range len).map f)[j / E.s]? = some (f (j / E.s)) := by simp [hi]
      have hjm : j / E.s * E.s + j % E.s = j := by rw [Nat.mul_comm]; exact Nat.div_add_mod j E.s
      have h1 := cell (j / E.s) (j % E.s) (by omega) hr
      have hlt : j % E.s < (E.enc (f (j / E.s))).length := by rw [E.len]; exact hr
      have hg := row_get E hq (j % E.s) _ (List.getElem?_eq_getElem hlt)
      rw [hjm] at hg
      have hvv := Option.some.inj (hv.symm.trans hg)
      have cc : ∀ n,World.cell? w ⟨b,n,none⟩ = cl w.heap b n := fun n => by rw [← mk_self w]; exact mk_cell _ _ _ _ _
      rw [Addr.add_lit,Addr.add_lit,cc] at h1
      rw [show o + j = o + j / E.s * E.s + j % E.s by omega,h1,hvv]
      exact List.getElem?_eq_getElem hlt
end Go.Bt
/- How structs that come in are opened: how a tree is made,an item,the options of a range. Conditions: none. -/
namespace Go.Bt
open Go Go.ChangeShapes
section
variable {Hh : Type} {enc : TypeId × Value → Hh} {P : Program} {w : World} {fuel : Nat} {t e : TypeId} {f0 f1 f2 : Field} {cs : List Value} {x : DataW Hh × List MemPlace}
theorem len1 {α : Type} {l : List α} {c : α} (h : l = [c]) : l = [c] := h
theorem open_mk (ht : P.underlying t = some (.struct #[f0,f1,f2])) (o0 : f0.offset = 0) (o1 : f1.offset = 1) (o2 : f2.offset = 2) (h0 : P.underlying f0.type = some (.slice e)) (hce : P.cellsOf e = 1) (he : P.underlying e = some (.int .i64))
    (h1 : P.underlying f1.type = some (.int .i64)) (h2 : P.underlying f2.type = some .bool) (c0 : P.cellsOf f0.type = 1) (c1 : P.cellsOf f1.type = 1) (c2 : P.cellsOf f2.type = 1) (ct : P.cellsOf t = 3)
    (h : DataW.trod enc P w 0 (fun _ => true) true fuel t cs = some x) (hsl : ∀ v n y,DataW.trod enc P w 0 (fun _ => true) true n f0.type [v] = some y → ∃ a m c,v = .slice a m c) :
    ∃ (v : Value) (l : List Int) (z : Int) (b : Bool),cs = [v,.int .i64 z,.bool b] ∧ InS EN w.heap v l := by
  obtain ⟨y0,y1,y2,n,_,hl,t0,t1,t2⟩ := Go.Deep.trod_struct3 ht h
  rw [ct] at hl
  obtain ⟨a0,a1,a2,rfl⟩ : ∃ a0 a1 a2,cs = [a0,a1,a2] := by
    match cs,hl with
    | [a0,a1,a2],_ => exact ⟨a0,a1,a2,rfl⟩
  rw [o0,c0] at t0
  rw [o1,c1] at t1
  rw [o2,c2] at t2
  obtain ⟨z,hz,_⟩ := DataW.trod_int h1 t1
  obtain ⟨b,hb,_⟩ := DataW.trod_bool h2 t2
  obtain ⟨a,m,c,rfl⟩ := hsl a0 n y0 t0
  obtain ⟨l,hi⟩ := slice_inG EN (a := a) (len := m) (cap := c) h0 hce (fun n cs y hy => by obtain ⟨z,hz,_⟩ := DataW.trod_int he hy; exact ⟨z,hz.symm⟩) t0
  have ez : a1 = .int .i64 z := by simpa using hz
  have eb : a2 = .bool b := by simpa using hb
  exact ⟨_,l,z,b,by rw [ez,eb],hi⟩
theorem open_it (ht : P.underlying t = some (.struct #[f0,f1])) (o0 : f0.offset = 0) (o1 : f1.offset = 1) (h0 : P.underlying f0.type = some (.int .i64)) (h1 : P.underlying f1.type = some (.int .i64)) (c0 : P.cellsOf f0.type = 1) (c1 : P.cellsOf f1.type = 1) (ct : P.cellsOf t = 2)
    (h : DataW.trod enc P w 0 (fun _ => true) true fuel t cs = some x) : ∃ z0 z1 : Int,cs = [.int .i64 z0,.int .i64 z1] := by
  obtain ⟨y0,y1,n,_,hl,t0,t1⟩ := trod_struct2 ht h
  rw [ct] at hl
  obtain ⟨a0,a1,rfl⟩ : ∃ a0 a1,cs = [a0,a1] := by
    match cs,hl with
    | [a0,a1],_ => exact ⟨a0,a1,rfl⟩
  rw [o0,c0] at t0
  rw [o1,c1] at t1
  obtain ⟨z0,hz0,_⟩ := DataW.trod_int h0 t0
  obtain ⟨z1,hz1,_⟩ := DataW.trod_int h1 t1
  have e0 : a0 = .int .i64 z0 := by simpa using hz0
  have e1 : a1 = .int .i64 z1 := by simpa using hz1
  exact ⟨z0,z1,by rw [e0,e1]⟩
/-- What is a slice by its type is one. -/
theorem trod_isl (ht : P.underlying t = some (.slice e)) {v : Value} {n : Nat} {y : DataW Hh × List MemPlace} (h : DataW.trod enc P w 0 (fun _ => true) true n t [v] = some y) : ∃ a m c,v = .slice a m c := by
  rcases Go.Deep.open_slice ht h with ⟨hcs,_⟩ | ⟨a',len',cap',m',n,D,Pl,hcs,_⟩
  · exact ⟨_,_,_,by simpa using hcs⟩
  · exact ⟨_,_,_,by simpa using hcs⟩
end
end Go.Bt
/- Regions where one operation may come at any place between those of a chain: a tree of plans. Conditions: the tree passes a check by computation. -/
namespace Go.Bt
open Go
section
variable {P : Program} {l : List Oper} {K : Act → World → Prop}
def rmv (j : Nat) (p : List (Nat × Nat)) : List (Nat × Nat) := p.filter fun y => !Nat.beq y.1 j
theorem mem_rmv {j : Nat} {p : List (Nat × Nat)} {y : Nat × Nat} : y ∈ rmv j p ↔ y ∈ p ∧ y.1 ≠ j := by
  unfold rmv
  rw [List.mem_filter,Bool.not_eq_true']
  refine and_congr_right fun _ => ⟨fun h e => ?_,fun h => ?_⟩
  · rw [e] at h; simp at h
  · cases hb : Nat.beq y.1 j with
    | false => rfl
    | true => exact absurd (Nat.eq_of_beq_eq_true hb) h
theorem rmv_none {j : Nat} {p : List (Nat × Nat)} (h : ∀ x ∈ p,x.1 ≠ j) : rmv j p = p := by
  unfold rmv
  rw [List.filter_eq_self]
  intro x hx
  cases hb : Nat.beq x.1 j with
  | false => rfl
  | true => exact absurd (Nat.eq_of_beq_eq_true hb) (h x hx)
theorem rmv_split {j k : Nat} {p1 p2 : List (Nat × Nat)} (h1 : ∀ x ∈ p1,x.1 ≠ j) (h2 : ∀ x ∈ p2,x.1 ≠ j) : rmv j (p1 ++ (j,k) :: p2) = p1 ++ p2 := by
  have e : rmv j (p1 ++ (j,k) :: p2) = rmv j p1 ++ rmv j p2 := by
    unfold rmv; rw [List.filter_append,List.filter_cons]; simp
  rw [e,rmv_none h1,rmv_none h2]
theorem rmv_comm (i j : Nat) (p : List (Nat × Nat)) : rmv i (rmv j p) = rmv j (rmv i p) := by
  unfold rmv; rw [List.filter_filter,List.filter_filter]; congr 1; funext y; rw [Bool.and_comm]
theorem rmv_app (j : Nat) (p q : List (Nat × Nat)) : rmv j (p ++ q) = rmv j p ++ rmv j q := by unfold rmv; rw [List.filter_append]
theorem pairsOk_rmv {m : List Nat} (j : Nat) : ∀ {p : List (Nat × Nat)},pairsOk l m p = true → pairsOk l m (rmv j p) = true
  | [],_ => rfl
  | x :: p,h => by
    simp only [pairsOk,Bool.and_eq_true,List.all_eq_true] at h
    have ih := pairsOk_rmv j h.2
    unfold rmv
    rw [List.filter_cons]
    split
    · simp only [pairsOk,Bool.and_eq_true,List.all_eq_true]
      exact ⟨fun y hy => h.1 y (mem_rmv.1 hy).1,ih⟩
    · exact ih
theorem pairsOkX_rmv {m : List Nat} {a b : Nat} (j : Nat) : ∀ {p : List (Nat × Nat)},pairsOkX l m a b p = true → pairsOkX l m a b (rmv j p) = true
  | [],_ => rfl
  | x :: p,h => by
    simp only [pairsOkX,Bool.and_eq_true,List.all_eq_true] at h
    have ih := pairsOkX_rmv j h.2
    unfold rmv
    rw [List.filter_cons]
    split
    · simp only [pairsOkX,Bool.and_eq_true,List.all_eq_true]
      exact ⟨fun y hy => h.1 y (mem_rmv.1 hy).1,ih⟩
    · exact ih
theorem topoOk_rmv (j : Nat) : ∀ {p : List (Nat × Nat)},topoOk l p = true → topoOk l (rmv j p) = true
  | [],_ => rfl
  | x :: p,h => by
    simp only [topoOk,Bool.and_eq_true] at h
    have ih := topoOk_rmv j h.2
    unfold rmv
    rw [List.filter_cons]
    split
    · simp only [topoOk,Bool.and_eq_true]
      refine ⟨?_,ih⟩
      have h1 := h.1
      split at h1
      · rename_i o ho
        rw [List.all_eq_true] at h1 ⊢
        intro e he
        have h2 := h1 e he
        simp only [Bool.or_eq_true,Bool.not_eq_true'] at h2 ⊢
        refine h2.imp id fun h3 => ?_
        rw [List.any_eq_false] at h3 ⊢
        intro z hz
        rcases List.mem_cons.1 hz with rfl | hz
        · exact h3 z List.mem_cons_self
        · exact h3 z (List.mem_cons_of_mem _ (mem_rmv.1 hz).1)
      · cases h1
    · exact ih
theorem pairsOk_nodup {m : List Nat} : ∀ {p : List (Nat × Nat)},pairsOk l m p = true → (p.map (·.1)).Nodup
  | [],_ => List.Pairwise.nil
  | x :: p,h => by
    simp only [pairsOk,Bool.and_eq_true,List.all_eq_true] at h
    rw [List.map_cons,List.nodup_cons]
    refine ⟨fun hx => ?_,pairsOk_nodup h.2⟩
    obtain ⟨y,hy,he⟩ := List.mem_map.1 hx
    have := (h.1 y hy).2
    rw [he] at this
    simp at this
theorem pairsOkX_nodup {m : List Nat} {a b : Nat} : ∀ {p : List (Nat × Nat)},pairsOkX l m a b p = true → (p.map (·.1)).Nodup
  | [],_ => List.Pairwise.nil
  | x :: p,h => by
    simp only [pairsOkX,Bool.and_eq_true,List.all_eq_true] at h
    rw [List.map_cons,List.nodup_cons]
    refine ⟨fun hx => ?_,pairsOkX_nodup h.2⟩
    obtain ⟨y,hy,he⟩ := List.mem_map.1 hx
    have := (h.1 y hy).2
    rw [he] at this
    simp at this

/-- Plans for one operation that may come at any place between those of a chain. -/
inductive PT where
  | leaf (p : List (Nat × Nat))
  | node (p u : List (Nat × Nat)) (t : PT)
/-- Its first plan: with that operation first. -/
def PT.top : PT → List (Nat × Nat)
  | .leaf p => p
  | .node p _ _ => p
def PT.pre (v : List (Nat × Nat)) : PT → PT
  | .leaf p => .leaf (v ++ p)
  | .node p u t => .node (v ++ p) (v ++ u) t
def PT.del (j : Nat) : PT → PT
  | .leaf p => .leaf (rmv j p)
  | .node p u t => .node (rmv j p) (rmv j u) (t.del j)
def PT.hasnt (j : Nat) : PT → Bool
  | .leaf p => p.all fun y => !Nat.beq y.1 j
  | .node p u t => (p.all fun y => !Nat.beq y.1 j) && (u.all fun y => !Nat.beq y.1 j) && t.hasnt j
def PT.run (P : Program) (l : List Oper) (C : World → Prop) (K : Act → World → Prop) : PT → Act → World → Prop
  | .leaf p => planRun P l C K p
  | .node p u t => fun a w => planRun P l C K p a w ∧ planRun P l C (t.run P l C K) u a w
theorem bne_of {a b : Nat} (h : (!Nat.beq a b) = true) : a ≠ b := fun e => by rw [e] at h; simp at h
theorem bne_to {a b : Nat} (h : a ≠ b) : (!Nat.beq a b) = true := by
  cases hb : Nat.beq a b with
  | false => rfl
  | true => exact absurd (Nat.eq_of_beq_eq_true hb) h
theorem PT.del_hasnt {j : Nat} : ∀ {t : PT},t.hasnt j = true → t.del j = t
  | .leaf p,h => by
    simp only [PT.hasnt,List.all_eq_true] at h
    simp only [PT.del]; rw [rmv_none fun x hx => bne_of (h x hx)]
  | .node p u t,h => by
    simp only [PT.hasnt,Bool.and_eq_true,List.all_eq_true] at h
    simp only [PT.del]; rw [rmv_none fun x hx => bne_of (h.1.1 x hx),rmv_none fun x hx => bne_of (h.1.2 x hx),PT.del_hasnt h.2]
theorem PT.hasnt_del {i j : Nat} : ∀ {t : PT},t.hasnt i = true → (t.del j).hasnt i = true
  | .leaf p,h => by
    simp only [PT.hasnt,PT.del,List.all_eq_true] at h ⊢
    exact fun x hx => h x (mem_rmv.1 hx).1
  | .node p u t,h => by
    simp only [PT.hasnt,PT.del,Bool.and_eq_true,List.all_eq_true] at h ⊢
    exact ⟨⟨fun x hx => h.1.1 x (mem_rmv.1 hx).1,fun x hx => h.1.2 x (mem_rmv.1 hx).1⟩,PT.hasnt_del h.2⟩
theorem PT.del_pre (j : Nat) (v : List (Nat × Nat)) : ∀ t : PT,(t.pre v).del j = (t.del j).pre (rmv j v)
  | .leaf p => by simp only [PT.pre,PT.del,rmv_app]
  | .node p u t => by simp only [PT.pre,PT.del,rmv_app]
theorem PT.top_del (j : Nat) : ∀ t : PT,(t.del j).top = rmv j t.top
  | .leaf p => rfl
  | .node p u t => rfl

theorem planRun.mono {C : World → Prop} {K' : Act → World → Prop} (h : ∀ a w,K a w → K' a w) : ∀ {p : List (Nat × Nat)} {a : Act} {w : World},planRun P l C K p a w → planRun P l C K' p a w
  | [],_,_,hr => h _ _ hr
  | x :: p,a,w,hr => hr.imp (fun ⟨h1,o,v,h2,h3,h4⟩ => ⟨h1,o,v,h2,h3,planRun.mono h h4⟩) (fun ⟨h1,o,h2,h3⟩ => ⟨h1,o,h2,h3.mono fun _ _ h4 => ⟨h4.1,planRun.mono h h4.2⟩⟩)
theorem planRun.app {C : World → Prop} {q : List (Nat × Nat)} : ∀ {p : List (Nat × Nat)} {a : Act} {w : World},planRun P l C (planRun P l C K q) p a w → planRun P l C K (p ++ q) a w
  | [],_,_,hr => hr
  | x :: p,a,w,hr => hr.imp (fun ⟨h1,o,v,h2,h3,h4⟩ => ⟨h1,o,v,h2,h3,planRun.app h4⟩) (fun ⟨h1,o,h2,h3⟩ => ⟨h1,o,h2,h3.mono fun _ _ h4 => ⟨h4.1,planRun.app h4.2⟩⟩)
theorem PT.run_pre {C : World → Prop} {v : List (Nat × Nat)} : ∀ {t : PT} {a : Act} {w : World},planRun P l C (t.run P l C K) v a w → (t.pre v).run P l C K a w
  | .leaf p,_,_,h => planRun.app h
  | .node p u t,_,_,h => ⟨planRun.app (planRun.mono (fun _ _ h => h.1) h),planRun.app (planRun.mono (fun _ _ h => h.2) h)⟩

/-- The check of a tree: f: the operation that may come anywhere; es: the chain. -/
def PT.ok (l : List Oper) (m : List Nat) (f : Nat) : List Nat → PT → Bool
  | [],.leaf p => pairsOk l m p && topoOk l p && (p.all fun y => Nat.blt y.1 l.length)
  | e :: es,.node p u t => (p.all fun y => Nat.blt y.1 l.length) && (pairsOkX l m f e p && (topoOk l p && (pairsOk l m u &&
      ((p.all fun y => bif Nat.beq y.1 f || Nat.beq y.1 e then Nat.beq y.2 2 else (Nat.blt y.2 2 || ((m.getD y.1 0).testBit f || (m.getD y.1 0).testBit e))) &&
      ((p.any fun y => Nat.beq y.1 f) && ((u.any fun y => Nat.beq y.1 e) && ((u.all fun y => !Nat.beq y.1 f) && ((u.all fun y => bif Nat.beq y.1 e then Nat.beq y.2 2 else Nat.blt y.2 2) &&
      ((p.all fun y => Nat.beq y.1 f || ((u.any fun z => Nat.beq z.1 y.1) || (m.getD y.1 0).testBit e)) && ((u.all fun z => p.any fun y => Nat.beq y.1 z.1) &&
      ((u.all fun z => t.hasnt z.1) && (((t.pre (rmv e u)).top.all fun y => p.any fun z => Nat.beq z.1 y.1) && ((p.all fun y => Nat.beq y.1 e || (t.pre (rmv e u)).top.any fun z => Nat.beq z.1 y.1) &&
      (((t.pre (rmv e u)).top.all fun y => !Nat.beq y.1 e) && (!Nat.beq f e && ((u.all fun z => es.all fun x => !Nat.beq z.1 x) && PT.ok l m f es (t.pre (rmv e u))))))))))))))))))
  | _,_ => false
/-- The same,in words. -/
structure PT.Okn (l : List Oper) (m : List Nat) (f e : Nat) (es : List Nat) (p u : List (Nat × Nat)) (t : PT) : Prop where
  lt : ∀ y ∈ p,y.1 < l.length
  pr : pairsOkX l m f e p = true
  tp : topoOk l p = true
  pu : pairsOk l m u = true
  kd : ∀ y ∈ p,((y.1 = f ∨ y.1 = e) → y.2 = 2) ∧ (y.1 ≠ f → y.1 ≠ e → y.2 < 2 ∨ (m.getD y.1 0).testBit f = true ∨ (m.getD y.1 0).testBit e = true)
  hf : ∃ y ∈ p,y.1 = f
  he : ∃ y ∈ u,y.1 = e
  nf : ∀ y ∈ u,y.1 ≠ f
  ku : ∀ y ∈ u,(y.1 = e → y.2 = 2) ∧ (y.1 ≠ e → y.2 < 2)
  cv : ∀ y ∈ p,y.1 = f ∨ (∃ z ∈ u,z.1 = y.1) ∨ (m.getD y.1 0).testBit e = true
  sb : ∀ z ∈ u,∃ y ∈ p,y.1 = z.1
  fr : ∀ z ∈ u,t.hasnt z.1 = true
  s1 : ∀ y ∈ (t.pre (rmv e u)).top,∃ z ∈ p,z.1 = y.1
  s2 : ∀ y ∈ p,y.1 = e ∨ ∃ z ∈ (t.pre (rmv e u)).top,z.1 = y.1
  s3 : ∀ y ∈ (t.pre (rmv e u)).top,y.1 ≠ e
  ne : f ≠ e
  ns : ∀ z ∈ u,z.1 ∉ es
  nx : PT.ok l m f es (t.pre (rmv e u)) = true
theorem beq_ex {p : List (Nat × Nat)} {j : Nat} : (p.any fun y => Nat.beq y.1 j) = true ↔ ∃ y ∈ p,y.1 = j := by
  rw [List.any_eq_true]
  exact ⟨fun ⟨y,h,e⟩ => ⟨y,h,Nat.eq_of_beq_eq_true e⟩,fun ⟨y,h,e⟩ => ⟨y,h,by rw [e]; exact Nat.beq_refl _⟩⟩
theorem PT.ok_iff {m : List Nat} {f e : Nat} {es : List Nat} {p u : List (Nat × Nat)} {t : PT} : PT.ok l m f (e :: es) (.node p u t) = true ↔ PT.Okn l m f e es p u t := by
  simp only [PT.ok,Bool.and_eq_true,List.all_eq_true,beq_ex,Bool.or_eq_true]
  constructor
  · rintro ⟨h1,h2,h3,h4,h5,h6,h7,h8,h9,h10,h11,h12,h13,h14,h15,h16,h18,h17⟩
    refine ⟨fun y hy => by simpa using h1 y hy,h2,h3,h4,fun y hy => ?_,h6,h7,fun y hy => bne_of (h8 y hy),fun y hy => ?_,fun y hy => (h10 y hy).imp Nat.eq_of_beq_eq_true id,h11,h12,h13,fun y hy => (h14 y hy).imp Nat.eq_of_beq_eq_true id,fun y hy => bne_of (h15 y hy),bne_of h16,fun z hz hin => bne_of (h18 z hz z.1 hin) rfl,h17⟩
    · have := h5 y hy
      constructor
      · intro hh
        have hb : (Nat.beq y.1 f || Nat.beq y.1 e) = true := by rcases hh with hh | hh <;> simp [hh]
        rw [hb] at this
        exact Nat.eq_of_beq_eq_true (by simpa using this)
      · intro n1 n2
        have hb : (Nat.beq y.1 f || Nat.beq y.1 e) = false := by
          have a := bne_to n1; have b := bne_to n2
          simp only [Bool.not_eq_true'] at a b
          rw [a,b]; rfl
        rw [hb] at this
        simpa using this
    · have := h9 y hy
      constructor
      · intro hh; rw [hh] at this; simpa using this
      · intro n1
        have a := bne_to n1
        simp only [Bool.not_eq_true'] at a
        rw [a] at this
        simpa using this
  · intro h
    refine ⟨fun y hy => by simpa using h.lt y hy,h.pr,h.tp,h.pu,fun y hy => ?_,h.hf,h.he,fun y hy => bne_to (h.nf y hy),fun y hy => ?_,fun y hy => (h.cv y hy).imp (fun e => by rw [e]; exact Nat.beq_refl _) id,h.sb,h.fr,h.s1,fun y hy => (h.s2 y hy).imp (fun e => by rw [e]; exact Nat.beq_refl _) id,fun y hy => bne_to (h.s3 y hy),bne_to h.ne,fun z hz x hx => bne_to fun e => h.ns z hz (e ▸ hx),h.nx⟩
    · obtain ⟨k1,k2⟩ := h.kd y hy
      by_cases n1 : y.1 = f
      · rw [k1 (.inl n1),n1]; simp
      · by_cases n2 : y.1 = e
        · rw [k1 (.inr n2),n2]; simp
        · have a := bne_to n1; have b := bne_to n2
          simp only [Bool.not_eq_true'] at a b
          rw [a,b]
          simpa using k2 n1 n2
    · obtain ⟨k1,k2⟩ := h.ku y hy
      by_cases n1 : y.1 = e
      · rw [k1 n1,n1]; simp
      · have a := bne_to n1
        simp only [Bool.not_eq_true'] at a
        rw [a]
        simpa using k2 n1
theorem PT.ok_del {m : List Nat} {f j : Nat} (hjf : j ≠ f) : ∀ (es : List Nat) {t : PT},j ∉ es → PT.ok l m f es t = true → PT.ok l m f es (t.del j) = true
  | [],.leaf p,_,h => by
    simp only [PT.ok,PT.del,Bool.and_eq_true,List.all_eq_true] at h ⊢
    exact ⟨⟨pairsOk_rmv j h.1.1,topoOk_rmv j h.1.2⟩,fun y hy => h.2 y (mem_rmv.1 hy).1⟩
  | [],.node p u t,_,h => by simp [PT.ok] at h
  | e :: es,.leaf p,_,h => by simp [PT.ok] at h
  | e :: es,.node p u t,hj,h => by
    have h := PT.ok_iff.1 h
    have hje : j ≠ e := fun e => hj (by rw [e]; exact List.mem_cons_self)
    have hjs : j ∉ es := fun h => hj (List.mem_cons_of_mem _ h)
    have etop : ((t.del j).pre (rmv e (rmv j u))).top = rmv j (t.pre (rmv e u)).top := by rw [rmv_comm,← PT.del_pre,PT.top_del]
    rw [PT.del]
    refine PT.ok_iff.2 ⟨fun y hy => h.lt y (mem_rmv.1 hy).1,pairsOkX_rmv j h.pr,topoOk_rmv j h.tp,pairsOk_rmv j h.pu,fun y hy => h.kd y (mem_rmv.1 hy).1,?_,?_,fun y hy => h.nf y (mem_rmv.1 hy).1,fun y hy => h.ku y (mem_rmv.1 hy).1,fun y hy => ?_,fun z hz => ?_,fun z hz => PT.hasnt_del (h.fr z (mem_rmv.1 hz).1),fun y hy => ?_,fun y hy => ?_,fun y hy => ?_,h.ne,fun z hz => h.ns z (mem_rmv.1 hz).1,?_⟩
    · obtain ⟨y,hy,e⟩ := h.hf; exact ⟨y,mem_rmv.2 ⟨hy,by rw [e]; exact hjf.symm⟩,e⟩
    · obtain ⟨y,hy,e⟩ := h.he; exact ⟨y,mem_rmv.2 ⟨hy,by rw [e]; exact hje.symm⟩,e⟩
    · obtain ⟨h1,h2⟩ := mem_rmv.1 hy
      exact (h.cv y h1).imp id (fun h3 => h3.imp (fun ⟨z,hz,e⟩ => ⟨z,mem_rmv.2 ⟨hz,by rw [e]; exact h2⟩,e⟩) id)
    · obtain ⟨h1,h2⟩ := mem_rmv.1 hz
      obtain ⟨y,hy,e⟩ := h.sb z h1
      exact ⟨y,mem_rmv.2 ⟨hy,by rw [e]; exact h2⟩,e⟩
    · rw [etop] at hy
      obtain ⟨h1,h2⟩ := mem_rmv.1 hy
      obtain ⟨z,hz,e⟩ := h.s1 y h1
      exact ⟨z,mem_rmv.2 ⟨hz,by rw [e]; exact h2⟩,e⟩
    · obtain ⟨h1,h2⟩ := mem_rmv.1 hy
      rw [etop]
      exact (h.s2 y h1).imp id (fun ⟨z,hz,e⟩ => ⟨z,mem_rmv.2 ⟨hz,by rw [e]; exact h2⟩,e⟩)
    · rw [etop] at hy
      exact h.s3 y (mem_rmv.1 hy).1
    · rw [rmv_comm,← PT.del_pre]
      exact PT.ok_del hjf es hjs h.nx
theorem PT.ok_nodup {m : List Nat} {f : Nat} : ∀ {es : List Nat} {t : PT},PT.ok l m f es t = true → (t.top.map (·.1)).Nodup
  | [],.leaf p,h => by simp only [PT.ok,Bool.and_eq_true] at h; exact pairsOk_nodup h.1.1
  | [],.node p u t,h => by simp [PT.ok] at h
  | e :: es,.leaf p,h => by simp [PT.ok] at h
  | e :: es,.node p u t,h => pairsOkX_nodup (PT.ok_iff.1 h).pr

theorem planRun.wpTree {Q : Exit → Act → World → Prop} {C : World → Prop} {m : List Nat} {f : Nat} (hQ : ∀ a w,K a w → Q .normal a w) (hm : waitsOk l m = true) (hd : edgesDown l = true)
    (hs : ∀ (j : Nat) (o : Oper) cs b,l[j]? = some o → o.op ≠ .select cs b) : ∀ (fuel : Nat) (es : List Nat) (t : PT) (listed : Array Bool) (a : Act) (w : World),t.top.length = fuel → PT.ok l m f es t = true →
      Fits l t.top listed → Closed l listed → C w → t.run P l C K a w → Go.wpAny P .any l.toArray Q fuel listed a w
  | fuel,[],.node p u t,_,_,_,_,h,_,_,_,_ => by simp [PT.ok] at h
  | fuel,e :: es,.leaf p,_,_,_,_,h,_,_,_,_ => by simp [PT.ok] at h
  | fuel,[],.leaf p,listed,a,w,hlen,h,hf,hc,hC,hr => by
    simp only [PT.ok,Bool.and_eq_true,List.all_eq_true] at h
    exact planRun.wpAny hQ hm hd hs fuel p listed a w hlen (fun y hy => by simpa using h.2 y hy) h.1.1 h.1.2 hf hc (.inl hC) hr
  | 0,e :: es,.node p u t,listed,a,w,hlen,h,hf,hc,hC,hr => by
    obtain ⟨y,hy,_⟩ := (PT.ok_iff.1 h).hf
    rw [List.eq_nil_of_length_eq_zero (show p.length = 0 from hlen)] at hy
    cases hy
  | fuel + 1,e :: es,.node p u t,listed,a,w,hlen,hok,hf,hc,hC,⟨hrp,hru⟩ => by
    have h := PT.ok_iff.1 hok
    replace hf : Fits l p listed := hf
    replace hlen : p.length = fuel + 1 := hlen
    refine ⟨fun hnil => ?_,fun j hj => ?_⟩
    · exfalso
      match p,hlen,h,hf with
      | y :: p,_,h,hf =>
        have hm := plan_ready hd h.lt h.tp hf
        rw [hnil] at hm
        cases hm
    · obtain ⟨hun,oj,hoj,hall⟩ := mem_ready.1 hj
      have hoj' : l[j]? = some oj := by simpa using hoj
      have hjl : j < l.length := (List.getElem?_eq_some_iff.1 hoj').1
      obtain ⟨⟨j',k⟩,hy,hyj⟩ := (hf.2 j hjl).1 hun
      simp only at hyj
      subst hyj
      have hyp := hy
      obtain ⟨p1,p2,rfl⟩ := List.append_of_mem hy
      have hx1 := pairsOkX_mem h.pr
      obtain ⟨hpr',hq'⟩ := pairsOkX_drop h.pr
      have hun1 : ∀ x ∈ p1,listed.getD x.1 true = false := fun x hx => (hf.2 x.1 (h.lt x (List.mem_append_left _ hx))).2 ⟨x,List.mem_append_left _ hx,rfl⟩
      have hltp : ∀ y ∈ p1 ++ p2,y.1 < l.length := fun y hy => h.lt y (by
        rcases List.mem_append.1 hy with hy | hy
        · exact List.mem_append_left _ hy
        · exact List.mem_append_right _ (List.mem_cons_of_mem _ hy))
      have hlenp : (p1 ++ p2).length = fuel := by simp at hlen ⊢; omega
      have hfp := hf.next (fun x hx => (hx1 x hx).2) hq' hjl
      have hc' := hc.next hoj' hall
      have hfu : listed.getD f true = false := by
        obtain ⟨z,hz,e⟩ := h.hf
        exact (hf.2 f (by rw [← e]; exact h.lt z hz)).2 ⟨z,hz,e⟩
      have hfl : f < l.length := by obtain ⟨z,hz,e⟩ := h.hf; rw [← e]; exact h.lt z hz
      obtain ⟨z0,hz0,ez0⟩ := h.he
      obtain ⟨z1,hz1,ez1⟩ := h.sb z0 hz0
      have hel : e < l.length := by rw [← ez0,← ez1]; exact h.lt z1 hz1
      have heu : listed.getD e true = false := (hf.2 e hel).2 ⟨z1,hz1,ez1.trans ez0⟩
      have nwf : (m.getD j' 0).testBit f = false := by
        cases hb : (m.getD j' 0).testBit f with
        | false => rfl
        | true =>
          have := waits_listed hm hd hc j' f oj hoj' hfl hb hall
          rw [getD_false_of hfu] at this; cases this
      have nwe : (m.getD j' 0).testBit e = false := by
        cases hb : (m.getD j' 0).testBit e with
        | false => rfl
        | true =>
          have := waits_listed hm hd hc j' e oj hoj' hel hb hall
          rw [getD_false_of heu] at this; cases this
      have hunu : ∀ x ∈ u,x.1 < l.length ∧ listed.getD x.1 true = false := fun x hx => by
        obtain ⟨y,hy,e⟩ := h.sb x hx
        have hl : x.1 < l.length := by rw [← e]; exact h.lt y hy
        exact ⟨hl,(hf.2 x.1 hl).2 ⟨y,hy,e⟩⟩
      by_cases h1 : j' = f
      · subst h1
        have hk2 : k = 2 := (h.kd _ hyp).1 (.inl rfl)
        have hp1 : ∀ x ∈ p1,pairOk l m x (j',k) = true := fun x hx => by
          have h3 := (hx1 x hx).1
          have h4 := bne_to (hx1 x hx).2
          simp only [Bool.not_eq_true'] at h4
          simpa only [pairOkX,h4,Bool.false_and,Bool.or_false] using h3
        have hah := ahead hm hd hc hoj' hall (fun x hx => h.lt x (List.mem_append_left _ hx)) hun1 hp1
        obtain ⟨o,hi,hg⟩ := planRun.loud_first hk2 hs p1 a (fun x hx => ⟨(hah x hx).1.2 (by omega),(hah x hx).2⟩) hrp
        have hpo : pairsOk l m (p1 ++ p2) = true := pairsOkX_off hpr' fun x hx => by
          rcases List.mem_append.1 hx with hx | hx
          · exact (hx1 x hx).2
          · exact hq' x hx
        exact (hg.mono fun a' w' h' => planRun.wpAny hQ hm hd hs fuel (p1 ++ p2) _ a' w' hlenp hltp hpo (topoOk_drop h.tp) hfp hc' (.inl h'.1) h'.2).wpOp hi
      · obtain ⟨⟨ju,ku⟩,hyu,hju⟩ : ∃ z ∈ u,z.1 = j' := by
          rcases h.cv _ hyp with h2 | h2 | h2
          · exact absurd h2 h1
          · exact h2
          · simp only at h2; rw [nwe] at h2; cases h2
        simp only at hju
        subst hju
        have hyu' := hyu
        obtain ⟨u1,u2,rfl⟩ := List.append_of_mem hyu
        have hu1 := pairsOk_mem h.pu
        obtain ⟨_,hu2⟩ := pairsOk_drop h.pu
        have hahu := ahead hm hd hc (k := ku) hoj' hall (fun x hx => (hunu x (List.mem_append_left _ hx)).1) (fun x hx => (hunu x (List.mem_append_left _ hx)).2) (fun x hx => (hu1 x hx).1)
        have erp : rmv ju (p1 ++ (ju,k) :: p2) = p1 ++ p2 := rmv_split (fun x hx => (hx1 x hx).2) hq'
        have eru : rmv ju (u1 ++ (ju,ku) :: u2) = u1 ++ u2 := rmv_split (fun x hx => (hu1 x hx).2) hu2
        by_cases h2 : ju = e
        · subst h2
          have hk2 : ku = 2 := (h.ku _ hyu').1 rfl
          obtain ⟨o,hi,hg⟩ := planRun.loud_first hk2 hs u1 a (fun x hx => ⟨(hahu x hx).1.2 (by omega),(hahu x hx).2⟩) hru
          have hnx := h.nx
          have s1 := h.s1; have s2 := h.s2; have s3 := h.s3
          rw [eru] at hnx s1 s2 s3
          have hmem : ∀ i,(∃ y ∈ p1 ++ p2,y.1 = i) ↔ ∃ y ∈ (t.pre (u1 ++ u2)).top,y.1 = i := fun i => by
            rw [← erp]
            constructor
            · rintro ⟨y,hy,rfl⟩
              obtain ⟨h5,h6⟩ := mem_rmv.1 hy
              rcases s2 y h5 with h7 | h7
              · exact absurd h7 h6
              · exact h7
            · rintro ⟨y,hy,rfl⟩
              obtain ⟨z,hz,e⟩ := s1 y hy
              exact ⟨z,mem_rmv.2 ⟨hz,by rw [e]; exact s3 y hy⟩,e⟩
          have hfit : Fits l (t.pre (u1 ++ u2)).top (listed.setIfInBounds ju true) := ⟨hfp.1,fun i hi => (hfp.2 i hi).trans (hmem i)⟩
          have hlen2 : (t.pre (u1 ++ u2)).top.length = fuel := by
            have hn1 : ((p1 ++ p2).map (·.1)).Nodup := by
              have := pairsOkX_nodup h.pr
              rw [List.map_append,List.map_cons] at this
              rw [List.map_append]
              exact this.sublist (List.Sublist.append (List.Sublist.refl _) (List.sublist_cons_self _ _))
            have hp := (List.perm_ext_iff_of_nodup hn1 (PT.ok_nodup hnx)).2 fun i => by
              rw [List.mem_map,List.mem_map]
              exact hmem i
            have := hp.length_eq
            simp only [List.length_map] at this
            omega
          exact (hg.mono fun a' w' h' => planRun.wpTree hQ hm hd hs fuel es (t.pre (u1 ++ u2)) _ a' w' hlen2 hnx hfit hc' h'.1 (PT.run_pre h'.2)).wpOp hi
        · -- any other
          have hk : k < 2 := ((h.kd _ hyp).2 h1 h2).elim id (fun h => by simp only at h; rw [nwf,nwe] at h; simp at h)
          have hk' : ku < 2 := (h.ku _ hyu').2 h2
          have n2 := bne_to h2
          simp only [Bool.not_eq_true'] at n2
          have hah := ahead hm hd hc (k := k) hoj' hall (fun x hx => h.lt x (List.mem_append_left _ hx)) hun1 (fun x hx => by simpa only [pairOkX,n2,nwe,Bool.or_self,Bool.and_false,Bool.or_false] using (hx1 x hx).1)
          obtain ⟨o,v,hi,hqa,hr⟩ := planRun.quiet_first hk hs hC p1 a (fun x hx => ⟨(hah x hx).1.1,(hah x hx).2⟩) hrp
          obtain ⟨o',v',hi',hqa',hr'⟩ := planRun.quiet_first hk' hs hC u1 a (fun x hx => ⟨(hahu x hx).1.1,(hahu x hx).2⟩) hru
          obtain rfl : o' = o := Option.some.inj (hi'.symm.trans hi)
          obtain rfl := hqa.inj hqa'
          have hok2 : PT.ok l m f (e :: es) (.node (p1 ++ p2) (u1 ++ u2) t) = true := by
            have := PT.ok_del h1 (e :: es) (j := ju) (fun h9 => (List.mem_cons.1 h9).elim h2 (h.ns _ hyu')) hok
            rw [PT.del,erp,eru,PT.del_hasnt (h.fr _ hyu')] at this
            exact this
          exact (hqa.good (K := Go.wpAny P .any l.toArray Q fuel _) (planRun.wpTree hQ hm hd hs fuel (e :: es) (.node (p1 ++ p2) (u1 ++ u2) t) _ _ _ hlenp hok2 hfp hc' hC ⟨hr,hr'⟩)).wpOp hi
end
end Go.Bt
