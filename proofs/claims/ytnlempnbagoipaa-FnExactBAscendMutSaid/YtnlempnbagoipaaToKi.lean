/- Trees whose children are evened out: from the nodes in memory to the trees. Conditions: none. -/
import Derived.ChangeArms
import Derived.Deep.Slices
import Derived.Test.YtnlempnbagoipaaToRb
import Derived.Test.YtnlempnbagoipaaToCc
import Derived.Test.YtnlempnbagoipaaToLgH
import Derived.Test.YtnlempnbagoipaaToBt
namespace Go.Bt
open Go
set_option linter.unusedVariables false
variable {α : Type} {E : Elt α}
theorem Inn.alone {H : Mem} {P : Ps} {h : Nat} {g : Ng} {X : List α} {os : List (Option Nat)} {K : List (Gt E h)} (hI : Inn H P h g X os K) : Rn E H P g X os :=
  ⟨hI.n,hI.k,⟨fun k hk => absurd hk (List.not_mem_nil),List.Pairwise.nil⟩,hI.iso⟩
theorem sum_os {H : Mem} {h : Nat} {K : List (Gt E h)} {P : Ps} (hK : ∀ k ∈ K,Gt.Good H P h k) : (((Gt.ps h K).map some).map (cnO (cnOf H))).sum = ((K.map (Gt.L h)).map List.length).sum := by
  congr 1
  unfold Gt.ps
  rw [List.map_map,List.map_map,List.map_map]
  exact List.map_congr_left fun k hk => ((hK k hk).cnOf).2
end Go.Bt
namespace Go.Bt
open Go
set_option linter.unusedVariables false
variable {α : Type} {E : Elt α}
theorem Inn.sub {H : Mem} {P : Ps} {h : Nat} {g : Ng} {X : List α} {os : List (Option Nat)} {K K' : List (Gt E h)} (hI : Inn H P h g X os K) (hs : K'.Sublist K) : Inn H P h g X os K' :=
  ⟨hI.n,hI.k,⟨fun k hk => hI.c.1 k (hs.subset hk),hI.c.2.sublist hs⟩,hI.iso⟩
theorem innc_sub {h : Nat} {g : Ng} {K K' : List (Gt E h)} (hs : ∀ k ∈ K',k ∈ K) {b o : Nat} (hb : innc h g K' b o) : innc h g K b o :=
  hb.imp id fun hb => hb.imp id fun ⟨k,hk,hb⟩ => ⟨k,hs k hk,hb⟩
/-- Two children next to each other of a node,one of them short of an item. -/
structure RebT (H : Mem) (P : Ps) (D : Nat → Prop) (h i : Nat) (g : Ng) (X : List α) (K1 K2 : List (Gt E h)) (u v : Gt E h) (x : α) : Prop where
  n : Inn H P h g X ((Gt.ps h (K1 ++ [u,v] ++ K2)).map some) (K1 ++ K2)
  l : Gt.Good H P h u
  r : Gt.Good H P h v
  ol : Off (Gt.af h u) (innc h g (K1 ++ K2))
  or' : Off (Gt.af h v) (innc h g (K1 ++ K2))
  olr : Off (Gt.af h u) (Gt.af h v)
  tn : ∀ b o,innc h g (K1 ++ K2) b o → ¬ D b
  tl : ∀ b o,Gt.af h u b o → ¬ D b
  tr : ∀ b o,Gt.af h v b o → ¬ D b
  dD : ∀ b,D b → b < H.size
  hi : K1.length = i
  x : X[i]? = some x
  len : (K1 ++ [u,v] ++ K2).length = X.length + 1
  xm : X.length ≤ P.mx
  b : (Gt.L h u).length + (Gt.L h v).length < 4611686018427387904
  sh : (Gt.X h u).length < P.mn ∨ (Gt.X h v).length < P.mn
  ml : P.mn ≤ (Gt.X h u).length + 1
  mr : P.mn ≤ (Gt.X h v).length + 1
theorem rn_innc {h : Nat} {g : Ng} {K : List (Gt E h)} {b o : Nat} (hb : rn E g b o) : innc h g K b o := (rn_iff.1 hb).elim .inl (fun h => .inr (.inl h))
section
variable {H : Mem} {P : Ps} {D : Nat → Prop} {h i : Nat} {g : Ng} {X : List α} {x : α}
theorem ps_at {K1 K2 : List (Gt E h)} {tl tr : Gt E h} : ((Gt.ps h (K1 ++ [tl,tr] ++ K2)).map some)[K1.length]? = some (some (Gt.p h tl)) ∧ ((Gt.ps h (K1 ++ [tl,tr] ++ K2)).map some)[K1.length + 1]? = some (some (Gt.p h tr)) ∧
    ((Gt.ps h (K1 ++ [tl,tr] ++ K2)).map some).length = (K1 ++ [tl,tr] ++ K2).length := by
  refine ⟨?_,?_,by simp [Gt.ps]⟩ <;> simp [Gt.ps]
theorem RebT.inS {K1 K2 : List (Gt E (h + 1))} {u v : Gt E (h + 1)} (ht : RebT H P D (h + 1) i g X K1 K2 u v x) :
    RebIn E H P D false (cnOf H) i g (Gt.g (h + 1) u) (Gt.g (h + 1) v) X (Gt.X (h + 1) u) (Gt.X (h + 1) v) ((Gt.ps (h + 1) (K1 ++ [u,v] ++ K2)).map some) ((Gt.ps h u.2.2).map some) ((Gt.ps h v.2.2).map some) x ∧ (∀ k ∈ u.2.2 ++ v.2.2,Off (Gt.af h k) (rn E g)) := by
  obtain ⟨n,l,r,ol,or',olr,tn,tl,tr,dD,hi,hx,len,xm,b,sh,ml,mr⟩ := ht
  subst hi
  obtain ⟨gl,Xl,Kl⟩ := u
  obtain ⟨gr,Xr,Kr⟩ := v
  obtain ⟨p1,p2,p3⟩ := ps_at (E := E) (h := h + 1) (K1 := K1) (K2 := K2) (tl := (gl,Xl,Kl)) (tr := (gr,Xr,Kr))
  have c1 : gl.cnt = (Pl.inter Xl (Kl.map (Gt.L h))).length := l.2.2.2.1
  have c2 : gr.cnt = (Pl.inter Xr (Kr.map (Gt.L h))).length := r.2.2.2.1
  have k1 : Kl.length = Xl.length + 1 := l.2.2.2.2.2.1
  have k2 : Kr.length = Xr.length + 1 := r.2.2.2.2.2.1
  have rl : ∀ b o,rn E gl b o → Gt.af (h + 1) ((gl,Xl,Kl) : Gt E (h + 1)) b o := fun b o hb => (rn_iff.1 hb).elim .inl (fun h => .inr (.inl h))
  have rr : ∀ b o,rn E gr b o → Gt.af (h + 1) ((gr,Xr,Kr) : Gt E (h + 1)) b o := fun b o hb => (rn_iff.1 hb).elim .inl (fun h => .inr (.inl h))
  have gng : ∀ k ∈ Kl ++ Kr,Off (Gt.af h k) (rn E g) := fun k hk b o hb hr => (List.mem_append.1 hk).elim (fun hk => ol b o (.inr (.inr ⟨k,hk,hb⟩)) (rn_innc hr)) (fun hk => or' b o (.inr (.inr ⟨k,hk,hb⟩)) (rn_innc hr))
  replace b : (Pl.inter Xl (Kl.map (Gt.L h))).length + (Pl.inter Xr (Kr.map (Gt.L h))).length < 4611686018427387904 := b
  refine ⟨⟨n.alone,(Gt.Good.inn l).alone,(Gt.Good.inn r).alone,fun b o h1 h2 => ol b o (rl b o h1) (rn_innc h2),fun b o h1 h2 => or' b o (rr b o h1) (rn_innc h2),fun b o h1 h2 => olr b o (rl b o h1) (rr b o h2),fun b o h => tn b o (rn_innc h),fun b o h => tl b o (rl b o h),fun b o h => tr b o (rr b o h),dD,hx,p1,p2,p3.trans len,xm,l.2.2.2.2.1,r.2.2.2.2.1,
    fun _ => (show ((Gt.ps h Kl).map some).length = Xl.length + 1 by simpa [Gt.ps] using k1),fun _ => (show ((Gt.ps h Kr).map some).length = Xr.length + 1 by simpa [Gt.ps] using k2),?_,?_,fun z hz => ?_,(show gl.cnt + gr.cnt < 4611686018427387904 by omega),sh,ml,mr⟩,gng⟩
  · show gl.cnt = Xl.length + (((Gt.ps h Kl).map some).map (cnO (cnOf H))).sum
    rw [sum_os (P := P) fun k hk => (l.2.2.2.2.2.2.1 k hk).1,c1,Pl.inter_length _ _ (by rw [List.length_map]; exact k1)]
  · show gr.cnt = Xr.length + (((Gt.ps h Kr).map some).map (cnO (cnOf H))).sum
    rw [sum_os (P := P) fun k hk => (r.2.2.2.2.2.2.1 k hk).1,c2,Pl.inter_length _ _ (by rw [List.length_map]; exact k2)]
  · have hz' : ∃ k ∈ Kl ++ Kr,z = some (Gt.p h k) := by
      simp only [Gt.ps,List.mem_append,List.mem_map] at hz ⊢
      rcases hz with ⟨_,⟨k,hk,rfl⟩,rfl⟩ | ⟨_,⟨k,hk,rfl⟩,rfl⟩
      · exact ⟨k,.inl hk,rfl⟩
      · exact ⟨k,.inr hk,rfl⟩
    obtain ⟨k,hk,rfl⟩ := hz'
    have hgk : Gt.Good H P h k ∧ Off (Gt.af h k) (rn E gl) ∧ Off (Gt.af h k) (rn E gr) := by
      rcases List.mem_append.1 hk with hk | hk
      · obtain ⟨q1,_,q3⟩ := l.2.2.2.2.2.2.1 k hk
        exact ⟨q1,fun b o hb hr => (rn_iff.1 hr).elim (q3 b o hb).1 (q3 b o hb).2,fun b o hb hr => olr b o (.inr (.inr ⟨k,hk,hb⟩)) (rr b o hr)⟩
      · obtain ⟨q1,_,q3⟩ := r.2.2.2.2.2.2.1 k hk
        exact ⟨q1,fun b o hb hr => olr b o (rl b o hr) (.inr (.inr ⟨k,hk,hb⟩)),fun b o hb hr => (rn_iff.1 hr).elim (q3 b o hb).1 (q3 b o hb).2⟩
    have hp : Gt.af h k (Gt.p h k) 1 := Gt.af_p (by omega)
    exact ⟨Gt.p h k,rfl,(hgk.1.cnOf).1,gng k hk _ _ hp,hgk.2.1 _ _ hp,hgk.2.2 _ _ hp⟩
end
end Go.Bt
namespace Go.Bt
open Go
set_option linter.unusedVariables false
variable {α : Type} {E : Elt α}
/-- What a deletion does to a tree. -/
structure DelT (H H' : Mem) (P : Ps) (h : Nat) (t t' : Gt E h) (L' : List α) : Prop where
  fr : Fr (Gt.af h t) H H'
  g : Gt.Good H' P h t'
  p : Gt.p h t' = Gt.p h t
  a : Gro H (Gt.af h t) (Gt.af h t')
  l : Gt.L h t' = L'
  x : (Gt.X h t).length ≤ (Gt.X h t').length + 1
namespace Pl
/-- The last one,or the one that is equal to x: it,and the others. -/
def dlr {α : Type} (O : Swo α) (mx : Bool) (x : α) (L : List α) : Option (α × List α) := match mx with
  | true => L.getLast?.map fun y => (y,L.dropLast)
  | false => (got O x L).map fun y => (y,del O x L)
end Pl
/-- A node whose i-th child has lost an item. -/
structure DMid (H H' : Mem) (P : Ps) (h : Nat) (g : Ng) (X : List α) (K : List (Gt E h)) (i : Nat) (X1 : List α) (k' : Gt E h) (L' : List α) : Prop where
  n : Inn H' P h g X1 ((Gt.ps h K).map some) (K.take i ++ K.drop (i + 1))
  k : Gt.Good H' P h k'
  p : ∃ k,K[i]? = some k ∧ Gt.p h k' = Gt.p h k ∧ Gro H (Gt.af h k) (Gt.af h k')
  mn : P.mn ≤ (Gt.X h k').length + 1
  l : Pl.inter X1 ((K.take i ++ [k'] ++ K.drop (i + 1)).map (Gt.L h)) = L'
  len : X1.length = X.length
  fr : Fr (Gt.af (h + 1) ((g,X,K) : Gt E (h + 1))) H H'
theorem Gt.Good.ne {H : Mem} {P : Ps} : ∀ {h : Nat} {t : Gt E h},Gt.Good H P h t → 1 ≤ (Gt.X h t).length → 1 ≤ (Gt.L h t).length
  | 0,_,_,hx => hx
  | _ + 1,t,hg,hx => by
    have : (Gt.L _ t).length = _ := Pl.inter_length t.2.1 (t.2.2.map (Gt.L _)) (by rw [List.length_map]; exact hg.2.2.2.2.2.1)
    rw [this]
    exact Nat.le_trans hx (Nat.le_add_right _ _)
section
variable {H H' : Mem} {P : Ps} {h : Nat} {g : Ng} {X : List α} {os : List (Option Nat)} {K : List (Gt E h)} {i : Nat} {k k' : Gt E h}
theorem kid_split (hk : K[i]? = some k) : K = K.take i ++ [k] ++ K.drop (i + 1) := by
  obtain ⟨h1,h2⟩ := List.getElem?_eq_some_iff.1 hk
  rw [List.append_assoc,List.singleton_append,← h2,List.getElem_cons_drop,List.take_append_drop]
theorem kid_off (hI : Inn H P h g X os K) (hk : K[i]? = some k) : Off (Gt.af h k) (innc h g (K.take i ++ K.drop (i + 1))) := fun b o hb hn => by
  have hs := kid_split hk
  have hc := hI.c
  obtain ⟨h1,h2⟩ := hc
  have hkK : k ∈ K := List.mem_of_getElem? hk
  rcases hn with hn | hn | ⟨m,hm,hn⟩
  · exact (h1 k hkK).2.2 b o hb |>.1 hn
  · exact (h1 k hkK).2.2 b o hb |>.2 hn
  · rw [hs,List.append_assoc,List.pairwise_append,List.singleton_append,List.pairwise_cons] at h2
    obtain ⟨_,⟨p2,_⟩,p3⟩ := h2
    rcases List.mem_append.1 hm with hm | hm
    · exact p3 m hm k List.mem_cons_self b o hn hb
    · exact p2 m hm b o hb hn
theorem DMid.off {X1 L' : List α} (d : DMid H H' P h g X K i X1 k' L') (hI : Inn H P h g X os K) : Off (Gt.af h k') (innc h g (K.take i ++ K.drop (i + 1))) := by
  obtain ⟨k,hk,hp,hg⟩ := d.p
  exact (hg.off (kid_off hI hk).symm fun b o hb => hI.lt (innc_sub (fun m hm => (List.mem_append.1 hm).elim List.mem_of_mem_take List.mem_of_mem_drop) hb)).symm
end
namespace Pl
variable {α : Type} (O : Swo α)
end Pl
end Go.Bt
namespace Go.Bt.Pl
variable {α : Type} (O : Swo α)
end Go.Bt.Pl
/- Values of size 0: they are kept in cells that there are none of. Conditions: none. -/
namespace Go.Bt
open Go
set_option linter.unusedVariables false
theorem Go'.mono {P : Program} {B : World} {f : FuncId} {Q Q' : Value → Mem → Prop} {n : Nat} {r : Env} {k : List Item} {H : Mem} (hq : ∀ v H',Q v H' → Q' v H') (h : Go' P B f Q n r k H) : Go' P B f Q' n r k H :=
  fun d a ha b cs hb hk =>
    let ⟨v,w'',fr,h1,h2,h3,h4⟩ := h d a ha b cs hb hk
    ⟨v,w'',fr,by obtain ⟨H',d',e,q⟩ := h1; exact ⟨H',d',e,hq _ _ q⟩,h2,h3,h4⟩
theorem Wr.nil (H : Mem) (b o : Nat) : Wr H b o 0 := fun i hi => absurd hi (Nat.not_lt_zero i)
section
variable {P : Program} {B : World} {f : FuncId} {Q : Value → Mem → Prop} {n : Nat} {r : Env} {k : List Item} {H : Mem} {l : List Oper} {C : Mem → Prop} {p : List (Nat × Nat)}
variable {i kd d : Nat} {ty : TypeId} {pos : String} {af : Array Edge} {gd : Option (Nat × Bool)}
end
end Go.Bt
/- Regions where one operation may come at any place between those of a chain: a tree of plans. Conditions: the tree passes a check by computation. -/
namespace Go.Bt
open Go
section
variable {P : Program} {l : List Oper} {K : Act → World → Prop}
def rmv (j : Nat) (p : List (Nat × Nat)) : List (Nat × Nat) := p.filter fun y => !Nat.beq y.1 j
theorem mem_rmv {j : Nat} {p : List (Nat × Nat)} {y : Nat × Nat} : y ∈ rmv j p ↔ y ∈ p ∧ y.1 ≠ j := by
  unfold rmv
  rw [List.mem_filter,Bool.not_eq_true']
  refine and_congr_right fun _ => ⟨fun h e => ?_,fun h => ?_⟩
  · rw [e] at h; simp at h
  · cases hb : Nat.beq y.1 j with
    | false => rfl
    | true => exact absurd (Nat.eq_of_beq_eq_true hb) h
theorem rmv_none {j : Nat} {p : List (Nat × Nat)} (h : ∀ x ∈ p,x.1 ≠ j) : rmv j p = p := by
  unfold rmv
  rw [List.filter_eq_self]
  intro x hx
  cases hb : Nat.beq x.1 j with
  | false => rfl
  | true => exact absurd (Nat.eq_of_beq_eq_true hb) (h x hx)
theorem rmv_split {j k : Nat} {p1 p2 : List (Nat × Nat)} (h1 : ∀ x ∈ p1,x.1 ≠ j) (h2 : ∀ x ∈ p2,x.1 ≠ j) : rmv j (p1 ++ (j,k) :: p2) = p1 ++ p2 := by
  have e : rmv j (p1 ++ (j,k) :: p2) = rmv j p1 ++ rmv j p2 := by
    unfold rmv; rw [List.filter_append,List.filter_cons]; simp
  rw [e,rmv_none h1,rmv_none h2]
theorem rmv_comm (i j : Nat) (p : List (Nat × Nat)) : rmv i (rmv j p) = rmv j (rmv i p) := by
  unfold rmv; rw [List.filter_filter,List.filter_filter]; congr 1; funext y; rw [Bool.and_comm]
theorem rmv_app (j : Nat) (p q : List (Nat × Nat)) : rmv j (p ++ q) = rmv j p ++ rmv j q := by unfold rmv; rw [List.filter_append]
theorem pairsOk_rmv {m : List Nat} (j : Nat) : ∀ {p : List (Nat × Nat)},pairsOk l m p = true → pairsOk l m (rmv j p) = true
  | [],_ => rfl
  | x :: p,h => by
    simp only [pairsOk,Bool.and_eq_true,List.all_eq_true] at h
    have ih := pairsOk_rmv j h.2
    unfold rmv
    rw [List.filter_cons]
    split
    · simp only [pairsOk,Bool.and_eq_true,List.all_eq_true]
      exact ⟨fun y hy => h.1 y (mem_rmv.1 hy).1,ih⟩
    · exact ih
theorem pairsOkX_rmv {m : List Nat} {a b : Nat} (j : Nat) : ∀ {p : List (Nat × Nat)},pairsOkX l m a b p = true → pairsOkX l m a b (rmv j p) = true
  | [],_ => rfl
  | x :: p,h => by
    simp only [pairsOkX,Bool.and_eq_true,List.all_eq_true] at h
    have ih := pairsOkX_rmv j h.2
    unfold rmv
    rw [List.filter_cons]
    split
    · simp only [pairsOkX,Bool.and_eq_true,List.all_eq_true]
      exact ⟨fun y hy => h.1 y (mem_rmv.1 hy).1,ih⟩
    · exact ih
theorem topoOk_rmv (j : Nat) : ∀ {p : List (Nat × Nat)},topoOk l p = true → topoOk l (rmv j p) = true
  | [],_ => rfl
  | x :: p,h => by
    simp only [topoOk,Bool.and_eq_true] at h
    have ih := topoOk_rmv j h.2
    unfold rmv
    rw [List.filter_cons]
    split
    · simp only [topoOk,Bool.and_eq_true]
      refine ⟨?_,ih⟩
      have h1 := h.1
      split at h1
      · rename_i o ho
        rw [List.all_eq_true] at h1 ⊢
        intro e he
        have h2 := h1 e he
        simp only [Bool.or_eq_true,Bool.not_eq_true'] at h2 ⊢
        refine h2.imp id fun h3 => ?_
        rw [List.any_eq_false] at h3 ⊢
        intro z hz
        rcases List.mem_cons.1 hz with rfl | hz
        · exact h3 z List.mem_cons_self
        · exact h3 z (List.mem_cons_of_mem _ (mem_rmv.1 hz).1)
      · cases h1
    · exact ih
theorem pairsOk_nodup {m : List Nat} : ∀ {p : List (Nat × Nat)},pairsOk l m p = true → (p.map (·.1)).Nodup
  | [],_ => List.Pairwise.nil
  | x :: p,h => by
    simp only [pairsOk,Bool.and_eq_true,List.all_eq_true] at h
    rw [List.map_cons,List.nodup_cons]
    refine ⟨fun hx => ?_,pairsOk_nodup h.2⟩
    obtain ⟨y,hy,he⟩ := List.mem_map.1 hx
    have := (h.1 y hy).2
    rw [he] at this
    simp at this
theorem pairsOkX_nodup {m : List Nat} {a b : Nat} : ∀ {p : List (Nat × Nat)},pairsOkX l m a b p = true → (p.map (·.1)).Nodup
  | [],_ => List.Pairwise.nil
  | x :: p,h => by
    simp only [pairsOkX,Bool.and_eq_true,List.all_eq_true] at h
    rw [List.map_cons,List.nodup_cons]
    refine ⟨fun hx => ?_,pairsOkX_nodup h.2⟩
    obtain ⟨y,hy,he⟩ := List.mem_map.1 hx
    have := (h.1 y hy).2
    rw [he] at this
    simp at this

/-- Plans for one operation that may come at any place between those of a chain. -/
inductive PT where
  | leaf (p : List (Nat × Nat))
  | node (p u : List (Nat × Nat)) (t : PT)
/-- Its first plan: with that operation first. -/
def PT.top : PT → List (Nat × Nat)
  | .leaf p => p
  | .node p _ _ => p
def PT.pre (v : List (Nat × Nat)) : PT → PT
  | .leaf p => .leaf (v ++ p)
  | .node p u t => .node (v ++ p) (v ++ u) t
def PT.del (j : Nat) : PT → PT
  | .leaf p => .leaf (rmv j p)
  | .node p u t => .node (rmv j p) (rmv j u) (t.del j)
def PT.hasnt (j : Nat) : PT → Bool
  | .leaf p => p.all fun y => !Nat.beq y.1 j
  | .node p u t => (p.all fun y => !Nat.beq y.1 j) && (u.all fun y => !Nat.beq y.1 j) && t.hasnt j
def PT.run (P : Program) (l : List Oper) (C : World → Prop) (K : Act → World → Prop) : PT → Act → World → Prop
  | .leaf p => planRun P l C K p
  | .node p u t => fun a w => planRun P l C K p a w ∧ planRun P l C (t.run P l C K) u a w
theorem bne_of {a b : Nat} (h : (!Nat.beq a b) = true) : a ≠ b := fun e => by rw [e] at h; simp at h
theorem bne_to {a b : Nat} (h : a ≠ b) : (!Nat.beq a b) = true := by
  cases hb : Nat.beq a b with
  | false => rfl
  | true => exact absurd (Nat.eq_of_beq_eq_true hb) h
theorem PT.del_hasnt {j : Nat} : ∀ {t : PT},t.hasnt j = true → t.del j = t
  | .leaf p,h => by
    simp only [PT.hasnt,List.all_eq_true] at h
    simp only [PT.del]; rw [rmv_none fun x hx => bne_of (h x hx)]
  | .node p u t,h => by
    simp only [PT.hasnt,Bool.and_eq_true,List.all_eq_true] at h
    simp only [PT.del]; rw [rmv_none fun x hx => bne_of (h.1.1 x hx),rmv_none fun x hx => bne_of (h.1.2 x hx),PT.del_hasnt h.2]
theorem PT.hasnt_del {i j : Nat} : ∀ {t : PT},t.hasnt i = true → (t.del j).hasnt i = true
  | .leaf p,h => by
    simp only [PT.hasnt,PT.del,List.all_eq_true] at h ⊢
    exact fun x hx => h x (mem_rmv.1 hx).1
  | .node p u t,h => by
    simp only [PT.hasnt,PT.del,Bool.and_eq_true,List.all_eq_true] at h ⊢
    exact ⟨⟨fun x hx => h.1.1 x (mem_rmv.1 hx).1,fun x hx => h.1.2 x (mem_rmv.1 hx).1⟩,PT.hasnt_del h.2⟩
theorem PT.del_pre (j : Nat) (v : List (Nat × Nat)) : ∀ t : PT,(t.pre v).del j = (t.del j).pre (rmv j v)
  | .leaf p => by simp only [PT.pre,PT.del,rmv_app]
  | .node p u t => by simp only [PT.pre,PT.del,rmv_app]
theorem PT.top_del (j : Nat) : ∀ t : PT,(t.del j).top = rmv j t.top
  | .leaf p => rfl
  | .node p u t => rfl

theorem planRun.mono {C : World → Prop} {K' : Act → World → Prop} (h : ∀ a w,K a w → K' a w) : ∀ {p : List (Nat × Nat)} {a : Act} {w : World},planRun P l C K p a w → planRun P l C K' p a w
  | [],_,_,hr => h _ _ hr
  | x :: p,a,w,hr => hr.imp (fun ⟨h1,o,v,h2,h3,h4⟩ => ⟨h1,o,v,h2,h3,planRun.mono h h4⟩) (fun ⟨h1,o,h2,h3⟩ => ⟨h1,o,h2,h3.mono fun _ _ h4 => ⟨h4.1,planRun.mono h h4.2⟩⟩)
theorem planRun.app {C : World → Prop} {q : List (Nat × Nat)} : ∀ {p : List (Nat × Nat)} {a : Act} {w : World},planRun P l C (planRun P l C K q) p a w → planRun P l C K (p ++ q) a w
  | [],_,_,hr => hr
  | x :: p,a,w,hr => hr.imp (fun ⟨h1,o,v,h2,h3,h4⟩ => ⟨h1,o,v,h2,h3,planRun.app h4⟩) (fun ⟨h1,o,h2,h3⟩ => ⟨h1,o,h2,h3.mono fun _ _ h4 => ⟨h4.1,planRun.app h4.2⟩⟩)
theorem PT.run_pre {C : World → Prop} {v : List (Nat × Nat)} : ∀ {t : PT} {a : Act} {w : World},planRun P l C (t.run P l C K) v a w → (t.pre v).run P l C K a w
  | .leaf p,_,_,h => planRun.app h
  | .node p u t,_,_,h => ⟨planRun.app (planRun.mono (fun _ _ h => h.1) h),planRun.app (planRun.mono (fun _ _ h => h.2) h)⟩

/-- The check of a tree: f: the operation that may come anywhere; es: the chain. -/
def PT.ok (l : List Oper) (m : List Nat) (f : Nat) : List Nat → PT → Bool
  | [],.leaf p => pairsOk l m p && topoOk l p && (p.all fun y => Nat.blt y.1 l.length)
  | e :: es,.node p u t => (p.all fun y => Nat.blt y.1 l.length) && (pairsOkX l m f e p && (topoOk l p && (pairsOk l m u &&
      ((p.all fun y => bif Nat.beq y.1 f || Nat.beq y.1 e then Nat.beq y.2 2 else (Nat.blt y.2 2 || ((m.getD y.1 0).testBit f || (m.getD y.1 0).testBit e))) &&
      ((p.any fun y => Nat.beq y.1 f) && ((u.any fun y => Nat.beq y.1 e) && ((u.all fun y => !Nat.beq y.1 f) && ((u.all fun y => bif Nat.beq y.1 e then Nat.beq y.2 2 else Nat.blt y.2 2) &&
      ((p.all fun y => Nat.beq y.1 f || ((u.any fun z => Nat.beq z.1 y.1) || (m.getD y.1 0).testBit e)) && ((u.all fun z => p.any fun y => Nat.beq y.1 z.1) &&
      ((u.all fun z => t.hasnt z.1) && (((t.pre (rmv e u)).top.all fun y => p.any fun z => Nat.beq z.1 y.1) && ((p.all fun y => Nat.beq y.1 e || (t.pre (rmv e u)).top.any fun z => Nat.beq z.1 y.1) &&
      (((t.pre (rmv e u)).top.all fun y => !Nat.beq y.1 e) && (!Nat.beq f e && ((u.all fun z => es.all fun x => !Nat.beq z.1 x) && PT.ok l m f es (t.pre (rmv e u))))))))))))))))))
  | _,_ => false
/-- The same,in words. -/
structure PT.Okn (l : List Oper) (m : List Nat) (f e : Nat) (es : List Nat) (p u : List (Nat × Nat)) (t : PT) : Prop where
  lt : ∀ y ∈ p,y.1 < l.length
  pr : pairsOkX l m f e p = true
  tp : topoOk l p = true
  pu : pairsOk l m u = true
  kd : ∀ y ∈ p,((y.1 = f ∨ y.1 = e) → y.2 = 2) ∧ (y.1 ≠ f → y.1 ≠ e → y.2 < 2 ∨ (m.getD y.1 0).testBit f = true ∨ (m.getD y.1 0).testBit e = true)
  hf : ∃ y ∈ p,y.1 = f
  he : ∃ y ∈ u,y.1 = e
  nf : ∀ y ∈ u,y.1 ≠ f
  ku : ∀ y ∈ u,(y.1 = e → y.2 = 2) ∧ (y.1 ≠ e → y.2 < 2)
  cv : ∀ y ∈ p,y.1 = f ∨ (∃ z ∈ u,z.1 = y.1) ∨ (m.getD y.1 0).testBit e = true
  sb : ∀ z ∈ u,∃ y ∈ p,y.1 = z.1
  fr : ∀ z ∈ u,t.hasnt z.1 = true
  s1 : ∀ y ∈ (t.pre (rmv e u)).top,∃ z ∈ p,z.1 = y.1
  s2 : ∀ y ∈ p,y.1 = e ∨ ∃ z ∈ (t.pre (rmv e u)).top,z.1 = y.1
  s3 : ∀ y ∈ (t.pre (rmv e u)).top,y.1 ≠ e
  ne : f ≠ e
  ns : ∀ z ∈ u,z.1 ∉ es
  nx : PT.ok l m f es (t.pre (rmv e u)) = true
theorem beq_ex {p : List (Nat × Nat)} {j : Nat} : (p.any fun y => Nat.beq y.1 j) = true ↔ ∃ y ∈ p,y.1 = j := by
  rw [List.any_eq_true]
  exact ⟨fun ⟨y,h,e⟩ => ⟨y,h,Nat.eq_of_beq_eq_true e⟩,fun ⟨y,h,e⟩ => ⟨y,h,by rw [e]; exact Nat.beq_refl _⟩⟩
theorem PT.ok_iff {m : List Nat} {f e : Nat} {es : List Nat} {p u : List (Nat × Nat)} {t : PT} : PT.ok l m f (e :: es) (.node p u t) = true ↔ PT.Okn l m f e es p u t := by
  simp only [PT.ok,Bool.and_eq_true,List.all_eq_true,beq_ex,Bool.or_eq_true]
  constructor
  · rintro ⟨h1,h2,h3,h4,h5,h6,h7,h8,h9,h10,h11,h12,h13,h14,h15,h16,h18,h17⟩
    refine ⟨fun y hy => by simpa using h1 y hy,h2,h3,h4,fun y hy => ?_,h6,h7,fun y hy => bne_of (h8 y hy),fun y hy => ?_,fun y hy => (h10 y hy).imp Nat.eq_of_beq_eq_true id,h11,h12,h13,fun y hy => (h14 y hy).imp Nat.eq_of_beq_eq_true id,fun y hy => bne_of (h15 y hy),bne_of h16,fun z hz hin => bne_of (h18 z hz z.1 hin) rfl,h17⟩
    · have := h5 y hy
      constructor
      · intro hh
        have hb : (Nat.beq y.1 f || Nat.beq y.1 e) = true := by rcases hh with hh | hh <;> simp [hh]
        rw [hb] at this
        exact Nat.eq_of_beq_eq_true (by simpa using this)
      · intro n1 n2
        have hb : (Nat.beq y.1 f || Nat.beq y.1 e) = false := by
          have a := bne_to n1; have b := bne_to n2
          simp only [Bool.not_eq_true'] at a b
          rw [a,b]; rfl
        rw [hb] at this
        simpa using this
    · have := h9 y hy
      constructor
      · intro hh; rw [hh] at this; simpa using this
      · intro n1
        have a := bne_to n1
        simp only [Bool.not_eq_true'] at a
        rw [a] at this
        simpa using this
  · intro h
    refine ⟨fun y hy => by simpa using h.lt y hy,h.pr,h.tp,h.pu,fun y hy => ?_,h.hf,h.he,fun y hy => bne_to (h.nf y hy),fun y hy => ?_,fun y hy => (h.cv y hy).imp (fun e => by rw [e]; exact Nat.beq_refl _) id,h.sb,h.fr,h.s1,fun y hy => (h.s2 y hy).imp (fun e => by rw [e]; exact Nat.beq_refl _) id,fun y hy => bne_to (h.s3 y hy),bne_to h.ne,fun z hz x hx => bne_to fun e => h.ns z hz (e ▸ hx),h.nx⟩
    · obtain ⟨k1,k2⟩ := h.kd y hy
      by_cases n1 : y.1 = f
      · rw [k1 (.inl n1),n1]; simp
      · by_cases n2 : y.1 = e
        · rw [k1 (.inr n2),n2]; simp
        · have a := bne_to n1; have b := bne_to n2
          simp only [Bool.not_eq_true'] at a b
          rw [a,b]
          simpa using k2 n1 n2
    · obtain ⟨k1,k2⟩ := h.ku y hy
      by_cases n1 : y.1 = e
      · rw [k1 n1,n1]; simp
      · have a := bne_to n1
        simp only [Bool.not_eq_true'] at a
        rw [a]
        simpa using k2 n1
theorem PT.ok_del {m : List Nat} {f j : Nat} (hjf : j ≠ f) : ∀ (es : List Nat) {t : PT},j ∉ es → PT.ok l m f es t = true → PT.ok l m f es (t.del j) = true
  | [],.leaf p,_,h => by
    simp only [PT.ok,PT.del,Bool.and_eq_true,List.all_eq_true] at h ⊢
    exact ⟨⟨pairsOk_rmv j h.1.1,topoOk_rmv j h.1.2⟩,fun y hy => h.2 y (mem_rmv.1 hy).1⟩
  | [],.node p u t,_,h => by simp [PT.ok] at h
  | e :: es,.leaf p,_,h => by simp [PT.ok] at h
  | e :: es,.node p u t,hj,h => by
    have h := PT.ok_iff.1 h
    have hje : j ≠ e := fun e => hj (by rw [e]; exact List.mem_cons_self)
    have hjs : j ∉ es := fun h => hj (List.mem_cons_of_mem _ h)
    have etop : ((t.del j).pre (rmv e (rmv j u))).top = rmv j (t.pre (rmv e u)).top := by rw [rmv_comm,← PT.del_pre,PT.top_del]
    rw [PT.del]
    refine PT.ok_iff.2 ⟨fun y hy => h.lt y (mem_rmv.1 hy).1,pairsOkX_rmv j h.pr,topoOk_rmv j h.tp,pairsOk_rmv j h.pu,fun y hy => h.kd y (mem_rmv.1 hy).1,?_,?_,fun y hy => h.nf y (mem_rmv.1 hy).1,fun y hy => h.ku y (mem_rmv.1 hy).1,fun y hy => ?_,fun z hz => ?_,fun z hz => PT.hasnt_del (h.fr z (mem_rmv.1 hz).1),fun y hy => ?_,fun y hy => ?_,fun y hy => ?_,h.ne,fun z hz => h.ns z (mem_rmv.1 hz).1,?_⟩
    · obtain ⟨y,hy,e⟩ := h.hf; exact ⟨y,mem_rmv.2 ⟨hy,by rw [e]; exact hjf.symm⟩,e⟩
    · obtain ⟨y,hy,e⟩ := h.he; exact ⟨y,mem_rmv.2 ⟨hy,by rw [e]; exact hje.symm⟩,e⟩
    · obtain ⟨h1,h2⟩ := mem_rmv.1 hy
      exact (h.cv y h1).imp id (fun h3 => h3.imp (fun ⟨z,hz,e⟩ => ⟨z,mem_rmv.2 ⟨hz,by rw [e]; exact h2⟩,e⟩) id)
    · obtain ⟨h1,h2⟩ := mem_rmv.1 hz
      obtain ⟨y,hy,e⟩ := h.sb z h1
      exact ⟨y,mem_rmv.2 ⟨hy,by rw [e]; exact h2⟩,e⟩
    · rw [etop] at hy
      obtain ⟨h1,h2⟩ := mem_rmv.1 hy
      obtain ⟨z,hz,e⟩ := h.s1 y h1
      exact ⟨z,mem_rmv.2 ⟨hz,by rw [e]; exact h2⟩,e⟩
    · obtain ⟨h1,h2⟩ := mem_rmv.1 hy
      rw [etop]
      exact (h.s2 y h1).imp id (fun ⟨z,hz,e⟩ => ⟨z,mem_rmv.2 ⟨hz,by rw [e]; exact h2⟩,e⟩)
    · rw [etop] at hy
      exact h.s3 y (mem_rmv.1 hy).1
    · rw [rmv_comm,← PT.del_pre]
      exact PT.ok_del hjf es hjs h.nx
theorem PT.ok_nodup {m : List Nat} {f : Nat} : ∀ {es : List Nat} {t : PT},PT.ok l m f es t = true → (t.top.map (·.1)).Nodup
  | [],.leaf p,h => by simp only [PT.ok,Bool.and_eq_true] at h; exact pairsOk_nodup h.1.1
  | [],.node p u t,h => by simp [PT.ok] at h
  | e :: es,.leaf p,h => by simp [PT.ok] at h
  | e :: es,.node p u t,h => pairsOkX_nodup (PT.ok_iff.1 h).pr

theorem planRun.wpTree {Q : Exit → Act → World → Prop} {C : World → Prop} {m : List Nat} {f : Nat} (hQ : ∀ a w,K a w → Q .normal a w) (hm : waitsOk l m = true) (hd : edgesDown l = true)
    (hs : ∀ (j : Nat) (o : Oper) cs b,l[j]? = some o → o.op ≠ .select cs b) : ∀ (fuel : Nat) (es : List Nat) (t : PT) (listed : Array Bool) (a : Act) (w : World),t.top.length = fuel → PT.ok l m f es t = true →
      Fits l t.top listed → Closed l listed → C w → t.run P l C K a w → Go.wpAny P .any l.toArray Q fuel listed a w
  | fuel,[],.node p u t,_,_,_,_,h,_,_,_,_ => by simp [PT.ok] at h
  | fuel,e :: es,.leaf p,_,_,_,_,h,_,_,_,_ => by simp [PT.ok] at h
  | fuel,[],.leaf p,listed,a,w,hlen,h,hf,hc,hC,hr => by
    simp only [PT.ok,Bool.and_eq_true,List.all_eq_true] at h
    exact planRun.wpAny hQ hm hd hs fuel p listed a w hlen (fun y hy => by simpa using h.2 y hy) h.1.1 h.1.2 hf hc (.inl hC) hr
  | 0,e :: es,.node p u t,listed,a,w,hlen,h,hf,hc,hC,hr => by
    obtain ⟨y,hy,_⟩ := (PT.ok_iff.1 h).hf
    rw [List.eq_nil_of_length_eq_zero (show p.length = 0 from hlen)] at hy
    cases hy
  | fuel + 1,e :: es,.node p u t,listed,a,w,hlen,hok,hf,hc,hC,⟨hrp,hru⟩ => by
    have h := PT.ok_iff.1 hok
    replace hf : Fits l p listed := hf
    replace hlen : p.length = fuel + 1 := hlen
    refine ⟨fun hnil => ?_,fun j hj => ?_⟩
    · exfalso
      match p,hlen,h,hf with
      | y :: p,_,h,hf =>
        have hm := plan_ready hd h.lt h.tp hf
        rw [hnil] at hm
        cases hm
    · obtain ⟨hun,oj,hoj,hall⟩ := mem_ready.1 hj
      have hoj' : l[j]? = some oj := by simpa using hoj
      have hjl : j < l.length := (List.getElem?_eq_some_iff.1 hoj').1
      obtain ⟨⟨j',k⟩,hy,hyj⟩ := (hf.2 j hjl).1 hun
      simp only at hyj
      subst hyj
      have hyp := hy
      obtain ⟨p1,p2,rfl⟩ := List.append_of_mem hy
      have hx1 := pairsOkX_mem h.pr
      obtain ⟨hpr',hq'⟩ := pairsOkX_drop h.pr
      have hun1 : ∀ x ∈ p1,listed.getD x.1 true = false := fun x hx => (hf.2 x.1 (h.lt x (List.mem_append_left _ hx))).2 ⟨x,List.mem_append_left _ hx,rfl⟩
      have hltp : ∀ y ∈ p1 ++ p2,y.1 < l.length := fun y hy => h.lt y (by
        rcases List.mem_append.1 hy with hy | hy
        · exact List.mem_append_left _ hy
        · exact List.mem_append_right _ (List.mem_cons_of_mem _ hy))
      have hlenp : (p1 ++ p2).length = fuel := by simp at hlen ⊢; omega
      have hfp := hf.next (fun x hx => (hx1 x hx).2) hq' hjl
      have hc' := hc.next hoj' hall
      have hfu : listed.getD f true = false := by
        obtain ⟨z,hz,e⟩ := h.hf
        exact (hf.2 f (by rw [← e]; exact h.lt z hz)).2 ⟨z,hz,e⟩
      have hfl : f < l.length := by obtain ⟨z,hz,e⟩ := h.hf; rw [← e]; exact h.lt z hz
      obtain ⟨z0,hz0,ez0⟩ := h.he
      obtain ⟨z1,hz1,ez1⟩ := h.sb z0 hz0
      have hel : e < l.length := by rw [← ez0,← ez1]; exact h.lt z1 hz1
      have heu : listed.getD e true = false := (hf.2 e hel).2 ⟨z1,hz1,ez1.trans ez0⟩
      have nwf : (m.getD j' 0).testBit f = false := by
        cases hb : (m.getD j' 0).testBit f with
        | false => rfl
        | true =>
          have := waits_listed hm hd hc j' f oj hoj' hfl hb hall
          rw [getD_false_of hfu] at this; cases this
      have nwe : (m.getD j' 0).testBit e = false := by
        cases hb : (m.getD j' 0).testBit e with
        | false => rfl
        | true =>
          have := waits_listed hm hd hc j' e oj hoj' hel hb hall
          rw [getD_false_of heu] at this; cases this
      have hunu : ∀ x ∈ u,x.1 < l.length ∧ listed.getD x.1 true = false := fun x hx => by
        obtain ⟨y,hy,e⟩ := h.sb x hx
        have hl : x.1 < l.length := by rw [← e]; exact h.lt y hy
        exact ⟨hl,(hf.2 x.1 hl).2 ⟨y,hy,e⟩⟩
      by_cases h1 : j' = f
      · subst h1
        have hk2 : k = 2 := (h.kd _ hyp).1 (.inl rfl)
        have hp1 : ∀ x ∈ p1,pairOk l m x (j',k) = true := fun x hx => by
          have h3 := (hx1 x hx).1
          have h4 := bne_to (hx1 x hx).2
          simp only [Bool.not_eq_true'] at h4
          simpa only [pairOkX,h4,Bool.false_and,Bool.or_false] using h3
        have hah := ahead hm hd hc hoj' hall (fun x hx => h.lt x (List.mem_append_left _ hx)) hun1 hp1
        obtain ⟨o,hi,hg⟩ := planRun.loud_first hk2 hs p1 a (fun x hx => ⟨(hah x hx).1.2 (by omega),(hah x hx).2⟩) hrp
        have hpo : pairsOk l m (p1 ++ p2) = true := pairsOkX_off hpr' fun x hx => by
          rcases List.mem_append.1 hx with hx | hx
          · exact (hx1 x hx).2
          · exact hq' x hx
        exact (hg.mono fun a' w' h' => planRun.wpAny hQ hm hd hs fuel (p1 ++ p2) _ a' w' hlenp hltp hpo (topoOk_drop h.tp) hfp hc' (.inl h'.1) h'.2).wpOp hi
      · obtain ⟨⟨ju,ku⟩,hyu,hju⟩ : ∃ z ∈ u,z.1 = j' := by
          rcases h.cv _ hyp with h2 | h2 | h2
          · exact absurd h2 h1
          · exact h2
          · simp only at h2; rw [nwe] at h2; cases h2
        simp only at hju
        subst hju
        have hyu' := hyu
        obtain ⟨u1,u2,rfl⟩ := List.append_of_mem hyu
        have hu1 := pairsOk_mem h.pu
        obtain ⟨_,hu2⟩ := pairsOk_drop h.pu
        have hahu := ahead hm hd hc (k := ku) hoj' hall (fun x hx => (hunu x (List.mem_append_left _ hx)).1) (fun x hx => (hunu x (List.mem_append_left _ hx)).2) (fun x hx => (hu1 x hx).1)
        have erp : rmv ju (p1 ++ (ju,k) :: p2) = p1 ++ p2 := rmv_split (fun x hx => (hx1 x hx).2) hq'
        have eru : rmv ju (u1 ++ (ju,ku) :: u2) = u1 ++ u2 := rmv_split (fun x hx => (hu1 x hx).2) hu2
        by_cases h2 : ju = e
        · subst h2
          have hk2 : ku = 2 := (h.ku _ hyu').1 rfl
          obtain ⟨o,hi,hg⟩ := planRun.loud_first hk2 hs u1 a (fun x hx => ⟨(hahu x hx).1.2 (by omega),(hahu x hx).2⟩) hru
          have hnx := h.nx
          have s1 := h.s1; have s2 := h.s2; have s3 := h.s3
          rw [eru] at hnx s1 s2 s3
          have hmem : ∀ i,(∃ y ∈ p1 ++ p2,y.1 = i) ↔ ∃ y ∈ (t.pre (u1 ++ u2)).top,y.1 = i := fun i => by
            rw [← erp]
            constructor
            · rintro ⟨y,hy,rfl⟩
              obtain ⟨h5,h6⟩ := mem_rmv.1 hy
              rcases s2 y h5 with h7 | h7
              · exact absurd h7 h6
              · exact h7
            · rintro ⟨y,hy,rfl⟩
              obtain ⟨z,hz,e⟩ := s1 y hy
              exact ⟨z,mem_rmv.2 ⟨hz,by rw [e]; exact s3 y hy⟩,e⟩
          have hfit : Fits l (t.pre (u1 ++ u2)).top (listed.setIfInBounds ju true) := ⟨hfp.1,fun i hi => (hfp.2 i hi).trans (hmem i)⟩
          have hlen2 : (t.pre (u1 ++ u2)).top.length = fuel := by
            have hn1 : ((p1 ++ p2).map (·.1)).Nodup := by
              have := pairsOkX_nodup h.pr
              rw [List.map_append,List.map_cons] at this
              rw [List.map_append]
              exact this.sublist (List.Sublist.append (List.Sublist.refl _) (List.sublist_cons_self _ _))
            have hp := (List.perm_ext_iff_of_nodup hn1 (PT.ok_nodup hnx)).2 fun i => by
              rw [List.mem_map,List.mem_map]
              exact hmem i
            have := hp.length_eq
            simp only [List.length_map] at this
            omega
          exact (hg.mono fun a' w' h' => planRun.wpTree hQ hm hd hs fuel es (t.pre (u1 ++ u2)) _ a' w' hlen2 hnx hfit hc' h'.1 (PT.run_pre h'.2)).wpOp hi
        · -- any other
          have hk : k < 2 := ((h.kd _ hyp).2 h1 h2).elim id (fun h => by simp only at h; rw [nwf,nwe] at h; simp at h)
          have hk' : ku < 2 := (h.ku _ hyu').2 h2
          have n2 := bne_to h2
          simp only [Bool.not_eq_true'] at n2
          have hah := ahead hm hd hc (k := k) hoj' hall (fun x hx => h.lt x (List.mem_append_left _ hx)) hun1 (fun x hx => by simpa only [pairOkX,n2,nwe,Bool.or_self,Bool.and_false,Bool.or_false] using (hx1 x hx).1)
          obtain ⟨o,v,hi,hqa,hr⟩ := planRun.quiet_first hk hs hC p1 a (fun x hx => ⟨(hah x hx).1.1,(hah x hx).2⟩) hrp
          obtain ⟨o',v',hi',hqa',hr'⟩ := planRun.quiet_first hk' hs hC u1 a (fun x hx => ⟨(hahu x hx).1.1,(hahu x hx).2⟩) hru
          obtain rfl : o' = o := Option.some.inj (hi'.symm.trans hi)
          obtain rfl := hqa.inj hqa'
          have hok2 : PT.ok l m f (e :: es) (.node (p1 ++ p2) (u1 ++ u2) t) = true := by
            have := PT.ok_del h1 (e :: es) (j := ju) (fun h9 => (List.mem_cons.1 h9).elim h2 (h.ns _ hyu')) hok
            rw [PT.del,erp,eru,PT.del_hasnt (h.fr _ hyu')] at this
            exact this
          exact (hqa.good (K := Go.wpAny P .any l.toArray Q fuel _) (planRun.wpTree hQ hm hd hs fuel (e :: es) (.node (p1 ++ p2) (u1 ++ u2) t) _ _ _ hlenp hok2 hfp hc' hC ⟨hr,hr'⟩)).wpOp hi
end
end Go.Bt
/- Regions where one operation may come at any place between those of a chain: the judgement and the rules. Conditions: those that each rule names. -/
namespace Go.Bt
open Go
/-- A plan of operations,in every frame,that hands on to K. -/
def Pk (P : Program) (B : World) (n : Nat) (l : List Oper) (C : Mem → Prop) (K : Act → World → Prop) (p : List (Nat × Nat)) (r : Env) (H : Mem) : Prop :=
  ∀ d a,Sees n r a → planRun P l (fun w => ∃ H d,w = mk B H d ∧ C H) K p a (mk B H d)
/-- A tree of plans,in every frame. -/
def Tk (P : Program) (B : World) (f : FuncId) (Q : Value → Mem → Prop) (n : Nat) (l : List Oper) (C : Mem → Prop) (k : List Item) (t : PT) (r : Env) (H : Mem) : Prop :=
  ∀ d a,Sees n r a → t.run P l (fun w => ∃ H d,w = mk B H d ∧ C H) (Cont P f (Post' B Q) k) a (mk B H d)
def treeOk (l : List Oper) (f : Nat) (es : List Nat) (t : PT) : Bool :=
  waitsOk l (waitsGo l []) && edgesDown l && Region.noSelect l.toArray && PT.ok l (waitsGo l []) f es t && ((List.range l.length).all fun i => t.top.any fun y => Nat.beq y.1 i) && t.top.all fun y => Nat.blt y.1 l.length
section
variable {P : Program} {B : World} {f : FuncId} {Q : Value → Mem → Prop} {n : Nat} {r : Env} {k : List Item} {H : Mem} {l : List Oper} {C : Mem → Prop} {p : List (Nat × Nat)} {K : Act → World → Prop}
theorem Tk.leaf (h : Pl P B f Q n l C k p r H) : Tk P B f Q n l C k (.leaf p) r H := h
theorem Tk.node {u : List (Nat × Nat)} {t : PT} (h : Pl P B f Q n l C k p r H) (h' : Pk P B n l C (t.run P l (fun w => ∃ H d,w = mk B H d ∧ C H) (Cont P f (Post' B Q) k)) u r H) : Tk P B f Q n l C k (.node p u t) r H := fun d a ha => ⟨h d a ha,h' d a ha⟩
theorem Pk.fin {t : PT} (h : Tk P B f Q n l C k t r H) : Pk P B n l C (t.run P l (fun w => ∃ H d,w = mk B H d ∧ C H) (Cont P f (Post' B Q) k)) [] r H := fun d a ha => h d a ha
theorem wp_of_tree {Q : Exit → Act → World → Prop} {id : Nat} {a : Act} {w : World} {C : World → Prop} (e : Nat) (es : List Nat) (t : PT) (hmx : P.follows .mixedOrders = true) (hp : treeOk l e es t = true)
    (hQ : ∀ a w,K a w → Q .normal a w) (hC : C w.drew) (h : t.run P l C K a w.drew) : (Code.region id l.toArray true).wp P Q a w := by
  simp only [treeOk,Bool.and_eq_true] at hp
  obtain ⟨⟨⟨⟨⟨h1,h2⟩,h3⟩,h4⟩,h5⟩,h6⟩ := hp
  have hlt : ∀ y ∈ t.top,y.1 < l.length := fun y hy => by simpa using List.all_eq_true.1 h6 y hy
  refine wp_region_any hmx ?_
  have hsel : ∀ (j : Nat) (o : Oper) (cs : Array SelectCase) (b : Bool),l[j]? = some o → o.op ≠ .select cs b := fun j o cs b ho => Region.noSelect_spec h3 j o cs b (by simpa using ho)
  have hfit : Fits l t.top (Array.replicate l.length false) := by
    refine ⟨by simp,fun i hi => ⟨fun _ => ?_,fun _ => by simp [hi]⟩⟩
    obtain ⟨y,hy,he⟩ := List.any_eq_true.1 (List.all_eq_true.1 h5 i (List.mem_range.2 hi))
    exact ⟨y,hy,Nat.eq_of_beq_eq_true he⟩
  have hcl : Closed l (Array.replicate l.length false) := fun j o ho hl => by
    have hjl : j < l.length := (List.getElem?_eq_some_iff.1 ho).1
    simp [hjl] at hl
  have hlen : t.top.length = l.length := by
    have hperm : (t.top.map (·.1)).Perm (List.range l.length) := by
      refine (List.perm_ext_iff_of_nodup (PT.ok_nodup h4) List.nodup_range).2 fun i => ?_
      rw [List.mem_map,List.mem_range]
      constructor
      · rintro ⟨y,hy,rfl⟩; exact hlt y hy
      · intro hi
        obtain ⟨y,hy,he⟩ := List.any_eq_true.1 (List.all_eq_true.1 h5 i (List.mem_range.2 hi))
        exact ⟨y,hy,Nat.eq_of_beq_eq_true he⟩
    have := hperm.length_eq
    simpa using this
  have := planRun.wpTree hQ h1 h2 hsel l.length es t (Array.replicate l.length false) a w.drew hlen h4 hfit hcl hC h
  simpa using this
/-- An operation that may come at any place between those of a chain: all orders come to J. -/
theorem Go'.drawT {id : Nat} {l : List Oper} {σ : Type} (C : Mem → Prop) (J : σ → Mem → Prop) (q : σ → Env) (e : Nat) (es : List Nat) (t : PT) (hm : P.follows .mixedOrders = true) (hp : treeOk l e es t = true) (hC : C H)
    (h : ∀ {f Q k},(∀ x H',J x H' → Go' P B f Q n (q x) k H') → Tk P B f Q n l C k t r H) (hc : ∀ x H',J x H' → Go' P B f Q n (q x) k H') :
    Go' P B f Q n r (.code (.region id l.toArray true) :: k) H := fun d a ha =>
  Cont.of_wp (wp_of_tree e es t hm hp (fun _ _ h => ⟨rfl,h⟩) ⟨H,d + 1,rfl,hC⟩ (h hc (d + 1) a ha))
theorem Pk.quiet {i kd d : Nat} {op : Op} {ty : TypeId} {pos : String} {af : Array Edge} {gd : Option (Nat × Bool)} {v : Value} (hi : l[i]? = some ⟨some d,op,ty,pos,af,gd⟩) (hk : Nat.blt kd 2 = true)
    (hg : guardOn l r gd = true) (hd : Nat.blt d n = true)
    (hrun : ∀ a H' d',Sees n r a → hIn C kd H H' → (execOp a.eval ⟨some d,op,ty,pos,af,gd⟩).run P (mk B H' d') = .ok (.value v) (mk B H' d'))
    (h : Pk P B n l C K p ((d,v) :: r) H) : Pk P B n l C K ((i,kd) :: p) r H := fun dd a ha => by
  refine .inl ⟨by simpa using hk,_,v,hi,fun w' hw' => .inl ⟨guardOn_wanted ha hg,?_⟩,h dd _ (ha.put hd)⟩
  rcases hw' with ⟨h0,H',d',rfl,hC⟩ | ⟨h1,rfl⟩
  · exact hrun a H' d' ha (.inl ⟨h0,hC⟩)
  · exact hrun a H dd ha (.inr ⟨h1,rfl⟩)
theorem Pk.pass {i kd d : Nat} {op : Op} {ty : TypeId} {pos : String} {af : Array Edge} {gd : Option (Nat × Bool)} (hi : l[i]? = some ⟨some d,op,ty,pos,af,gd⟩) (hk : Nat.blt kd 2 = true)
    (hg : guardOff l r gd = true) (hd : Nat.blt d n = true) (h : Pk P B n l C K p ((d,undef) :: r) H) : Pk P B n l C K ((i,kd) :: p) r H := fun dd a ha =>
  .inl ⟨by simpa using hk,_,undef,hi,fun _ _ => .inr ⟨guardOff_wanted ha hg,rfl⟩,h dd _ (ha.put hd)⟩
theorem Pk.loudV {i kd d : Nat} {op : Op} {ty : TypeId} {pos : String} {af : Array Edge} {gd : Option (Nat × Bool)} (hi : l[i]? = some ⟨some d,op,ty,pos,af,gd⟩) (hk : Nat.blt 1 kd = true)
    (hg : guardOn l r gd = true) (hd : Nat.blt d n = true) (R : Value → Mem → Prop)
    (hrun : ∀ a d',Sees n r a → ∃ v H' d'',(execOp a.eval ⟨some d,op,ty,pos,af,gd⟩).run P (mk B H d') = .ok (.value v) (mk B H' d'') ∧ R v H')
    (h : ∀ v H',R v H' → C H' ∧ Pk P B n l C K p ((d,v) :: r) H') : Pk P B n l C K ((i,kd) :: p) r H := fun dd a ha => by
  obtain ⟨v,H',d'',h1,h2⟩ := hrun a dd ha
  obtain ⟨h3,h4⟩ := h v H' h2
  refine .inr ⟨Nat.succ_le_of_lt (by simpa using hk),_,hi,.inl ⟨guardOn_wanted ha hg,?_⟩⟩
  rw [h1]
  exact ⟨fun _ => ⟨H',d'',rfl,h3⟩,h4 d'' _ (ha.put hd)⟩
theorem Pk.loudN {i kd : Nat} {op : Op} {ty : TypeId} {pos : String} {af : Array Edge} {gd : Option (Nat × Bool)} (hi : l[i]? = some ⟨none,op,ty,pos,af,gd⟩) (hk : Nat.blt 1 kd = true)
    (hg : guardOn l r gd = true) (R : Mem → Prop)
    (hrun : ∀ a d',Sees n r a → ∃ H' d'',(execOp a.eval ⟨none,op,ty,pos,af,gd⟩).run P (mk B H d') = .ok .skip (mk B H' d'') ∧ R H')
    (h : ∀ H',R H' → C H' ∧ Pk P B n l C K p r H') : Pk P B n l C K ((i,kd) :: p) r H := fun dd a ha => by
  obtain ⟨H',d'',h1,h2⟩ := hrun a dd ha
  obtain ⟨h3,h4⟩ := h H' h2
  refine .inr ⟨Nat.succ_le_of_lt (by simpa using hk),_,hi,.inl ⟨guardOn_wanted ha hg,?_⟩⟩
  rw [h1]
  exact ⟨fun _ => ⟨H',d'',rfl,h3⟩,h4 d'' _ ha⟩
theorem Pk.enter {i kd : Nat} {dst : Option Tmp} {op : Op} {ty : TypeId} {pos : String} {af : Array Edge} {gd : Option (Nat × Bool)} {g : FuncId} {args : List Value} {R : Value → Mem → Prop} (hi : l[i]? = some ⟨dst,op,ty,pos,af,gd⟩)
    (hk : Nat.blt 1 kd = true) (hg : guardOn l r gd = true) (hd : (match dst with | some d => Nat.blt d n | none => true) = true)
    (hrun : ∀ a d',Sees n r a → (execOp a.eval ⟨dst,op,ty,pos,af,gd⟩).run P (mk B H d') = .ok (.enter g args.toArray) (mk B H d'))
    (hc : Fn P B g args H R) (h : ∀ v H',R v H' → C H' ∧ Pk P B n l C K p (match dst with | some d => (d,v) :: r | none => r) H') : Pk P B n l C K ((i,kd) :: p) r H := fun dd a ha => by
  refine .inr ⟨Nat.succ_le_of_lt (by simpa using hk),_,hi,.inl ⟨guardOn_wanted ha hg,?_⟩⟩
  rw [hrun a dd ha]
  refine (hc dd).mono fun e w' he => ?_
  cases e with
  | returned v =>
    obtain ⟨H',d',rfl,hR⟩ := he
    obtain ⟨h1,h2⟩ := h v H' hR
    refine ⟨fun _ => ⟨H',d',rfl,h1⟩,?_⟩
    cases dst with
    | none => exact h2 d' a ha
    | some d => exact h2 d' _ (ha.put hd)
  | panicked c => exact he
  | outgrown => exact he

variable {i kd d : Nat} {ty : TypeId} {pos : String} {af : Array Edge} {gd : Option (Nat × Bool)}
theorem Ok.mv {x : Operand} {v : Value} (hi : l[i]? = some ⟨some d,.move x,ty,pos,af,gd⟩) (hk : Nat.blt kd 2 = true) (hg : guardOn l r gd = true) (hd : Nat.blt d n = true) (hx : ev r x = some v)
    (h : Pk P B n l C K p ((d,v) :: r) H) : Pk P B n l C K ((i,kd) :: p) r H :=
  Pk.quiet hi hk hg hd (fun a H' d' ha _ => by simp [execOp,ha.eval hx]) h
theorem Ok.asg {x : Operand} {v : Value} (hi : l[i]? = some ⟨some d,.assign x,ty,pos,af,gd⟩) (hk : Nat.blt kd 2 = true) (hg : guardOn l r gd = true) (hd : Nat.blt d n = true) (hx : ev r x = some v)
    (h : Pk P B n l C K p ((d,v) :: r) H) : Pk P B n l C K ((i,kd) :: p) r H :=
  Pk.quiet hi hk hg hd (fun a H' d' ha _ => by simp [execOp,ha.eval hx]) h
theorem Ok.ld {t : TypeId} {x : Operand} {b o : Nat} {v : Value} (hi : l[i]? = some ⟨some d,.load t x,ty,pos,af,gd⟩) (hg : guardOn l r gd = true) (hd : Nat.blt d n = true) (ht : Flat P t)
    (hx : ev r x = some (.pointer (some ⟨b,o,none⟩))) (hc : cl H b o = some v) (h : Pk P B n l C K p ((d,v) :: r) H) : Pk P B n l C K ((i,1) :: p) r H :=
  Pk.quiet hi rfl hg hd (fun a H' d' ha hH => by
    obtain rfl : H' = H := hH.elim (fun h => absurd h.1 (by decide)) (fun h => h.2)
    simp [execOp,ha.eval hx,Instr.loadAt,Instr.sureAddr,run_loadVar_flat ht hc]) h
theorem Ok.ldC {t : TypeId} {x : Operand} {b o : Nat} {v : Value} (hi : l[i]? = some ⟨some d,.load t x,ty,pos,af,gd⟩) (hg : guardOn l r gd = true) (hd : Nat.blt d n = true) (ht : Flat P t)
    (hx : ev r x = some (.pointer (some ⟨b,o,none⟩))) (hc : ∀ H',C H' → cl H' b o = some v) (h : Pk P B n l C K p ((d,v) :: r) H) : Pk P B n l C K ((i,0) :: p) r H :=
  Pk.quiet hi rfl hg hd (fun a H' d' ha hH => by
    have hC : C H' := hH.elim (fun h => h.2) (fun h => absurd h.1 (by decide))
    simp [execOp,ha.eval hx,Instr.loadAt,Instr.sureAddr,run_loadVar_flat ht (hc H' hC)]) h
theorem Ok.lds {t : TypeId} {x : Operand} {b o s : Nat} {vs : List Value} (hi : l[i]? = some ⟨some d,.load t x,ty,pos,af,gd⟩) (hg : guardOn l r gd = true) (hd : Nat.blt d n = true) (ht : AggT P t s)
    (hx : ev r x = some (.pointer (some ⟨b,o,none⟩))) (hl : vs.length = s) (hc : Rd H b o vs) (h : Pk P B n l C K p ((d,.agg vs.toArray) :: r) H) : Pk P B n l C K ((i,1) :: p) r H :=
  Pk.quiet hi rfl hg hd (fun a H' d' ha hH => by
    obtain rfl : H' = H := hH.elim (fun h => absurd h.1 (by decide)) (fun h => h.2)
    simp [execOp,ha.eval hx,Instr.loadAt,Instr.sureAddr,run_loadVar_agg ht hl hc]) h
theorem Ok.ldsC {t : TypeId} {x : Operand} {b o s : Nat} {vs : List Value} (hi : l[i]? = some ⟨some d,.load t x,ty,pos,af,gd⟩) (hg : guardOn l r gd = true) (hd : Nat.blt d n = true) (ht : AggT P t s)
    (hx : ev r x = some (.pointer (some ⟨b,o,none⟩))) (hl : vs.length = s) (hc : ∀ H',C H' → Rd H' b o vs) (h : Pk P B n l C K p ((d,.agg vs.toArray) :: r) H) : Pk P B n l C K ((i,0) :: p) r H :=
  Pk.quiet hi rfl hg hd (fun a H' d' ha hH => by
    have hC : C H' := hH.elim (fun h => h.2) (fun h => absurd h.1 (by decide))
    simp [execOp,ha.eval hx,Instr.loadAt,Instr.sureAddr,run_loadVar_agg ht hl (hc H' hC)]) h
theorem Ok.alloc {t : TypeId} {z : Value} (hi : l[i]? = some ⟨some d,.alloc t,ty,pos,af,gd⟩) (hg : guardOn l r gd = true) (hd : Nat.blt d n = true) (hz : Zero P t z)
    (h : ∀ H',Made H H' z.cells t → C H' ∧ Pk P B n l C K p ((d,.pointer (some ⟨H.size,0,none⟩)) :: r) H') : Pk P B n l C K ((i,2) :: p) r H :=
  Pk.loudV hi rfl hg hd (fun v H' => v = .pointer (some ⟨H.size,0,none⟩) ∧ Made H H' z.cells t)
    (fun a d' _ => ⟨_,H.push (.cells z.cells t),d',by simp [execOp,Instr.alloc,hz _,newVar,newRow]; exact ⟨rfl,rfl⟩,rfl,made_push _ _ _⟩) (fun v H' hv => by obtain ⟨rfl,hm⟩ := hv; exact h H' hm)
theorem Ok.box {t : TypeId} {x : Operand} {v : Value} (hi : l[i]? = some ⟨some d,.box t x,ty,pos,af,gd⟩) (hg : guardOn l r gd = true) (hd : Nat.blt d n = true) (hx : ev r x = some v)
    (h : ∀ H',Made H H' v.cells t → C H' ∧ Pk P B n l C K p ((d,.pointer (some ⟨H.size,0,none⟩)) :: r) H') : Pk P B n l C K ((i,2) :: p) r H :=
  Pk.loudV hi rfl hg hd (fun u H' => u = .pointer (some ⟨H.size,0,none⟩) ∧ Made H H' v.cells t)
    (fun a d' ha => ⟨_,H.push (.cells v.cells t),d',by simp [execOp,Instr.box,ha.eval hx,newVar,newRow]; exact ⟨rfl,rfl⟩,rfl,made_push _ _ _⟩) (fun u H' hv => by obtain ⟨rfl,hm⟩ := hv; exact h H' hm)
theorem Ok.st {t : TypeId} {x y : Operand} {b o s : Nat} {v : Value} {vs : List Value} (hi : l[i]? = some ⟨none,.store t x y,ty,pos,af,gd⟩) (hg : guardOn l r gd = true) (ht : Sz P t s)
    (hx : ev r x = some (.pointer (some ⟨b,o,none⟩))) (hy : ev r y = some v) (hv : v.cells = vs.toArray) (hl : vs.length = s) (h1 : ones vs = true) (hw : Wr H b o s)
    (h : ∀ H',Wrote H H' b o vs → C H' ∧ Pk P B n l C K p r H') : Pk P B n l C K ((i,2) :: p) r H :=
  Pk.loudN hi rfl hg (fun H' => Wrote H H' b o vs)
    (fun a d' ha => ⟨setcs H b o vs,d',by simp [execOp,ha.eval hx,ha.eval hy,Instr.storeAt,Instr.sureAddr,run_storeVar ht hv hl h1 hw],setcs_wrote vs H b o (hl ▸ hw)⟩) h
theorem Ok.call {g : FuncId} {as : List Operand} {ts : Array TypeId} {vs : List Value} {R : Value → Mem → Prop} (hi : l[i]? = some ⟨some d,.call ⟨.value (.func g),as.toArray,ts⟩,ty,pos,af,gd⟩)
    (hg : guardOn l r gd = true) (hd : Nat.blt d n = true) (hcall : ∀ (args : Array Value) (w : World),(callFunc g args).run P w = .ok (.enter g args) w) (ha : evs r as = some vs)
    (hc : Fn P B g vs H R) (h : ∀ v H',R v H' → C H' ∧ Pk P B n l C K p ((d,v) :: r) H') : Pk P B n l C K ((i,2) :: p) r H :=
  Pk.enter hi rfl hg (by exact hd) (fun a d' hs => by
    have h1 := hs.evals ha
    have h2 : a.eval (.func g) = .func (.func g) #[] #[] := rfl
    simp only [execOp,resolve,h2,Deferred.ofValue,Sem.run_bind,Sem.run_pure,Result.andThen_ok,invoke,hcall]
    rw [← h1]
    simp) hc h
theorem Ok.callC {x : Operand} {g : FuncId} {as : List Operand} {ts : Array TypeId} {vs us caps : List Value} {R : Value → Mem → Prop} (hi : l[i]? = some ⟨some d,.call ⟨.value x,as.toArray,ts⟩,ty,pos,af,gd⟩)
    (hg : guardOn l r gd = true) (hd : Nat.blt d n = true) (hx : ev r x = some (.func (.func g) us.toArray caps.toArray)) (hcall : ∀ (args : Array Value) (w : World),(callFunc g args).run P w = .ok (.enter g args) w) (ha : evs r as = some vs)
    (hc : Fn P B g (us ++ vs ++ caps) H R) (h : ∀ v H',R v H' → C H' ∧ Pk P B n l C K p ((d,v) :: r) H') : Pk P B n l C K ((i,2) :: p) r H :=
  Pk.enter hi rfl hg (by exact hd) (fun a d' hs => by
    have h1 := hs.evals ha
    have h2 := hs.eval hx
    simp only [execOp,resolve,h2,Deferred.ofValue,Sem.run_bind,Sem.run_pure,Result.andThen_ok,invoke,hcall]
    rw [← h1]
    simp) hc h
theorem Ok.callQ {g : FuncId} {as : List Operand} {ts : Array TypeId} {vs : List Value} {v : Value} (hi : l[i]? = some ⟨some d,.call ⟨.value (.func g),as.toArray,ts⟩,ty,pos,af,gd⟩)
    (hg : guardOn l r gd = true) (hd : Nat.blt d n = true) (hcall : ∀ (args : Array Value) (w : World),(callFunc g args).run P w = .ok (.enter g args) w) (ha : evs r as = some vs)
    (hc : Fn P B g vs H (fun u H' => u = v ∧ H' = H)) (hC : C H) (h : Pk P B n l C K p ((d,v) :: r) H) : Pk P B n l C K ((i,2) :: p) r H :=
  Ok.call hi hg hd hcall ha hc fun u H' hu => by obtain ⟨rfl,rfl⟩ := hu; exact ⟨hC,h⟩
theorem Ok.fa {s : TypeId} {x : Operand} {b o fld off : Nat} (hi : l[i]? = some ⟨some d,.fieldAddr s x fld,ty,pos,af,gd⟩) (hk : Nat.blt kd 2 = true) (hg : guardOn l r gd = true) (hd : Nat.blt d n = true) (hf : FieldAt P s fld off)
    (hx : ev r x = some (.pointer (some ⟨b,o,none⟩))) (h : Pk P B n l C K p ((d,.pointer (some ⟨b,o + off,none⟩)) :: r) H) : Pk P B n l C K ((i,kd) :: p) r H :=
  Pk.quiet hi hk hg hd (fun a H' d' ha _ => by simp [execOp,ha.eval hx,run_fieldAt hf]) h
theorem Ok.fa0 {s : TypeId} {x : Operand} {b fld off : Nat} (hi : l[i]? = some ⟨some d,.fieldAddr s x fld,ty,pos,af,gd⟩) (hk : Nat.blt kd 2 = true) (hg : guardOn l r gd = true) (hd : Nat.blt d n = true) (hf : FieldAt P s fld off)
    (hx : ev r x = some (.pointer (some ⟨b,0,none⟩))) (h : Pk P B n l C K p ((d,.pointer (some ⟨b,off,none⟩)) :: r) H) : Pk P B n l C K ((i,kd) :: p) r H :=
  Ok.fa hi hk hg hd hf hx (by rw [Nat.zero_add]; exact h)
theorem Ok.faz {s : TypeId} {x : Operand} {b o fld : Nat} (hi : l[i]? = some ⟨some d,.fieldAddr s x fld,ty,pos,af,gd⟩) (hk : Nat.blt kd 2 = true) (hg : guardOn l r gd = true) (hd : Nat.blt d n = true) (hf : FieldAt P s fld 0)
    (hx : ev r x = some (.pointer (some ⟨b,o,none⟩))) (h : Pk P B n l C K p ((d,.pointer (some ⟨b,o,none⟩)) :: r) H) : Pk P B n l C K ((i,kd) :: p) r H :=
  Ok.fa hi hk hg hd hf hx h
theorem Ok.nc {x : Operand} {ad : Addr} (hi : l[i]? = some ⟨some d,.nilCheck x,ty,pos,af,gd⟩) (hk : Nat.blt kd 2 = true) (hg : guardOn l r gd = true) (hd : Nat.blt d n = true) (hx : ev r x = some (.pointer (some ad)))
    (h : Pk P B n l C K p ((d,.pointer (some ad)) :: r) H) : Pk P B n l C K ((i,kd) :: p) r H :=
  Pk.quiet hi hk hg hd (fun a H' d' ha _ => by simp [execOp,ha.eval hx]) h
theorem Ok.ext {x : Operand} {vs : Array Value} {v : Value} {ix : Nat} (hi : l[i]? = some ⟨some d,.extract x ix,ty,pos,af,gd⟩) (hk : Nat.blt kd 2 = true) (hg : guardOn l r gd = true) (hd : Nat.blt d n = true) (hx : ev r x = some (.tuple vs))
    (hv : vs[ix]? = some v) (h : Pk P B n l C K p ((d,v) :: r) H) : Pk P B n l C K ((i,kd) :: p) r H :=
  Pk.quiet hi hk hg hd (fun a H' d' ha _ => by simp [execOp,ha.eval hx,Instr.extract,hv]) h
theorem Ok.bin {op : BinOp} {t t' : TypeId} {x y : Operand} {a b : Value} {v : Value} (hi : l[i]? = some ⟨some d,.binOp op t x y t',ty,pos,af,gd⟩) (hk : Nat.blt kd 2 = true) (hg : guardOn l r gd = true) (hd : Nat.blt d n = true)
    (hx : ev r x = some a) (hy : ev r y = some b) (hr : ∀ w,(eqGuard op t x y a b).run P w = .ok () w ∧ (binOp op t a b).run P w = .ok v w) (h : Pk P B n l C K p ((d,v) :: r) H) : Pk P B n l C K ((i,kd) :: p) r H :=
  Pk.quiet hi hk hg hd (fun a H' d' ha _ => by simp [execOp,ha.eval hx,ha.eval hy,hr]) h
theorem Ok.mki {t : TypeId} {x : Operand} {v : Value} {td : TypeDesc} (hi : l[i]? = some ⟨some d,.makeInterface t x,ty,pos,af,gd⟩) (hk : Nat.blt kd 2 = true) (hg : guardOn l r gd = true) (hd : Nat.blt d n = true)
    (hu : P.underlying t = some td) (hn : (match td with | .interface _ => false | _ => true) = true) (hx : ev r x = some v) (h : Pk P B n l C K p ((d,.iface t v) :: r) H) : Pk P B n l C K ((i,kd) :: p) r H :=
  Pk.quiet hi hk hg hd (fun a H' d' ha _ => by
    simp only [execOp,Instr.makeInterface,Sem.run_bind,run_und hu,Result.andThen_ok,ha.eval hx]
    cases td <;> simp_all) h
theorem Ok.mkf {fn : Go.Fn} {xs ys : List Operand} {us vs : List Value} (hi : l[i]? = some ⟨some d,.makeFunc fn xs.toArray ys.toArray,ty,pos,af,gd⟩) (hk : Nat.blt kd 2 = true) (hg : guardOn l r gd = true) (hd : Nat.blt d n = true)
    (hx : evs r xs = some us) (hy : evs r ys = some vs) (h : Pk P B n l C K p ((d,.func fn us.toArray vs.toArray) :: r) H) : Pk P B n l C K ((i,kd) :: p) r H :=
  Pk.quiet hi hk hg hd (fun a H' d' ha _ => by
    have h1 := ha.evals hx
    have h2 := ha.evals hy
    simp only [execOp,Sem.run_bind,Instr.makeFunc,Sem.run_pure,Result.andThen_ok]
    rw [← h1,← h2]; simp) h
end
end Go.Bt
/- Slices of flat values that came in,whatever their type. Conditions: none. -/
namespace Go.Bt
open Go
set_option linter.unusedVariables false
section
variable {P : Program} {B : World} {f : FuncId} {Q : Value → Mem → Prop} {n : Nat} {r : Env} {k : List Item} {H : Mem} {σ : Type} {i1 i2 i3 i4 : Item}
end
section
variable {α : Type} {E : Elt α} {H0 H H' : Mem} {it tr : Nat} {mt sk as ae : Bool} {Z0 Z : Nat → Prop} {fr : List (Nat × Int)} {kv : α}
end
inductive Kd where
  | int (k : IntKind)
  | bool
  | str
def Kd.ok : Kd → Value → Prop
  | .int k,v => ∃ n,v = .int k n ∧ (Lit.int k n).wf = true
  | .bool,v => ∃ b,v = .bool b
  | .str,v => ∃ s : ByteArray,v = .string s ∧ s.size ≤ maxLen
def AllOk : List Kd → List Value → Prop
  | [],[] => True
  | k :: ks,v :: vs => k.ok v ∧ AllOk ks vs
  | _,_ => False
theorem AllOk.app : ∀ {ks : List Kd} {vs : List Value} {ks' : List Kd} {vs' : List Value},AllOk ks vs → AllOk ks' vs' → AllOk (ks ++ ks') (vs ++ vs')
  | [],[],_,_,_,h => h
  | _ :: _,_ :: _,_,_,h,h' => ⟨h.1,h.2.app h'⟩
  | [],_ :: _,_,_,h,_ => h.elim
  | _ :: _,[],_,_,h,_ => h.elim
theorem AllOk.len : ∀ {ks : List Kd} {vs : List Value},AllOk ks vs → vs.length = ks.length
  | [],[],_ => rfl
  | _ :: _,_ :: _,h => by rw [List.length_cons,List.length_cons,h.2.len]
  | [],_ :: _,h => h.elim
  | _ :: _,[],h => h.elim
def kindsF (P : Program) (g : TypeId → Option (List Kd)) : Nat → List Field → Option (List Kd)
  | _,[] => some []
  | off,f :: fs =>
    match g f.type with
    | none => none
    | some a => if f.offset = off ∧ P.cellsOf f.type = a.length then (kindsF P g (off + a.length) fs).map (a ++ ·) else none
/-- The kinds of the cells of a flat type. -/
def kinds (P : Program) : Nat → TypeId → Option (List Kd)
  | 0,_ => none
  | n + 1,t =>
    match P.underlying t with
    | some .bool => some [.bool]
    | some (.int k) => some [.int k]
    | some .string => some [.str]
    | some (.struct fs) =>
      match kindsF P (kinds P n) 0 fs.toList with
      | some ks => if P.cellsOf t = ks.length then some ks else none
      | none => none
    | _ => none
section
variable {H : Type} {enc : TypeId × Value → H} {P : Program} {w : World} {base : Nat} {spare : Nat → Bool} {held : Bool}
end
theorem AllOk.get1 {k : Kd} {ks : List Kd} {vs : List Value} (h : AllOk (k :: ks) vs) : ∃ v vs',vs = v :: vs' ∧ k.ok v ∧ AllOk ks vs' := by
  cases vs with
  | nil => exact h.elim
  | cons v vs => exact ⟨v,vs,rfl,h.1,h.2⟩
theorem AllOk.nil' {vs : List Value} (h : AllOk [] vs) : vs = [] := by
  cases vs with
  | nil => rfl
  | cons v vs => exact h.elim
end Go.Bt
