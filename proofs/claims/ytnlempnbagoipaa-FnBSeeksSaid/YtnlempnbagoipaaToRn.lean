/- Trees whose children are evened out: from the nodes in memory to the trees. Conditions: none. -/
import Derived.ChangeArms
import Derived.Deep.Slices
import Derived.Deep.Strs
import Derived.ChangeSame
import Derived.Test.YtnlempnbagoipaaToRb
import Derived.Test.YtnlempnbagoipaaToCc
namespace Go.Bt
open Go
set_option linter.unusedVariables false
variable {α : Type} {E : Elt α}
theorem Inn.alone {H : Mem} {P : Ps} {h : Nat} {g : Ng} {X : List α} {os : List (Option Nat)} {K : List (Gt E h)} (hI : Inn H P h g X os K) : Rn E H P g X os :=
  ⟨hI.n,hI.k,⟨fun k hk => absurd hk (List.not_mem_nil),List.Pairwise.nil⟩,hI.iso⟩
theorem sum_os {H : Mem} {h : Nat} {K : List (Gt E h)} {P : Ps} (hK : ∀ k ∈ K,Gt.Good H P h k) : (((Gt.ps h K).map some).map (cnO (cnOf H))).sum = ((K.map (Gt.L h)).map List.length).sum := by
  congr 1
  unfold Gt.ps
  rw [List.map_map,List.map_map,List.map_map]
  exact List.map_congr_left fun k hk => ((hK k hk).cnOf).2
end Go.Bt
namespace Go.Bt
open Go
set_option linter.unusedVariables false
variable {α : Type} {E : Elt α}
theorem Inn.sub {H : Mem} {P : Ps} {h : Nat} {g : Ng} {X : List α} {os : List (Option Nat)} {K K' : List (Gt E h)} (hI : Inn H P h g X os K) (hs : K'.Sublist K) : Inn H P h g X os K' :=
  ⟨hI.n,hI.k,⟨fun k hk => hI.c.1 k (hs.subset hk),hI.c.2.sublist hs⟩,hI.iso⟩
theorem innc_sub {h : Nat} {g : Ng} {K K' : List (Gt E h)} (hs : ∀ k ∈ K',k ∈ K) {b o : Nat} (hb : innc h g K' b o) : innc h g K b o :=
  hb.imp id fun hb => hb.imp id fun ⟨k,hk,hb⟩ => ⟨k,hs k hk,hb⟩
/-- Two children next to each other of a node,one of them short of an item. -/
structure RebT (H : Mem) (P : Ps) (D : Nat → Prop) (h i : Nat) (g : Ng) (X : List α) (K1 K2 : List (Gt E h)) (u v : Gt E h) (x : α) : Prop where
  n : Inn H P h g X ((Gt.ps h (K1 ++ [u,v] ++ K2)).map some) (K1 ++ K2)
  l : Gt.Good H P h u
  r : Gt.Good H P h v
  ol : Off (Gt.af h u) (innc h g (K1 ++ K2))
  or' : Off (Gt.af h v) (innc h g (K1 ++ K2))
  olr : Off (Gt.af h u) (Gt.af h v)
  tn : ∀ b o,innc h g (K1 ++ K2) b o → ¬ D b
  tl : ∀ b o,Gt.af h u b o → ¬ D b
  tr : ∀ b o,Gt.af h v b o → ¬ D b
  dD : ∀ b,D b → b < H.size
  hi : K1.length = i
  x : X[i]? = some x
  len : (K1 ++ [u,v] ++ K2).length = X.length + 1
  xm : X.length ≤ P.mx
  b : (Gt.L h u).length + (Gt.L h v).length < 4611686018427387904
  sh : (Gt.X h u).length < P.mn ∨ (Gt.X h v).length < P.mn
  ml : P.mn ≤ (Gt.X h u).length + 1
  mr : P.mn ≤ (Gt.X h v).length + 1
theorem rn_innc {h : Nat} {g : Ng} {K : List (Gt E h)} {b o : Nat} (hb : rn E g b o) : innc h g K b o := (rn_iff.1 hb).elim .inl (fun h => .inr (.inl h))
section
variable {H : Mem} {P : Ps} {D : Nat → Prop} {h i : Nat} {g : Ng} {X : List α} {x : α}
theorem ps_at {K1 K2 : List (Gt E h)} {tl tr : Gt E h} : ((Gt.ps h (K1 ++ [tl,tr] ++ K2)).map some)[K1.length]? = some (some (Gt.p h tl)) ∧ ((Gt.ps h (K1 ++ [tl,tr] ++ K2)).map some)[K1.length + 1]? = some (some (Gt.p h tr)) ∧
    ((Gt.ps h (K1 ++ [tl,tr] ++ K2)).map some).length = (K1 ++ [tl,tr] ++ K2).length := by
  refine ⟨?_,?_,by simp [Gt.ps]⟩ <;> simp [Gt.ps]
theorem RebT.inS {K1 K2 : List (Gt E (h + 1))} {u v : Gt E (h + 1)} (ht : RebT H P D (h + 1) i g X K1 K2 u v x) :
    RebIn E H P D false (cnOf H) i g (Gt.g (h + 1) u) (Gt.g (h + 1) v) X (Gt.X (h + 1) u) (Gt.X (h + 1) v) ((Gt.ps (h + 1) (K1 ++ [u,v] ++ K2)).map some) ((Gt.ps h u.2.2).map some) ((Gt.ps h v.2.2).map some) x ∧ (∀ k ∈ u.2.2 ++ v.2.2,Off (Gt.af h k) (rn E g)) := by
  obtain ⟨n,l,r,ol,or',olr,tn,tl,tr,dD,hi,hx,len,xm,b,sh,ml,mr⟩ := ht
  subst hi
  obtain ⟨gl,Xl,Kl⟩ := u
  obtain ⟨gr,Xr,Kr⟩ := v
  obtain ⟨p1,p2,p3⟩ := ps_at (E := E) (h := h + 1) (K1 := K1) (K2 := K2) (tl := (gl,Xl,Kl)) (tr := (gr,Xr,Kr))
  have c1 : gl.cnt = (Pl.inter Xl (Kl.map (Gt.L h))).length := l.2.2.2.1
  have c2 : gr.cnt = (Pl.inter Xr (Kr.map (Gt.L h))).length := r.2.2.2.1
  have k1 : Kl.length = Xl.length + 1 := l.2.2.2.2.2.1
  have k2 : Kr.length = Xr.length + 1 := r.2.2.2.2.2.1
  have rl : ∀ b o,rn E gl b o → Gt.af (h + 1) ((gl,Xl,Kl) : Gt E (h + 1)) b o := fun b o hb => (rn_iff.1 hb).elim .inl (fun h => .inr (.inl h))
  have rr : ∀ b o,rn E gr b o → Gt.af (h + 1) ((gr,Xr,Kr) : Gt E (h + 1)) b o := fun b o hb => (rn_iff.1 hb).elim .inl (fun h => .inr (.inl h))
  have gng : ∀ k ∈ Kl ++ Kr,Off (Gt.af h k) (rn E g) := fun k hk b o hb hr => (List.mem_append.1 hk).elim (fun hk => ol b o (.inr (.inr ⟨k,hk,hb⟩)) (rn_innc hr)) (fun hk => or' b o (.inr (.inr ⟨k,hk,hb⟩)) (rn_innc hr))
  replace b : (Pl.inter Xl (Kl.map (Gt.L h))).length + (Pl.inter Xr (Kr.map (Gt.L h))).length < 4611686018427387904 := b
  refine ⟨⟨n.alone,(Gt.Good.inn l).alone,(Gt.Good.inn r).alone,fun b o h1 h2 => ol b o (rl b o h1) (rn_innc h2),fun b o h1 h2 => or' b o (rr b o h1) (rn_innc h2),fun b o h1 h2 => olr b o (rl b o h1) (rr b o h2),fun b o h => tn b o (rn_innc h),fun b o h => tl b o (rl b o h),fun b o h => tr b o (rr b o h),dD,hx,p1,p2,p3.trans len,xm,l.2.2.2.2.1,r.2.2.2.2.1,
    fun _ => (show ((Gt.ps h Kl).map some).length = Xl.length + 1 by simpa [Gt.ps] using k1),fun _ => (show ((Gt.ps h Kr).map some).length = Xr.length + 1 by simpa [Gt.ps] using k2),?_,?_,fun z hz => ?_,(show gl.cnt + gr.cnt < 4611686018427387904 by omega),sh,ml,mr⟩,gng⟩
  · show gl.cnt = Xl.length + (((Gt.ps h Kl).map some).map (cnO (cnOf H))).sum
    rw [sum_os (P := P) fun k hk => (l.2.2.2.2.2.2.1 k hk).1,c1,Pl.inter_length _ _ (by rw [List.length_map]; exact k1)]
  · show gr.cnt = Xr.length + (((Gt.ps h Kr).map some).map (cnO (cnOf H))).sum
    rw [sum_os (P := P) fun k hk => (r.2.2.2.2.2.2.1 k hk).1,c2,Pl.inter_length _ _ (by rw [List.length_map]; exact k2)]
  · have hz' : ∃ k ∈ Kl ++ Kr,z = some (Gt.p h k) := by
      simp only [Gt.ps,List.mem_append,List.mem_map] at hz ⊢
      rcases hz with ⟨_,⟨k,hk,rfl⟩,rfl⟩ | ⟨_,⟨k,hk,rfl⟩,rfl⟩
      · exact ⟨k,.inl hk,rfl⟩
      · exact ⟨k,.inr hk,rfl⟩
    obtain ⟨k,hk,rfl⟩ := hz'
    have hgk : Gt.Good H P h k ∧ Off (Gt.af h k) (rn E gl) ∧ Off (Gt.af h k) (rn E gr) := by
      rcases List.mem_append.1 hk with hk | hk
      · obtain ⟨q1,_,q3⟩ := l.2.2.2.2.2.2.1 k hk
        exact ⟨q1,fun b o hb hr => (rn_iff.1 hr).elim (q3 b o hb).1 (q3 b o hb).2,fun b o hb hr => olr b o (.inr (.inr ⟨k,hk,hb⟩)) (rr b o hr)⟩
      · obtain ⟨q1,_,q3⟩ := r.2.2.2.2.2.2.1 k hk
        exact ⟨q1,fun b o hb hr => olr b o (rl b o hr) (.inr (.inr ⟨k,hk,hb⟩)),fun b o hb hr => (rn_iff.1 hr).elim (q3 b o hb).1 (q3 b o hb).2⟩
    have hp : Gt.af h k (Gt.p h k) 1 := Gt.af_p (by omega)
    exact ⟨Gt.p h k,rfl,(hgk.1.cnOf).1,gng k hk _ _ hp,hgk.2.1 _ _ hp,hgk.2.2 _ _ hp⟩
end
end Go.Bt
namespace Go.Bt
open Go
set_option linter.unusedVariables false
variable {α : Type} {E : Elt α}
/-- What a deletion does to a tree. -/
structure DelT (H H' : Mem) (P : Ps) (h : Nat) (t t' : Gt E h) (L' : List α) : Prop where
  fr : Fr (Gt.af h t) H H'
  g : Gt.Good H' P h t'
  p : Gt.p h t' = Gt.p h t
  a : Gro H (Gt.af h t) (Gt.af h t')
  l : Gt.L h t' = L'
  x : (Gt.X h t).length ≤ (Gt.X h t').length + 1
namespace Pl
/-- The last one,or the one that is equal to x: it,and the others. -/
def dlr {α : Type} (O : Swo α) (mx : Bool) (x : α) (L : List α) : Option (α × List α) := match mx with
  | true => L.getLast?.map fun y => (y,L.dropLast)
  | false => (got O x L).map fun y => (y,del O x L)
end Pl
/-- A node whose i-th child has lost an item. -/
structure DMid (H H' : Mem) (P : Ps) (h : Nat) (g : Ng) (X : List α) (K : List (Gt E h)) (i : Nat) (X1 : List α) (k' : Gt E h) (L' : List α) : Prop where
  n : Inn H' P h g X1 ((Gt.ps h K).map some) (K.take i ++ K.drop (i + 1))
  k : Gt.Good H' P h k'
  p : ∃ k,K[i]? = some k ∧ Gt.p h k' = Gt.p h k ∧ Gro H (Gt.af h k) (Gt.af h k')
  mn : P.mn ≤ (Gt.X h k').length + 1
  l : Pl.inter X1 ((K.take i ++ [k'] ++ K.drop (i + 1)).map (Gt.L h)) = L'
  len : X1.length = X.length
  fr : Fr (Gt.af (h + 1) ((g,X,K) : Gt E (h + 1))) H H'
theorem Gt.Good.ne {H : Mem} {P : Ps} : ∀ {h : Nat} {t : Gt E h},Gt.Good H P h t → 1 ≤ (Gt.X h t).length → 1 ≤ (Gt.L h t).length
  | 0,_,_,hx => hx
  | _ + 1,t,hg,hx => by
    have : (Gt.L _ t).length = _ := Pl.inter_length t.2.1 (t.2.2.map (Gt.L _)) (by rw [List.length_map]; exact hg.2.2.2.2.2.1)
    rw [this]
    exact Nat.le_trans hx (Nat.le_add_right _ _)
section
variable {H H' : Mem} {P : Ps} {h : Nat} {g : Ng} {X : List α} {os : List (Option Nat)} {K : List (Gt E h)} {i : Nat} {k k' : Gt E h}
theorem kid_split (hk : K[i]? = some k) : K = K.take i ++ [k] ++ K.drop (i + 1) := by
  obtain ⟨h1,h2⟩ := List.getElem?_eq_some_iff.1 hk
  rw [List.append_assoc,List.singleton_append,← h2,List.getElem_cons_drop,List.take_append_drop]
theorem kid_off (hI : Inn H P h g X os K) (hk : K[i]? = some k) : Off (Gt.af h k) (innc h g (K.take i ++ K.drop (i + 1))) := fun b o hb hn => by
  have hs := kid_split hk
  have hc := hI.c
  obtain ⟨h1,h2⟩ := hc
  have hkK : k ∈ K := List.mem_of_getElem? hk
  rcases hn with hn | hn | ⟨m,hm,hn⟩
  · exact (h1 k hkK).2.2 b o hb |>.1 hn
  · exact (h1 k hkK).2.2 b o hb |>.2 hn
  · rw [hs,List.append_assoc,List.pairwise_append,List.singleton_append,List.pairwise_cons] at h2
    obtain ⟨_,⟨p2,_⟩,p3⟩ := h2
    rcases List.mem_append.1 hm with hm | hm
    · exact p3 m hm k List.mem_cons_self b o hn hb
    · exact p2 m hm b o hb hn
theorem DMid.off {X1 L' : List α} (d : DMid H H' P h g X K i X1 k' L') (hI : Inn H P h g X os K) : Off (Gt.af h k') (innc h g (K.take i ++ K.drop (i + 1))) := by
  obtain ⟨k,hk,hp,hg⟩ := d.p
  exact (hg.off (kid_off hI hk).symm fun b o hb => hI.lt (innc_sub (fun m hm => (List.mem_append.1 hm).elim List.mem_of_mem_take List.mem_of_mem_drop) hb)).symm
end
namespace Pl
variable {α : Type} (O : Swo α)
end Pl
end Go.Bt
namespace Go.Bt.Pl
variable {α : Type} (O : Swo α)
end Go.Bt.Pl
/- Slices of flat values that came in,whatever their type. Conditions: none. -/
namespace Go.Bt
open Go
set_option linter.unusedVariables false
section
variable {P : Program} {B : World} {f : FuncId} {Q : Value → Mem → Prop} {n : Nat} {r : Env} {k : List Item} {H : Mem} {σ : Type} {i1 i2 i3 i4 : Item}
theorem Go'.cut3 (J : σ → Mem → Prop) (q : σ → Env) (ht : ∀ s H',J s H' → Go' P B f Q n (q s) k H') (h : (∀ s H',J s H' → Go' P B f Q n (q s) k H') → Go' P B f Q n r (i1 :: i2 :: i3 :: k) H) : Go' P B f Q n r (i1 :: i2 :: i3 :: k) H := h ht
theorem Go'.cut4 (J : σ → Mem → Prop) (q : σ → Env) (ht : ∀ s H',J s H' → Go' P B f Q n (q s) k H') (h : (∀ s H',J s H' → Go' P B f Q n (q s) k H') → Go' P B f Q n r (i1 :: i2 :: i3 :: i4 :: k) H) : Go' P B f Q n r (i1 :: i2 :: i3 :: i4 :: k) H := h ht
end
section
variable {α : Type} {E : Elt α} {H0 H H' : Mem} {it tr : Nat} {mt sk as ae : Bool} {Z0 Z : Nat → Prop} {fr : List (Nat × Int)} {kv : α}
theorem Itr.away (h : Itr E H0 H it tr mt Z0 sk as ae Z fr kv) {X : Nat → Nat → Prop} (hf : Fr X H H') (hx : ∀ b o,b = it ∨ Z b → ¬ X b o) : Itr E H' H' it tr mt Z sk as ae Z fr kv where
  c0 := hf.keep h.c0 (hx _ _ (.inl rfl))
  c1 := hf.keep h.c1 (hx _ _ (.inl rfl))
  c2 := hf.keep h.c2 (hx _ _ (.inl rfl))
  c3 := hf.keep h.c3 (hx _ _ (.inl rfl))
  c4 := hf.keep h.c4 (hx _ _ (.inl rfl))
  st := have ⟨sv,h1,h2⟩ := h.st; ⟨sv,hf.keep h1 (hx _ _ (.inl rfl)),h2.fr hf fun b o _ hz => hx b o (.inr hz)⟩
  kv := hf.rd h.kv fun _ _ => hx _ _ (.inl rfl)
  wr := hf.wr h.wr
  nz := h.nz
  f := Fr.refl _ _
  zz := fun _ hb => .inl hb
end
inductive Kd where
  | int (k : IntKind)
  | bool
  | str
def Kd.ok : Kd → Value → Prop
  | .int k,v => ∃ n,v = .int k n ∧ (Lit.int k n).wf = true
  | .bool,v => ∃ b,v = .bool b
  | .str,v => ∃ s : ByteArray,v = .string s ∧ s.size ≤ maxLen
def AllOk : List Kd → List Value → Prop
  | [],[] => True
  | k :: ks,v :: vs => k.ok v ∧ AllOk ks vs
  | _,_ => False
theorem AllOk.app : ∀ {ks : List Kd} {vs : List Value} {ks' : List Kd} {vs' : List Value},AllOk ks vs → AllOk ks' vs' → AllOk (ks ++ ks') (vs ++ vs')
  | [],[],_,_,_,h => h
  | _ :: _,_ :: _,_,_,h,h' => ⟨h.1,h.2.app h'⟩
  | [],_ :: _,_,_,h,_ => h.elim
  | _ :: _,[],_,_,h,_ => h.elim
theorem AllOk.len : ∀ {ks : List Kd} {vs : List Value},AllOk ks vs → vs.length = ks.length
  | [],[],_ => rfl
  | _ :: _,_ :: _,h => by rw [List.length_cons,List.length_cons,h.2.len]
  | [],_ :: _,h => h.elim
  | _ :: _,[],h => h.elim
def kindsF (P : Program) (g : TypeId → Option (List Kd)) : Nat → List Field → Option (List Kd)
  | _,[] => some []
  | off,f :: fs =>
    match g f.type with
    | none => none
    | some a => if f.offset = off ∧ P.cellsOf f.type = a.length then (kindsF P g (off + a.length) fs).map (a ++ ·) else none
/-- The kinds of the cells of a flat type. -/
def kinds (P : Program) : Nat → TypeId → Option (List Kd)
  | 0,_ => none
  | n + 1,t =>
    match P.underlying t with
    | some .bool => some [.bool]
    | some (.int k) => some [.int k]
    | some .string => some [.str]
    | some (.struct fs) =>
      match kindsF P (kinds P n) 0 fs.toList with
      | some ks => if P.cellsOf t = ks.length then some ks else none
      | none => none
    | _ => none
section
variable {H : Type} {enc : TypeId × Value → H} {P : Program} {w : World} {base : Nat} {spare : Nat → Bool} {held : Bool}
theorem kindsF_ok {g : TypeId → Option (List Kd)} {n : Nat} {cs : List Value} (hg : ∀ t cs x ks,DataW.trod enc P w base spare held n t cs = some x → g t = some ks → AllOk ks cs) :
    ∀ (fs : List Field) (off : Nat) (ks : List Kd),kindsF P g off fs = some ks → (∀ f,f ∈ fs → ∃ y,DataW.trod enc P w base spare held n f.type ((cs.drop f.offset).take (P.cellsOf f.type)) = some y) → cs.length = off + ks.length → AllOk ks (cs.drop off)
  | [],off,ks,h,_,hl => by
    simp only [kindsF,Option.some.injEq] at h
    subst h
    rw [List.drop_eq_nil_of_le (by simp at hl; omega)]
    exact trivial
  | f :: fs,off,ks,h,hy,hl => by
    unfold kindsF at h
    split at h
    · cases h
    · rename_i a ha
      split at h
      · rename_i ho
        obtain ⟨ho,hc⟩ := ho
        cases hk : kindsF P g (off + a.length) fs with
        | none => rw [hk] at h; cases h
        | some r =>
          rw [hk] at h
          simp only [Option.map_some,Option.some.injEq] at h
          subst h
          rw [List.length_append] at hl
          obtain ⟨y,hy0⟩ := hy f (List.mem_cons_self ..)
          rw [ho,hc] at hy0
          have h1 := hg _ _ _ _ hy0 ha
          have h2 := kindsF_ok hg fs (off + a.length) r hk (fun f' hf' => hy f' (List.mem_cons_of_mem _ hf')) (by omega)
          have := h1.app h2
          rwa [← List.drop_drop,List.take_append_drop] at this
      · cases h
theorem kinds_ok : ∀ (m : Nat) (fuel : Nat) (t : TypeId) (cs : List Value) (x : DataW H × List MemPlace) (ks : List Kd),DataW.trod enc P w base spare held fuel t cs = some x → kinds P m t = some ks → AllOk ks cs
  | 0,_,_,_,_,_,_,h => by cases h
  | m + 1,fuel,t,cs,x,ks,hx,h => by
    unfold kinds at h
    split at h
    · rename_i hu
      cases h
      obtain ⟨b,rfl,_⟩ := DataW.trod_bool hu hx
      exact ⟨⟨b,rfl⟩,trivial⟩
    · rename_i k hu
      cases h
      obtain ⟨b,rfl,_,hw⟩ := DataW.trod_int hu hx
      exact ⟨⟨b,rfl,hw⟩,trivial⟩
    · rename_i hu
      cases h
      obtain ⟨b,rfl,_,hw⟩ := DataW.trod_string hu hx
      exact ⟨⟨b,rfl,hw⟩,trivial⟩
    · rename_i fs hu
      split at h
      · rename_i ks' hk
        split at h
        · rename_i hc
          cases h
          obtain ⟨xs,n,_,_,hl,hlen,hf⟩ := DataW.trod_struct hu hx
          have := kindsF_ok (cs := cs) (fun t cs x ks hx hk => kinds_ok m n t cs x ks hx hk) fs.toList 0 ks hk (fun f hf' => by
            obtain ⟨i,hi⟩ := List.getElem?_of_mem hf'
            have hi' : fs[i]? = some f := by simpa using hi
            have hlt : i < xs.length := by rw [hlen]; exact (Array.getElem?_eq_some_iff.1 hi').1
            exact ⟨xs[i],(hf i f hi').trans (List.getElem?_eq_getElem hlt)⟩) (by rw [hl,hc,Nat.zero_add])
          rwa [List.drop_zero] at this
        · cases h
      · cases h
    · cases h
end
theorem AllOk.get1 {k : Kd} {ks : List Kd} {vs : List Value} (h : AllOk (k :: ks) vs) : ∃ v vs',vs = v :: vs' ∧ k.ok v ∧ AllOk ks vs' := by
  cases vs with
  | nil => exact h.elim
  | cons v vs => exact ⟨v,vs,rfl,h.1,h.2⟩
theorem AllOk.nil' {vs : List Value} (h : AllOk [] vs) : vs = [] := by
  cases vs with
  | nil => rfl
  | cons v vs => exact h.elim
/-- A slice that came in: its elements are flat values of kinds ks,which E spells. -/
theorem slice_in {α : Type} (E : Elt α) {Hh : Type} {enc : TypeId × Value → Hh} {P : Program} {w : World} {fuel m : Nat} {t e : TypeId} {a : Option Addr} {len cap : Nat} {x : DataW Hh × List MemPlace} {ks : List Kd} (ht : P.underlying t = some (.slice e))
    (hks : kinds P m e = some ks) (hce : P.cellsOf e = E.s) (hE : ∀ vs,AllOk ks vs → ∃ y,E.enc y = vs) (h : DataW.trod enc P w 0 (fun _ => true) true fuel t [.slice a len cap] = some x) : ∃ l,InS E w.heap (.slice a len cap) l := by
  rcases Go.Deep.open_slice ht h with ⟨hcs,_⟩ | ⟨a',len',cap',m',n,D,Pl,hcs,_,hl,_,hm,_,hx⟩
  · simp at hcs
    obtain ⟨rfl,rfl,rfl⟩ := hcs
    exact ⟨[],.inr ⟨rfl,_,_,rfl⟩⟩
  · simp at hcs
    obtain ⟨rfl,rfl,rfl⟩ := hcs
    simp only [if_true] at hm
    subst hm
    rcases Nat.eq_zero_or_pos m' with rfl | hc
    · obtain rfl : len = 0 := by omega
      exact ⟨[],.inr ⟨rfl,_,_,rfl⟩⟩
    · have hex : ∀ i,i < m' → ∃ y : α,w.cells? 0 (a'.add (i * E.s)) E.s = some (E.enc y) := fun i hi => by
        obtain ⟨cs',h1,h2⟩ := hx i hi
        obtain ⟨y,hy⟩ := hE _ (kinds_ok m _ _ _ _ _ h2 hks)
        rw [hce] at h1
        exact ⟨y,by rw [hy]; exact h1⟩
      have hx' : ∀ i,∃ y : α,i < m' → w.cells? 0 (a'.add (i * E.s)) E.s = some (E.enc y) := fun i => by
        by_cases hi : i < m'
        · obtain ⟨y,hy⟩ := hex i hi
          exact ⟨y,fun _ => hy⟩
        · obtain ⟨y,_⟩ := hex 0 hc
          exact ⟨y,fun hh => absurd hh hi⟩
      obtain ⟨f,hf⟩ : ∃ f : Nat → α,∀ i,i < m' → w.cells? 0 (a'.add (i * E.s)) E.s = some (E.enc (f i)) := ⟨fun i => Classical.choose (hx' i),fun i => Classical.choose_spec (hx' i)⟩
      obtain ⟨b,o,s⟩ := a'
      have cell : ∀ i j,i < m' → j < E.s → w.cell? ((Addr.add ⟨b,o,s⟩ (i * E.s)).add j) = (E.enc (f i))[j]? := fun i j hi hj => (World.cells?_some (hf i hi)).2.2 j hj
      have hs : s = none := by
        have h0 := cell 0 0 hc E.pos
        cases s with
        | none => rfl
        | some k =>
          have hne : (E.enc (f 0))[0]? ≠ none := by
            intro hh
            have := List.getElem?_eq_none_iff.1 hh
            rw [E.len] at this
            have := E.pos
            omega
          rw [← h0] at hne
          simp only [Nat.zero_mul,Addr.add,if_true,World.cell?] at hne
          split at hne <;> simp at hne
      subst hs
      refine ⟨(List.range len).map f,.inl ⟨b,o,m',by simp,by simpa using hl,fun j v hv => ?_⟩⟩
      have hj := (List.getElem?_eq_some_iff.1 hv).1
      rw [row_len,List.length_map,List.length_range] at hj
      have hi : j / E.s < len := Nat.div_lt_of_lt_mul (by rw [Nat.mul_comm]; exact hj)
      have hr : j % E.s < E.s := Nat.mod_lt _ E.pos
      have hq : ((List.range len).map f)[j / E.s]? = some (f (j / E.s)) := by simp [hi]
      have hjm : j / E.s * E.s + j % E.s = j := by rw [Nat.mul_comm]; exact Nat.div_add_mod j E.s
      have h1 := cell (j / E.s) (j % E.s) (by omega) hr
      have hlt : j % E.s < (E.enc (f (j / E.s))).length := by rw [E.len]; exact hr
      have hg := row_get E hq (j % E.s) _ (List.getElem?_eq_getElem hlt)
      rw [hjm] at hg
      have hvv := Option.some.inj (hv.symm.trans hg)
      have cc : ∀ n,World.cell? w ⟨b,n,none⟩ = cl w.heap b n := fun n => by rw [← mk_self w]; exact mk_cell _ _ _ _ _
      rw [Addr.add_lit,Addr.add_lit,cc] at h1
      rw [show o + j = o + j / E.s * E.s + j % E.s by omega,h1,hvv]
      exact List.getElem?_eq_getElem hlt
end Go.Bt
/- What the moves of an iterator tell. Conditions: none. -/
namespace Go.Bt
open Go
set_option linter.unusedVariables false
/-- A move: its number,its item. -/
def EMv : Elt (Int × Int × Int) := { enc := fun m => [.int .i64 m.1,.int .i64 m.2.1,.int .i64 m.2.2],s := 3,len := fun _ => rfl,one := fun _ => rfl,pos := by decide }
theorem EMv.of (vs : List Value) (h : AllOk [.int .i64,.int .i64,.int .i64] vs) : ∃ y,EMv.enc y = vs := by
  obtain ⟨x1,v1,e1,⟨a,e2,_⟩,h1⟩ := h.get1
  obtain ⟨x2,v2,e3,⟨b,e4,_⟩,h2⟩ := h1.get1
  obtain ⟨x3,v3,e5,⟨c,e6,_⟩,h3⟩ := h2.get1
  rw [e1,e3,e5,e2,e4,e6,h3.nil']
  exact ⟨(a,b,c),rfl⟩
/-- Truth values in a slice. -/
def EB : Elt Bool := { enc := fun b => [.bool b],s := 1,len := fun _ => rfl,one := fun _ => rfl,pos := by decide }
namespace Pl
/-- A place in a list of n items,if it is one. -/
def cut (n : Nat) (z : Int) : Option Nat := if 0 ≤ z ∧ z < (n : Int) then some z.toNat else none
theorem cut_nat (n q : Nat) : cut n (q : Int) = if q < n then some q else none := by
  unfold cut
  by_cases h : q < n
  · rw [if_pos ⟨by omega,by omega⟩,if_pos h]; rfl
  · rw [if_neg (by omega),if_neg h]
theorem cut_last (n : Nat) : cut n ((n : Int) - 1) = if 0 < n then some (n - 1) else none := by
  by_cases h : 0 < n
  · rw [show (n : Int) - 1 = ((n - 1 : Nat) : Int) by omega,cut_nat,if_pos (by omega),if_pos h]
  · rw [if_neg h,cut,if_neg (by omega)]
theorem cut_first (n : Nat) : cut n 0 = if 0 < n then some 0 else none := cut_nat n 0
theorem cut_next (n q : Nat) : cut n ((q : Int) + 1) = if q + 1 < n then some (q + 1) else none := cut_nat n (q + 1)
theorem cut_prev (n q : Nat) (hq : q < n) : cut n ((q : Int) - 1) = if 0 < q then some (q - 1) else none := by
  by_cases h : 0 < q
  · rw [show (q : Int) - 1 = ((q - 1 : Nat) : Int) by omega,cut_nat,if_pos (by omega),if_pos h]
  · rw [if_neg h,cut,if_neg (by omega)]
theorem cut_neg (n : Nat) : cut n (-1) = none := by rw [cut,if_neg (by omega)]
theorem cut_lt {n : Nat} {z : Int} {q : Nat} (h : cut n z = some q) : q < n := by
  unfold cut at h
  split at h
  · simp only [Option.some.injEq] at h; omega
  · cases h
section
variable {α : Type} (O : Swo α) (l : List α)
/-- Where a move leads from a place (−1 or the list's length: nowhere). -/
def mvTo (m : Int × α) (st : Option Nat) : Int :=
  if m.1 = 2 ∨ m.1 = 3 then (match st with | none => -1 | some q => if m.1 = 2 then (q : Int) + 1 else (q : Int) - 1)
  else if m.1 = 1 then (l.length : Int) - 1
  else if m.1 = 4 ∨ m.1 = 5 then (pos O m.2 l : Int)
  else 0
/-- Whether it is told. -/
def mvTold (m : Int × α) (st : Option Nat) : Bool := if m.1 = 2 ∨ m.1 = 3 then st.isSome || l.isEmpty else true
def itStep (s : Option Nat × List (Option α) × List Bool) (m : Int × α) : Option Nat × List (Option α) × List Bool :=
  (cut l.length (mvTo O l m s.1),s.2.1 ++ [(cut l.length (mvTo O l m s.1)).bind (l[·]?)],s.2.2 ++ [mvTold l m s.1])
def itRun (ms : List (Int × α)) : Option Nat × List (Option α) × List Bool := ms.foldl (itStep O l) (none,[],[])
theorem itRun_snoc (ms : List (Int × α)) (m : Int × α) : itRun O l (ms ++ [m]) = itStep O l (itRun O l ms) m := by simp [itRun]
theorem itRun_lt (ms : List (Int × α)) {q : Nat} (h : (itRun O l ms).1 = some q) : q < l.length := by
  rcases List.eq_nil_or_concat ms with rfl | ⟨ms',m,rfl⟩
  · cases h
  · rw [List.concat_eq_append,itRun_snoc] at h; exact cut_lt h
theorem itRun_len (ms : List (Int × α)) : (itRun O l ms).2.1.length = ms.length ∧ (itRun O l ms).2.2.length = ms.length := by
  have : ∀ (ms : List (Int × α)) s,(ms.foldl (itStep O l) s).2.1.length = s.2.1.length + ms.length ∧ (ms.foldl (itStep O l) s).2.2.length = s.2.2.length + ms.length := by
    intro ms
    induction ms with
    | nil => exact fun s => ⟨rfl,rfl⟩
    | cons m ms ih => intro s; rw [List.foldl_cons]; obtain ⟨h1,h2⟩ := ih (itStep O l s m); rw [h1,h2]; simp [itStep]; omega
  have := this ms (none,[],[])
  simpa [itRun] using this
end
/-- Two lists agree wherever it is told. -/
def Agree {γ : Type} (a b : List γ) (t : List Bool) : Prop := a.length = b.length ∧ t.length = b.length ∧ ∀ j : Nat,t[j]? = some true → a[j]? = b[j]?
theorem Agree.nil {γ : Type} : Agree ([] : List γ) [] [] := ⟨rfl,rfl,fun _ _ => rfl⟩
theorem Agree.snoc {γ : Type} {a b : List γ} {t : List Bool} {x y : γ} {k : Bool} (h : Agree a b t) (hk : k = true → x = y) : Agree (a ++ [x]) (b ++ [y]) (t ++ [k]) := by
  obtain ⟨h1,h2,h3⟩ := h
  refine ⟨by simp [h1],by simp [h2],fun j hj => ?_⟩
  rcases Nat.lt_trichotomy j b.length with hlt | rfl | hgt
  · rw [List.getElem?_append_left (by omega)] at hj
    rw [List.getElem?_append_left (by omega),List.getElem?_append_left hlt]
    exact h3 j hj
  · rw [← h2,List.getElem?_append_right (Nat.le_refl _),Nat.sub_self] at hj
    simp only [List.getElem?_cons_zero,Option.some.injEq] at hj
    rw [List.getElem?_append_right (Nat.le_of_eq h1),h1,Nat.sub_self,List.getElem?_append_right (Nat.le_refl _),Nat.sub_self,hk hj]
  · rw [List.getElem?_eq_none_iff.2 (by simp; omega)] at hj
    cases hj
end Pl
end Go.Bt
namespace Go.Bt
open Go
namespace Pl
section
variable {α : Type} (O : Swo α) (l : List α)
/-- What a move did: where it is told,it came to what the reference says; else the reference stands nowhere. -/
structure Res (m : Int × α) (s0 : Option Nat) (b : Bool) (st : Option Nat) : Prop where
  told : mvTold l m s0 = true → b = st.isSome ∧ st = cut l.length (mvTo O l m s0)
  not : mvTold l m s0 = false → cut l.length (mvTo O l m s0) = none
variable {O l}
theorem Res.sim {m : Int × α} {s0 st : Option Nat} {b : Bool} (h : Res O l m s0 b st) : ∀ q,cut l.length (mvTo O l m s0) = some q → st = some q := fun q hq => by
  cases ht : mvTold l m s0 with
  | true => rw [(h.told ht).2]; exact hq
  | false => rw [h.not ht] at hq; cases hq
theorem Res.out {m : Int × α} {s0 st : Option Nat} {b : Bool} (h : Res O l m s0 b st) {kv : α} (hkv : ∀ q,st = some q → l[q]? = some kv) (ht : mvTold l m s0 = true) : (if b = true then some kv else none) = (cut l.length (mvTo O l m s0)).bind (l[·]?) := by
  obtain ⟨h1,h2⟩ := h.told ht
  rw [← h2,h1]
  cases st with
  | none => rfl
  | some q => exact (hkv q rfl).symm
theorem Res.first {m : Int × α} {s0 : Option Nat} (h1 : m.1 ≠ 1) (h2 : m.1 ≠ 2) (h3 : m.1 ≠ 3) (h4 : m.1 ≠ 4) (h5 : m.1 ≠ 5) : Res O l m s0 (decide (0 < l.length)) (if 0 < l.length then some 0 else none) := by
  have e : mvTo O l m s0 = 0 := by unfold mvTo; rw [if_neg (by omega),if_neg h1,if_neg (by omega)]
  refine ⟨fun _ => ⟨?_,by rw [e,cut_first]⟩,fun h => ?_⟩
  · by_cases h : 0 < l.length <;> simp [h]
  · unfold mvTold at h; rw [if_neg (by omega)] at h; cases h
theorem Res.last {m : Int × α} {s0 : Option Nat} (h1 : m.1 = 1) : Res O l m s0 (decide (0 < l.length)) (if 0 < l.length then some (l.length - 1) else none) := by
  have e : mvTo O l m s0 = (l.length : Int) - 1 := by unfold mvTo; rw [if_neg (by omega),if_pos h1]
  refine ⟨fun _ => ⟨?_,by rw [e,cut_last]⟩,fun h => ?_⟩
  · by_cases h : 0 < l.length <;> simp [h]
  · unfold mvTold at h; rw [if_neg (by omega)] at h; cases h
theorem Res.seek {m : Int × α} {s0 : Option Nat} (h1 : m.1 = 4 ∨ m.1 = 5) : Res O l m s0 (decide (pos O m.2 l < l.length)) (if pos O m.2 l < l.length then some (pos O m.2 l) else none) := by
  have e : mvTo O l m s0 = (pos O m.2 l : Int) := by unfold mvTo; rw [if_neg (by omega),if_neg (by omega),if_pos h1]
  refine ⟨fun _ => ⟨?_,by rw [e,cut_nat]⟩,fun h => ?_⟩
  · by_cases h : pos O m.2 l < l.length <;> simp [h]
  · unfold mvTold at h; rw [if_neg (by omega)] at h; cases h
theorem Res.next {m : Int × α} {s0 st st' : Option Nat} {b : Bool} (h1 : m.1 = 2) (hs : ∀ q,s0 = some q → st = some q) (h : ∀ q,st = some q → b = decide (q + 1 < l.length) ∧ st' = if q + 1 < l.length then some (q + 1) else none) (hn : l = [] → b = false ∧ st' = none) : Res O l m s0 b st' := by
  cases s0 with
  | some q =>
    have e : mvTo O l m (some q) = (q : Int) + 1 := by unfold mvTo; rw [if_pos (.inl h1)]; simp only; rw [if_pos h1]
    obtain ⟨h2,h3⟩ := h q (hs q rfl)
    refine ⟨fun _ => ⟨?_,by rw [e,cut_next]; exact h3⟩,fun h => ?_⟩
    · rw [h2,h3]; by_cases h : q + 1 < l.length <;> simp [h]
    · unfold mvTold at h; rw [if_pos (.inl h1)] at h; cases h
  | none =>
    have e : mvTo O l m none = -1 := by unfold mvTo; rw [if_pos (.inl h1)]
    refine ⟨fun h => ?_,fun _ => by rw [e,cut_neg]⟩
    unfold mvTold at h
    rw [if_pos (.inl h1)] at h
    obtain ⟨h2,h3⟩ := hn (by simpa using h)
    rw [e,cut_neg,h2,h3]; exact ⟨rfl,rfl⟩
theorem Res.prev {m : Int × α} {s0 st st' : Option Nat} {b : Bool} (h1 : m.1 = 3) (hlt : ∀ q,s0 = some q → q < l.length) (hs : ∀ q,s0 = some q → st = some q) (h : ∀ q,st = some q → b = decide (0 < q) ∧ st' = if 0 < q then some (q - 1) else none) (hn : l = [] → b = false ∧ st' = none) : Res O l m s0 b st' := by
  cases s0 with
  | some q =>
    have e : mvTo O l m (some q) = (q : Int) - 1 := by unfold mvTo; rw [if_pos (.inr h1)]; simp only; rw [if_neg (by omega)]
    obtain ⟨h2,h3⟩ := h q (hs q rfl)
    refine ⟨fun _ => ⟨?_,by rw [e,cut_prev _ _ (hlt q rfl)]; exact h3⟩,fun h => ?_⟩
    · rw [h2,h3]; by_cases h : 0 < q <;> simp [h]
    · unfold mvTold at h; rw [if_pos (.inr h1)] at h; cases h
  | none =>
    have e : mvTo O l m none = -1 := by unfold mvTo; rw [if_pos (.inr h1)]
    refine ⟨fun h => ?_,fun _ => by rw [e,cut_neg]⟩
    unfold mvTold at h
    rw [if_pos (.inr h1)] at h
    obtain ⟨h2,h3⟩ := hn (by simpa using h)
    rw [e,cut_neg,h2,h3]; exact ⟨rfl,rfl⟩
/-- A place as the reference spells it. -/
def atz : Option Nat → Int
  | none => -1
  | some q => (q : Int)
end
end Pl
end Go.Bt
namespace Go.Bt
open Go
namespace Pl
section
variable {α : Type} (O : Swo α) (T : List α)
end
end Pl
end Go.Bt
/- A slice of truth values that came in. Conditions: those that each theorem names. -/
namespace Go.Bt
open Go
set_option linter.unusedVariables false
theorem slice_inG {α : Type} (E : Elt α) {Hh : Type} {enc : TypeId × Value → Hh} {P : Program} {w : World} {fuel : Nat} {t e : TypeId} {a : Option Addr} {len cap : Nat} {x : DataW Hh × List MemPlace} (ht : P.underlying t = some (.slice e))
    (hce : P.cellsOf e = E.s) (hE : ∀ (n : Nat) (cs : List Value) (y : DataW Hh × List MemPlace),DataW.trod enc P w 0 (fun _ => true) true n e cs = some y → ∃ y,E.enc y = cs) (h : DataW.trod enc P w 0 (fun _ => true) true fuel t [.slice a len cap] = some x) : ∃ l,InS E w.heap (.slice a len cap) l := by
  rcases Go.Deep.open_slice ht h with ⟨hcs,_⟩ | ⟨a',len',cap',m',n,D,Pl,hcs,_,hl,_,hm,_,hx⟩
  · simp at hcs
    obtain ⟨rfl,rfl,rfl⟩ := hcs
    exact ⟨[],.inr ⟨rfl,_,_,rfl⟩⟩
  · simp at hcs
    obtain ⟨rfl,rfl,rfl⟩ := hcs
    simp only [if_true] at hm
    subst hm
    rcases Nat.eq_zero_or_pos m' with rfl | hc
    · obtain rfl : len = 0 := by omega
      exact ⟨[],.inr ⟨rfl,_,_,rfl⟩⟩
    · have hex : ∀ i,i < m' → ∃ y : α,w.cells? 0 (a'.add (i * E.s)) E.s = some (E.enc y) := fun i hi => by
        obtain ⟨cs',h1,h2⟩ := hx i hi
        obtain ⟨y,hy⟩ := hE _ _ _ h2
        rw [hce] at h1
        exact ⟨y,by rw [hy]; exact h1⟩
      have hx' : ∀ i,∃ y : α,i < m' → w.cells? 0 (a'.add (i * E.s)) E.s = some (E.enc y) := fun i => by
        by_cases hi : i < m'
        · obtain ⟨y,hy⟩ := hex i hi
          exact ⟨y,fun _ => hy⟩
        · obtain ⟨y,_⟩ := hex 0 hc
          exact ⟨y,fun hh => absurd hh hi⟩
      obtain ⟨f,hf⟩ : ∃ f : Nat → α,∀ i,i < m' → w.cells? 0 (a'.add (i * E.s)) E.s = some (E.enc (f i)) := ⟨fun i => Classical.choose (hx' i),fun i => Classical.choose_spec (hx' i)⟩
      obtain ⟨b,o,s⟩ := a'
      have cell : ∀ i j,i < m' → j < E.s → w.cell? ((Addr.add ⟨b,o,s⟩ (i * E.s)).add j) = (E.enc (f i))[j]? := fun i j hi hj => (World.cells?_some (hf i hi)).2.2 j hj
      have hs : s = none := by
        have h0 := cell 0 0 hc E.pos
        cases s with
        | none => rfl
        | some k =>
          have hne : (E.enc (f 0))[0]? ≠ none := by
            intro hh
            have := List.getElem?_eq_none_iff.1 hh
            rw [E.len] at this
            have := E.pos
            omega
          rw [← h0] at hne
          simp only [Nat.zero_mul,Addr.add,if_true,World.cell?] at hne
          split at hne <;> simp at hne
      subst hs
      refine ⟨(List.range len).map f,.inl ⟨b,o,m',by simp,by simpa using hl,fun j v hv => ?_⟩⟩
      have hj := (List.getElem?_eq_some_iff.1 hv).1
      rw [row_len,List.length_map,List.length_range] at hj
      have hi : j / E.s < len := Nat.div_lt_of_lt_mul (by rw [Nat.mul_comm]; exact hj)
      have hr : j % E.s < E.s := Nat.mod_lt _ E.pos
      have hq : ((List.range len).map f)[j / E.s]? = some (f (j / E.s)) := by simp [hi]
      have hjm : j / E.s * E.s + j % E.s = j := by rw [Nat.mul_comm]; exact Nat.div_add_mod j E.s
      have h1 := cell (j / E.s) (j % E.s) (by omega) hr
      have hlt : j % E.s < (E.enc (f (j / E.s))).length := by rw [E.len]; exact hr
      have hg := row_get E hq (j % E.s) _ (List.getElem?_eq_getElem hlt)
      rw [hjm] at hg
      have hvv := Option.some.inj (hv.symm.trans hg)
      have cc : ∀ n,World.cell? w ⟨b,n,none⟩ = cl w.heap b n := fun n => by rw [← mk_self w]; exact mk_cell _ _ _ _ _
      rw [Addr.add_lit,Addr.add_lit,cc] at h1
      rw [show o + j = o + j / E.s * E.s + j % E.s by omega,h1,hvv]
      exact List.getElem?_eq_getElem hlt
end Go.Bt
/- How structs that come in are opened: how a tree is made,an item,the options of a range. Conditions: none. -/
namespace Go.Bt
open Go Go.ChangeShapes
section
variable {Hh : Type} {enc : TypeId × Value → Hh} {P : Program} {w : World} {fuel : Nat} {t e : TypeId} {f0 f1 f2 : Field} {cs : List Value} {x : DataW Hh × List MemPlace}
theorem len1 {α : Type} {l : List α} {c : α} (h : l = [c]) : l = [c] := h
theorem open_mk (ht : P.underlying t = some (.struct #[f0,f1,f2])) (o0 : f0.offset = 0) (o1 : f1.offset = 1) (o2 : f2.offset = 2) (h0 : P.underlying f0.type = some (.slice e)) (hce : P.cellsOf e = 1) (he : P.underlying e = some (.int .i64))
    (h1 : P.underlying f1.type = some (.int .i64)) (h2 : P.underlying f2.type = some .bool) (c0 : P.cellsOf f0.type = 1) (c1 : P.cellsOf f1.type = 1) (c2 : P.cellsOf f2.type = 1) (ct : P.cellsOf t = 3)
    (h : DataW.trod enc P w 0 (fun _ => true) true fuel t cs = some x) (hsl : ∀ v n y,DataW.trod enc P w 0 (fun _ => true) true n f0.type [v] = some y → ∃ a m c,v = .slice a m c) :
    ∃ (v : Value) (l : List Int) (z : Int) (b : Bool),cs = [v,.int .i64 z,.bool b] ∧ InS EN w.heap v l := by
  obtain ⟨y0,y1,y2,n,_,hl,t0,t1,t2⟩ := Go.Deep.trod_struct3 ht h
  rw [ct] at hl
  obtain ⟨a0,a1,a2,rfl⟩ : ∃ a0 a1 a2,cs = [a0,a1,a2] := by
    match cs,hl with
    | [a0,a1,a2],_ => exact ⟨a0,a1,a2,rfl⟩
  rw [o0,c0] at t0
  rw [o1,c1] at t1
  rw [o2,c2] at t2
  obtain ⟨z,hz,_⟩ := DataW.trod_int h1 t1
  obtain ⟨b,hb,_⟩ := DataW.trod_bool h2 t2
  obtain ⟨a,m,c,rfl⟩ := hsl a0 n y0 t0
  obtain ⟨l,hi⟩ := slice_inG EN (a := a) (len := m) (cap := c) h0 hce (fun n cs y hy => by obtain ⟨z,hz,_⟩ := DataW.trod_int he hy; exact ⟨z,hz.symm⟩) t0
  have ez : a1 = .int .i64 z := by simpa using hz
  have eb : a2 = .bool b := by simpa using hb
  exact ⟨_,l,z,b,by rw [ez,eb],hi⟩
theorem open_it (ht : P.underlying t = some (.struct #[f0,f1])) (o0 : f0.offset = 0) (o1 : f1.offset = 1) (h0 : P.underlying f0.type = some (.int .i64)) (h1 : P.underlying f1.type = some (.int .i64)) (c0 : P.cellsOf f0.type = 1) (c1 : P.cellsOf f1.type = 1) (ct : P.cellsOf t = 2)
    (h : DataW.trod enc P w 0 (fun _ => true) true fuel t cs = some x) : ∃ z0 z1 : Int,cs = [.int .i64 z0,.int .i64 z1] := by
  obtain ⟨y0,y1,n,_,hl,t0,t1⟩ := trod_struct2 ht h
  rw [ct] at hl
  obtain ⟨a0,a1,rfl⟩ : ∃ a0 a1,cs = [a0,a1] := by
    match cs,hl with
    | [a0,a1],_ => exact ⟨a0,a1,rfl⟩
  rw [o0,c0] at t0
  rw [o1,c1] at t1
  obtain ⟨z0,hz0,_⟩ := DataW.trod_int h0 t0
  obtain ⟨z1,hz1,_⟩ := DataW.trod_int h1 t1
  have e0 : a0 = .int .i64 z0 := by simpa using hz0
  have e1 : a1 = .int .i64 z1 := by simpa using hz1
  exact ⟨z0,z1,by rw [e0,e1]⟩
/-- What is a slice by its type is one. -/
theorem trod_isl (ht : P.underlying t = some (.slice e)) {v : Value} {n : Nat} {y : DataW Hh × List MemPlace} (h : DataW.trod enc P w 0 (fun _ => true) true n t [v] = some y) : ∃ a m c,v = .slice a m c := by
  rcases Go.Deep.open_slice ht h with ⟨hcs,_⟩ | ⟨a',len',cap',m',n,D,Pl,hcs,_⟩
  · exact ⟨_,_,_,by simpa using hcs⟩
  · exact ⟨_,_,_,by simpa using hcs⟩
end
end Go.Bt
/- An order carried over to other items. Conditions: none. -/
namespace Go.Bt.Pl
set_option linter.unusedVariables false
variable {α β : Type} {O : Swo α} {O2 : Swo β} {f : α → β} (hf : ∀ x y,O2.lt (f x) (f y) = O.lt x y)
include hf
end Go.Bt.Pl
/- A list that is changed step by step,and what is told of each step. Conditions: none. -/
namespace Go.Bt.Pl
variable {α β γ : Type}
def runs (f : List α → β → List α × γ) (l : List α) (ks : List β) : List α × List γ := ks.foldl (fun s k => ((f s.1 k).1,s.2 ++ [(f s.1 k).2])) (l,[])
end Go.Bt.Pl
namespace Go.Bt.Pl
end Go.Bt.Pl
