/- Trees whose children are evened out: from the nodes in memory to the trees. Conditions: none. -/
import Derived.ChangeArms
import Derived.Deep.Slices
import Derived.Test.YtnlempnbagoipaaToRb
import Derived.Test.YtnlempnbagoipaaToCc
namespace Go.Bt
open Go
set_option linter.unusedVariables false
variable {α : Type} {E : Elt α}
theorem Inn.alone {H : Mem} {P : Ps} {h : Nat} {g : Ng} {X : List α} {os : List (Option Nat)} {K : List (Gt E h)} (hI : Inn H P h g X os K) : Rn E H P g X os :=
  ⟨hI.n,hI.k,⟨fun k hk => absurd hk (List.not_mem_nil),List.Pairwise.nil⟩,hI.iso⟩
theorem sum_os {H : Mem} {h : Nat} {K : List (Gt E h)} {P : Ps} (hK : ∀ k ∈ K,Gt.Good H P h k) : (((Gt.ps h K).map some).map (cnO (cnOf H))).sum = ((K.map (Gt.L h)).map List.length).sum := by
  congr 1
  unfold Gt.ps
  rw [List.map_map,List.map_map,List.map_map]
  exact List.map_congr_left fun k hk => ((hK k hk).cnOf).2
end Go.Bt
namespace Go.Bt
open Go
set_option linter.unusedVariables false
variable {α : Type} {E : Elt α}
theorem Inn.sub {H : Mem} {P : Ps} {h : Nat} {g : Ng} {X : List α} {os : List (Option Nat)} {K K' : List (Gt E h)} (hI : Inn H P h g X os K) (hs : K'.Sublist K) : Inn H P h g X os K' :=
  ⟨hI.n,hI.k,⟨fun k hk => hI.c.1 k (hs.subset hk),hI.c.2.sublist hs⟩,hI.iso⟩
theorem innc_sub {h : Nat} {g : Ng} {K K' : List (Gt E h)} (hs : ∀ k ∈ K',k ∈ K) {b o : Nat} (hb : innc h g K' b o) : innc h g K b o :=
  hb.imp id fun hb => hb.imp id fun ⟨k,hk,hb⟩ => ⟨k,hs k hk,hb⟩
/-- Two children next to each other of a node,one of them short of an item. -/
structure RebT (H : Mem) (P : Ps) (D : Nat → Prop) (h i : Nat) (g : Ng) (X : List α) (K1 K2 : List (Gt E h)) (u v : Gt E h) (x : α) : Prop where
  n : Inn H P h g X ((Gt.ps h (K1 ++ [u,v] ++ K2)).map some) (K1 ++ K2)
  l : Gt.Good H P h u
  r : Gt.Good H P h v
  ol : Off (Gt.af h u) (innc h g (K1 ++ K2))
  or' : Off (Gt.af h v) (innc h g (K1 ++ K2))
  olr : Off (Gt.af h u) (Gt.af h v)
  tn : ∀ b o,innc h g (K1 ++ K2) b o → ¬ D b
  tl : ∀ b o,Gt.af h u b o → ¬ D b
  tr : ∀ b o,Gt.af h v b o → ¬ D b
  dD : ∀ b,D b → b < H.size
  hi : K1.length = i
  x : X[i]? = some x
  len : (K1 ++ [u,v] ++ K2).length = X.length + 1
  xm : X.length ≤ P.mx
  b : (Gt.L h u).length + (Gt.L h v).length < 4611686018427387904
  sh : (Gt.X h u).length < P.mn ∨ (Gt.X h v).length < P.mn
  ml : P.mn ≤ (Gt.X h u).length + 1
  mr : P.mn ≤ (Gt.X h v).length + 1
theorem rn_innc {h : Nat} {g : Ng} {K : List (Gt E h)} {b o : Nat} (hb : rn E g b o) : innc h g K b o := (rn_iff.1 hb).elim .inl (fun h => .inr (.inl h))
section
variable {H : Mem} {P : Ps} {D : Nat → Prop} {h i : Nat} {g : Ng} {X : List α} {x : α}
theorem ps_at {K1 K2 : List (Gt E h)} {tl tr : Gt E h} : ((Gt.ps h (K1 ++ [tl,tr] ++ K2)).map some)[K1.length]? = some (some (Gt.p h tl)) ∧ ((Gt.ps h (K1 ++ [tl,tr] ++ K2)).map some)[K1.length + 1]? = some (some (Gt.p h tr)) ∧
    ((Gt.ps h (K1 ++ [tl,tr] ++ K2)).map some).length = (K1 ++ [tl,tr] ++ K2).length := by
  refine ⟨?_,?_,by simp [Gt.ps]⟩ <;> simp [Gt.ps]
theorem RebT.inS {K1 K2 : List (Gt E (h + 1))} {u v : Gt E (h + 1)} (ht : RebT H P D (h + 1) i g X K1 K2 u v x) :
    RebIn E H P D false (cnOf H) i g (Gt.g (h + 1) u) (Gt.g (h + 1) v) X (Gt.X (h + 1) u) (Gt.X (h + 1) v) ((Gt.ps (h + 1) (K1 ++ [u,v] ++ K2)).map some) ((Gt.ps h u.2.2).map some) ((Gt.ps h v.2.2).map some) x ∧ (∀ k ∈ u.2.2 ++ v.2.2,Off (Gt.af h k) (rn E g)) := by
  obtain ⟨n,l,r,ol,or',olr,tn,tl,tr,dD,hi,hx,len,xm,b,sh,ml,mr⟩ := ht
  subst hi
  obtain ⟨gl,Xl,Kl⟩ := u
  obtain ⟨gr,Xr,Kr⟩ := v
  obtain ⟨p1,p2,p3⟩ := ps_at (E := E) (h := h + 1) (K1 := K1) (K2 := K2) (tl := (gl,Xl,Kl)) (tr := (gr,Xr,Kr))
  have c1 : gl.cnt = (Pl.inter Xl (Kl.map (Gt.L h))).length := l.2.2.2.1
  have c2 : gr.cnt = (Pl.inter Xr (Kr.map (Gt.L h))).length := r.2.2.2.1
  have k1 : Kl.length = Xl.length + 1 := l.2.2.2.2.2.1
  have k2 : Kr.length = Xr.length + 1 := r.2.2.2.2.2.1
  have rl : ∀ b o,rn E gl b o → Gt.af (h + 1) ((gl,Xl,Kl) : Gt E (h + 1)) b o := fun b o hb => (rn_iff.1 hb).elim .inl (fun h => .inr (.inl h))
  have rr : ∀ b o,rn E gr b o → Gt.af (h + 1) ((gr,Xr,Kr) : Gt E (h + 1)) b o := fun b o hb => (rn_iff.1 hb).elim .inl (fun h => .inr (.inl h))
  have gng : ∀ k ∈ Kl ++ Kr,Off (Gt.af h k) (rn E g) := fun k hk b o hb hr => (List.mem_append.1 hk).elim (fun hk => ol b o (.inr (.inr ⟨k,hk,hb⟩)) (rn_innc hr)) (fun hk => or' b o (.inr (.inr ⟨k,hk,hb⟩)) (rn_innc hr))
  replace b : (Pl.inter Xl (Kl.map (Gt.L h))).length + (Pl.inter Xr (Kr.map (Gt.L h))).length < 4611686018427387904 := b
  refine ⟨⟨n.alone,(Gt.Good.inn l).alone,(Gt.Good.inn r).alone,fun b o h1 h2 => ol b o (rl b o h1) (rn_innc h2),fun b o h1 h2 => or' b o (rr b o h1) (rn_innc h2),fun b o h1 h2 => olr b o (rl b o h1) (rr b o h2),fun b o h => tn b o (rn_innc h),fun b o h => tl b o (rl b o h),fun b o h => tr b o (rr b o h),dD,hx,p1,p2,p3.trans len,xm,l.2.2.2.2.1,r.2.2.2.2.1,
    fun _ => (show ((Gt.ps h Kl).map some).length = Xl.length + 1 by simpa [Gt.ps] using k1),fun _ => (show ((Gt.ps h Kr).map some).length = Xr.length + 1 by simpa [Gt.ps] using k2),?_,?_,fun z hz => ?_,(show gl.cnt + gr.cnt < 4611686018427387904 by omega),sh,ml,mr⟩,gng⟩
  · show gl.cnt = Xl.length + (((Gt.ps h Kl).map some).map (cnO (cnOf H))).sum
    rw [sum_os (P := P) fun k hk => (l.2.2.2.2.2.2.1 k hk).1,c1,Pl.inter_length _ _ (by rw [List.length_map]; exact k1)]
  · show gr.cnt = Xr.length + (((Gt.ps h Kr).map some).map (cnO (cnOf H))).sum
    rw [sum_os (P := P) fun k hk => (r.2.2.2.2.2.2.1 k hk).1,c2,Pl.inter_length _ _ (by rw [List.length_map]; exact k2)]
  · have hz' : ∃ k ∈ Kl ++ Kr,z = some (Gt.p h k) := by
      simp only [Gt.ps,List.mem_append,List.mem_map] at hz ⊢
      rcases hz with ⟨_,⟨k,hk,rfl⟩,rfl⟩ | ⟨_,⟨k,hk,rfl⟩,rfl⟩
      · exact ⟨k,.inl hk,rfl⟩
      · exact ⟨k,.inr hk,rfl⟩
    obtain ⟨k,hk,rfl⟩ := hz'
    have hgk : Gt.Good H P h k ∧ Off (Gt.af h k) (rn E gl) ∧ Off (Gt.af h k) (rn E gr) := by
      rcases List.mem_append.1 hk with hk | hk
      · obtain ⟨q1,_,q3⟩ := l.2.2.2.2.2.2.1 k hk
        exact ⟨q1,fun b o hb hr => (rn_iff.1 hr).elim (q3 b o hb).1 (q3 b o hb).2,fun b o hb hr => olr b o (.inr (.inr ⟨k,hk,hb⟩)) (rr b o hr)⟩
      · obtain ⟨q1,_,q3⟩ := r.2.2.2.2.2.2.1 k hk
        exact ⟨q1,fun b o hb hr => olr b o (rl b o hr) (.inr (.inr ⟨k,hk,hb⟩)),fun b o hb hr => (rn_iff.1 hr).elim (q3 b o hb).1 (q3 b o hb).2⟩
    have hp : Gt.af h k (Gt.p h k) 1 := Gt.af_p (by omega)
    exact ⟨Gt.p h k,rfl,(hgk.1.cnOf).1,gng k hk _ _ hp,hgk.2.1 _ _ hp,hgk.2.2 _ _ hp⟩
end
end Go.Bt
namespace Go.Bt
open Go
set_option linter.unusedVariables false
variable {α : Type} {E : Elt α}
/-- What a deletion does to a tree. -/
structure DelT (H H' : Mem) (P : Ps) (h : Nat) (t t' : Gt E h) (L' : List α) : Prop where
  fr : Fr (Gt.af h t) H H'
  g : Gt.Good H' P h t'
  p : Gt.p h t' = Gt.p h t
  a : Gro H (Gt.af h t) (Gt.af h t')
  l : Gt.L h t' = L'
  x : (Gt.X h t).length ≤ (Gt.X h t').length + 1
namespace Pl
/-- The last one,or the one that is equal to x: it,and the others. -/
def dlr {α : Type} (O : Swo α) (mx : Bool) (x : α) (L : List α) : Option (α × List α) := match mx with
  | true => L.getLast?.map fun y => (y,L.dropLast)
  | false => (got O x L).map fun y => (y,del O x L)
end Pl
/-- A node whose i-th child has lost an item. -/
structure DMid (H H' : Mem) (P : Ps) (h : Nat) (g : Ng) (X : List α) (K : List (Gt E h)) (i : Nat) (X1 : List α) (k' : Gt E h) (L' : List α) : Prop where
  n : Inn H' P h g X1 ((Gt.ps h K).map some) (K.take i ++ K.drop (i + 1))
  k : Gt.Good H' P h k'
  p : ∃ k,K[i]? = some k ∧ Gt.p h k' = Gt.p h k ∧ Gro H (Gt.af h k) (Gt.af h k')
  mn : P.mn ≤ (Gt.X h k').length + 1
  l : Pl.inter X1 ((K.take i ++ [k'] ++ K.drop (i + 1)).map (Gt.L h)) = L'
  len : X1.length = X.length
  fr : Fr (Gt.af (h + 1) ((g,X,K) : Gt E (h + 1))) H H'
theorem Gt.Good.ne {H : Mem} {P : Ps} : ∀ {h : Nat} {t : Gt E h},Gt.Good H P h t → 1 ≤ (Gt.X h t).length → 1 ≤ (Gt.L h t).length
  | 0,_,_,hx => hx
  | _ + 1,t,hg,hx => by
    have : (Gt.L _ t).length = _ := Pl.inter_length t.2.1 (t.2.2.map (Gt.L _)) (by rw [List.length_map]; exact hg.2.2.2.2.2.1)
    rw [this]
    exact Nat.le_trans hx (Nat.le_add_right _ _)
section
variable {H H' : Mem} {P : Ps} {h : Nat} {g : Ng} {X : List α} {os : List (Option Nat)} {K : List (Gt E h)} {i : Nat} {k k' : Gt E h}
theorem kid_split (hk : K[i]? = some k) : K = K.take i ++ [k] ++ K.drop (i + 1) := by
  obtain ⟨h1,h2⟩ := List.getElem?_eq_some_iff.1 hk
  rw [List.append_assoc,List.singleton_append,← h2,List.getElem_cons_drop,List.take_append_drop]
theorem kid_off (hI : Inn H P h g X os K) (hk : K[i]? = some k) : Off (Gt.af h k) (innc h g (K.take i ++ K.drop (i + 1))) := fun b o hb hn => by
  have hs := kid_split hk
  have hc := hI.c
  obtain ⟨h1,h2⟩ := hc
  have hkK : k ∈ K := List.mem_of_getElem? hk
  rcases hn with hn | hn | ⟨m,hm,hn⟩
  · exact (h1 k hkK).2.2 b o hb |>.1 hn
  · exact (h1 k hkK).2.2 b o hb |>.2 hn
  · rw [hs,List.append_assoc,List.pairwise_append,List.singleton_append,List.pairwise_cons] at h2
    obtain ⟨_,⟨p2,_⟩,p3⟩ := h2
    rcases List.mem_append.1 hm with hm | hm
    · exact p3 m hm k List.mem_cons_self b o hn hb
    · exact p2 m hm b o hb hn
theorem DMid.off {X1 L' : List α} (d : DMid H H' P h g X K i X1 k' L') (hI : Inn H P h g X os K) : Off (Gt.af h k') (innc h g (K.take i ++ K.drop (i + 1))) := by
  obtain ⟨k,hk,hp,hg⟩ := d.p
  exact (hg.off (kid_off hI hk).symm fun b o hb => hI.lt (innc_sub (fun m hm => (List.mem_append.1 hm).elim List.mem_of_mem_take List.mem_of_mem_drop) hb)).symm
/-- What the child's cells are. -/
theorem DMid.gro {X1 L' : List α} (d : DMid H H' P h g X K i X1 k' L') : Gro H (Gt.af (h + 1) ((g,X,K) : Gt E (h + 1))) (fun b o => innc h g (K.take i ++ K.drop (i + 1)) b o ∨ Gt.af h k' b o) := fun b o hb => by
  obtain ⟨k,hk,hp,hg⟩ := d.p
  rcases hb with hb | hb
  · exact .inl (innc_sub (K := K) (fun m hm => (List.mem_append.1 hm).elim List.mem_of_mem_take List.mem_of_mem_drop) hb)
  · exact (hg b o hb).imp (fun h => .inr (.inr ⟨k,List.mem_of_getElem? hk,h⟩)) id
end
namespace Pl
variable {α : Type} (O : Swo α)
theorem inter_take {X : List α} {K : List (List α)} {i : Nat} {k m : List α} (hl : K.length = X.length + 1) (hk : K[i]? = some k) :
    inter X (K.take i ++ [m] ++ K.drop (i + 1)) = pre (X.take i) (K.take i) ++ m ++ post (X.drop i) (K.drop (i + 1)) := by
  have hi := (List.getElem?_eq_some_iff.1 hk).1
  have := inter_focus (X.take i) (X.drop i) (K.take i) m (K.drop (i + 1)) (by rw [List.length_take,List.length_take]; omega) (by rw [List.length_drop,List.length_drop]; omega)
  rw [List.take_append_drop] at this
  rw [List.append_assoc,List.singleton_append,this]
theorem inter_self {X : List α} {K : List (List α)} {i : Nat} {k : List α} (hl : K.length = X.length + 1) (hk : K[i]? = some k) :
    inter X K = pre (X.take i) (K.take i) ++ k ++ post (X.drop i) (K.drop (i + 1)) := by
  rw [← inter_take (m := k) hl hk]
  congr 1
  obtain ⟨h1,h2⟩ := List.getElem?_eq_some_iff.1 hk
  rw [List.append_assoc,List.singleton_append,← h2,List.getElem_cons_drop,List.take_append_drop]
end Pl
end Go.Bt
namespace Go.Bt.Pl
variable {α : Type} (O : Swo α)
end Go.Bt.Pl
/- An order carried over to other items. Conditions: none. -/
namespace Go.Bt.Pl
set_option linter.unusedVariables false
variable {α β : Type} {O : Swo α} {O2 : Swo β} {f : α → β} (hf : ∀ x y,O2.lt (f x) (f y) = O.lt x y)
include hf
end Go.Bt.Pl
/- A list that is changed step by step,and what is told of each step. Conditions: none. -/
namespace Go.Bt.Pl
variable {α β γ : Type}
def runs (f : List α → β → List α × γ) (l : List α) (ks : List β) : List α × List γ := ks.foldl (fun s k => ((f s.1 k).1,s.2 ++ [(f s.1 k).2])) (l,[])
end Go.Bt.Pl
namespace Go.Bt.Pl
end Go.Bt.Pl
/- The way down one side of a tree: counts that change on it,a leaf that changes at its end. Conditions: none. -/
namespace Go.Bt
open Go
set_option linter.unusedVariables false
variable {α : Type} {E : Elt α}
/-- The outermost child's place: the last one's,or the first one's. -/
def cix (d : Bool) (n : Nat) : Nat := bif d then n - 1 else 0
theorem cix_lt {d : Bool} {n : Nat} (h : 0 < n) : cix d n < n := by cases d <;> simp [cix] <;> omega
/-- The nodes on the way. -/
def Gt.sp (d : Bool) : (h : Nat) → Gt E h → Nat → Prop
  | 0,t,q => q = t.1.p
  | h + 1,t,q => q = t.1.p ∨ ∃ k,t.2.2[cix d t.2.2.length]? = some k ∧ Gt.sp d h k q
/-- The leaf at its end. -/
def Gt.lf (d : Bool) : (h : Nat) → Gt E h → Ng × List α
  | 0,t => t
  | h + 1,t => match t.2.2[cix d t.2.2.length]? with
    | some k => Gt.lf d h k
    | none => (t.1,[])
/-- Another leaf at its end,other counts on it. -/
def Gt.ed (d : Bool) (δ : Nat → Nat) (g' : Ng) (X' : List α) : (h : Nat) → Gt E h → Gt E h
  | 0,_ => (g',X')
  | h + 1,t => ({ t.1 with cnt := δ t.1.cnt },t.2.1,t.2.2.take (cix d t.2.2.length) ++ (t.2.2[cix d t.2.2.length]?.map (Gt.ed d δ g' X' h)).toList ++ t.2.2.drop (cix d t.2.2.length + 1))
def glue (d : Bool) (X R : List α) : List α := bif d then R ++ X else X ++ R
theorem Gt.sp_p (d : Bool) : ∀ {h : Nat} {t : Gt E h},Gt.sp d h t (Gt.p h t)
  | 0,_ => rfl
  | _ + 1,_ => .inl rfl
theorem Gt.sp_af {d : Bool} : ∀ {h : Nat} {t : Gt E h} {q : Nat},Gt.sp d h t q → ∀ o,o < 4 → Gt.af h t q o
  | 0,t,q,hq,o,ho => .inl ⟨hq,ho⟩
  | h + 1,t,q,hq,o,ho => by
    rcases hq with rfl | ⟨k,hk,hq⟩
    · exact .inl (.inl ⟨rfl,ho⟩)
    · exact .inr (.inr ⟨k,List.mem_of_getElem? hk,Gt.sp_af hq o ho⟩)
theorem Gt.lf_af {d : Bool} {H : Mem} {P : Ps} : ∀ {h : Nat} {t : Gt E h},Gt.Good H P h t → ∀ b o,ncl E (Gt.lf d h t).1 b o → Gt.af h t b o
  | 0,t,_,b,o,hb => hb
  | h + 1,t,hg,b,o,hb => by
    unfold Gt.lf at hb
    cases hk : t.2.2[cix d t.2.2.length]? with
    | none => rw [hk] at hb; exact .inl hb
    | some k =>
      rw [hk] at hb
      exact .inr (.inr ⟨k,List.mem_of_getElem? hk,Gt.lf_af (hg.2.2.2.2.2.2.1 k (List.mem_of_getElem? hk)).1 b o hb⟩)
theorem Gt.Good.spcn {d : Bool} {H : Mem} {P : Ps} : ∀ {h : Nat} {t : Gt E h},Gt.Good H P h t → ∀ {q : Nat},Gt.sp d h t q → cl H q 1 = some (.int .i64 (Bt.cnOf H q : Int))
  | 0,t,hg,q,hq => by subst hq; exact (hg.cnOf).1
  | h + 1,t,hg,q,hq => by
    rcases hq with rfl | ⟨k,hk,hq⟩
    · exact (hg.cnOf).1
    · exact Gt.Good.spcn (hg.2.2.2.2.2.2.1 k (List.mem_of_getElem? hk)).1 hq
/-- Cells that read as they did. -/
theorem NodeM.eqv {H H' : Mem} {g : Ng} {X : List α} {kp : Value} {Z : Rg} (hn : NodeM E H g X kp) (hf : Fr Z H H') (he : ∀ b o,ncl E g b o → cl H' b o = cl H b o) : NodeM E H' g X kp where
  c0 := (he _ _ (.inl ⟨rfl,by omega⟩)).trans hn.c0
  c1 := (he _ _ (.inl ⟨rfl,by omega⟩)).trans hn.c1
  c2 := (he _ _ (.inl ⟨rfl,by omega⟩)).trans hn.c2
  c3 := (he _ _ (.inl ⟨rfl,by omega⟩)).trans hn.c3
  wr := hf.wr hn.wr
  sl := ⟨hn.sl.hlen,hn.sl.hle,fun i v hv => by
    have hi := (List.getElem?_eq_some_iff.1 hv).1
    rw [hn.sl.hlen] at hi
    have h3 := Nat.mul_le_mul_right E.s hn.sl.hle
    exact (he _ _ (.inr ⟨rfl,by omega,by omega⟩)).trans (hn.sl.rd i v hv),hf.wr hn.sl.wr⟩
  ic := hn.ic
  ne := hn.ne
theorem KidM.eqv {H H' : Mem} {g : Ng} {ks : List Nat} {Z : Rg} (hk : KidM H g ks) (hf : Fr Z H H') (he : ∀ b o,kcl g b o → cl H' b o = cl H b o) : KidM H' g ks where
  c := (he _ _ (.inl ⟨rfl,by omega⟩)).trans hk.c
  wr := hf.wr hk.wr
  sl := ⟨hk.sl.hlen,hk.sl.hle,fun i v hv => by
    have hi := (List.getElem?_eq_some_iff.1 hv).1
    rw [hk.sl.hlen] at hi
    have h3 := hk.sl.hle
    rw [show EP.s = 1 from rfl] at hi
    exact (he _ _ (.inr ⟨rfl,by omega,by omega⟩)).trans (hk.sl.rd i v hv),hf.wr hk.sl.wr⟩
  kc := hk.kc
  n1 := hk.n1
  n2 := hk.n2
  n3 := hk.n3
  n4 := hk.n4
  n5 := hk.n5
theorem Gt.Good.eqv {P : Ps} {Z : Rg} {H H' : Mem} (hf : Fr Z H H') : ∀ {h : Nat} {t : Gt E h},Gt.Good H P h t → (∀ b o,Gt.af h t b o → cl H' b o = cl H b o) → Gt.Good H' P h t
  | 0,_,⟨h1,h2⟩,he => ⟨h1.eqv hf he,h2⟩
  | h + 1,_,⟨h1,h2,h3,h4,h5,h6,h7,h8⟩,he =>
    ⟨h1.eqv hf fun b o hb => he b o (.inl hb),h2.eqv hf fun b o hb => he b o (.inr (.inl hb)),h3,h4,h5,h6,
      fun k hk => ⟨Gt.Good.eqv hf (h7 k hk).1 fun b o hb => he b o (.inr (.inr ⟨k,hk,hb⟩)),(h7 k hk).2⟩,h8⟩
/-- Where the walk down the side is. -/
structure Spn (H0 H : Mem) (P : Ps) (d : Bool) (δ : Nat → Nat) (h0 : Nat) (t0 : Gt E h0) (D : Nat → Prop) (h : Nat) (t : Gt E h) : Prop where
  g : Gt.Good H0 P h t
  fr : Fr (fun b o => o = 1 ∧ D b) H0 H
  val : ∀ q,D q → cl H q 1 = some (.int .i64 (δ (Bt.cnOf H0 q) : Int))
  off : ∀ q,D q → ¬ Gt.af h t q 1
  all : ∀ q,Gt.sp d h0 t0 q ↔ D q ∨ Gt.sp d h t q
  lf : Gt.lf d h t = Gt.lf d h0 t0
  sub : ∀ b o,Gt.af h t b o → Gt.af h0 t0 b o
  x1 : 1 ≤ (Gt.X h t).length
  le : (Gt.L h t).length ≤ (Gt.L h0 t0).length
  mn : h < h0 → P.mn ≤ (Gt.X h t).length
theorem kid_le {h : Nat} {t : Gt E (h + 1)} (hl : t.2.2.length = t.2.1.length + 1) {k : Gt E h} (hk : k ∈ t.2.2) : (Gt.L h k).length ≤ (Gt.L (h + 1) t).length := by
  have h1 : (Gt.L (h + 1) t).length = _ := Pl.inter_length t.2.1 (t.2.2.map (Gt.L h)) (by rw [List.length_map]; exact hl)
  have h2 : (Gt.L h k).length ≤ ((t.2.2.map (Gt.L h)).map List.length).sum := sum_mem List.length (List.mem_map.2 ⟨k,hk,rfl⟩)
  omega
theorem Spn.start {H : Mem} {P : Ps} {d : Bool} {δ : Nat → Nat} {h : Nat} {t : Gt E h} (hg : Gt.Good H P h t) (hx : 1 ≤ (Gt.X h t).length) : Spn H H P d δ h t (fun _ => False) h t :=
  ⟨hg,Fr.refl _ _,fun _ h => h.elim,fun _ h => h.elim,fun q => ⟨.inr,fun h => h.elim (fun h => h.elim) id⟩,rfl,fun _ _ h => h,hx,Nat.le_refl _,fun h => absurd h (Nat.lt_irrefl _)⟩
section
variable {H0 H H' : Mem} {P : Ps} {d : Bool} {δ : Nat → Nat} {h0 h : Nat} {t0 : Gt E h0} {D : Nat → Prop}
/-- The present tree stands in the present heap. -/
theorem Spn.now {t : Gt E h} (s : Spn H0 H P d δ h0 t0 D h t) : Gt.Good H P h t := s.g.fr s.fr fun b o hb hz => s.off b hz.2 (hz.1 ▸ hb)
theorem Spn.cnt {t : Gt E h} (s : Spn H0 H P d δ h0 t0 D h t) : cl H (Gt.p h t) 1 = some (.int .i64 (Bt.cnOf H0 (Gt.p h t) : Int)) :=
  s.fr.keep (s.g.cnOf).1 fun hz => s.off _ hz.2 (Gt.af_p (by omega))
/-- One step down. -/
theorem Spn.step {t : Gt E (h + 1)} {k : Gt E h} (h1 : 1 ≤ P.mn) (s : Spn H0 H P d δ h0 t0 D (h + 1) t) (hk : t.2.2[cix d t.2.2.length]? = some k) (W : Wrote H H' t.1.p 1 [.int .i64 (δ (Bt.cnOf H0 t.1.p) : Int)]) :
    Spn H0 H' P d δ h0 t0 (fun q => D q ∨ q = t.1.p) h k := by
  obtain ⟨q1,q2,q3⟩ := s.g.2.2.2.2.2.2.1 k (List.mem_of_getElem? hk)
  have hD : ∀ q,D q → q ≠ t.1.p := fun q hq e => s.off q hq (by rw [e]; exact Gt.af_p (t := t) (by omega))
  refine ⟨q1,s.fr.trans' W.fr (fun b o _ hz => ⟨hz.1,.inl hz.2⟩) (fun b o _ hz => ?_),fun q hq => ?_,fun q hq hb => ?_,fun q => ?_,?_,fun b o hb => s.sub b o (.inr (.inr ⟨k,List.mem_of_getElem? hk,hb⟩)),Nat.le_trans h1 q2,Nat.le_trans (kid_le s.g.2.2.2.2.2.1 (List.mem_of_getElem? hk)) s.le,fun _ => q2⟩
  · have h1 := hz.1; have h2 := hz.2.1; have h3 := hz.2.2
    simp only [List.length_cons,List.length_nil] at h3
    exact ⟨by omega,.inr h1⟩
  · rcases hq with hq | rfl
    · exact W.fr.keep (s.val q hq) (nr (.inl (hD q hq)))
    · exact W.at
  · rcases hq with hq | rfl
    · exact s.off q hq (.inr (.inr ⟨k,List.mem_of_getElem? hk,hb⟩))
    · exact (q3 _ _ hb).1 (.inl ⟨rfl,by omega⟩)
  · rw [s.all q]
    constructor
    · rintro (hq | hq)
      · exact .inl (.inl hq)
      · rcases hq with rfl | ⟨k',hk',hq⟩
        · exact .inl (.inr rfl)
        · rw [hk] at hk'; cases hk'; exact .inr hq
    · rintro ((hq | rfl) | hq)
      · exact .inl hq
      · exact .inr (.inl rfl)
      · exact .inr (.inr ⟨k,hk,hq⟩)
  · rw [← s.lf]
    show _ = (match t.2.2[cix d t.2.2.length]? with
      | some k => Gt.lf d h k
      | none => (t.1,[]))
    rw [hk]
end
theorem glue_len (d : Bool) (X R : List α) : (glue d X R).length = X.length + R.length := by cases d <;> simp [glue] <;> omega
theorem glue_up {d : Bool} {X : List α} {K : List (List α)} {k k' A A' R : List α} (hl : K.length = X.length + 1) (hk : K[cix d K.length]? = some k) (e : k = glue d A R) (e' : k' = glue d A' R) :
    ∃ R',Pl.inter X K = glue d A R' ∧ Pl.inter X (K.take (cix d K.length) ++ [k'] ++ K.drop (cix d K.length + 1)) = glue d A' R' := by
  rw [Pl.inter_self hl hk,Pl.inter_take hl hk]
  cases d with
  | true =>
    have hc : cix true K.length = X.length := by simp [cix]; omega
    rw [hc,e,e']
    refine ⟨Pl.pre (X.take X.length) (K.take X.length) ++ R,?_,?_⟩ <;> simp [glue,List.drop_of_length_le,Pl.post]
  | false =>
    have hc : cix false K.length = 0 := rfl
    rw [hc,e,e']
    refine ⟨R ++ Pl.post X (K.drop 1),?_,?_⟩ <;> simp [glue,Pl.pre]
theorem Gt.Good.edit {H H' : Mem} {P : Ps} {d : Bool} {δ : Nat → Nat} {g' : Ng} {X' : List α} {Z : Rg} (hf : Fr Z H H') (hn : NodeM E H' g' X' (.pointer none)) (e2 : g'.iso = P.iso) (e3 : g'.cnt = X'.length) (hm : X'.length ≤ P.mx) :
    ∀ {h : Nat} {t : Gt E h},Gt.Good H P h t → (∀ b o,Gt.af h t b o → Z b o → (o = 1 ∧ Gt.sp d h t b) ∨ ncl E (Gt.lf d h t).1 b o) → (∀ q,Gt.sp d h t q → q ≠ (Gt.lf d h t).1.p → cl H' q 1 = some (.int .i64 (δ (Bt.cnOf H q) : Int))) →
    g'.p = (Gt.lf d h t).1.p → (1 ≤ h → P.mn ≤ X'.length) → Gro H (ncl E (Gt.lf d h t).1) (ncl E g') → (∀ n,(Gt.lf d h t).2.length ≤ n → δ n + (Gt.lf d h t).2.length = n + X'.length) →
    Gt.Good H' P h (Gt.ed d δ g' X' h t) ∧ Gt.p h (Gt.ed d δ g' X' h t) = Gt.p h t ∧ Gro H (Gt.af h t) (Gt.af h (Gt.ed d δ g' X' h t)) ∧ (∃ R,Gt.L h t = glue d (Gt.lf d h t).2 R ∧ Gt.L h (Gt.ed d δ g' X' h t) = glue d X' R) ∧
      (0 < h → Gt.X h (Gt.ed d δ g' X' h t) = Gt.X h t) ∧ (h = 0 → Gt.X h (Gt.ed d δ g' X' h t) = X')
  | 0,(g,X),hg,hz,hv,e1,hmn,hgro,hδ => ⟨⟨hn,e2,e3,hm⟩,e1,hgro,⟨[],by cases d <;> simp [glue] <;> rfl,by cases d <;> simp [glue] <;> rfl⟩,fun h => absurd h (by omega),fun _ => rfl⟩
  | h + 1,(g,X,K),hg,hz,hv,e1,hmn,hgro,hδ => by
    obtain ⟨hN,hK,hiso,hcnt,hxm,hKl,hkids,hpw⟩ := hg
    replace hKl : K.length = X.length + 1 := hKl
    obtain ⟨k,hk⟩ : ∃ k,K[cix d K.length]? = some k := ⟨K[cix d K.length]'(cix_lt (by omega)),List.getElem?_eq_getElem (cix_lt (by omega))⟩
    have hkK := List.mem_of_getElem? hk
    obtain ⟨q1,q2,q3⟩ := hkids k hkK
    replace hN : NodeM E H g X (.pointer (some ⟨g.cb,0,none⟩)) := hN
    replace q3 : ∀ b o,Gt.af h k b o → ¬ ncl E g b o ∧ ¬ kcl g b o := q3
    have elf : Gt.lf d (h + 1) ((g,X,K) : Gt E (h + 1)) = Gt.lf d h k := by
      show (match K[cix d K.length]? with
        | some k => Gt.lf d h k
        | none => (g,[])) = _
      rw [hk]
    have eed : Gt.ed d δ g' X' (h + 1) ((g,X,K) : Gt E (h + 1)) = ({ g with cnt := δ g.cnt },X,K.take (cix d K.length) ++ [Gt.ed d δ g' X' h k] ++ K.drop (cix d K.length + 1)) := by
      show ({ g with cnt := δ g.cnt },X,K.take (cix d K.length) ++ (K[cix d K.length]?.map (Gt.ed d δ g' X' h)).toList ++ K.drop (cix d K.length + 1)) = _
      rw [hk]; rfl
    rw [elf] at hz hv e1 hgro hδ
    have hlfk := Gt.lf_af (d := d) q1
    have spk : ∀ b,Gt.sp d h k b → Gt.sp d (h + 1) ((g,X,K) : Gt E (h + 1)) b := fun b hb => .inr ⟨k,hk,hb⟩
    have spi : ∀ b,Gt.sp d (h + 1) ((g,X,K) : Gt E (h + 1)) b → b = g.p ∨ Gt.sp d h k b := fun b hb => by
      rcases hb with hb | ⟨k',hk',hb⟩
      · exact .inl hb
      · have hk'' : K[cix d K.length]? = some k' := hk'
        rw [hk] at hk''; cases hk''; exact .inr hb
    have hpk : ∀ o,¬ Gt.af h k g.p o ∨ 4 ≤ o := fun o => by
      rcases Nat.lt_or_ge o 4 with ho | ho
      · exact .inl fun hb => (q3 _ _ hb).1 (.inl ⟨rfl,ho⟩)
      · exact .inr ho
    have hlp : g.p ≠ (Gt.lf d h k).1.p := fun e => by
      have := hlfk g.p 1 (.inl ⟨e,by omega⟩)
      exact (hpk 1).elim (fun h => h this) (fun h => by omega)
    obtain ⟨r1,r2,r3,⟨R,r4,r5⟩,r6,r7⟩ := Gt.Good.edit hf hn e2 e3 hm q1 (fun b o hb hzz => by
        rcases hz b o (.inr (.inr ⟨k,hkK,hb⟩)) hzz with ⟨ho,hs⟩ | hl
        · rcases spi b hs with rfl | hs
          · subst ho; exact ((hpk 1).elim (fun h => h hb) (fun h => by omega)).elim
          · exact .inl ⟨ho,hs⟩
        · exact .inr hl) (fun q hq => hv q (spk q hq)) e1 (fun _ => hmn (by omega)) hgro hδ
    rw [eed]
    have own : ∀ b o,(ncl E g b o ∨ kcl g b o) → ¬ (b = g.p ∧ o = 1) → ¬ Z b o := fun b o hb hne hzz => by
      have hoff : ¬ Gt.af h k b o := fun ha => hb.elim (q3 b o ha).1 (q3 b o ha).2
      rcases hz b o (hb.elim .inl (fun h => .inr (.inl h))) hzz with ⟨ho,hs⟩ | hl
      · rcases spi b hs with rfl | hs
        · exact hne ⟨rfl,ho⟩
        · exact hoff (Gt.sp_af hs o (by omega))
      · exact hoff (hlfk b o hl)
    have hv0 : cl H' g.p 1 = some (.int .i64 (δ g.cnt : Int)) := by
      have := hv g.p (.inl rfl) hlp
      have e9 : Bt.cnOf H g.p = g.cnt := by
        unfold Bt.cnOf
        rw [hN.c1]; exact Int.toNat_natCast _
      rw [e9] at this; exact this
    have hLk : (K.map (Gt.L h))[cix d (K.map (Gt.L h)).length]? = some (Gt.L h k) := by rw [List.length_map,List.getElem?_map,hk]; rfl
    have hglue := glue_up (X := X) (K := K.map (Gt.L h)) (by rw [List.length_map]; exact hKl) hLk r4 r5
    rw [List.length_map] at hglue
    obtain ⟨R',g1,g2⟩ := hglue
    have hL2 : Pl.inter X ((K.take (cix d K.length) ++ [Gt.ed d δ g' X' h k] ++ K.drop (cix d K.length + 1)).map (Gt.L h)) = glue d X' R' := by
      rw [List.map_append,List.map_append,List.map_take,List.map_drop]; exact g2
    have hps : Gt.ps h (K.take (cix d K.length) ++ [Gt.ed d δ g' X' h k] ++ K.drop (cix d K.length + 1)) = Gt.ps h K := by
      conv => rhs; rw [kid_split hk]
      simp [Gt.ps,r2]
    have hspl := kid_split hk
    have hcc : δ g.cnt = (glue d X' R').length := by
      have h1 : g.cnt = (Pl.inter X (K.map (Gt.L h))).length := hcnt
      rw [g1,glue_len] at h1
      have h2 := hδ g.cnt (by omega)
      rw [glue_len]
      omega
    have stay : ∀ m ∈ K,(∀ b o,Gt.af h m b o → ¬ Gt.af h k b o) → Gt.Good H' P h m := fun m hm hoff => (hkids m hm).1.fr hf fun b o hb hzz => by
      rcases hz b o (.inr (.inr ⟨m,hm,hb⟩)) hzz with ⟨ho,hs⟩ | hl
      · rcases spi b hs with rfl | hs
        · exact ((hkids m hm).2.2 _ _ hb).1 (.inl ⟨rfl,by omega⟩)
        · exact hoff b o hb (Gt.sp_af hs o (by omega))
      · exact hoff b o hb (hlfk b o hl)
    have hpw2 := hpw
    replace hpw2 : K.Pairwise fun k k' => ∀ b o,Gt.af h k b o → ¬ Gt.af h k' b o := hpw2
    rw [hspl,List.append_assoc,List.pairwise_append,List.singleton_append,List.pairwise_cons] at hpw2
    obtain ⟨p1,⟨p2,p3⟩,p4⟩ := hpw2
    have oT : ∀ m ∈ K.take (cix d K.length),∀ b o,Gt.af h m b o → ¬ Gt.af h k b o := fun m hm b o hb => p4 m hm k List.mem_cons_self b o hb
    have oD : ∀ m ∈ K.drop (cix d K.length + 1),∀ b o,Gt.af h m b o → ¬ Gt.af h k b o := fun m hm b o hb hbk => p2 m hm b o hbk hb
    have fresh : ∀ m ∈ K,(∀ b o,Gt.af h m b o → ¬ Gt.af h k b o) → ∀ b o,Gt.af h m b o → ¬ Gt.af h (Gt.ed d δ g' X' h k) b o := fun m hm hoff b o hb hbk => by
      rcases r3 b o hbk with h9 | h9
      · exact hoff b o hb h9
      · have := (hkids m hm).1.lt hb; omega
    have hlt : ∀ b o,ncl E g b o ∨ kcl g b o → b < H.size := fun b o hb => hb.elim (fun h => NodeM.lt hN h) (fun h => hK.lt h)
    refine ⟨⟨⟨hf.keep hN.c0 (own _ _ (.inl (.inl ⟨rfl,by omega⟩)) (by omega)),hv0,hf.keep hN.c2 (own _ _ (.inl (.inl ⟨rfl,by omega⟩)) (by omega)),hf.keep hN.c3 (own _ _ (.inl (.inl ⟨rfl,by omega⟩)) (by omega)),hf.wr hN.wr,
        hN.sl.fr hf (fun i h1 h2 => own _ _ (.inl (.inr ⟨rfl,h1,h2⟩)) (fun e => hN.ne e.1.symm)),hN.ic,hN.ne⟩,?_,hiso,?_,hxm,?_,fun m hm => ?_,?_⟩,rfl,fun b o hb => ?_,⟨R',by rw [elf]; exact g1,hL2⟩,fun _ => rfl,fun h => by omega⟩
    · show KidM H' { g with cnt := δ g.cnt } (Gt.ps h _)
      rw [hps]
      have hk2 := hK.fr hf (fun b o hb => own b o (.inr hb) (fun e => by
        rcases hb with ⟨h1,h2⟩ | ⟨h1,h2,h3⟩
        · exact hK.n2 (e.1.symm.trans h1)
        · exact hK.n3 (e.1.symm.trans h1)))
      exact ⟨hk2.c,hk2.wr,hk2.sl,hk2.kc,hk2.n1,hk2.n2,hk2.n3,hk2.n4,hk2.n5⟩
    · show δ g.cnt = (Pl.inter X _).length
      rw [hL2]; exact hcc
    · show (K.take (cix d K.length) ++ [Gt.ed d δ g' X' h k] ++ K.drop (cix d K.length + 1)).length = X.length + 1
      have := cix_lt (d := d) (n := K.length) (by omega)
      simp only [List.length_append,List.length_take,List.length_drop,List.length_cons,List.length_nil]; omega
    · simp only [List.mem_append,List.mem_singleton] at hm
      rcases hm with (hm | rfl) | hm
      · have hmK := List.mem_of_mem_take hm
        exact ⟨stay m hmK (oT m hm),(hkids m hmK).2.1,(hkids m hmK).2.2⟩
      · refine ⟨r1,?_,fun b o hb => ?_⟩
        · rcases Nat.eq_zero_or_pos h with h0 | h0
          · rw [r7 h0]; exact hmn (by omega)
          · rw [r6 h0]; exact q2
        · rcases r3 b o hb with h9 | h9
          · exact q3 b o h9
          · exact ⟨fun hc => by have := hlt b o (.inl hc); omega,fun hc => by have := hlt b o (.inr hc); omega⟩
      · have hmK := List.mem_of_mem_drop hm
        exact ⟨stay m hmK (oD m hm),(hkids m hmK).2.1,(hkids m hmK).2.2⟩
    · show (K.take (cix d K.length) ++ [Gt.ed d δ g' X' h k] ++ K.drop (cix d K.length + 1)).Pairwise _
      rw [List.append_assoc,List.pairwise_append,List.singleton_append,List.pairwise_cons]
      refine ⟨p1,⟨fun m hm b o hb hbm => fresh m (List.mem_of_mem_drop hm) (oD m hm) b o hbm hb,p3⟩,fun m hm m' hm' b o hb hbm => ?_⟩
      rcases List.mem_cons.1 hm' with rfl | hm'
      · exact fresh m (List.mem_of_mem_take hm) (oT m hm) b o hb hbm
      · exact p4 m hm m' (List.mem_cons_of_mem _ hm') b o hb hbm
    · rcases hb with hb | hb | ⟨m,hm,hb⟩
      · exact .inl (.inl hb)
      · exact .inl (.inr (.inl hb))
      · simp only [List.mem_append,List.mem_singleton] at hm
        rcases hm with (hm | rfl) | hm
        · exact .inl (.inr (.inr ⟨m,List.mem_of_mem_take hm,hb⟩))
        · exact (r3 b o hb).imp (fun h => .inr (.inr ⟨k,hkK,h⟩)) id
        · exact .inl (.inr (.inr ⟨m,List.mem_of_mem_drop hm,hb⟩))
end Go.Bt
namespace Go.Bt
open Go
set_option linter.unusedVariables false
variable {α : Type} {E : Elt α}
/-- A node's own cells,but for its count,are none of a spine's counts. -/
theorem Gt.Good.own {H : Mem} {P : Ps} {d : Bool} {h : Nat} {t : Gt E (h + 1)} (hg : Gt.Good H P (h + 1) t) {b o : Nat} (hb : ncl E t.1 b o ∨ kcl t.1 b o) (hne : ¬ (b = t.1.p ∧ o = 1)) : ¬ (o = 1 ∧ Gt.sp d (h + 1) t b) := by
  rintro ⟨ho,hs⟩
  rcases hs with rfl | ⟨k,hk,hs⟩
  · exact hne ⟨rfl,ho⟩
  · have h1 := (hg.2.2.2.2.2.2.1 k (List.mem_of_getElem? hk)).2.2 b o (Gt.sp_af hs o (by omega))
    exact hb.elim h1.1 h1.2
/-- The walk back: the counts are set right again. -/
structure Sp2 (H0 H : Mem) (P : Ps) (d : Bool) (δ : Nat → Nat) (h0 : Nat) (t0 : Gt E h0) (bx : Nat) (D : Nat → Prop) (h : Nat) (t : Gt E h) : Prop where
  g : Gt.Good H0 P h t
  fr : Fr (fun b o => (o = 1 ∧ Gt.sp d h0 t0 b) ∨ b = bx) H0 H
  nb : ∀ o,¬ Gt.af h0 t0 bx o
  val : ∀ q,D q → cl H q 1 = some (.int .i64 (Bt.cnOf H0 q : Int))
  val2 : ∀ q,Gt.sp d h t q → cl H q 1 = some (.int .i64 (δ (Bt.cnOf H0 q) : Int))
  off : ∀ q,D q → ¬ Gt.af h t q 1
  all : ∀ q,Gt.sp d h0 t0 q ↔ D q ∨ Gt.sp d h t q
  sub : ∀ b o,Gt.af h t b o → Gt.af h0 t0 b o
  le : (Gt.L h t).length ≤ (Gt.L h0 t0).length
  x1 : 1 ≤ (Gt.X h t).length
section
variable {H0 H H' : Mem} {P : Ps} {d : Bool} {δ : Nat → Nat} {h0 h bx : Nat} {t0 : Gt E h0} {D : Nat → Prop}
theorem Sp2.keep {t : Gt E (h + 1)} (s : Sp2 H0 H P d δ h0 t0 bx D (h + 1) t) {b o : Nat} {v : Value} (hb : ncl E t.1 b o ∨ kcl t.1 b o) (hne : ¬ (b = t.1.p ∧ o = 1)) (hv : cl H0 b o = some v) : cl H b o = some v := by
  have haf : Gt.af (h + 1) t b o := hb.elim .inl (fun h => .inr (.inl h))
  refine s.fr.keep hv fun hz => ?_
  rcases hz with ⟨ho,hs⟩ | rfl
  · rcases (s.all b).1 hs with hD | hs
    · exact s.off b hD (ho ▸ haf)
    · exact s.g.own hb hne ⟨ho,hs⟩
  · exact s.nb o (s.sub _ _ haf)
theorem Sp2.inner {t : Gt E (h + 1)} (s : Sp2 H0 H P d δ h0 t0 bx D (h + 1) t) {k : Gt E h} (hk : t.2.2[cix d t.2.2.length]? = some k) :
    cl H t.1.p 3 = some (.pointer (some ⟨t.1.cb,0,none⟩)) ∧ cl H t.1.cb 0 = some (.slice (some ⟨t.1.kb,t.1.ko,none⟩) t.2.2.length t.1.kc) ∧ cl H t.1.kb (t.1.ko + cix d t.2.2.length * 1) = some (ptr (Gt.p h k)) := by
  have hK := s.g.2.1
  have hi := (List.getElem?_eq_some_iff.1 hk).1
  have hc := hK.c
  rw [Gt.ps,List.length_map] at hc
  have hle := hK.sl.hle
  rw [List.length_map,Gt.ps,List.length_map] at hle
  refine ⟨s.keep (.inl (.inl ⟨rfl,by omega⟩)) (by omega) s.g.1.c3,s.keep (.inr (.inl ⟨rfl,by omega⟩)) (by omega) hc,s.keep (.inr (.inr ⟨rfl,by omega,by omega⟩)) (fun e => hK.n3 e.1.symm) ?_⟩
  exact hK.o.at (by rw [Gt.ps,List.map_map,List.getElem?_map,hk]; rfl)
theorem Sp2.start {t : Gt E h} (hg : Gt.Good H0 P h t) (hf : Fr (fun b o => (o = 1 ∧ Gt.sp d h t b) ∨ b = bx) H0 H) (hn : ∀ o,¬ Gt.af h t bx o) (hv : ∀ q,Gt.sp d h t q → cl H q 1 = some (.int .i64 (δ (Bt.cnOf H0 q) : Int))) (hx : 1 ≤ (Gt.X h t).length) :
    Sp2 H0 H P d δ h t bx (fun _ => False) h t :=
  ⟨hg,hf,hn,fun _ h => h.elim,hv,fun _ h => h.elim,fun q => ⟨.inr,fun h => h.elim (fun h => h.elim) id⟩,fun _ _ h => h,Nat.le_refl _,hx⟩
theorem Sp2.wfr {t : Gt E h} (s : Sp2 H0 H P d δ h0 t0 bx D h t) (W : Wrote H H' (Gt.p h t) 1 [.int .i64 (Bt.cnOf H0 (Gt.p h t) : Int)]) : Fr (fun b o => (o = 1 ∧ Gt.sp d h0 t0 b) ∨ b = bx) H0 H' :=
  s.fr.trans' W.fr (fun _ _ _ h => h) fun b o _ hz => by
    have h1 := hz.1; have h2 := hz.2.1; have h3 := hz.2.2
    simp only [List.length_cons,List.length_nil] at h3
    exact .inl ⟨by omega,h1 ▸ (s.all _).2 (.inr (Gt.sp_p d))⟩
theorem Sp2.step {t : Gt E (h + 1)} {k : Gt E h} (h1 : 1 ≤ P.mn) (s : Sp2 H0 H P d δ h0 t0 bx D (h + 1) t) (hk : t.2.2[cix d t.2.2.length]? = some k) (W : Wrote H H' t.1.p 1 [.int .i64 (Bt.cnOf H0 t.1.p : Int)]) :
    Sp2 H0 H' P d δ h0 t0 bx (fun q => D q ∨ q = t.1.p) h k := by
  obtain ⟨q1,q2,q3⟩ := s.g.2.2.2.2.2.2.1 k (List.mem_of_getElem? hk)
  have hD : ∀ q,D q → q ≠ t.1.p := fun q hq e => s.off q hq (by rw [e]; exact Gt.af_p (t := t) (by omega))
  have hpk : ∀ q,Gt.sp d h k q → q ≠ t.1.p := fun q hq e => (q3 _ _ (Gt.sp_af hq 1 (by omega))).1 (.inl ⟨e,by omega⟩)
  refine ⟨q1,s.wfr (t := t) W,s.nb,fun q hq => ?_,fun q hq => W.fr.keep (s.val2 q (.inr ⟨k,hk,hq⟩)) (nr (.inl (hpk q hq))),fun q hq hb => ?_,fun q => ?_,fun b o hb => s.sub b o (.inr (.inr ⟨k,List.mem_of_getElem? hk,hb⟩)),Nat.le_trans (kid_le s.g.2.2.2.2.2.1 (List.mem_of_getElem? hk)) s.le,Nat.le_trans h1 q2⟩
  · rcases hq with hq | rfl
    · exact W.fr.keep (s.val q hq) (nr (.inl (hD q hq)))
    · exact W.at
  · rcases hq with hq | rfl
    · exact s.off q hq (.inr (.inr ⟨k,List.mem_of_getElem? hk,hb⟩))
    · exact (q3 _ _ hb).1 (.inl ⟨rfl,by omega⟩)
  · rw [s.all q]
    constructor
    · rintro (hq | hq)
      · exact .inl (.inl hq)
      · rcases hq with rfl | ⟨k',hk',hq⟩
        · exact .inl (.inr rfl)
        · rw [hk] at hk'; cases hk'; exact .inr hq
    · rintro ((hq | rfl) | hq)
      · exact .inl hq
      · exact .inr (.inl rfl)
      · exact .inr (.inr ⟨k,hk,hq⟩)
/-- At the leaf: all is as it was. -/
theorem Sp2.fin {t : Gt E 0} (s : Sp2 H0 H P d δ h0 t0 bx D 0 t) (hg0 : Gt.Good H0 P h0 t0) (W : Wrote H H' t.1.p 1 [.int .i64 (Bt.cnOf H0 t.1.p : Int)]) : Gt.Good H' P h0 t0 := by
  have hf := s.wfr (t := t) W
  have hD : ∀ q,D q → q ≠ t.1.p := fun q hq e => s.off q hq (by rw [e]; exact Gt.af_p (t := t) (by omega))
  refine hg0.eqv hf fun b o hb => ?_
  by_cases hs : o = 1 ∧ Gt.sp d h0 t0 b
  · obtain ⟨rfl,hs⟩ := hs
    rw [hg0.spcn hs]
    rcases (s.all b).1 hs with hq | hq
    · exact W.fr.keep (s.val b hq) (nr (.inl (hD b hq)))
    · have e : b = t.1.p := hq
      subst e
      exact W.at
  · exact hf.cell b o (hg0.lt hb) fun hz => hz.elim hs fun e => s.nb o (e ▸ hb)
end
namespace Pl
variable {α : Type} (O : Swo α)
end Pl
end Go.Bt
namespace Go.Bt
open Go
variable {α : Type} {E : Elt α}
theorem Gt.Good.lfglue {H : Mem} {P : Ps} {d : Bool} : ∀ {h : Nat} {t : Gt E h},Gt.Good H P h t → ∃ R,Gt.L h t = glue d (Gt.lf d h t).2 R
  | 0,(g,X),_ => ⟨[],by cases d <;> simp [glue] <;> rfl⟩
  | h + 1,(g,X,K),hg => by
    have hKl : K.length = X.length + 1 := hg.2.2.2.2.2.1
    obtain ⟨k,hk⟩ : ∃ k,K[cix d K.length]? = some k := ⟨K[cix d K.length]'(cix_lt (by omega)),List.getElem?_eq_getElem (cix_lt (by omega))⟩
    obtain ⟨R,hR⟩ := Gt.Good.lfglue (d := d) (hg.2.2.2.2.2.2.1 k (List.mem_of_getElem? hk)).1
    have elf : Gt.lf d (h + 1) ((g,X,K) : Gt E (h + 1)) = Gt.lf d h k := by
      show (match K[cix d K.length]? with
        | some k => Gt.lf d h k
        | none => (g,[])) = _
      rw [hk]
    have hLk : (K.map (Gt.L h))[cix d (K.map (Gt.L h)).length]? = some (Gt.L h k) := by rw [List.length_map,List.getElem?_map,hk]; rfl
    obtain ⟨R',h1,_⟩ := glue_up (X := X) (K := K.map (Gt.L h)) (by rw [List.length_map]; exact hKl) hLk hR hR
    exact ⟨R',by rw [elf]; exact h1⟩
section
variable {H0 H : Mem} {P : Ps} {d : Bool} {δ : Nat → Nat} {h0 h bx : Nat} {t0 : Gt E h0} {D : Nat → Prop} {l X : List α} {g : Ng}
theorem Spn.glue {t : Gt E h} (_s : Spn H0 H P d δ h0 t0 D h t) (hg : Gt.Good H0 P h0 t0) (e : Gt.L h0 t0 = l) (hl : (g,X) = Gt.lf d h0 t0) : ∃ R,l = Bt.glue d X R := by
  obtain ⟨R,hR⟩ := hg.lfglue (d := d)
  rw [← hl,e] at hR
  exact ⟨R,hR⟩
theorem Sp2.pos {t : Gt E h} (s : Sp2 H0 H P d δ h0 t0 bx D h t) : 1 ≤ (Gt.L h t).length := s.g.ne s.x1
end
end Go.Bt
/- Values of size 0: they are kept in cells that there are none of. Conditions: none. -/
namespace Go.Bt
open Go
set_option linter.unusedVariables false
theorem Go'.mono {P : Program} {B : World} {f : FuncId} {Q Q' : Value → Mem → Prop} {n : Nat} {r : Env} {k : List Item} {H : Mem} (hq : ∀ v H',Q v H' → Q' v H') (h : Go' P B f Q n r k H) : Go' P B f Q' n r k H :=
  fun d a ha b cs hb hk =>
    let ⟨v,w'',fr,h1,h2,h3,h4⟩ := h d a ha b cs hb hk
    ⟨v,w'',fr,by obtain ⟨H',d',e,q⟩ := h1; exact ⟨H',d',e,hq _ _ q⟩,h2,h3,h4⟩
theorem Wr.nil (H : Mem) (b o : Nat) : Wr H b o 0 := fun i hi => absurd hi (Nat.not_lt_zero i)
section
variable {P : Program} {B : World} {f : FuncId} {Q : Value → Mem → Prop} {n : Nat} {r : Env} {k : List Item} {H : Mem} {l : List Oper} {C : Mem → Prop} {p : List (Nat × Nat)}
variable {i kd d : Nat} {ty : TypeId} {pos : String} {af : Array Edge} {gd : Option (Nat × Bool)}
end
end Go.Bt
/- Slices of flat values that came in,whatever their type. Conditions: none. -/
namespace Go.Bt
open Go
set_option linter.unusedVariables false
section
variable {P : Program} {B : World} {f : FuncId} {Q : Value → Mem → Prop} {n : Nat} {r : Env} {k : List Item} {H : Mem} {σ : Type} {i1 i2 i3 i4 : Item}
end
section
variable {α : Type} {E : Elt α} {H0 H H' : Mem} {it tr : Nat} {mt sk as ae : Bool} {Z0 Z : Nat → Prop} {fr : List (Nat × Int)} {kv : α}
end
inductive Kd where
  | int (k : IntKind)
  | bool
  | str
def Kd.ok : Kd → Value → Prop
  | .int k,v => ∃ n,v = .int k n ∧ (Lit.int k n).wf = true
  | .bool,v => ∃ b,v = .bool b
  | .str,v => ∃ s : ByteArray,v = .string s ∧ s.size ≤ maxLen
def AllOk : List Kd → List Value → Prop
  | [],[] => True
  | k :: ks,v :: vs => k.ok v ∧ AllOk ks vs
  | _,_ => False
theorem AllOk.app : ∀ {ks : List Kd} {vs : List Value} {ks' : List Kd} {vs' : List Value},AllOk ks vs → AllOk ks' vs' → AllOk (ks ++ ks') (vs ++ vs')
  | [],[],_,_,_,h => h
  | _ :: _,_ :: _,_,_,h,h' => ⟨h.1,h.2.app h'⟩
  | [],_ :: _,_,_,h,_ => h.elim
  | _ :: _,[],_,_,h,_ => h.elim
theorem AllOk.len : ∀ {ks : List Kd} {vs : List Value},AllOk ks vs → vs.length = ks.length
  | [],[],_ => rfl
  | _ :: _,_ :: _,h => by rw [List.length_cons,List.length_cons,h.2.len]
  | [],_ :: _,h => h.elim
  | _ :: _,[],h => h.elim
def kindsF (P : Program) (g : TypeId → Option (List Kd)) : Nat → List Field → Option (List Kd)
  | _,[] => some []
  | off,f :: fs =>
    match g f.type with
    | none => none
    | some a => if f.offset = off ∧ P.cellsOf f.type = a.length then (kindsF P g (off + a.length) fs).map (a ++ ·) else none
/-- The kinds of the cells of a flat type. -/
def kinds (P : Program) : Nat → TypeId → Option (List Kd)
  | 0,_ => none
  | n + 1,t =>
    match P.underlying t with
    | some .bool => some [.bool]
    | some (.int k) => some [.int k]
    | some .string => some [.str]
    | some (.struct fs) =>
      match kindsF P (kinds P n) 0 fs.toList with
      | some ks => if P.cellsOf t = ks.length then some ks else none
      | none => none
    | _ => none
section
variable {H : Type} {enc : TypeId × Value → H} {P : Program} {w : World} {base : Nat} {spare : Nat → Bool} {held : Bool}
end
theorem AllOk.get1 {k : Kd} {ks : List Kd} {vs : List Value} (h : AllOk (k :: ks) vs) : ∃ v vs',vs = v :: vs' ∧ k.ok v ∧ AllOk ks vs' := by
  cases vs with
  | nil => exact h.elim
  | cons v vs => exact ⟨v,vs,rfl,h.1,h.2⟩
theorem AllOk.nil' {vs : List Value} (h : AllOk [] vs) : vs = [] := by
  cases vs with
  | nil => rfl
  | cons v vs => exact h.elim
end Go.Bt
/- What the moves of an iterator tell. Conditions: none. -/
namespace Go.Bt
open Go
set_option linter.unusedVariables false
/-- A move: its number,its item. -/
def EMv : Elt (Int × Int × Int) := { enc := fun m => [.int .i64 m.1,.int .i64 m.2.1,.int .i64 m.2.2],s := 3,len := fun _ => rfl,one := fun _ => rfl,pos := by decide }
theorem EMv.of (vs : List Value) (h : AllOk [.int .i64,.int .i64,.int .i64] vs) : ∃ y,EMv.enc y = vs := by
  obtain ⟨x1,v1,e1,⟨a,e2,_⟩,h1⟩ := h.get1
  obtain ⟨x2,v2,e3,⟨b,e4,_⟩,h2⟩ := h1.get1
  obtain ⟨x3,v3,e5,⟨c,e6,_⟩,h3⟩ := h2.get1
  rw [e1,e3,e5,e2,e4,e6,h3.nil']
  exact ⟨(a,b,c),rfl⟩
namespace Pl
/-- A place in a list of n items,if it is one. -/
def cut (n : Nat) (z : Int) : Option Nat := if 0 ≤ z ∧ z < (n : Int) then some z.toNat else none
theorem cut_nat (n q : Nat) : cut n (q : Int) = if q < n then some q else none := by
  unfold cut
  by_cases h : q < n
  · rw [if_pos ⟨by omega,by omega⟩,if_pos h]; rfl
  · rw [if_neg (by omega),if_neg h]
theorem cut_last (n : Nat) : cut n ((n : Int) - 1) = if 0 < n then some (n - 1) else none := by
  by_cases h : 0 < n
  · rw [show (n : Int) - 1 = ((n - 1 : Nat) : Int) by omega,cut_nat,if_pos (by omega),if_pos h]
  · rw [if_neg h,cut,if_neg (by omega)]
theorem cut_first (n : Nat) : cut n 0 = if 0 < n then some 0 else none := cut_nat n 0
theorem cut_next (n q : Nat) : cut n ((q : Int) + 1) = if q + 1 < n then some (q + 1) else none := cut_nat n (q + 1)
theorem cut_neg (n : Nat) : cut n (-1) = none := by rw [cut,if_neg (by omega)]
section
variable {α : Type} (O : Swo α) (l : List α)
/-- Where a move leads from a place (−1 or the list's length: nowhere). -/
def mvTo (m : Int × α) (st : Option Nat) : Int :=
  if m.1 = 2 ∨ m.1 = 3 then (match st with | none => -1 | some q => if m.1 = 2 then (q : Int) + 1 else (q : Int) - 1)
  else if m.1 = 1 then (l.length : Int) - 1
  else if m.1 = 4 ∨ m.1 = 5 then (pos O m.2 l : Int)
  else 0
/-- Whether it is told. -/
def mvTold (m : Int × α) (st : Option Nat) : Bool := if m.1 = 2 ∨ m.1 = 3 then st.isSome || l.isEmpty else true
end
/-- Two lists agree wherever it is told. -/
def Agree {γ : Type} (a b : List γ) (t : List Bool) : Prop := a.length = b.length ∧ t.length = b.length ∧ ∀ j : Nat,t[j]? = some true → a[j]? = b[j]?
theorem Agree.nil {γ : Type} : Agree ([] : List γ) [] [] := ⟨rfl,rfl,fun _ _ => rfl⟩
end Pl
end Go.Bt
namespace Go.Bt
open Go
namespace Pl
section
variable {α : Type} (O : Swo α) (l : List α)
/-- What a move did: where it is told,it came to what the reference says; else the reference stands nowhere. -/
structure Res (m : Int × α) (s0 : Option Nat) (b : Bool) (st : Option Nat) : Prop where
  told : mvTold l m s0 = true → b = st.isSome ∧ st = cut l.length (mvTo O l m s0)
  not : mvTold l m s0 = false → cut l.length (mvTo O l m s0) = none
variable {O l}
theorem Res.out {m : Int × α} {s0 st : Option Nat} {b : Bool} (h : Res O l m s0 b st) {kv : α} (hkv : ∀ q,st = some q → l[q]? = some kv) (ht : mvTold l m s0 = true) : (if b = true then some kv else none) = (cut l.length (mvTo O l m s0)).bind (l[·]?) := by
  obtain ⟨h1,h2⟩ := h.told ht
  rw [← h2,h1]
  cases st with
  | none => rfl
  | some q => exact (hkv q rfl).symm
theorem Res.first {m : Int × α} {s0 : Option Nat} (h1 : m.1 ≠ 1) (h2 : m.1 ≠ 2) (h3 : m.1 ≠ 3) (h4 : m.1 ≠ 4) (h5 : m.1 ≠ 5) : Res O l m s0 (decide (0 < l.length)) (if 0 < l.length then some 0 else none) := by
  have e : mvTo O l m s0 = 0 := by unfold mvTo; rw [if_neg (by omega),if_neg h1,if_neg (by omega)]
  refine ⟨fun _ => ⟨?_,by rw [e,cut_first]⟩,fun h => ?_⟩
  · by_cases h : 0 < l.length <;> simp [h]
  · unfold mvTold at h; rw [if_neg (by omega)] at h; cases h
theorem Res.last {m : Int × α} {s0 : Option Nat} (h1 : m.1 = 1) : Res O l m s0 (decide (0 < l.length)) (if 0 < l.length then some (l.length - 1) else none) := by
  have e : mvTo O l m s0 = (l.length : Int) - 1 := by unfold mvTo; rw [if_neg (by omega),if_pos h1]
  refine ⟨fun _ => ⟨?_,by rw [e,cut_last]⟩,fun h => ?_⟩
  · by_cases h : 0 < l.length <;> simp [h]
  · unfold mvTold at h; rw [if_neg (by omega)] at h; cases h
theorem Res.next {m : Int × α} {s0 st st' : Option Nat} {b : Bool} (h1 : m.1 = 2) (hs : ∀ q,s0 = some q → st = some q) (h : ∀ q,st = some q → b = decide (q + 1 < l.length) ∧ st' = if q + 1 < l.length then some (q + 1) else none) (hn : l = [] → b = false ∧ st' = none) : Res O l m s0 b st' := by
  cases s0 with
  | some q =>
    have e : mvTo O l m (some q) = (q : Int) + 1 := by unfold mvTo; rw [if_pos (.inl h1)]; simp only; rw [if_pos h1]
    obtain ⟨h2,h3⟩ := h q (hs q rfl)
    refine ⟨fun _ => ⟨?_,by rw [e,cut_next]; exact h3⟩,fun h => ?_⟩
    · rw [h2,h3]; by_cases h : q + 1 < l.length <;> simp [h]
    · unfold mvTold at h; rw [if_pos (.inl h1)] at h; cases h
  | none =>
    have e : mvTo O l m none = -1 := by unfold mvTo; rw [if_pos (.inl h1)]
    refine ⟨fun h => ?_,fun _ => by rw [e,cut_neg]⟩
    unfold mvTold at h
    rw [if_pos (.inl h1)] at h
    obtain ⟨h2,h3⟩ := hn (by simpa using h)
    rw [e,cut_neg,h2,h3]; exact ⟨rfl,rfl⟩
end
end Pl
end Go.Bt
namespace Go.Bt
open Go
namespace Pl
section
variable {α : Type} (O : Swo α) (T : List α)
end
end Pl
end Go.Bt
