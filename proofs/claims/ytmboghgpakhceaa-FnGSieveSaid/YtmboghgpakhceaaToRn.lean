/- Pieces of trees (an item, and the items of the child behind it): of each of them something holds. Conditions: none. -/
import Derived.Test.YtmboghgpakhceaaToRb
import Derived.Test.YtmboghgpakhceaaToKi
set_option linter.unusedVariables false
namespace Go.Bt
open Go
namespace Pl
variable {α:Type} (O:Swo α)
theorem inter_take {X:List α} {K:List (List α)} {i:Nat} {k m:List α} (hl:K.length=X.length+1) (hk:K[i]?=some k):
  inter X (K.take i++[m]++K.drop (i+1))=pre (X.take i) (K.take i)++m++post (X.drop i) (K.drop (i+1)):=by
 have hi:=(List.getElem?_eq_some_iff.1 hk).1
 have:=inter_focus (X.take i) (X.drop i) (K.take i) m (K.drop (i+1)) (by rw [List.length_take,List.length_take];omega) (by rw [List.length_drop,List.length_drop];omega)
 rw [List.take_append_drop] at this
 rw [List.append_assoc,List.singleton_append,this]
theorem inter_self {X:List α} {K:List (List α)} {i:Nat} {k:List α} (hl:K.length=X.length+1) (hk:K[i]?=some k):
  inter X K=pre (X.take i) (K.take i)++k++post (X.drop i) (K.drop (i+1)):=by
 rw [←inter_take (m:=k) hl hk]
 congr 1
 obtain ⟨h1,h2⟩:=List.getElem?_eq_some_iff.1 hk
 rw [List.append_assoc,List.singleton_append,←h2,List.getElem_cons_drop,List.take_append_drop]
end Pl
def AllP {α:Type} (R:α→List α→Prop) (l:List α):Prop:=∀a w b c,l=a++w::b++c→R w b
theorem AllP.part {α:Type} {R:α→List α→Prop} {l m:List α} {a c:List α} (h:AllP R l) (e:l=a++m++c):AllP R m:=fun a' w b c' e'=>h (a++a') w b (c'++c) (by rw [e,e'];simp)
theorem AllP.low {α:Type} {R:α→List α→Prop} {l:List α} (h:∀w∈l,∀b,R w b):AllP R l:=fun a w b c e=>h w (by rw [e];simp) b
theorem AllP.cons {α:Type} {R:α→List α→Prop} {x:α} {l:List α} (hx:∀b,R x b) (h:AllP R l):AllP R (x::l):=fun a w b c e=>by
 rcases a with _|⟨z,a⟩
 ·
  simp only [List.nil_append,List.cons_append,List.cons.injEq] at e
  obtain ⟨rfl,_⟩:=e
  exact hx b
 ·
  simp only [List.cons_append,List.cons.injEq] at e
  exact h a w b c (by rw [e.2];try simp)
def SegN {α:Type} (R:α→List α→Prop) (X:List α) (K:List (List α)):Prop:=∀i y k,X[i]?=some y→K[i+1]?=some k→R y k
variable {α:Type} {E:Elt α}
def Gt.Seg (R:α→List α→Prop):(h:Nat)→Gt E h→Prop
 | 0,_=>True
 | h+1,t=>SegN R t.2.1 (t.2.2.map (Gt.L h))∧∀k∈t.2.2,Gt.Seg R h k
section
variable {R:α→List α→Prop}
theorem Pl.inter_piece:∀{X:List α} {K:List (List α)} {i:Nat} {y:α} {k:List α},K.length=X.length+1→X[i]?=some y→K[i+1]?=some k→∃a c,Pl.inter X K=a++y::k++c
 | [],_,_,_,_,_,h,_=>by simp at h
 | x::X,[],_,_,_,h,_,_=>by simp at h
 | x::X,k0::K,i,y,k,hl,hx,hk=>by
  have hl':K.length=X.length+1:=by simpa using hl
  rcases i with _|i
  ·
   simp only [List.getElem?_cons_zero,Option.some.injEq] at hx
   subst hx
   rw [List.getElem?_cons_succ] at hk
   rcases K with _|⟨k1,K⟩
   · simp at hk
   ·
    simp only [List.getElem?_cons_zero,Option.some.injEq] at hk
    subst hk
    have e:=Pl.inter_self (X:=X) (K:=k1::K) (i:=0) (k:=k1) hl' rfl
    simp only [List.take_zero,Pl.pre,List.nil_append] at e
    refine ⟨k0,Pl.post (X.drop 0) ((k1::K).drop (0+1)),?_⟩
    rw [Pl.inter,e]
    simp
  ·
   rw [List.getElem?_cons_succ] at hx hk
   obtain ⟨a,c,e⟩:=Pl.inter_piece hl' hx hk
   exact ⟨k0++x::a,c,by rw [Pl.inter,e];simp⟩
theorem Gt.Seg.of_all:∀{h:Nat} {t:Gt E h} {H:Mem} {P:Ps},Gt.Good H P h t→AllP R (Gt.L h t)→Gt.Seg R h t
 | 0,_,_,_,_,_=>trivial
 | h+1,t,H,P,hg,hq=>by
  have hl:(t.2.2.map (Gt.L h)).length=t.2.1.length+1:=by rw [List.length_map];exact hg.2.2.2.2.2.1
  refine ⟨fun i z k hx hk=>?_,fun k hk=>?_⟩
  ·
   obtain ⟨a',c',e⟩:=Pl.inter_piece hl hx hk
   exact hq a' z k c' e
  ·
   obtain ⟨j,hj⟩:=List.mem_iff_getElem?.1 hk
   have hj':(t.2.2.map (Gt.L h))[j]?=some (Gt.L h k):=by rw [List.getElem?_map,hj];rfl
   have e:Gt.L (h+1) t=_:=Pl.inter_self hl hj'
   exact Gt.Seg.of_all (hg.2.2.2.2.2.2.1 k hk).1 (hq.part e)
theorem Gt.Seg.of_low {H:Mem} {P:Ps} {h:Nat} {t:Gt E h} (hg:Gt.Good H P h t) (hq:∀y∈Gt.L h t,∀l,R y l):Gt.Seg R h t:=Gt.Seg.of_all hg (.low hq)
theorem SegN.mono {R':α→List α→Prop} {X:List α} {K:List (List α)} (h:SegN R X K) (hm:∀y k,y∈X→k∈K→R y k→R' y k):SegN R' X K:=fun i y k hx hk=>hm y k (List.mem_of_getElem? hx) (List.mem_of_getElem? hk) (h i y k hx hk)
theorem SegN.glue {X Y:List α} {K J:List (List α)} {x:α} (hK:K.length=X.length+1) (h1:SegN R X K) (h2:SegN R Y J) (hx:∀k,J[0]?=some k→R x k):SegN R (X++x::Y) (K++J):=fun i y k hi hk=>by
 rcases Nat.lt_or_ge i X.length with h|h
 ·
  rw [List.getElem?_append_left h] at hi
  rw [List.getElem?_append_left (by omega)] at hk
  exact h1 i y k hi hk
 ·
  rw [List.getElem?_append_right h] at hi
  rw [List.getElem?_append_right (by omega)] at hk
  rcases Nat.eq_or_lt_of_le h with e|e
  ·
   subst e
   simp only [Nat.sub_self,List.getElem?_cons_zero,Option.some.injEq] at hi
   subst hi
   rw [hK,Nat.sub_self] at hk
   exact hx k hk
  ·
   rw [show i-X.length=(i-X.length-1)+1 by omega,List.getElem?_cons_succ] at hi
   rw [hK,show i+1-(X.length+1)=(i-X.length-1)+1 by omega] at hk
   exact h2 _ y k hi hk
theorem SegN.left {X Y:List α} {K J:List (List α)} {x:α} (hK:K.length=X.length+1) (h:SegN R (X++x::Y) (K++J)):SegN R X K:=fun i y k hi hk=>by
 have h1:=(List.getElem?_eq_some_iff.1 hi).1
 exact h i y k (by rw [List.getElem?_append_left h1];exact hi) (by rw [List.getElem?_append_left (by omega)];exact hk)
theorem SegN.right {X Y:List α} {K J:List (List α)} {x:α} (hK:K.length=X.length+1) (h:SegN R (X++x::Y) (K++J)):SegN R Y J:=fun i y k hi hk=>by
 refine h (X.length+1+i) y k ?_ ?_
 · rw [List.getElem?_append_right (by omega),show X.length+1+i-X.length=i+1 by omega,List.getElem?_cons_succ];exact hi
 · rw [List.getElem?_append_right (by omega),show X.length+1+i+1-K.length=i+1 by omega];exact hk
end
theorem SegN.reb {R:α→List α→Prop} {Xl Xr:List α} {Kl Kr:List (List α)} {x:α} {mn:Nat} (hKl:Kl.length=Xl.length+1) (hKr:Kr.length=Xr.length+1) (h1:SegN R Xl Kl) (h2:SegN R Xr Kr)
  (hc:(AllP R (x::Pl.inter Xr Kr)∧Xl.length<mn)∨((∀w∈Pl.inter Xl Kl++[x],∀l,R w l)∧Xr.length<mn)):SegN R (Xl++x::Xr) (Kl++Kr):=by
 refine SegN.glue hKl h1 h2 fun k hk=>?_
 rcases hc with ⟨hc,_⟩|⟨hc,_⟩
 ·
  have e:=Pl.inter_self hKr hk
  simp only [List.take_zero,Pl.pre,List.nil_append] at e
  exact hc [] x k (Pl.post (Xr.drop 0) (Kr.drop (0+1))) (by rw [e];simp)
 · exact hc x (by simp) k
theorem piece_mid {R:α→List α→Prop} {Xl Xr Xl' Xr':List α} {Kl Kr A B:List (List α)} {x y:α} {mn:Nat} (hKl:Kl.length=Xl.length+1) (hKr:Kr.length=Xr.length+1) (hA:A.length=Xl'.length+1) (hB:B.length=Xr'.length+1)
  (hc:(AllP R (x::Pl.inter Xr Kr)∧Xl.length<mn)∨((∀w∈Pl.inter Xl Kl++[x],∀l,R w l)∧Xr.length<mn)) (hX:Xl'++y::Xr'=Xl++x::Xr) (hK:A++B=Kl++Kr) (b1:mn≤Xl'.length) (b2:mn≤Xr'.length):R y (Pl.inter Xr' B):=by
 have hL:Pl.inter Xl' A++y::Pl.inter Xr' B=Pl.inter Xl Kl++x::Pl.inter Xr Kr:=by
  rw [←Pl.inter_item _ _ _ _ _ hA.symm,←Pl.inter_item _ _ _ _ _ hKl.symm,hX,hK]
 have hlx:Xl'.length+(Xr'.length+1)=Xl.length+(Xr.length+1):=by have:=congrArg List.length hX;simpa using this
 rcases hc with ⟨hc,hs⟩|⟨hc,hs⟩
 ·
  have hlt:Xl.length<Xl'.length:=by omega
  have e1:Xl'=Xl++x::(Xl'.drop (Xl.length+1)):=by
   have h1:=congrArg (List.take Xl'.length) hX
   rw [List.take_left] at h1
   have h2:(Xl++x::Xr).take Xl'.length=Xl++(x::Xr).take (Xl'.length-Xl.length):=by rw [List.take_append,List.take_of_length_le (by omega)]
   obtain ⟨d,hd⟩:∃d,Xl'.length-Xl.length=d+1:=⟨Xl'.length-Xl.length-1,by omega⟩
   rw [h2,hd,List.take_succ_cons] at h1
   have h3:Xl'.drop (Xl.length+1)=Xr.take d:=by rw [h1,←List.drop_drop,List.drop_left];rfl
   rw [h3];exact h1
  have lK:Kl.length<A.length:=by omega
  have e2:A=Kl++A.drop Kl.length:=by
   have h1:=congrArg (List.take Kl.length) hK
   rw [List.take_append_of_le_length (by omega),List.take_left] at h1
   conv=>lhs;rw [←List.take_append_drop Kl.length A,h1]
  have e3:Pl.inter Xl' A=Pl.inter Xl Kl++x::Pl.inter (Xl'.drop (Xl.length+1)) (A.drop Kl.length):=by
   conv=>lhs;rw [e1,e2]
   exact Pl.inter_item _ _ _ _ _ hKl.symm
  rw [e3,List.append_assoc,List.cons_append,List.append_cancel_left_eq,List.cons.injEq] at hL
  refine hc (x::Pl.inter (Xl'.drop (Xl.length+1)) (A.drop Kl.length)) y (Pl.inter Xr' B) [] ?_
  rw [←hL.2];simp
 ·
  have hy:y∈Xl:=by
   have h1:(Xl'++y::Xr')[Xl'.length]?=(Xl++x::Xr)[Xl'.length]?:=by rw [hX]
   rw [List.getElem?_append_right (Nat.le_refl _),Nat.sub_self,List.getElem?_cons_zero,List.getElem?_append_left (by omega)] at h1
   exact List.mem_of_getElem? h1.symm
  exact hc y (List.mem_append_left _ ((Pl.sublist_inter Xl Kl (by omega)).subset hy)) _
theorem SegN.one {R:α→List α→Prop} {X:List α} {K1 K2:List (List α)} {u v m:List α} (h:SegN R X (K1++[u,v]++K2)) (hlo:∀j,j<K1.length→∀z,X[j]?=some z→∀l,R z l) (hl:K1.length<X.length):SegN R (X.take K1.length++X.drop (K1.length+1)) (K1++[m]++K2):=fun j z k hz hk=>by
 rcases Nat.lt_or_ge j K1.length with hj|hj
 ·
  rw [List.getElem?_append_left (by rw [List.length_take];omega),List.getElem?_take_of_lt hj] at hz
  exact hlo j hj z hz k
 ·
  rw [List.getElem?_append_right (by rw [List.length_take];omega),List.length_take,Nat.min_eq_left (by omega),List.getElem?_drop] at hz
  have hk2:K2[j-K1.length]?=some k:=by
   rw [List.append_assoc,List.getElem?_append_right (by omega),show j+1-K1.length=(j-K1.length)+1 by omega] at hk
   simpa using hk
  refine h (j+1) z k (by rw [←hz];congr 1;omega) ?_
  rw [List.append_assoc,List.getElem?_append_right (by omega),show j+1+1-K1.length=(j-K1.length)+2 by omega]
  simpa using hk2
theorem SegN.two {R:α→List α→Prop} {X:List α} {K1 K2:List (List α)} {u v m1 m2:List α} {y:α} (h:SegN R X (K1++[u,v]++K2)) (hlo:∀j,j<K1.length→∀z,X[j]?=some z→∀l,R z l) (hl:K1.length<X.length) (hy:R y m2):SegN R (X.take K1.length++y::X.drop (K1.length+1)) (K1++[m1,m2]++K2):=fun j z k hz hk=>by
 have lT:(X.take K1.length).length=K1.length:=by rw [List.length_take];omega
 rcases Nat.lt_trichotomy j K1.length with hj|rfl|hj
 ·
  rw [List.getElem?_append_left (by omega),List.getElem?_take_of_lt hj] at hz
  exact hlo j hj z hz k
 ·
  rw [List.getElem?_append_right (by omega),lT,Nat.sub_self] at hz
  rw [List.append_assoc,List.getElem?_append_right (by omega),show K1.length+1-K1.length=1 by omega] at hk
  simp only [List.getElem?_cons_zero,Option.some.injEq] at hz
  simp only [List.cons_append,List.nil_append,List.getElem?_cons_succ,List.getElem?_cons_zero,Option.some.injEq] at hk
  subst hz hk
  exact hy
 ·
  rw [List.getElem?_append_right (by omega),lT,show j-K1.length=(j-K1.length-1)+1 by omega,List.getElem?_cons_succ,List.getElem?_drop] at hz
  have hk2:K2[j-K1.length-1]?=some k:=by
   rw [List.append_assoc,List.getElem?_append_right (by omega),show j+1-K1.length=(j-K1.length-1)+2 by omega] at hk
   simpa using hk
  refine h j z k (by rw [←hz];congr 1;omega) ?_
  rw [List.append_assoc,List.getElem?_append_right (by omega),show j+1-K1.length=(j-K1.length-1)+2 by omega]
  simpa using hk2
variable {α:Type} {E:Elt α}
theorem Inn.alone {H:Mem} {P:Ps} {h:Nat} {g:Ng} {X:List α} {os:List (Option Nat)} {K:List (Gt E h)} (hI:Inn H P h g X os K):Rn E H P g X os:=
 ⟨hI.n,hI.k,⟨fun k hk=>absurd hk (List.not_mem_nil),List.Pairwise.nil⟩,hI.iso⟩
theorem Inn.putM {Z RA:Rg} {H H':Mem} {P:Ps} {h:Nat} {g g':Ng} {X X':List α} {os os':List (Option Nat)} {K1 K2 M:List (Gt E h)} (hI:Inn H P h g X os (K1++K2)) (hn:Rn E H' P g' X' os') (hf:Fr Z H H')
  (hZ:∀b o,b<H.size→Z b o→rn E g b o∨RA b o) (hg:Gro H (rn E g) (rn E g')) (hRA:Off RA (innc h g (K1++K2)))
  (hM:∀m∈M,Gt.Good H' P h m∧P.mn≤(Gt.X h m).length∧Gro H RA (Gt.af h m)∧Off (Gt.af h m) (rn E g')) (hP:M.Pairwise fun k k'=>Off (Gt.af h k) (Gt.af h k')):
  Inn H' P h g' X' os' (K1++M++K2):=by
 have hold:∀k∈K1++K2,(Gt.Good H' P h k∧P.mn≤(Gt.X h k).length∧∀b o,Gt.af h k b o→¬ncl E g' b o∧¬kcl g' b o):=fun k hk=>by
  obtain ⟨h1,h2,h3⟩:=hI.c.1 k hk
  have hn1:∀b o,Gt.af h k b o→¬rn E g b o:=fun b o hb hr=>(rn_iff.1 hr).elim (h3 b o hb).1 (h3 b o hb).2
  have hn2:∀b o,Gt.af h k b o→¬RA b o:=fun b o hb hr=>hRA b o hr (.inr (.inr ⟨k,hk,hb⟩))
  refine ⟨h1.fr hf fun b o hb hz=>(hZ b o (h1.lt hb) hz).elim (hn1 b o hb) (hn2 b o hb),h2,fun b o hb=>?_⟩
  have:¬rn E g' b o:=hg.not (h1.lt hb) (hn1 b o hb)
  exact ⟨fun h=>this (rn_iff.2 (.inl h)),fun h=>this (rn_iff.2 (.inr h))⟩
 have cross:∀k∈K1++K2,∀m∈M,Off (Gt.af h k) (Gt.af h m):=fun k hk m hm=>(hM m hm).2.2.1.off (fun b o hb hr=>hRA b o hr (.inr (.inr ⟨k,hk,hb⟩))) fun b o hb=>(hI.c.1 k hk).1.lt hb
 refine ⟨hn.n,hn.k,⟨fun k hk=>?_,?_⟩,hn.iso⟩
 ·
  simp only [List.mem_append] at hk
  rcases hk with (hk|hk)|hk
  · exact hold k (List.mem_append_left _ hk)
  ·
   obtain ⟨h1,h2,_,h4⟩:=hM k hk
   exact ⟨h1,h2,fun b o hb=>⟨fun h=>h4 b o hb (rn_iff.2 (.inl h)),fun h=>h4 b o hb (rn_iff.2 (.inr h))⟩⟩
  · exact hold k (List.mem_append_right _ hk)
 ·
  have hp:=hI.c.2
  rw [List.pairwise_append] at hp
  obtain ⟨p1,p2,p12⟩:=hp
  rw [List.append_assoc,List.pairwise_append,List.pairwise_append]
  refine ⟨p1,⟨hP,p2,fun m hm k hk b o hmb hb=>cross k (List.mem_append_right _ hk) m hm b o hb hmb⟩,fun k hk m hm b o hb hmb=>?_⟩
  rcases List.mem_append.1 hm with hm|hm
  · exact cross k (List.mem_append_left _ hk) m hm b o hb hmb
  · exact p12 k hk m hm b o hb hmb
def GoodM (H H':Mem) (P:Ps) (RA:Rg) (g':Ng) (h:Nat) (m:Gt E h):Prop:=Gt.Good H' P h m∧P.mn≤(Gt.X h m).length∧Gro H RA (Gt.af h m)∧Off (Gt.af h m) (rn E g')
def SegC (P:Ps) (h:Nat) (u v:Gt E h) (x:α) (R:α→List α→Prop):Prop:=
 Gt.Seg R h u∧Gt.Seg R h v∧((AllP R (x::Gt.L h v)∧(Gt.X h u).length<P.mn)∨((∀w∈Gt.L h u++[x],∀l,R w l)∧(Gt.X h v).length<P.mn))
def RebMid (H H':Mem) (P:Ps) (h:Nat) (RA:Rg) (i:Nat) (g:Ng) (X:List α) (os:List (Option Nat)) (pl pr:Nat) (L0:List α) (SC:(α→List α→Prop)→Prop) (E:Elt α):Prop:=
 ∃g',g'.p=g.p∧g'.cnt=g.cnt∧Gro H (rn E g) (rn E g')∧Fr (fun b o=>rn E g b o∨RA b o) H H'∧
  ((∃m:Gt E h,Rn E H' P g' (X.take i++X.drop (i+1)) (os.take (i+1)++os.drop (i+1+1))∧Gt.p h m=pl∧GoodM H H' P RA g' h m∧Gt.L h m=L0∧∀R,SC R→Gt.Seg R h m)∨
  ∃(m1 m2:Gt E h) (y:α),Rn E H' P g' (X.take i++y::X.drop (i+1)) os∧Gt.p h m1=pl∧Gt.p h m2=pr∧GoodM H H' P RA g' h m1∧GoodM H H' P RA g' h m2∧Off (Gt.af h m1) (Gt.af h m2)∧Gt.L h m1++y::Gt.L h m2=L0∧∀R,SC R→Gt.Seg R h m1∧Gt.Seg R h m2∧R y (Gt.L h m2))
theorem reb_leaf {D:Nat→Prop} {H H':Mem} {P:Ps} (hm1:1≤P.mn) {cn:Nat→Nat} {i:Nat} {g gl gr:Ng} {X Xl Xr:List α} {os:List (Option Nat)} {x:α} (hi:RebIn E H P D true cn i g gl gr X Xl Xr os [] [] x) (ho:RebOut E H H' P true cn i g gl gr X Xl Xr os [] [] x) (hc:gl.cnt=Xl.length∧gr.cnt=Xr.length):
  RebMid H H' P 0 (fun b o=>ncl E gl b o∨ncl E gr b o) i g X os gl.p gr.p (Xl++x::Xr) (SegC (E:=E) P 0 ((gl,Xl):Gt E 0) ((gr,Xr):Gt E 0) x) E:=by
 obtain ⟨hf,g',gl',e1,e2,e3,gg,ggl,dl,hr⟩:=ho
 refine ⟨g',e1,e2,gg,hf.mono (fun b o _ h=>h.elim .inl .inr),?_⟩
 have hml:=hi.ml
 have hmr:=hi.mr
 rcases hr with ⟨hlt,hn,⟨hl,hli,_⟩,hcn⟩|⟨gr',Xl',Xr',osl',osr',y,e4,ggr,dr,dlr,hn,⟨hl,hli,rfl⟩,⟨hr,hri,rfl⟩,hcl,hcr,hx,_,b1,b2,b3,b4,_⟩
 ·
  have hll:(Xl++x::Xr).length=Xl.length+(Xr.length+1):=by simp
  refine .inl ⟨((gl',Xl++x::Xr):Gt E 0),hn,e3,⟨⟨hl,hli,?_,?_⟩,?_,fun b o hb=>(ggl b o hb).imp .inl id,dl⟩,rfl,fun _ _=>trivial⟩
  ·
   show gl'.cnt=_
   rw [hcn,hll,hc.1,hc.2]
  ·
   show (Xl++x::Xr).length≤_
   rw [hll];omega
  ·
   show _≤(Xl++x::Xr).length
   rw [hll];omega
 ·
  simp only [List.map_nil,List.sum_nil,Nat.add_zero] at hcl hcr
  refine .inr ⟨((gl',Xl'):Gt E 0),((gr',Xr'):Gt E 0),y,hn,e3,e4,⟨⟨hl,hli,hcl,b3⟩,b1,fun b o hb=>(ggl b o hb).imp .inl id,dl⟩,⟨⟨hr,hri,hcr,b4⟩,b2,fun b o hb=>(ggr b o hb).imp .inr id,dr⟩,dlr,hx,fun R hR=>⟨trivial,trivial,?_⟩⟩
  obtain ⟨_,_,hc⟩:=hR
  show R y Xr'
  have hlx:Xl'.length+(Xr'.length+1)=Xl.length+(Xr.length+1):=by have:=congrArg List.length hx;simpa using this
  rcases hc with ⟨hc,hs⟩|⟨hc,hs⟩
  ·
   replace hs:Xl.length<P.mn:=hs
   have e1:Xl'=Xl++x::(Xl'.drop (Xl.length+1)):=by
    have h1:=congrArg (List.take Xl'.length) hx
    rw [List.take_left] at h1
    have h2:(Xl++x::Xr).take Xl'.length=Xl++(x::Xr).take (Xl'.length-Xl.length):=by rw [List.take_append,List.take_of_length_le (by omega)]
    obtain ⟨d,hd⟩:∃d,Xl'.length-Xl.length=d+1:=⟨Xl'.length-Xl.length-1,by omega⟩
    rw [h2,hd,List.take_succ_cons] at h1
    have h3:Xl'.drop (Xl.length+1)=Xr.take d:=by rw [h1,←List.drop_drop,List.drop_left];rfl
    rw [h3];exact h1
   have e2:=hx
   rw [e1,List.append_assoc,List.cons_append,List.append_cancel_left_eq,List.cons.injEq] at e2
   refine hc (x::Xl'.drop (Xl.length+1)) y Xr' [] ?_
   show x::Xr=_
   rw [←e2.2];simp
  ·
   replace hs:Xr.length<P.mn:=hs
   have hy:y∈Xl:=by
    have h1:(Xl'++y::Xr')[Xl'.length]?=(Xl++x::Xr)[Xl'.length]?:=by rw [hx]
    rw [List.getElem?_append_right (Nat.le_refl _),Nat.sub_self,List.getElem?_cons_zero,List.getElem?_append_left (by omega)] at h1
    exact List.mem_of_getElem? h1.symm
   exact hc y (List.mem_append_left _ hy) _
theorem sum_os {H:Mem} {h:Nat} {K:List (Gt E h)} {P:Ps} (hK:∀k∈K,Gt.Good H P h k):(((Gt.ps h K).map some).map (cnO (cnOf H))).sum=((K.map (Gt.L h)).map List.length).sum:=by
 congr 1
 unfold Gt.ps
 rw [List.map_map,List.map_map,List.map_map]
 exact List.map_congr_left fun k hk=>((hK k hk).cnOf).2
theorem split_ps {h:Nat} {K:List (Gt E h)} {a b:List (Option Nat)} (e:a++b=(Gt.ps h K).map some):a=(Gt.ps h (K.take a.length)).map some∧b=(Gt.ps h (K.drop a.length)).map some:=by
 unfold Gt.ps at*
 rw [List.map_take,List.map_take,List.map_drop,List.map_drop,←e]
 simp
theorem good_kids {Z:Rg} {H H':Mem} {P:Ps} {h:Nat} {g:Ng} {X:List α} {K:List (Gt E h)} (hr:Rn E H' P g X ((Gt.ps h K).map some)) (hf:Fr Z H H')
  (hK:∀k∈K,Gt.Good H P h k∧P.mn≤(Gt.X h k).length∧(∀b o,Gt.af h k b o→¬Z b o)∧Off (Gt.af h k) (rn E g)) (hp:K.Pairwise fun k k'=>Off (Gt.af h k) (Gt.af h k'))
  (hc:g.cnt=(Pl.inter X (K.map (Gt.L h))).length) (hx:X.length≤P.mx) (hl:K.length=X.length+1):Gt.Good H' P (h+1) ((g,X,K):Gt E (h+1)):=
 ⟨hr.n,KidO.m hr.k,hr.iso,hc,hx,hl,fun k hk=>⟨(hK k hk).1.fr hf (hK k hk).2.2.1,(hK k hk).2.1,fun b o hb=>⟨fun h=>(hK k hk).2.2.2 b o hb (rn_iff.2 (.inl h)),fun h=>(hK k hk).2.2.2 b o hb (rn_iff.2 (.inr h))⟩⟩,hp⟩
theorem reb_inner {D:Nat→Prop} {H H':Mem} {P:Ps} (hm1:1≤P.mn) {h i:Nat} {g gl gr:Ng} {X Xl Xr:List α} {Kl Kr:List (Gt E h)} {os:List (Option Nat)} {x:α}
  (hl:Gt.Good H P (h+1) ((gl,Xl,Kl):Gt E (h+1))) (hr:Gt.Good H P (h+1) ((gr,Xr,Kr):Gt E (h+1))) (hdl:Off (Gt.af (h+1) ((gl,Xl,Kl):Gt E (h+1))) (Gt.af (h+1) ((gr,Xr,Kr):Gt E (h+1))))
  (hng:∀k∈Kl++Kr,Off (Gt.af h k) (rn E g))
  (hi:RebIn E H P D false (cnOf H) i g gl gr X Xl Xr os ((Gt.ps h Kl).map some) ((Gt.ps h Kr).map some) x) (ho:RebOut E H H' P false (cnOf H) i g gl gr X Xl Xr os ((Gt.ps h Kl).map some) ((Gt.ps h Kr).map some) x):
  RebMid H H' P (h+1) (fun b o=>Gt.af (h+1) ((gl,Xl,Kl):Gt E (h+1)) b o∨Gt.af (h+1) ((gr,Xr,Kr):Gt E (h+1)) b o) i g X os gl.p gr.p (Gt.L (h+1) ((gl,Xl,Kl):Gt E (h+1))++x::Gt.L (h+1) ((gr,Xr,Kr):Gt E (h+1))) (SegC (E:=E) P (h+1) ((gl,Xl,Kl):Gt E (h+1)) ((gr,Xr,Kr):Gt E (h+1)) x) E:=by
 obtain ⟨hf,g',gl',e1,e2,e3,gg,ggl,dl,hh⟩:=ho
 have hml:=hi.ml
 have hmr:=hi.mr
 have hKl:Kl.length=Xl.length+1:=hl.2.2.2.2.2.1
 have hKr:Kr.length=Xr.length+1:=hr.2.2.2.2.2.1
 have rl:∀b o,rn E gl b o→Gt.af (h+1) ((gl,Xl,Kl):Gt E (h+1)) b o:=fun b o hb=>(rn_iff.1 hb).elim .inl (fun h=>.inr (.inl h))
 have rr:∀b o,rn E gr b o→Gt.af (h+1) ((gr,Xr,Kr):Gt E (h+1)) b o:=fun b o hb=>(rn_iff.1 hb).elim .inl (fun h=>.inr (.inl h))
 have hfull:Fr (fun b o=>rn E g b o∨(Gt.af (h+1) ((gl,Xl,Kl):Gt E (h+1)) b o∨Gt.af (h+1) ((gr,Xr,Kr):Gt E (h+1)) b o)) H H':=
  hf.mono fun b o _ hz=>hz.elim .inl fun hz=>.inr (hz.imp (rl b o) (rr b o))
 have kAll:∀k∈Kl++Kr,Gt.Good H P h k∧P.mn≤(Gt.X h k).length∧(∀b o,Gt.af h k b o→¬(rn E g b o∨rwc E false gl b o∨rwc E false gr b o))∧Off (Gt.af h k) (rn E gl)∧Off (Gt.af h k) (rn E gr):=fun k hk=>by
  have hg0:=hng k hk
  rcases List.mem_append.1 hk with hk|hk
  ·
   obtain ⟨q1,q2,q3⟩:=hl.2.2.2.2.2.2.1 k hk
   have a1:Off (Gt.af h k) (rn E gl):=fun b o hb hr=>(rn_iff.1 hr).elim (q3 b o hb).1 (q3 b o hb).2
   have a2:Off (Gt.af h k) (rn E gr):=fun b o hb hr=>hdl b o (.inr (.inr ⟨k,hk,hb⟩)) (rr b o hr)
   exact ⟨q1,q2,fun b o hb hz=>hz.elim (hg0 b o hb) fun hz=>hz.elim (a1 b o hb) (a2 b o hb),a1,a2⟩
  ·
   obtain ⟨q1,q2,q3⟩:=hr.2.2.2.2.2.2.1 k hk
   have a1:Off (Gt.af h k) (rn E gr):=fun b o hb hr=>(rn_iff.1 hr).elim (q3 b o hb).1 (q3 b o hb).2
   have a2:Off (Gt.af h k) (rn E gl):=fun b o hb hr=>hdl b o (rl b o hr) (.inr (.inr ⟨k,hk,hb⟩))
   exact ⟨q1,q2,fun b o hb hz=>hz.elim (hg0 b o hb) fun hz=>hz.elim (a2 b o hb) (a1 b o hb),a2,a1⟩
 have pAll:(Kl++Kr).Pairwise fun k k'=>Off (Gt.af h k) (Gt.af h k'):=by
  rw [List.pairwise_append]
  exact ⟨hl.2.2.2.2.2.2.2,hr.2.2.2.2.2.2.2,fun k hk k' hk' b o hb hb'=>hdl b o (.inr (.inr ⟨k,hk,hb⟩)) (.inr (.inr ⟨k',hk',hb'⟩))⟩
 have kaf:∀k∈Kl++Kr,∀b o,Gt.af h k b o→Gt.af (h+1) ((gl,Xl,Kl):Gt E (h+1)) b o∨Gt.af (h+1) ((gr,Xr,Kr):Gt E (h+1)) b o:=fun k hk b o hb=>
  (List.mem_append.1 hk).imp (fun hk=>.inr (.inr ⟨k,hk,hb⟩)) (fun hk=>.inr (.inr ⟨k,hk,hb⟩))
 have glen:∀K:List (Gt E h),(∀k∈K,k∈Kl++Kr)→(((Gt.ps h K).map some).map (cnO (cnOf H))).sum=((K.map (Gt.L h)).map List.length).sum:=fun K hK=>sum_os (P:=P) fun k hk=>(kAll k (hK k hk)).1
 have mk:∀{gm:Ng} {Xm:List α} {K:List (Gt E h)},Rn E H' P gm Xm ((Gt.ps h K).map some)→(∀k∈K,k∈Kl++Kr)→K.Pairwise (fun k k'=>Off (Gt.af h k) (Gt.af h k'))→(∀k∈K,Off (Gt.af h k) (rn E gm))→
   gm.cnt=Xm.length+(((Gt.ps h K).map some).map (cnO (cnOf H))).sum→Xm.length≤P.mx→K.length=Xm.length+1→Gt.Good H' P (h+1) ((gm,Xm,K):Gt E (h+1)):=fun {gm Xm K} h1 h2 h3 h4 h5 h6 h7=>
  good_kids h1 hf (fun k hk=>⟨(kAll k (h2 k hk)).1,(kAll k (h2 k hk)).2.1,(kAll k (h2 k hk)).2.2.1,h4 k hk⟩) h3 (by rw [h5,glen K h2,Pl.inter_length _ _ (by rw [List.length_map];exact h7)]) h6 h7
 have offg':∀k∈Kl++Kr,Off (Gt.af h k) (rn E g'):=fun k hk=>gg.off (hng k hk) fun b o hb=>(kAll k hk).1.lt hb
 refine ⟨g',e1,e2,gg,hfull,?_⟩
 have hLL:Gt.L (h+1) ((gl,Xl,Kl):Gt E (h+1))++x::Gt.L (h+1) ((gr,Xr,Kr):Gt E (h+1))=Pl.inter (Xl++x::Xr) ((Kl++Kr).map (Gt.L h)):=by
  rw [List.map_append,Pl.inter_item _ _ _ _ _ (by rw [List.length_map];omega)];rfl
 rw [hLL]
 rcases hh with ⟨hlt,hn,hl',hcn⟩|⟨gr',Xl',Xr',osl',osr',y,e4,ggr,dr,dlr,hn,hl',hr',hcl,hcr,hx,hos,b1,b2,b3,b4,b5⟩
 ·
  have hll:(Xl++x::Xr).length=Xl.length+(Xr.length+1):=by simp
  replace hl':Rn E H' P gl' (Xl++x::Xr) ((Gt.ps h Kl).map some++(Gt.ps h Kr).map some):=hl'
  rw [show (Gt.ps h Kl).map some++(Gt.ps h Kr).map some=(Gt.ps h (Kl++Kr)).map some by simp [Gt.ps]] at hl'
  have offl':∀k∈Kl++Kr,Off (Gt.af h k) (rn E gl'):=fun k hk=>Gro.off ggl (kAll k hk).2.2.2.1 fun b o hb=>(kAll k hk).1.lt hb
  have hG:=mk hl' (fun _ h=>h) pAll offl' (by
   rw [hcn,hll,show ((Gt.ps h (Kl++Kr)).map some)=(Gt.ps h Kl).map some++(Gt.ps h Kr).map some by simp [Gt.ps],List.map_append,List.sum_append]
   have:=hi.cl
   have:=hi.cr
   omega) (by rw [hll];omega) (by rw [hll,List.length_append];omega)
  refine .inl ⟨((gl',Xl++x::Xr,Kl++Kr):Gt E (h+1)),hn,e3,⟨hG,?_,fun b o hb=>?_,fun b o hb=>?_⟩,rfl,fun R ⟨r1,r2,rc⟩=>⟨?_,fun k hk=>(List.mem_append.1 hk).elim (r1.2 k) (r2.2 k)⟩⟩
  ·
   show _≤(Xl++x::Xr).length
   rw [hll];omega
  ·
   rcases hb with hb|hb|⟨k,hk,hb⟩
   · exact (ggl b o (rn_iff.2 (.inl hb))).imp (fun h=>.inl (rl b o h)) id
   · exact (ggl b o (rn_iff.2 (.inr hb))).imp (fun h=>.inl (rl b o h)) id
   · exact .inl (kaf k hk b o hb)
  ·
   rcases hb with hb|hb|⟨k,hk,hb⟩
   · exact dl b o (rn_iff.2 (.inl hb))
   · exact dl b o (rn_iff.2 (.inr hb))
   · exact offg' k hk b o hb
  ·
   show SegN R (Xl++x::Xr) ((Kl++Kr).map (Gt.L h))
   rw [List.map_append]
   exact SegN.reb (by rw [List.length_map];exact hKl) (by rw [List.length_map];exact hKr) r1.1 r2.1 rc
 ·
  obtain ⟨s1,s2⟩:=split_ps (K:=Kl++Kr) (hos.trans (by simp [Gt.ps]))
  have hol:=b5 rfl
  generalize hA:(Kl++Kr).take osl'.length=A at s1
  generalize hB:(Kl++Kr).drop osl'.length=B at s2
  have hAB:A++B=Kl++Kr:=by rw [←hA,←hB,List.take_append_drop]
  subst s1 s2
  have lA:A.length=Xl'.length+1:=by simpa [Gt.ps] using hol
  have hlen:Xl'.length+(Xr'.length+1)=Xl.length+(Xr.length+1):=by have:=congrArg List.length hx;simpa using this
  have lB:B.length=Xr'.length+1:=by
   have:=congrArg List.length hAB
   simp only [List.length_append] at this
   omega
  have sA:∀k∈A,k∈Kl++Kr:=fun k hk=>by rw [←hAB];exact List.mem_append_left _ hk
  have sB:∀k∈B,k∈Kl++Kr:=fun k hk=>by rw [←hAB];exact List.mem_append_right _ hk
  rw [←hAB,List.pairwise_append] at pAll
  obtain ⟨pA,pB,pAB⟩:=pAll
  have oA:∀k∈Kl++Kr,Off (Gt.af h k) (rn E gl'):=fun k hk=>Gro.off ggl (kAll k hk).2.2.2.1 fun b o hb=>(kAll k hk).1.lt hb
  have oB:∀k∈Kl++Kr,Off (Gt.af h k) (rn E gr'):=fun k hk=>Gro.off ggr (kAll k hk).2.2.2.2 fun b o hb=>(kAll k hk).1.lt hb
  have gA:=mk hl' sA pA (fun k hk=>oA k (sA k hk)) hcl b3 lA
  have gB:=mk hr' sB pB (fun k hk=>oB k (sB k hk)) hcr b4 lB
  refine .inr ⟨((gl',Xl',A):Gt E (h+1)),((gr',Xr',B):Gt E (h+1)),y,hn,e3,e4,⟨gA,b1,fun b o hb=>?_,fun b o hb=>?_⟩,⟨gB,b2,fun b o hb=>?_,fun b o hb=>?_⟩,fun b o hb hb2=>?_,?_,fun R ⟨r1,r2,rc⟩=>?_⟩
  ·
   rcases hb with hb|hb|⟨k,hk,hb⟩
   · exact (ggl b o (rn_iff.2 (.inl hb))).imp (fun h=>.inl (rl b o h)) id
   · exact (ggl b o (rn_iff.2 (.inr hb))).imp (fun h=>.inl (rl b o h)) id
   · exact .inl (kaf k (sA k hk) b o hb)
  ·
   rcases hb with hb|hb|⟨k,hk,hb⟩
   · exact dl b o (rn_iff.2 (.inl hb))
   · exact dl b o (rn_iff.2 (.inr hb))
   · exact offg' k (sA k hk) b o hb
  ·
   rcases hb with hb|hb|⟨k,hk,hb⟩
   · exact (ggr b o (rn_iff.2 (.inl hb))).imp (fun h=>.inr (rr b o h)) id
   · exact (ggr b o (rn_iff.2 (.inr hb))).imp (fun h=>.inr (rr b o h)) id
   · exact .inl (kaf k (sB k hk) b o hb)
  ·
   rcases hb with hb|hb|⟨k,hk,hb⟩
   · exact dr b o (rn_iff.2 (.inl hb))
   · exact dr b o (rn_iff.2 (.inr hb))
   · exact offg' k (sB k hk) b o hb
  ·
   have n1:ncl E gl' b o∨kcl gl' b o→rn E gl' b o:=fun h=>rn_iff.2 h
   have n2:ncl E gr' b o∨kcl gr' b o→rn E gr' b o:=fun h=>rn_iff.2 h
   rcases hb with hb|hb|⟨k,hk,hb⟩<;>rcases hb2 with hb2|hb2|⟨k',hk',hb2⟩
   · exact dlr b o (n1 (.inl hb)) (n2 (.inl hb2))
   · exact dlr b o (n1 (.inl hb)) (n2 (.inr hb2))
   · exact oA k' (sB k' hk') b o hb2 (n1 (.inl hb))
   · exact dlr b o (n1 (.inr hb)) (n2 (.inl hb2))
   · exact dlr b o (n1 (.inr hb)) (n2 (.inr hb2))
   · exact oA k' (sB k' hk') b o hb2 (n1 (.inr hb))
   · exact oB k (sA k hk) b o hb (n2 (.inl hb2))
   · exact oB k (sA k hk) b o hb (n2 (.inr hb2))
   · exact pAB k hk k' hk' b o hb hb2
  ·
   show Pl.inter Xl' (A.map (Gt.L h))++y::Pl.inter Xr' (B.map (Gt.L h))=_
   rw [←Pl.inter_item _ _ _ _ _ (by rw [List.length_map];omega),←List.map_append,hAB,hx]
  ·
   have hgl:=SegN.reb (by rw [List.length_map];exact hKl) (by rw [List.length_map];exact hKr) r1.1 r2.1 rc
   replace hgl:SegN R (Xl++x::Xr) (Kl.map (Gt.L h)++Kr.map (Gt.L h)):=hgl
   rw [←List.map_append,←hAB,List.map_append,←hx] at hgl
   have lA':(A.map (Gt.L h)).length=Xl'.length+1:=by rw [List.length_map];exact lA
   have rk:∀k∈Kl++Kr,Gt.Seg R h k:=fun k hk=>(List.mem_append.1 hk).elim (r1.2 k) (r2.2 k)
   exact ⟨⟨hgl.left lA',fun k hk=>rk k (sA k hk)⟩,⟨hgl.right lA',fun k hk=>rk k (sB k hk)⟩,
    piece_mid (Kl:=Kl.map (Gt.L h)) (Kr:=Kr.map (Gt.L h)) (A:=A.map (Gt.L h)) (B:=B.map (Gt.L h)) (by rw [List.length_map];exact hKl) (by rw [List.length_map];exact hKr) lA' (by rw [List.length_map];exact lB) rc hx (by rw [←List.map_append,←List.map_append,hAB]) b1 b2⟩
def RebS (P:Ps) (h i:Nat) (X:List α) (K1 K2:List (Gt E h)) (u v:Gt E h) (x:α) (t':Gt E (h+1)):Prop:=
 ∀R,SegC P h u v x R→(∀j,j<i→∀z,X[j]?=some z→∀l,R z l)→SegN R X ((K1++[u,v]++K2).map (Gt.L h))→(∀k∈K1++K2,Gt.Seg R h k)→Gt.Seg R (h+1) t'
theorem reb_fin {H H':Mem} {P:Ps} {h i:Nat} {g:Ng} {X:List α} {K1 K2:List (Gt E h)} {tl tr:Gt E h} {x:α} (hI:Inn H P h g X ((Gt.ps h (K1++[tl,tr]++K2)).map some) (K1++K2)) (hi:K1.length=i) (hx:X[i]?=some x)
  (hK:(K1++[tl,tr]++K2).length=X.length+1) (hxm:X.length≤P.mx) {RA:Rg} (hRA:Off RA (innc h g (K1++K2)))
  (hm:RebMid H H' P h RA i g X ((Gt.ps h (K1++[tl,tr]++K2)).map some) (Gt.p h tl) (Gt.p h tr) (Gt.L h tl++x::Gt.L h tr) (SegC P h tl tr x) E):
  ∃(g':Ng) (X':List α) (K':List (Gt E h)),g'.p=g.p∧g'.cnt=g.cnt∧Fr (fun b o=>innc h g (K1++K2) b o∨RA b o) H H'∧Inn H' P h g' X' ((Gt.ps h K').map some) K'∧K'.length=X'.length+1∧
   Pl.inter X' (K'.map (Gt.L h))=Pl.inter X ((K1++[tl,tr]++K2).map (Gt.L h))∧X'.length≤P.mx∧X.length≤X'.length+1∧Gro H (fun b o=>innc h g (K1++K2) b o∨RA b o) (innc h g' K')∧RebS P h i X K1 K2 tl tr x ((g',X',K'):Gt E (h+1)):=by
 subst hi
 obtain ⟨hxl,hxe⟩:=List.getElem?_eq_some_iff.1 hx
 obtain ⟨g',e1,e2,gg,hf,hr⟩:=hm
 have hrn:∀b o,rn E g b o→innc h g (K1++K2) b o:=fun b o hb=>(rn_iff.1 hb).elim .inl (fun h=>.inr (.inl h))
 have hf':Fr (fun b o=>innc h g (K1++K2) b o∨RA b o) H H':=hf.mono fun b o _ hz=>hz.imp (hrn b o) id
 have grow:∀M:List (Gt E h),(∀m∈M,Gro H RA (Gt.af h m))→Gro H (fun b o=>innc h g (K1++K2) b o∨RA b o) (innc h g' (K1++M++K2)):=fun M hM b o hb=>by
  rcases hb with hb|hb|⟨k,hk,hb⟩
  · exact (gg b o (rn_iff.2 (.inl hb))).imp (fun h=>.inl (hrn b o h)) id
  · exact (gg b o (rn_iff.2 (.inr hb))).imp (fun h=>.inl (hrn b o h)) id
  ·
   simp only [List.mem_append] at hk
   rcases hk with (hk|hk)|hk
   · exact .inl (.inl (.inr (.inr ⟨k,List.mem_append_left _ hk,hb⟩)))
   · exact (hM k hk b o hb).imp .inr id
   · exact .inl (.inl (.inr (.inr ⟨k,List.mem_append_right _ hk,hb⟩)))
 have hspX:X=X.take K1.length++x::X.drop (K1.length+1):=by rw [←hxe,List.getElem_cons_drop,List.take_append_drop]
 have lT:(X.take K1.length).length=K1.length:=by rw [List.length_take];omega
 have hK2:K2.length=(X.drop (K1.length+1)).length:=by
  simp only [List.length_append,List.length_cons,List.length_nil] at hK
  rw [List.length_drop];omega
 have hinter:Pl.inter X ((K1++[tl,tr]++K2).map (Gt.L h))=Pl.inter (X.take K1.length++X.drop (K1.length+1)) (K1.map (Gt.L h)++(Gt.L h tl++x::Gt.L h tr)::K2.map (Gt.L h)):=by
  rw [Pl.inter_split (by rw [List.length_map];exact lT) (by rw [List.length_map];exact hK2.symm),←hspX]
  simp
 rcases hr with ⟨m,hn,ep,hm,eL,hsg⟩|⟨m1,m2,y,hn,ep1,ep2,hm1,hm2,hd,eL,hsg⟩
 ·
  have hos:((Gt.ps h (K1++[tl,tr]++K2)).map some).take (K1.length+1)++((Gt.ps h (K1++[tl,tr]++K2)).map some).drop (K1.length+1+1)=(Gt.ps h (K1++[m]++K2)).map some:=by
   have:Gt.ps h (K1++[tl,tr]++K2)=(Gt.ps h K1++[Gt.p h tl])++Gt.p h tr::Gt.ps h K2:=by simp [Gt.ps]
   have h1:(Gt.ps h K1++[Gt.p h tl]).length=K1.length+1:=by simp [Gt.ps]
   rw [this,←List.map_take,←List.map_drop,←h1,List.take_left,←List.drop_drop,List.drop_left]
   simp [Gt.ps,ep]
  rw [hos] at hn
  have hI':=hI.putM hn hf (fun b o _ hz=>hz) gg hRA (M:=[m]) (fun k hk=>by rw [List.mem_singleton] at hk;subst hk;exact hm) (List.pairwise_singleton _ _)
  refine ⟨g',_,K1++[m]++K2,e1,e2,hf',hI',?_,?_,?_,?_,grow [m] fun k hk=>by rw [List.mem_singleton] at hk;subst hk;exact hm.2.2.1,fun R hc hlo hN hK=>⟨?_,fun k hk=>?_⟩⟩
  · simp only [List.length_append,List.length_cons,List.length_nil,lT];omega
  · rw [hinter,←eL];simp
  · simp only [List.length_append,lT,List.length_drop];omega
  · simp only [List.length_append,lT,List.length_drop];omega
  ·
   show SegN R (X.take K1.length++X.drop (K1.length+1)) ((K1++[m]++K2).map (Gt.L h))
   have:=SegN.one (K1:=K1.map (Gt.L h)) (K2:=K2.map (Gt.L h)) (u:=Gt.L h tl) (v:=Gt.L h tr) (m:=Gt.L h m) (by simpa using hN) (by rw [List.length_map];exact hlo) (by rw [List.length_map];exact hxl)
   rw [List.length_map] at this
   simpa using this
  ·
   simp only [List.mem_append,List.mem_singleton] at hk
   rcases hk with (hk|rfl)|hk
   · exact hK k (List.mem_append_left _ hk)
   · exact hsg R hc
   · exact hK k (List.mem_append_right _ hk)
 ·
  have hos:(Gt.ps h (K1++[tl,tr]++K2)).map some=(Gt.ps h (K1++[m1,m2]++K2)).map some:=by simp [Gt.ps,ep1,ep2]
  rw [hos] at hn
  have hI':=hI.putM hn hf (fun b o _ hz=>hz) gg hRA (M:=[m1,m2]) (fun k hk=>by simp only [List.mem_cons,List.not_mem_nil,or_false] at hk;rcases hk with rfl|rfl;exact hm1;exact hm2) (List.pairwise_pair.2 hd)
  refine ⟨g',_,K1++[m1,m2]++K2,e1,e2,hf',hI',?_,?_,?_,?_,grow [m1,m2] fun k hk=>by simp only [List.mem_cons,List.not_mem_nil,or_false] at hk;rcases hk with rfl|rfl;exact hm1.2.2.1;exact hm2.2.2.1,fun R hc hlo hN hK=>⟨?_,fun k hk=>?_⟩⟩
  · simp only [List.length_append,List.length_cons,List.length_nil,lT];omega
  ·
   rw [hinter,←eL,Pl.inter_split (by rw [List.length_map];exact lT) (by rw [List.length_map];exact hK2.symm)]
   simp
  · simp only [List.length_append,List.length_cons,lT,List.length_drop];omega
  · simp only [List.length_append,List.length_cons,lT,List.length_drop];omega
  ·
   show SegN R (X.take K1.length++y::X.drop (K1.length+1)) ((K1++[m1,m2]++K2).map (Gt.L h))
   have:=SegN.two (K1:=K1.map (Gt.L h)) (K2:=K2.map (Gt.L h)) (u:=Gt.L h tl) (v:=Gt.L h tr) (m1:=Gt.L h m1) (m2:=Gt.L h m2) (by simpa using hN) (by rw [List.length_map];exact hlo) (by rw [List.length_map];exact hxl) (hsg R hc).2.2
   rw [List.length_map] at this
   simpa using this
  ·
   simp only [List.mem_append,List.mem_cons,List.not_mem_nil,or_false] at hk
   rcases hk with (hk|rfl|rfl)|hk
   · exact hK k (List.mem_append_left _ hk)
   · exact (hsg R hc).1
   · exact (hsg R hc).2.1
   · exact hK k (List.mem_append_right _ hk)
variable {α:Type} {E:Elt α}
theorem Inn.sub {H:Mem} {P:Ps} {h:Nat} {g:Ng} {X:List α} {os:List (Option Nat)} {K K':List (Gt E h)} (hI:Inn H P h g X os K) (hs:K'.Sublist K):Inn H P h g X os K':=
 ⟨hI.n,hI.k,⟨fun k hk=>hI.c.1 k (hs.subset hk),hI.c.2.sublist hs⟩,hI.iso⟩
theorem innc_sub {h:Nat} {g:Ng} {K K':List (Gt E h)} (hs:∀k∈K',k∈K) {b o:Nat} (hb:innc h g K' b o):innc h g K b o:=
 hb.imp id fun hb=>hb.imp id fun ⟨k,hk,hb⟩=>⟨k,hs k hk,hb⟩
structure RebT (H:Mem) (P:Ps) (D:Nat→Prop) (h i:Nat) (g:Ng) (X:List α) (K1 K2:List (Gt E h)) (u v:Gt E h) (x:α):Prop where
 n:Inn H P h g X ((Gt.ps h (K1++[u,v]++K2)).map some) (K1++K2)
 l:Gt.Good H P h u
 r:Gt.Good H P h v
 ol:Off (Gt.af h u) (innc h g (K1++K2))
 or':Off (Gt.af h v) (innc h g (K1++K2))
 olr:Off (Gt.af h u) (Gt.af h v)
 tn:∀b o,innc h g (K1++K2) b o→¬D b
 tl:∀b o,Gt.af h u b o→¬D b
 tr:∀b o,Gt.af h v b o→¬D b
 dD:∀b,D b→b<H.size
 hi:K1.length=i
 x:X[i]?=some x
 len:(K1++[u,v]++K2).length=X.length+1
 xm:X.length≤P.mx
 b:(Gt.L h u).length+(Gt.L h v).length<4611686018427387904
 sh:(Gt.X h u).length<P.mn∨(Gt.X h v).length<P.mn
 ml:P.mn≤(Gt.X h u).length+1
 mr:P.mn≤(Gt.X h v).length+1
theorem rn_innc {h:Nat} {g:Ng} {K:List (Gt E h)} {b o:Nat} (hb:rn E g b o):innc h g K b o:=(rn_iff.1 hb).elim .inl (fun h=>.inr (.inl h))
section
variable {H:Mem} {P:Ps} {D:Nat→Prop} {h i:Nat} {g:Ng} {X:List α} {x:α}
theorem ps_at {K1 K2:List (Gt E h)} {tl tr:Gt E h}:((Gt.ps h (K1++[tl,tr]++K2)).map some)[K1.length]?=some (some (Gt.p h tl))∧((Gt.ps h (K1++[tl,tr]++K2)).map some)[K1.length+1]?=some (some (Gt.p h tr))∧
  ((Gt.ps h (K1++[tl,tr]++K2)).map some).length=(K1++[tl,tr]++K2).length:=by
 refine ⟨?_,?_,by simp [Gt.ps]⟩<;>simp [Gt.ps]
theorem RebT.in0 {K1 K2:List (Gt E 0)} {u v:Gt E 0} (cn:Nat→Nat) (ht:RebT H P D 0 i g X K1 K2 u v x):RebIn E H P D true cn i g (Gt.g 0 u) (Gt.g 0 v) X (Gt.X 0 u) (Gt.X 0 v) ((Gt.ps 0 (K1++[u,v]++K2)).map some) [] [] x:=by
 obtain ⟨n,l,r,ol,or',olr,tn,tl,tr,dD,hi,hx,len,xm,b,sh,ml,mr⟩:=ht
 subst hi
 obtain ⟨gl,Xl⟩:=u
 obtain ⟨gr,Xr⟩:=v
 obtain ⟨p1,p2,p3⟩:=ps_at (E:=E) (h:=0) (K1:=K1) (K2:=K2) (tl:=(gl,Xl)) (tr:=(gr,Xr))
 have c1:gl.cnt=Xl.length:=l.2.2.1
 have c2:gr.cnt=Xr.length:=r.2.2.1
 replace b:Xl.length+Xr.length<4611686018427387904:=b
 exact ⟨n.alone,⟨l.1,l.2.1,rfl⟩,⟨r.1,r.2.1,rfl⟩,fun b o h1 h2=>ol b o h1 (rn_innc h2),fun b o h1 h2=>or' b o h1 (rn_innc h2),olr,fun b o h=>tn b o (rn_innc h),tl,tr,dD,hx,p1,p2,p3.trans len,xm,l.2.2.2,r.2.2.2,
  fun h=>Bool.noConfusion h,fun h=>Bool.noConfusion h,c1,c2,fun z hz=>absurd hz List.not_mem_nil,(show gl.cnt+gr.cnt<4611686018427387904 by omega),sh,ml,mr⟩
theorem RebT.inS {K1 K2:List (Gt E (h+1))} {u v:Gt E (h+1)} (ht:RebT H P D (h+1) i g X K1 K2 u v x):
  RebIn E H P D false (cnOf H) i g (Gt.g (h+1) u) (Gt.g (h+1) v) X (Gt.X (h+1) u) (Gt.X (h+1) v) ((Gt.ps (h+1) (K1++[u,v]++K2)).map some) ((Gt.ps h u.2.2).map some) ((Gt.ps h v.2.2).map some) x∧(∀k∈u.2.2++v.2.2,Off (Gt.af h k) (rn E g)):=by
 obtain ⟨n,l,r,ol,or',olr,tn,tl,tr,dD,hi,hx,len,xm,b,sh,ml,mr⟩:=ht
 subst hi
 obtain ⟨gl,Xl,Kl⟩:=u
 obtain ⟨gr,Xr,Kr⟩:=v
 obtain ⟨p1,p2,p3⟩:=ps_at (E:=E) (h:=h+1) (K1:=K1) (K2:=K2) (tl:=(gl,Xl,Kl)) (tr:=(gr,Xr,Kr))
 have c1:gl.cnt=(Pl.inter Xl (Kl.map (Gt.L h))).length:=l.2.2.2.1
 have c2:gr.cnt=(Pl.inter Xr (Kr.map (Gt.L h))).length:=r.2.2.2.1
 have k1:Kl.length=Xl.length+1:=l.2.2.2.2.2.1
 have k2:Kr.length=Xr.length+1:=r.2.2.2.2.2.1
 have rl:∀b o,rn E gl b o→Gt.af (h+1) ((gl,Xl,Kl):Gt E (h+1)) b o:=fun b o hb=>(rn_iff.1 hb).elim .inl (fun h=>.inr (.inl h))
 have rr:∀b o,rn E gr b o→Gt.af (h+1) ((gr,Xr,Kr):Gt E (h+1)) b o:=fun b o hb=>(rn_iff.1 hb).elim .inl (fun h=>.inr (.inl h))
 have gng:∀k∈Kl++Kr,Off (Gt.af h k) (rn E g):=fun k hk b o hb hr=>(List.mem_append.1 hk).elim (fun hk=>ol b o (.inr (.inr ⟨k,hk,hb⟩)) (rn_innc hr)) (fun hk=>or' b o (.inr (.inr ⟨k,hk,hb⟩)) (rn_innc hr))
 replace b:(Pl.inter Xl (Kl.map (Gt.L h))).length+(Pl.inter Xr (Kr.map (Gt.L h))).length<4611686018427387904:=b
 refine ⟨⟨n.alone,(Gt.Good.inn l).alone,(Gt.Good.inn r).alone,fun b o h1 h2=>ol b o (rl b o h1) (rn_innc h2),fun b o h1 h2=>or' b o (rr b o h1) (rn_innc h2),fun b o h1 h2=>olr b o (rl b o h1) (rr b o h2),fun b o h=>tn b o (rn_innc h),fun b o h=>tl b o (rl b o h),fun b o h=>tr b o (rr b o h),dD,hx,p1,p2,p3.trans len,xm,l.2.2.2.2.1,r.2.2.2.2.1,
  fun _=>(show ((Gt.ps h Kl).map some).length=Xl.length+1 by simpa [Gt.ps] using k1),fun _=>(show ((Gt.ps h Kr).map some).length=Xr.length+1 by simpa [Gt.ps] using k2),?_,?_,fun z hz=>?_,(show gl.cnt+gr.cnt<4611686018427387904 by omega),sh,ml,mr⟩,gng⟩
 ·
  show gl.cnt=Xl.length+(((Gt.ps h Kl).map some).map (cnO (cnOf H))).sum
  rw [sum_os (P:=P) fun k hk=>(l.2.2.2.2.2.2.1 k hk).1,c1,Pl.inter_length _ _ (by rw [List.length_map];exact k1)]
 ·
  show gr.cnt=Xr.length+(((Gt.ps h Kr).map some).map (cnO (cnOf H))).sum
  rw [sum_os (P:=P) fun k hk=>(r.2.2.2.2.2.2.1 k hk).1,c2,Pl.inter_length _ _ (by rw [List.length_map];exact k2)]
 ·
  have hz':∃k∈Kl++Kr,z=some (Gt.p h k):=by
   simp only [Gt.ps,List.mem_append,List.mem_map] at hz ⊢
   rcases hz with ⟨_,⟨k,hk,rfl⟩,rfl⟩|⟨_,⟨k,hk,rfl⟩,rfl⟩
   · exact ⟨k,.inl hk,rfl⟩
   · exact ⟨k,.inr hk,rfl⟩
  obtain ⟨k,hk,rfl⟩:=hz'
  have hgk:Gt.Good H P h k∧Off (Gt.af h k) (rn E gl)∧Off (Gt.af h k) (rn E gr):=by
   rcases List.mem_append.1 hk with hk|hk
   ·
    obtain ⟨q1,_,q3⟩:=l.2.2.2.2.2.2.1 k hk
    exact ⟨q1,fun b o hb hr=>(rn_iff.1 hr).elim (q3 b o hb).1 (q3 b o hb).2,fun b o hb hr=>olr b o (.inr (.inr ⟨k,hk,hb⟩)) (rr b o hr)⟩
   ·
    obtain ⟨q1,_,q3⟩:=r.2.2.2.2.2.2.1 k hk
    exact ⟨q1,fun b o hb hr=>olr b o (rl b o hr) (.inr (.inr ⟨k,hk,hb⟩)),fun b o hb hr=>(rn_iff.1 hr).elim (q3 b o hb).1 (q3 b o hb).2⟩
  have hp:Gt.af h k (Gt.p h k) 1:=Gt.af_p (by omega)
  exact ⟨Gt.p h k,rfl,(hgk.1.cnOf).1,gng k hk _ _ hp,hgk.2.1 _ _ hp,hgk.2.2 _ _ hp⟩
end
theorem RebT.fin0 {H H':Mem} {P:Ps} {D:Nat→Prop} {i:Nat} {g:Ng} {X:List α} {x:α} (h1:1≤P.mn) {K1 K2:List (Gt E 0)} {u v:Gt E 0} {cn:Nat→Nat} (ht:RebT H P D 0 i g X K1 K2 u v x)
  (ho:RebOut E H H' P true cn i g (Gt.g 0 u) (Gt.g 0 v) X (Gt.X 0 u) (Gt.X 0 v) ((Gt.ps 0 (K1++[u,v]++K2)).map some) [] [] x):
  ∃(g':Ng) (X':List α) (K':List (Gt E 0)),g'.p=g.p∧g'.cnt=g.cnt∧Fr (fun b o=>innc 0 g (K1++K2) b o∨(Gt.af 0 u b o∨Gt.af 0 v b o)) H H'∧Inn H' P 0 g' X' ((Gt.ps 0 K').map some) K'∧K'.length=X'.length+1∧
   Pl.inter X' (K'.map (Gt.L 0))=Pl.inter X ((K1++[u,v]++K2).map (Gt.L 0))∧X'.length≤P.mx∧X.length≤X'.length+1∧Gro H (fun b o=>innc 0 g (K1++K2) b o∨(Gt.af 0 u b o∨Gt.af 0 v b o)) (innc 0 g' K')∧RebS P 0 i X K1 K2 u v x ((g',X',K'):Gt E 1):=
 reb_fin ht.n ht.hi ht.x ht.len ht.xm (fun b o hb=>hb.elim (ht.ol b o) (ht.or' b o)) (reb_leaf h1 (ht.in0 cn) ho ⟨ht.l.2.2.1,ht.r.2.2.1⟩)
theorem RebT.finS {H H':Mem} {P:Ps} {D:Nat→Prop} {h i:Nat} {g:Ng} {X:List α} {x:α} (h1:1≤P.mn) {K1 K2:List (Gt E (h+1))} {u v:Gt E (h+1)} (ht:RebT H P D (h+1) i g X K1 K2 u v x)
  (ho:RebOut E H H' P false (cnOf H) i g (Gt.g (h+1) u) (Gt.g (h+1) v) X (Gt.X (h+1) u) (Gt.X (h+1) v) ((Gt.ps (h+1) (K1++[u,v]++K2)).map some) ((Gt.ps h u.2.2).map some) ((Gt.ps h v.2.2).map some) x):
  ∃(g':Ng) (X':List α) (K':List (Gt E (h+1))),g'.p=g.p∧g'.cnt=g.cnt∧Fr (fun b o=>innc (h+1) g (K1++K2) b o∨(Gt.af (h+1) u b o∨Gt.af (h+1) v b o)) H H'∧Inn H' P (h+1) g' X' ((Gt.ps (h+1) K').map some) K'∧K'.length=X'.length+1∧
   Pl.inter X' (K'.map (Gt.L (h+1)))=Pl.inter X ((K1++[u,v]++K2).map (Gt.L (h+1)))∧X'.length≤P.mx∧X.length≤X'.length+1∧
   Gro H (fun b o=>innc (h+1) g (K1++K2) b o∨(Gt.af (h+1) u b o∨Gt.af (h+1) v b o)) (innc (h+1) g' K')∧RebS P (h+1) i X K1 K2 u v x ((g',X',K'):Gt E (h+1+1)):=
 reb_fin ht.n ht.hi ht.x ht.len ht.xm (fun b o hb=>hb.elim (ht.ol b o) (ht.or' b o)) (reb_inner h1 ht.l ht.r ht.olr (ht.inS).2 (ht.inS).1 ho)
variable {α:Type} {E:Elt α}
def Inf (Q:α→List α→Prop):Prop:=∀y l a z b c,Q y l→y::l=a++z::b++c→Q z b
def Lo (O:Pl.Swo α) (x:α) (Q:α→List α→Prop) (y:α) (l:List α):Prop:=O.lt y x=true∨Q y l
def SegD (O:Pl.Swo α) (mx:Bool) (x:α) (h:Nat) (t t':Gt E h):Prop:=mx=false→∀Q,Inf Q→Gt.Seg (Lo O x Q) h t→Gt.Seg (Lo O x Q) h t'
def SegK (h i:Nat) (X:List α) (K1:List (Gt E h)) (k:Gt E h) (K2:List (Gt E h)) (R:α→List α→Prop):Prop:=
 SegN R X ((K1++[k]++K2).map (Gt.L h))∧(∀m∈K1++[k]++K2,Gt.Seg R h m)∧(∀j,j<i→∀z,X[j]?=some z→∀l,R z l)∧(∀m∈K1,∀w∈Gt.L h m,∀l,R w l)∧∀z m,X[i]?=some z→K2[0]?=some m→AllP R (z::Gt.L h m)
def SegM (O:Pl.Swo α) (mx:Bool) (x:α) (h:Nat) (X:List α) (K:List (Gt E h)) (i:Nat) (X1:List α) (k':Gt E h):Prop:=
 mx=false→∀Q,Inf Q→SegN (Lo O x Q) X (K.map (Gt.L h))→(∀k∈K,Gt.Seg (Lo O x Q) h k)→SegK h i X1 (K.take i) k' (K.drop (i+1)) (Lo O x Q)
def RebK (h i:Nat) (X:List α) (K1:List (Gt E h)) (k:Gt E h) (K2:List (Gt E h)) (t':Gt E (h+1)):Prop:=∀R,SegK h i X K1 k K2 R→Gt.Seg R (h+1) t'
theorem SegM.fin {O:Pl.Swo α} {mx:Bool} {x:α} {h i:Nat} {g g':Ng} {X X1 X':List α} {K K':List (Gt E h)} {k':Gt E h} (hm:SegM O mx x h X K i X1 k') (hr:RebK h i X1 (K.take i) k' (K.drop (i+1)) ((g',X',K'):Gt E (h+1))):SegD O mx x (h+1) ((g,X,K):Gt E (h+1)) ((g',X',K'):Gt E (h+1)):=
 fun e Q hQ hs=>hr _ (hm e Q hQ hs.1 hs.2)
theorem RebK.same {h i:Nat} {g':Ng} {X:List α} {K1 K2:List (Gt E h)} {k:Gt E h}:RebK h i X K1 k K2 ((g',X,K1++[k]++K2):Gt E (h+1)):=fun _ hk=>⟨hk.1,hk.2.1⟩
theorem RebK.last {P:Ps} {h i:Nat} {X:List α} {K1:List (Gt E h)} {u k:Gt E h} {x:α} {t':Gt E (h+1)} (hi:K1.length+1=i) (hx:X[K1.length]?=some x) (hs:(Gt.X h k).length<P.mn) (hr:RebS P h K1.length X K1 [] u k x t'):RebK h i X (K1++[u]) k [] t':=by
 rintro R ⟨h1,h2,h3,h4,h5⟩
 have e:K1++[u]++[k]++[]=K1++[u,k]++[]:=by simp
 rw [e] at h1 h2
 refine hr R ⟨h2 u (by simp),h2 k (by simp),.inr ⟨fun w hw l=>?_,hs⟩⟩ (fun j hj z hz=>h3 j (by omega) z hz) h1 (fun m hm=>h2 m (by simp at hm ⊢;exact .inl hm))
 rcases List.mem_append.1 hw with hw|hw
 · exact h4 u (by simp) w hw l
 ·
  rw [List.mem_singleton] at hw;subst hw
  exact h3 K1.length (by omega) w hx l
theorem RebK.more {P:Ps} {h i:Nat} {X:List α} {K1 K2:List (Gt E h)} {k v:Gt E h} {x:α} {t':Gt E (h+1)} (hi:K1.length=i) (hx:X[K1.length]?=some x) (hs:(Gt.X h k).length<P.mn) (hr:RebS P h K1.length X K1 K2 k v x t'):RebK h i X K1 k (v::K2) t':=by
 rintro R ⟨h1,h2,h3,h4,h5⟩
 subst hi
 have e:K1++[k]++v::K2=K1++[k,v]++K2:=by simp
 rw [e] at h1 h2
 exact hr R ⟨h2 k (by simp),h2 v (by simp),.inl ⟨h5 x v hx rfl,hs⟩⟩ h3 h1 (fun m hm=>h2 m (by simp at hm ⊢;rcases hm with hm|hm;exact .inl hm;exact .inr (.inr (.inr hm))))
theorem Lo.all {O:Pl.Swo α} {x:α} {Q:α→List α→Prop} (hQ:Inf Q) {z:α} {l:List α} (h:Lo O x Q z l) (hz:O.lt z x=false):AllP (Lo O x Q) (z::l):=fun a w b c e=>by
 rcases h with h|h
 · rw [hz] at h;cases h
 · exact .inr (hQ _ _ _ _ _ _ h e)
namespace Pl
theorem pos_before (O:Swo α) {x z:α} {l:List α} {j:Nat} (hj:j<pos O x l) (hz:l[j]?=some z):O.lt z x=true:=
 (pos_split O x l).1 z (List.mem_of_getElem? (i:=j) (by rw [List.getElem?_take_of_lt hj];exact hz))
theorem pos_at (O:Swo α) {x z:α} {l:List α} (hz:l[pos O x l]?=some z):O.lt z x=false:=(pos_split O x l).2 z (by rw [List.head?_drop];exact hz)
theorem kids_low {O:Swo α} {X:List α} {K:List (List α)} (hs:Srt O (inter X K)) (hl:K.length=X.length+1):∀{i j:Nat} {z:α} {m:List α},X[i]?=some z→j≤i→K[j]?=some m→∀w∈m,O.lt w z=true:=by
 intro i j z m hz hj hm w hw
 have hil:=(List.getElem?_eq_some_iff.1 hz).1
 have hspX:X=X.take i++z::X.drop (i+1):=by rw [←(List.getElem?_eq_some_iff.1 hz).2,List.getElem_cons_drop,List.take_append_drop]
 have e:inter X K=inter (X.take i) (K.take (i+1))++z::inter (X.drop (i+1)) (K.drop (i+1)):=by
  rw [←inter_item _ _ _ _ _ (by rw [List.length_take,List.length_take];omega),←hspX,List.take_append_drop]
 rw [e,Srt.append] at hs
 have hlt:(K.take (i+1)).length=(X.take i).length+1:=by rw [List.length_take,List.length_take];omega
 have hm':(K.take (i+1))[j]?=some m:=by rw [List.getElem?_take_of_lt (by omega)];exact hm
 have e2:=inter_self hlt hm'
 refine hs.2.2 w ?_ z List.mem_cons_self
 rw [e2];simp [hw]
end Pl
theorem SegM.base {O:Pl.Swo α} {mx:Bool} {x:α} {h i:Nat} {X X1:List α} {K:List (Gt E h)} {k' k:Gt E h} (hs:Pl.Srt O (Pl.inter X (K.map (Gt.L h)))) (hKl:K.length=X.length+1) (hkk:K[i]?=some k)
  (hX:∀j,j≠i→X1[j]?=X[j]?) (hlo:∀j,j<i→∀z,X[j]?=some z→O.lt z x=true)
  (hkk':mx=false→∀Q,Inf Q→Gt.Seg (Lo O x Q) h k→Gt.Seg (Lo O x Q) h k')
  (hi:∀z,X1[i]?=some z→(O.lt z x=true∧∃z',X[i]?=some z'∧O.lt z' x=false)∨(X[i]?=some z∧O.lt z x=false)):SegM O mx x h X K i X1 k':=by
 intro e Q hQ h1 h2
 have hil:i<K.length:=(List.getElem?_eq_some_iff.1 hkk).1
 have lT:(K.take i).length=i:=by rw [List.length_take];omega
 have hKat:∀j,j≠i→(K.take i++[k']++K.drop (i+1))[j]?=K[j]?:=fun j hj=>by
  rcases Nat.lt_or_ge j i with h|h
  · rw [List.append_assoc,List.getElem?_append_left (by omega),List.getElem?_take_of_lt h]
  ·
   rw [List.getElem?_append_right (by simp only [List.length_append,lT,List.length_singleton];omega),List.getElem?_drop]
   congr 1;simp only [List.length_append,lT,List.length_singleton];omega
 have hmk:∀m∈K.take i++[k']++K.drop (i+1),m=k'∨m∈K:=fun m hm=>by
  simp only [List.mem_append,List.mem_singleton] at hm
  rcases hm with (hm|hm)|hm
  · exact .inr (List.mem_of_mem_take hm)
  · exact .inl hm
  · exact .inr (List.mem_of_mem_drop hm)
 refine ⟨fun j z m hz hm=>?_,fun m hm=>(hmk m hm).elim (fun e'=>by rw [e'];exact hkk' e Q hQ (h2 k (List.mem_of_getElem? hkk))) (h2 m),fun j hj z hz l=>?_,fun m hm w hw l=>?_,fun z m hz hm=>?_⟩
 ·
  rw [List.getElem?_map] at hm
  by_cases hj:j+1=i
  ·
   rw [hX j (by omega)] at hz
   exact .inl (hlo j (by omega) z hz)
  ·
   rw [hKat _ hj] at hm
   have hm':(K.map (Gt.L h))[j+1]?=some m:=by rw [List.getElem?_map];exact hm
   by_cases hji:j=i
   ·
    subst hji
    rcases hi z hz with ⟨h3,_⟩|⟨h3,_⟩
    · exact .inl h3
    · exact h1 j z m h3 hm'
   ·
    rw [hX j hji] at hz
    exact h1 j z m hz hm'
 ·
  rw [hX j (by omega)] at hz
  exact .inl (hlo j hj z hz)
 ·
  obtain ⟨j,hj⟩:=List.mem_iff_getElem?.1 hm
  have hji:j<i:=by have:=(List.getElem?_eq_some_iff.1 hj).1;omega
  rw [List.getElem?_take_of_lt hji] at hj
  obtain ⟨z,hz⟩:∃z,X[j]?=some z:=⟨X[j]'(by omega),List.getElem?_eq_getElem (by omega)⟩
  exact .inl (O.trans (Pl.kids_low hs (by rw [List.length_map];exact hKl) hz (Nat.le_refl _) (by rw [List.getElem?_map,hj];rfl) w hw) (hlo j hji z hz))
 ·
  rw [List.getElem?_drop,Nat.add_zero] at hm
  have hm':(K.map (Gt.L h))[i+1]?=some (Gt.L h m):=by rw [List.getElem?_map,hm];rfl
  rcases hi z hz with ⟨h3,z',h4,h5⟩|⟨h3,h4⟩
  ·
   refine AllP.cons (fun b=>.inl h3) ?_
   have:=Lo.all hQ (h1 i z' _ h4 hm') h5
   exact this.part (a:=[z']) (c:=[]) (by simp)
  · exact Lo.all hQ (h1 i z _ h3 hm') h4
theorem SegM.below {O:Pl.Swo α} {x:α} {h i:Nat} {X:List α} {K:List (Gt E h)} {k' k:Gt E h} (hs:Pl.Srt O (Pl.inter X (K.map (Gt.L h)))) (hKl:K.length=X.length+1) (hsX:Pl.Srt O X) (hpi:Pl.pos O x X=i) (hkk:K[i]?=some k) (hd:SegD O false x h k k'):SegM O false x h X K i X k':=by
 subst hpi
 refine SegM.base hs hKl hkk (fun _ _=>rfl) (fun j hj z hz=>Pl.pos_before O hj hz) hd fun z hz=>.inr ⟨hz,?_⟩
 exact Pl.pos_at O hz
theorem SegM.here {H':Mem} {P:Ps} {O:Pl.Swo α} {mx:Bool} {x y z:α} {h i:Nat} {X X1:List α} {K:List (Gt E h)} {k' k:Gt E h} (hs:Pl.Srt O (Pl.inter X (K.map (Gt.L h)))) (hKl:K.length=X.length+1) (hsX:Pl.Srt O X) (hpi:Pl.pos O x X=i) (hkk:K[i]?=some k) (hz:X[i]?=some z)
  (hzx:O.lt z x=false) (hxz:O.lt x z=false) (hLk:Gt.L h k=Gt.L h k'++[y]) (hg:Gt.Good H' P h k') (e1:X1=X.take i++y::X.drop (i+1)):SegM O mx x h X K i X1 k':=by
 subst hpi e1
 have hil:=(List.getElem?_eq_some_iff.1 hz).1
 have hlow:∀w∈Gt.L h k,O.lt w x=true:=fun w hw=>by
  have h1:=Pl.kids_low hs (by rw [List.length_map];exact hKl) hz (Nat.le_refl _) (by rw [List.getElem?_map,hkk];rfl) w hw
  cases h2:O.lt w x with
  | true=>rfl
  | false=>rw [O.ntr h2 hxz] at h1;cases h1
 have lT:(X.take (Pl.pos O x X)).length=Pl.pos O x X:=by rw [List.length_take];omega
 refine SegM.base hs hKl hkk (fun j hj=>?_) (fun j hj z hz=>Pl.pos_before O hj hz) (fun _ Q _ _=>Gt.Seg.of_low hg fun w hw l=>.inl (hlow w (by rw [hLk];simp [hw]))) fun w hw=>.inl ⟨?_,z,hz,hzx⟩
 ·
  rcases Nat.lt_or_ge j (Pl.pos O x X) with h1|h1
  · rw [List.getElem?_append_left (by omega),List.getElem?_take_of_lt h1]
  ·
   rw [List.getElem?_append_right (by omega),lT,show j-Pl.pos O x X=(j-Pl.pos O x X-1)+1 by omega,List.getElem?_cons_succ,List.getElem?_drop]
   congr 1;omega
 ·
  rw [List.getElem?_append_right (by omega),lT,Nat.sub_self,List.getElem?_cons_zero,Option.some.injEq] at hw
  subst hw
  exact hlow y (by rw [hLk];simp)
structure DelT (H H':Mem) (P:Ps) (h:Nat) (t t':Gt E h) (L':List α) (SD:Prop):Prop where
 fr:Fr (Gt.af h t) H H'
 g:Gt.Good H' P h t'
 p:Gt.p h t'=Gt.p h t
 a:Gro H (Gt.af h t) (Gt.af h t')
 l:Gt.L h t'=L'
 x:(Gt.X h t).length≤(Gt.X h t').length+1
 sd:SD
namespace Pl
def dlr {α:Type} (O:Swo α) (mx:Bool) (x:α) (L:List α):Option (α×List α):=match mx with
 | true=>L.getLast?.map fun y=>(y,L.dropLast)
 | false=>(got O x L).map fun y=>(y,del O x L)
def Sel {α:Type} (O:Swo α) (mx:Bool) (x:α) (X:List α) (s:Nat×Bool):Prop:=(s.2=true→s.1<X.length)∧s.1≤X.length∧(mx=true→s=(X.length-1,true))∧(mx=false→s=(pos O x X,fnd O x X))
theorem sel_max {α:Type} (O:Swo α) (x:α) {X:List α} (h:1≤X.length):Sel O true x X (X.length-1,true):=⟨fun _=>by simp only;omega,by simp only;omega,fun _=>rfl,fun h=>Bool.noConfusion h⟩
theorem sel_key {α:Type} (O:Swo α) (x:α) (X:List α):Sel O false x X (pos O x X,fnd O x X):=⟨fun h=>fnd_pos_lt O h,pos_le O x X,fun h=>Bool.noConfusion h,fun _=>rfl⟩
theorem dlr_leaf {α:Type} (O:Swo α) {mx:Bool} {x y:α} {X:List α} {i:Nat} (hs:Sel O mx x X (i,true)) (hy:X[i]?=some y):dlr O mx x X=some (y,X.take i++X.drop (i+1)):=by
 obtain ⟨h1,_,h2,h3⟩:=hs
 have hi:=h1 rfl
 simp only at hi
 cases mx with
 | true=>
  have h4:=congrArg Prod.fst (h2 rfl)
  simp only at h4
  have:X.getLast?=some y:=by rw [List.getLast?_eq_getElem?,←h4,hy]
  simp only [dlr,this,Option.map_some,Option.some.injEq,Prod.mk.injEq,true_and]
  rw [List.dropLast_eq_take,h4,List.drop_of_length_le (by omega),List.append_nil]
 | false=>
  have h4:=h3 rfl
  have e1:i=pos O x X:=congrArg Prod.fst h4
  have e2:true=fnd O x X:=congrArg Prod.snd h4
  simp only [dlr]
  rw [got_some O e2.symm,←e1,hy]
  simp only [Option.map_some,Option.some.injEq,Prod.mk.injEq,true_and]
  unfold del
  rw [←e2,←e1];rfl
theorem dlr_none {α:Type} (O:Swo α) {mx:Bool} {x:α} {X:List α} {i:Nat} (hs:Sel O mx x X (i,false)):dlr O mx x X=none:=by
 obtain ⟨_,_,h2,h3⟩:=hs
 cases mx with
 | true=>have:=congrArg Prod.snd (h2 rfl);cases this
 | false=>
  have e2:false=fnd O x X:=congrArg Prod.snd (h3 rfl)
  simp only [dlr]
  rw [got_none O e2.symm];rfl
end Pl
structure DMid (H H':Mem) (P:Ps) (h:Nat) (g:Ng) (X:List α) (K:List (Gt E h)) (i:Nat) (X1:List α) (k':Gt E h) (L':List α) (SM:Prop):Prop where
 n:Inn H' P h g X1 ((Gt.ps h K).map some) (K.take i++K.drop (i+1))
 k:Gt.Good H' P h k'
 p:∃k,K[i]?=some k∧Gt.p h k'=Gt.p h k∧Gro H (Gt.af h k) (Gt.af h k')
 mn:P.mn≤(Gt.X h k').length+1
 l:Pl.inter X1 ((K.take i++[k']++K.drop (i+1)).map (Gt.L h))=L'
 len:X1.length=X.length
 fr:Fr (Gt.af (h+1) ((g,X,K):Gt E (h+1))) H H'
 sm:SM
theorem Gt.Good.ne {H:Mem} {P:Ps}:∀{h:Nat} {t:Gt E h},Gt.Good H P h t→1≤(Gt.X h t).length→1≤(Gt.L h t).length
 | 0,_,_,hx=>hx
 | _+1,t,hg,hx=>by
  have:(Gt.L _ t).length=_:=Pl.inter_length t.2.1 (t.2.2.map (Gt.L _)) (by rw [List.length_map];exact hg.2.2.2.2.2.1)
  rw [this]
  exact Nat.le_trans hx (Nat.le_add_right _ _)
section
variable {H H':Mem} {P:Ps} {h:Nat} {g:Ng} {X:List α} {os:List (Option Nat)} {K:List (Gt E h)} {i:Nat} {k k':Gt E h}
theorem kid_split (hk:K[i]?=some k):K=K.take i++[k]++K.drop (i+1):=by
 obtain ⟨h1,h2⟩:=List.getElem?_eq_some_iff.1 hk
 rw [List.append_assoc,List.singleton_append,←h2,List.getElem_cons_drop,List.take_append_drop]
theorem kid_off (hI:Inn H P h g X os K) (hk:K[i]?=some k):Off (Gt.af h k) (innc h g (K.take i++K.drop (i+1))):=fun b o hb hn=>by
 have hs:=kid_split hk
 have hc:=hI.c
 obtain ⟨h1,h2⟩:=hc
 have hkK:k∈K:=List.mem_of_getElem? hk
 rcases hn with hn|hn|⟨m,hm,hn⟩
 · exact (h1 k hkK).2.2 b o hb |>.1 hn
 · exact (h1 k hkK).2.2 b o hb |>.2 hn
 ·
  rw [hs,List.append_assoc,List.pairwise_append,List.singleton_append,List.pairwise_cons] at h2
  obtain ⟨_,⟨p2,_⟩,p3⟩:=h2
  rcases List.mem_append.1 hm with hm|hm
  · exact p3 m hm k List.mem_cons_self b o hn hb
  · exact p2 m hm b o hb hn
theorem kid_sub (hk:K[i]?=some k):(K.take i++K.drop (i+1)).Sublist K:=by
 conv=>rhs;rw [kid_split hk]
 rw [List.append_assoc]
 exact List.Sublist.append_left (List.sublist_append_right _ _) _
theorem Inn.kid (hI:Inn H P h g X os K) (hk:K[i]?=some k) (hf:Fr (Gt.af h k) H H'):Inn H' P h g X os (K.take i++K.drop (i+1)):=
 (hI.sub (kid_sub hk)).fr hf fun b o hb hz=>kid_off hI hk b o hz hb
theorem DMid.pk {X1 L':List α} {SM:Prop} (d:DMid H H' P h g X K i X1 k' L' SM):(Gt.ps h K).map some=(Gt.ps h (K.take i++[k']++K.drop (i+1))).map some:=by
 obtain ⟨k,hk,hp,_⟩:=d.p
 conv=>lhs;rw [kid_split hk]
 simp [Gt.ps,hp]
theorem DMid.off {X1 L':List α} {SM:Prop} (d:DMid H H' P h g X K i X1 k' L' SM) (hI:Inn H P h g X os K):Off (Gt.af h k') (innc h g (K.take i++K.drop (i+1))):=by
 obtain ⟨k,hk,hp,hg⟩:=d.p
 exact (hg.off (kid_off hI hk).symm fun b o hb=>hI.lt (innc_sub (fun m hm=>(List.mem_append.1 hm).elim List.mem_of_mem_take List.mem_of_mem_drop) hb)).symm
theorem DMid.gro {X1 L':List α} {SM:Prop} (d:DMid H H' P h g X K i X1 k' L' SM):Gro H (Gt.af (h+1) ((g,X,K):Gt E (h+1))) (fun b o=>innc h g (K.take i++K.drop (i+1)) b o∨Gt.af h k' b o):=fun b o hb=>by
 obtain ⟨k,hk,hp,hg⟩:=d.p
 rcases hb with hb|hb
 · exact .inl (innc_sub (K:=K) (fun m hm=>(List.mem_append.1 hm).elim List.mem_of_mem_take List.mem_of_mem_drop) hb)
 · exact (hg b o hb).imp (fun h=>.inr (.inr ⟨k,List.mem_of_getElem? hk,h⟩)) id
end
namespace Pl
variable {α:Type} (O:Swo α)
theorem del_last {X:List α} {K:List (List α)} {k m:List α} {y:α} (hl:K.length=X.length+1) (hk:K[X.length]?=some k) (e:k=m++[y]):
  inter X K=inter X (K.take X.length++[m]++K.drop (X.length+1))++[y]:=by
 rw [inter_self hl hk,inter_take hl hk,e,List.drop_of_length_le (l:=X) (Nat.le_refl _)]
 simp [post]
theorem del_node {X:List α} {K:List (List α)} {k m:List α} {y x:α} {i:Nat} (hl:K.length=X.length+1) (hk:K[i]?=some k) (hx:X[i]?=some x) (e:k=m++[y]):
  inter (X.take i++y::X.drop (i+1)) (K.take i++[m]++K.drop (i+1))=inter (X.take i) (K.take (i+1))++inter (X.drop (i+1)) (K.drop (i+1)):=by
 have hi:=(List.getElem?_eq_some_iff.1 hk).1
 have hxi:=(List.getElem?_eq_some_iff.1 hx).1
 have lT:(X.take i).length=i:=by rw [List.length_take];omega
 have lK:(K.take i).length=i:=by rw [List.length_take];omega
 rw [inter_item _ _ _ _ _ (by simp only [List.length_append,List.length_cons,List.length_nil,lT,lK])]
 have h1:K.take (i+1)=K.take i++[k]:=by rw [List.take_add_one,hk];rfl
 have h2:∀z:List α,inter (X.take i) (K.take i++[z])=pre (X.take i) (K.take i)++z:=fun z=>by
  have:=inter_focus (X.take i) [] (K.take i) z [] (by rw [lT,lK]) rfl
  simpa [post] using this
 rw [h1,h2,h2,e]
 simp
end Pl
end Go.Bt
namespace Go.Bt.Pl
variable {α:Type} (O:Swo α)
theorem dlr_child {x y:α} {X:List α} {K:List (List α)} {k m:List α} {i:Nat} (hs:Srt O (inter X K)) (hl:K.length=X.length+1) (h:fnd O x X=false) (hi:pos O x X=i) (hk:K[i]?=some k) (hd:dlr O false x k=some (y,m)):
  dlr O false x (inter X K)=some (y,inter X (K.take i++[m]++K.drop (i+1))):=by
 subst hi
 obtain ⟨e,h1,h2,h3⟩:=inter_child O hs hl h hk
 simp only [dlr,Option.map_eq_some_iff,Prod.mk.injEq] at hd ⊢
 obtain ⟨z,hz,rfl,hm⟩:=hd
 refine ⟨z,?_,rfl,?_⟩
 · rw [e,got_mid O h1 h2];exact hz
 · rw [List.append_assoc,List.singleton_append,h3,e,del_mid O h1 h2,hm]
theorem dlr_none_child {x:α} {X:List α} {K:List (List α)} {k:List α} (hs:Srt O (inter X K)) (hl:K.length=X.length+1) (h:fnd O x X=false) (hk:K[pos O x X]?=some k) (hd:dlr O false x k=none):dlr O false x (inter X K)=none:=by
 obtain ⟨e,h1,h2,h3⟩:=inter_child O hs hl h hk
 simp only [dlr,Option.map_eq_none_iff] at hd ⊢
 rw [e,got_mid O h1 h2];exact hd
theorem dlr_len {mx:Bool} {x y:α} {L m:List α} (hd:dlr O mx x L=some (y,m)):L.length=m.length+1:=by
 cases mx with
 | true=>
  simp only [dlr,Option.map_eq_some_iff,Prod.mk.injEq] at hd
  obtain ⟨z,hz,_,rfl⟩:=hd
  have:L≠[]:=fun e=>by rw [e] at hz;cases hz
  rw [List.length_dropLast]
  have:=List.length_pos_iff.2 this
  omega
 | false=>
  simp only [dlr,Option.map_eq_some_iff,Prod.mk.injEq] at hd
  obtain ⟨z,hz,_,rfl⟩:=hd
  have h1:=length_del O x L
  have h2:=got_isSome O x L
  rw [hz] at h2
  rw [←h2] at h1
  exact h1.symm
theorem dlr_max {x y:α} {L m:List α} (hd:dlr O true x L=some (y,m)):L=m++[y]:=by
 simp only [dlr,Option.map_eq_some_iff,Prod.mk.injEq] at hd
 obtain ⟨z,hz,rfl,rfl⟩:=hd
 have hne:L≠[]:=fun e=>by rw [e] at hz;cases hz
 rw [List.getLast?_eq_some_getLast hne] at hz
 have:=List.dropLast_concat_getLast hne
 rw [Option.some.inj hz] at this
 exact this.symm
theorem dlr_max' {x y:α} {L m:List α} (e:L=m++[y]):dlr O true x L=some (y,m):=by
 subst e
 simp [dlr]
theorem dlr_max_ne {x:α} {L:List α} (hl:1≤L.length) (hd:dlr O true x L=none):False:=by
 simp only [dlr,Option.map_eq_none_iff,List.getLast?_eq_none_iff] at hd
 subst hd
 simp at hl
theorem dlr_found {x:α} {X:List α} {K:List (List α)} {k m:List α} {y z:α} {i:Nat} (hs:Srt O (inter X K)) (hl:K.length=X.length+1) (h:fnd O x X=true) (hi:pos O x X=i) (hk:K[i]?=some k) (hx:X[i]?=some z) (e:k=m++[y]):
  dlr O false x (inter X K)=some (z,inter (X.take i++y::X.drop (i+1)) (K.take i++[m]++K.drop (i+1))):=by
 subst hi
 obtain ⟨y',hy',_,_,_,_,q2,_,_,q5⟩:=inter_found O hs hl h
 obtain rfl:y'=z:=Option.some.inj (hy'.symm.trans hx)
 simp only [dlr,q2,Option.map_some,q5,del_node hl hk hx e]
end Go.Bt.Pl
namespace Go.Bt.Pl
variable {α β:Type} {O:Swo α} {O2:Swo β} {f:α→β} (hf:∀x y,O2.lt (f x) (f y)=O.lt x y)
include hf
end Go.Bt.Pl
namespace Go.Bt.Pl
variable {α β γ:Type}
def runs (f:List α→β→List α×γ) (l:List α) (ks:List β):List α×List γ:=ks.foldl (fun s k=>((f s.1 k).1,s.2++[(f s.1 k).2])) (l,[])
theorem runs_nil (f:List α→β→List α×γ) (l:List α):runs f l []=(l,[]):=rfl
theorem runs_snoc (f:List α→β→List α×γ) (l:List α) (ks:List β) (k:β):runs f l (ks++[k])=((f (runs f l ks).1 k).1,(runs f l ks).2++[(f (runs f l ks).1 k).2]):=by
 simp [runs]
theorem runs_take (f:List α→β→List α×γ) (l:List α) {ks:List β} {j:Nat} {k:β} (h:ks[j]?=some k):runs f l (ks.take (j+1))=((f (runs f l (ks.take j)).1 k).1,(runs f l (ks.take j)).2++[(f (runs f l (ks.take j)).1 k).2]):=by
 rw [List.take_add_one,h];exact runs_snoc f l _ k
theorem runs_inv {f:List α→β→List α×γ} {p:List α→Prop} (hf:∀l k,p l→p (f l k).1) {l:List α} (hl:p l) (ks:List β):p (runs f l ks).1:=by
 unfold runs
 have:∀(ks:List β) (s:List α×List γ),p s.1→p (ks.foldl (fun s k=>((f s.1 k).1,s.2++[(f s.1 k).2])) s).1:=by
  intro ks
  induction ks with
  | nil=>exact fun s h=>h
  | cons k ks ih=>exact fun s h=>ih _ (hf _ _ h)
 exact this ks _ hl
theorem runs_len (f:List α→β→List α×γ) (l:List α) (ks:List β):(runs f l ks).2.length=ks.length:=by
 unfold runs
 have:∀(ks:List β) (s:List α×List γ),(ks.foldl (fun s k=>((f s.1 k).1,s.2++[(f s.1 k).2])) s).2.length=s.2.length+ks.length:=by
  intro ks
  induction ks with
  | nil=>exact fun s=>rfl
  | cons k ks ih=>intro s;rw [List.foldl_cons,ih];simp;omega
 simpa using this ks (l,[])
theorem runs_le {f:List α→β→List α×γ} (hf:∀l k,(f l k).1.length≤l.length) (l:List α) (ks:List β):(runs f l ks).1.length≤l.length:=
 runs_inv (p:=fun m=>m.length≤l.length) (fun m k h=>Nat.le_trans (hf m k) h) (Nat.le_refl _) ks
def delk (O:Swo α) (l:List α) (x:α):List α×Option α:=(del O x l,got O x l)
theorem delk_le (O:Swo α) (l:List α) (x:α):(delk O l x).1.length≤l.length:=by
 have:=length_del O x l
 show (del O x l).length≤l.length
 omega
theorem runs_delk_srt (O:Swo α) {l:List α} (h:Srt O l) (ks:List α):Srt O (runs (delk O) l ks).1:=runs_inv (p:=Srt O) (fun _ _ h=>h.del O) h ks
def popk (l:List α) (b:Bool):List α×Option α:=match b with
 | true=>(l.dropLast,l.getLast?)
 | false=>(l.tail,l.head?)
theorem popk_le (l:List α) (b:Bool):(popk l b).1.length≤l.length:=by cases b<;>simp [popk]
theorem runs_popk_srt (O:Swo α) {l:List α} (h:Srt O l) (ks:List Bool):Srt O (runs popk l ks).1:=
 runs_inv (p:=Srt O) (fun m k h=>by cases k;exact h.sublist (List.tail_sublist _);exact h.sublist (List.dropLast_sublist _)) h ks
end Go.Bt.Pl
namespace Go.Bt.Pl
end Go.Bt.Pl
