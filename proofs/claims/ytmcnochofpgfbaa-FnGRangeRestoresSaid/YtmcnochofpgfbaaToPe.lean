/- Pieces of trees (an item, and the items of the child behind it): of each of them something holds. Conditions: none. -/
import Derived.Test.YtmcnochofpgfbaaToRb
set_option linter.unusedVariables false
namespace Go.Bt
open Go
namespace Pl
variable {α:Type} (O:Swo α)
theorem inter_take {X:List α} {K:List (List α)} {i:Nat} {k m:List α} (hl:K.length=X.length+1) (hk:K[i]?=some k):
  inter X (K.take i++[m]++K.drop (i+1))=pre (X.take i) (K.take i)++m++post (X.drop i) (K.drop (i+1)):=by
 have hi:=(List.getElem?_eq_some_iff.1 hk).1
 have:=inter_focus (X.take i) (X.drop i) (K.take i) m (K.drop (i+1)) (by rw [List.length_take,List.length_take];omega) (by rw [List.length_drop,List.length_drop];omega)
 rw [List.take_append_drop] at this
 rw [List.append_assoc,List.singleton_append,this]
theorem inter_self {X:List α} {K:List (List α)} {i:Nat} {k:List α} (hl:K.length=X.length+1) (hk:K[i]?=some k):
  inter X K=pre (X.take i) (K.take i)++k++post (X.drop i) (K.drop (i+1)):=by
 rw [←inter_take (m:=k) hl hk]
 congr 1
 obtain ⟨h1,h2⟩:=List.getElem?_eq_some_iff.1 hk
 rw [List.append_assoc,List.singleton_append,←h2,List.getElem_cons_drop,List.take_append_drop]
end Pl
def AllP {α:Type} (R:α→List α→Prop) (l:List α):Prop:=∀a w b c,l=a++w::b++c→R w b
theorem AllP.part {α:Type} {R:α→List α→Prop} {l m:List α} {a c:List α} (h:AllP R l) (e:l=a++m++c):AllP R m:=fun a' w b c' e'=>h (a++a') w b (c'++c) (by rw [e,e'];simp)
theorem AllP.low {α:Type} {R:α→List α→Prop} {l:List α} (h:∀w∈l,∀b,R w b):AllP R l:=fun a w b c e=>h w (by rw [e];simp) b
theorem AllP.cons {α:Type} {R:α→List α→Prop} {x:α} {l:List α} (hx:∀b,R x b) (h:AllP R l):AllP R (x::l):=fun a w b c e=>by
 rcases a with _|⟨z,a⟩
 ·
  simp only [List.nil_append,List.cons_append,List.cons.injEq] at e
  obtain ⟨rfl,_⟩:=e
  exact hx b
 ·
  simp only [List.cons_append,List.cons.injEq] at e
  exact h a w b c (by rw [e.2];try simp)
def SegN {α:Type} (R:α→List α→Prop) (X:List α) (K:List (List α)):Prop:=∀i y k,X[i]?=some y→K[i+1]?=some k→R y k
variable {α:Type} {E:Elt α}
def Gt.Seg (R:α→List α→Prop):(h:Nat)→Gt E h→Prop
 | 0,_=>True
 | h+1,t=>SegN R t.2.1 (t.2.2.map (Gt.L h))∧∀k∈t.2.2,Gt.Seg R h k
section
variable {R:α→List α→Prop}
theorem Pl.inter_piece:∀{X:List α} {K:List (List α)} {i:Nat} {y:α} {k:List α},K.length=X.length+1→X[i]?=some y→K[i+1]?=some k→∃a c,Pl.inter X K=a++y::k++c
 | [],_,_,_,_,_,h,_=>by simp at h
 | x::X,[],_,_,_,h,_,_=>by simp at h
 | x::X,k0::K,i,y,k,hl,hx,hk=>by
  have hl':K.length=X.length+1:=by simpa using hl
  rcases i with _|i
  ·
   simp only [List.getElem?_cons_zero,Option.some.injEq] at hx
   subst hx
   rw [List.getElem?_cons_succ] at hk
   rcases K with _|⟨k1,K⟩
   · simp at hk
   ·
    simp only [List.getElem?_cons_zero,Option.some.injEq] at hk
    subst hk
    have e:=Pl.inter_self (X:=X) (K:=k1::K) (i:=0) (k:=k1) hl' rfl
    simp only [List.take_zero,Pl.pre,List.nil_append] at e
    refine ⟨k0,Pl.post (X.drop 0) ((k1::K).drop (0+1)),?_⟩
    rw [Pl.inter,e]
    simp
  ·
   rw [List.getElem?_cons_succ] at hx hk
   obtain ⟨a,c,e⟩:=Pl.inter_piece hl' hx hk
   exact ⟨k0++x::a,c,by rw [Pl.inter,e];simp⟩
theorem Gt.Seg.of_all:∀{h:Nat} {t:Gt E h} {H:Mem} {P:Ps},Gt.Good H P h t→AllP R (Gt.L h t)→Gt.Seg R h t
 | 0,_,_,_,_,_=>trivial
 | h+1,t,H,P,hg,hq=>by
  have hl:(t.2.2.map (Gt.L h)).length=t.2.1.length+1:=by rw [List.length_map];exact hg.2.2.2.2.2.1
  refine ⟨fun i z k hx hk=>?_,fun k hk=>?_⟩
  ·
   obtain ⟨a',c',e⟩:=Pl.inter_piece hl hx hk
   exact hq a' z k c' e
  ·
   obtain ⟨j,hj⟩:=List.mem_iff_getElem?.1 hk
   have hj':(t.2.2.map (Gt.L h))[j]?=some (Gt.L h k):=by rw [List.getElem?_map,hj];rfl
   have e:Gt.L (h+1) t=_:=Pl.inter_self hl hj'
   exact Gt.Seg.of_all (hg.2.2.2.2.2.2.1 k hk).1 (hq.part e)
theorem Gt.Seg.of_low {H:Mem} {P:Ps} {h:Nat} {t:Gt E h} (hg:Gt.Good H P h t) (hq:∀y∈Gt.L h t,∀l,R y l):Gt.Seg R h t:=Gt.Seg.of_all hg (.low hq)
theorem SegN.mono {R':α→List α→Prop} {X:List α} {K:List (List α)} (h:SegN R X K) (hm:∀y k,y∈X→k∈K→R y k→R' y k):SegN R' X K:=fun i y k hx hk=>hm y k (List.mem_of_getElem? hx) (List.mem_of_getElem? hk) (h i y k hx hk)
theorem SegN.glue {X Y:List α} {K J:List (List α)} {x:α} (hK:K.length=X.length+1) (h1:SegN R X K) (h2:SegN R Y J) (hx:∀k,J[0]?=some k→R x k):SegN R (X++x::Y) (K++J):=fun i y k hi hk=>by
 rcases Nat.lt_or_ge i X.length with h|h
 ·
  rw [List.getElem?_append_left h] at hi
  rw [List.getElem?_append_left (by omega)] at hk
  exact h1 i y k hi hk
 ·
  rw [List.getElem?_append_right h] at hi
  rw [List.getElem?_append_right (by omega)] at hk
  rcases Nat.eq_or_lt_of_le h with e|e
  ·
   subst e
   simp only [Nat.sub_self,List.getElem?_cons_zero,Option.some.injEq] at hi
   subst hi
   rw [hK,Nat.sub_self] at hk
   exact hx k hk
  ·
   rw [show i-X.length=(i-X.length-1)+1 by omega,List.getElem?_cons_succ] at hi
   rw [hK,show i+1-(X.length+1)=(i-X.length-1)+1 by omega] at hk
   exact h2 _ y k hi hk
theorem SegN.left {X Y:List α} {K J:List (List α)} {x:α} (hK:K.length=X.length+1) (h:SegN R (X++x::Y) (K++J)):SegN R X K:=fun i y k hi hk=>by
 have h1:=(List.getElem?_eq_some_iff.1 hi).1
 exact h i y k (by rw [List.getElem?_append_left h1];exact hi) (by rw [List.getElem?_append_left (by omega)];exact hk)
theorem SegN.right {X Y:List α} {K J:List (List α)} {x:α} (hK:K.length=X.length+1) (h:SegN R (X++x::Y) (K++J)):SegN R Y J:=fun i y k hi hk=>by
 refine h (X.length+1+i) y k ?_ ?_
 · rw [List.getElem?_append_right (by omega),show X.length+1+i-X.length=i+1 by omega,List.getElem?_cons_succ];exact hi
 · rw [List.getElem?_append_right (by omega),show X.length+1+i+1-K.length=i+1 by omega];exact hk
end
theorem SegN.reb {R:α→List α→Prop} {Xl Xr:List α} {Kl Kr:List (List α)} {x:α} {mn:Nat} (hKl:Kl.length=Xl.length+1) (hKr:Kr.length=Xr.length+1) (h1:SegN R Xl Kl) (h2:SegN R Xr Kr)
  (hc:(AllP R (x::Pl.inter Xr Kr)∧Xl.length<mn)∨((∀w∈Pl.inter Xl Kl++[x],∀l,R w l)∧Xr.length<mn)):SegN R (Xl++x::Xr) (Kl++Kr):=by
 refine SegN.glue hKl h1 h2 fun k hk=>?_
 rcases hc with ⟨hc,_⟩|⟨hc,_⟩
 ·
  have e:=Pl.inter_self hKr hk
  simp only [List.take_zero,Pl.pre,List.nil_append] at e
  exact hc [] x k (Pl.post (Xr.drop 0) (Kr.drop (0+1))) (by rw [e];simp)
 · exact hc x (by simp) k
theorem piece_mid {R:α→List α→Prop} {Xl Xr Xl' Xr':List α} {Kl Kr A B:List (List α)} {x y:α} {mn:Nat} (hKl:Kl.length=Xl.length+1) (hKr:Kr.length=Xr.length+1) (hA:A.length=Xl'.length+1) (hB:B.length=Xr'.length+1)
  (hc:(AllP R (x::Pl.inter Xr Kr)∧Xl.length<mn)∨((∀w∈Pl.inter Xl Kl++[x],∀l,R w l)∧Xr.length<mn)) (hX:Xl'++y::Xr'=Xl++x::Xr) (hK:A++B=Kl++Kr) (b1:mn≤Xl'.length) (b2:mn≤Xr'.length):R y (Pl.inter Xr' B):=by
 have hL:Pl.inter Xl' A++y::Pl.inter Xr' B=Pl.inter Xl Kl++x::Pl.inter Xr Kr:=by
  rw [←Pl.inter_item _ _ _ _ _ hA.symm,←Pl.inter_item _ _ _ _ _ hKl.symm,hX,hK]
 have hlx:Xl'.length+(Xr'.length+1)=Xl.length+(Xr.length+1):=by have:=congrArg List.length hX;simpa using this
 rcases hc with ⟨hc,hs⟩|⟨hc,hs⟩
 ·
  have hlt:Xl.length<Xl'.length:=by omega
  have e1:Xl'=Xl++x::(Xl'.drop (Xl.length+1)):=by
   have h1:=congrArg (List.take Xl'.length) hX
   rw [List.take_left] at h1
   have h2:(Xl++x::Xr).take Xl'.length=Xl++(x::Xr).take (Xl'.length-Xl.length):=by rw [List.take_append,List.take_of_length_le (by omega)]
   obtain ⟨d,hd⟩:∃d,Xl'.length-Xl.length=d+1:=⟨Xl'.length-Xl.length-1,by omega⟩
   rw [h2,hd,List.take_succ_cons] at h1
   have h3:Xl'.drop (Xl.length+1)=Xr.take d:=by rw [h1,←List.drop_drop,List.drop_left];rfl
   rw [h3];exact h1
  have lK:Kl.length<A.length:=by omega
  have e2:A=Kl++A.drop Kl.length:=by
   have h1:=congrArg (List.take Kl.length) hK
   rw [List.take_append_of_le_length (by omega),List.take_left] at h1
   conv=>lhs;rw [←List.take_append_drop Kl.length A,h1]
  have e3:Pl.inter Xl' A=Pl.inter Xl Kl++x::Pl.inter (Xl'.drop (Xl.length+1)) (A.drop Kl.length):=by
   conv=>lhs;rw [e1,e2]
   exact Pl.inter_item _ _ _ _ _ hKl.symm
  rw [e3,List.append_assoc,List.cons_append,List.append_cancel_left_eq,List.cons.injEq] at hL
  refine hc (x::Pl.inter (Xl'.drop (Xl.length+1)) (A.drop Kl.length)) y (Pl.inter Xr' B) [] ?_
  rw [←hL.2];simp
 ·
  have hy:y∈Xl:=by
   have h1:(Xl'++y::Xr')[Xl'.length]?=(Xl++x::Xr)[Xl'.length]?:=by rw [hX]
   rw [List.getElem?_append_right (Nat.le_refl _),Nat.sub_self,List.getElem?_cons_zero,List.getElem?_append_left (by omega)] at h1
   exact List.mem_of_getElem? h1.symm
  exact hc y (List.mem_append_left _ ((Pl.sublist_inter Xl Kl (by omega)).subset hy)) _
theorem SegN.one {R:α→List α→Prop} {X:List α} {K1 K2:List (List α)} {u v m:List α} (h:SegN R X (K1++[u,v]++K2)) (hlo:∀j,j<K1.length→∀z,X[j]?=some z→∀l,R z l) (hl:K1.length<X.length):SegN R (X.take K1.length++X.drop (K1.length+1)) (K1++[m]++K2):=fun j z k hz hk=>by
 rcases Nat.lt_or_ge j K1.length with hj|hj
 ·
  rw [List.getElem?_append_left (by rw [List.length_take];omega),List.getElem?_take_of_lt hj] at hz
  exact hlo j hj z hz k
 ·
  rw [List.getElem?_append_right (by rw [List.length_take];omega),List.length_take,Nat.min_eq_left (by omega),List.getElem?_drop] at hz
  have hk2:K2[j-K1.length]?=some k:=by
   rw [List.append_assoc,List.getElem?_append_right (by omega),show j+1-K1.length=(j-K1.length)+1 by omega] at hk
   simpa using hk
  refine h (j+1) z k (by rw [←hz];congr 1;omega) ?_
  rw [List.append_assoc,List.getElem?_append_right (by omega),show j+1+1-K1.length=(j-K1.length)+2 by omega]
  simpa using hk2
theorem SegN.two {R:α→List α→Prop} {X:List α} {K1 K2:List (List α)} {u v m1 m2:List α} {y:α} (h:SegN R X (K1++[u,v]++K2)) (hlo:∀j,j<K1.length→∀z,X[j]?=some z→∀l,R z l) (hl:K1.length<X.length) (hy:R y m2):SegN R (X.take K1.length++y::X.drop (K1.length+1)) (K1++[m1,m2]++K2):=fun j z k hz hk=>by
 have lT:(X.take K1.length).length=K1.length:=by rw [List.length_take];omega
 rcases Nat.lt_trichotomy j K1.length with hj|rfl|hj
 ·
  rw [List.getElem?_append_left (by omega),List.getElem?_take_of_lt hj] at hz
  exact hlo j hj z hz k
 ·
  rw [List.getElem?_append_right (by omega),lT,Nat.sub_self] at hz
  rw [List.append_assoc,List.getElem?_append_right (by omega),show K1.length+1-K1.length=1 by omega] at hk
  simp only [List.getElem?_cons_zero,Option.some.injEq] at hz
  simp only [List.cons_append,List.nil_append,List.getElem?_cons_succ,List.getElem?_cons_zero,Option.some.injEq] at hk
  subst hz hk
  exact hy
 ·
  rw [List.getElem?_append_right (by omega),lT,show j-K1.length=(j-K1.length-1)+1 by omega,List.getElem?_cons_succ,List.getElem?_drop] at hz
  have hk2:K2[j-K1.length-1]?=some k:=by
   rw [List.append_assoc,List.getElem?_append_right (by omega),show j+1-K1.length=(j-K1.length-1)+2 by omega] at hk
   simpa using hk
  refine h j z k (by rw [←hz];congr 1;omega) ?_
  rw [List.append_assoc,List.getElem?_append_right (by omega),show j+1-K1.length=(j-K1.length-1)+2 by omega]
  simpa using hk2
variable {α:Type} {E:Elt α}
theorem Inn.alone {H:Mem} {P:Ps} {h:Nat} {g:Ng} {X:List α} {os:List (Option Nat)} {K:List (Gt E h)} (hI:Inn H P h g X os K):Rn E H P g X os:=
 ⟨hI.n,hI.k,⟨fun k hk=>absurd hk (List.not_mem_nil),List.Pairwise.nil⟩,hI.iso⟩
theorem Inn.putM {Z RA:Rg} {H H':Mem} {P:Ps} {h:Nat} {g g':Ng} {X X':List α} {os os':List (Option Nat)} {K1 K2 M:List (Gt E h)} (hI:Inn H P h g X os (K1++K2)) (hn:Rn E H' P g' X' os') (hf:Fr Z H H')
  (hZ:∀b o,b<H.size→Z b o→rn E g b o∨RA b o) (hg:Gro H (rn E g) (rn E g')) (hRA:Off RA (innc h g (K1++K2)))
  (hM:∀m∈M,Gt.Good H' P h m∧P.mn≤(Gt.X h m).length∧Gro H RA (Gt.af h m)∧Off (Gt.af h m) (rn E g')) (hP:M.Pairwise fun k k'=>Off (Gt.af h k) (Gt.af h k')):
  Inn H' P h g' X' os' (K1++M++K2):=by
 have hold:∀k∈K1++K2,(Gt.Good H' P h k∧P.mn≤(Gt.X h k).length∧∀b o,Gt.af h k b o→¬ncl E g' b o∧¬kcl g' b o):=fun k hk=>by
  obtain ⟨h1,h2,h3⟩:=hI.c.1 k hk
  have hn1:∀b o,Gt.af h k b o→¬rn E g b o:=fun b o hb hr=>(rn_iff.1 hr).elim (h3 b o hb).1 (h3 b o hb).2
  have hn2:∀b o,Gt.af h k b o→¬RA b o:=fun b o hb hr=>hRA b o hr (.inr (.inr ⟨k,hk,hb⟩))
  refine ⟨h1.fr hf fun b o hb hz=>(hZ b o (h1.lt hb) hz).elim (hn1 b o hb) (hn2 b o hb),h2,fun b o hb=>?_⟩
  have:¬rn E g' b o:=hg.not (h1.lt hb) (hn1 b o hb)
  exact ⟨fun h=>this (rn_iff.2 (.inl h)),fun h=>this (rn_iff.2 (.inr h))⟩
 have cross:∀k∈K1++K2,∀m∈M,Off (Gt.af h k) (Gt.af h m):=fun k hk m hm=>(hM m hm).2.2.1.off (fun b o hb hr=>hRA b o hr (.inr (.inr ⟨k,hk,hb⟩))) fun b o hb=>(hI.c.1 k hk).1.lt hb
 refine ⟨hn.n,hn.k,⟨fun k hk=>?_,?_⟩,hn.iso⟩
 ·
  simp only [List.mem_append] at hk
  rcases hk with (hk|hk)|hk
  · exact hold k (List.mem_append_left _ hk)
  ·
   obtain ⟨h1,h2,_,h4⟩:=hM k hk
   exact ⟨h1,h2,fun b o hb=>⟨fun h=>h4 b o hb (rn_iff.2 (.inl h)),fun h=>h4 b o hb (rn_iff.2 (.inr h))⟩⟩
  · exact hold k (List.mem_append_right _ hk)
 ·
  have hp:=hI.c.2
  rw [List.pairwise_append] at hp
  obtain ⟨p1,p2,p12⟩:=hp
  rw [List.append_assoc,List.pairwise_append,List.pairwise_append]
  refine ⟨p1,⟨hP,p2,fun m hm k hk b o hmb hb=>cross k (List.mem_append_right _ hk) m hm b o hb hmb⟩,fun k hk m hm b o hb hmb=>?_⟩
  rcases List.mem_append.1 hm with hm|hm
  · exact cross k (List.mem_append_left _ hk) m hm b o hb hmb
  · exact p12 k hk m hm b o hb hmb
def GoodM (H H':Mem) (P:Ps) (RA:Rg) (g':Ng) (h:Nat) (m:Gt E h):Prop:=Gt.Good H' P h m∧P.mn≤(Gt.X h m).length∧Gro H RA (Gt.af h m)∧Off (Gt.af h m) (rn E g')
def SegC (P:Ps) (h:Nat) (u v:Gt E h) (x:α) (R:α→List α→Prop):Prop:=
 Gt.Seg R h u∧Gt.Seg R h v∧((AllP R (x::Gt.L h v)∧(Gt.X h u).length<P.mn)∨((∀w∈Gt.L h u++[x],∀l,R w l)∧(Gt.X h v).length<P.mn))
def RebMid (H H':Mem) (P:Ps) (h:Nat) (RA:Rg) (i:Nat) (g:Ng) (X:List α) (os:List (Option Nat)) (pl pr:Nat) (L0:List α) (SC:(α→List α→Prop)→Prop) (E:Elt α):Prop:=
 ∃g',g'.p=g.p∧g'.cnt=g.cnt∧Gro H (rn E g) (rn E g')∧Fr (fun b o=>rn E g b o∨RA b o) H H'∧
  ((∃m:Gt E h,Rn E H' P g' (X.take i++X.drop (i+1)) (os.take (i+1)++os.drop (i+1+1))∧Gt.p h m=pl∧GoodM H H' P RA g' h m∧Gt.L h m=L0∧∀R,SC R→Gt.Seg R h m)∨
  ∃(m1 m2:Gt E h) (y:α),Rn E H' P g' (X.take i++y::X.drop (i+1)) os∧Gt.p h m1=pl∧Gt.p h m2=pr∧GoodM H H' P RA g' h m1∧GoodM H H' P RA g' h m2∧Off (Gt.af h m1) (Gt.af h m2)∧Gt.L h m1++y::Gt.L h m2=L0∧∀R,SC R→Gt.Seg R h m1∧Gt.Seg R h m2∧R y (Gt.L h m2))
theorem reb_leaf {D:Nat→Prop} {H H':Mem} {P:Ps} (hm1:1≤P.mn) {cn:Nat→Nat} {i:Nat} {g gl gr:Ng} {X Xl Xr:List α} {os:List (Option Nat)} {x:α} (hi:RebIn E H P D true cn i g gl gr X Xl Xr os [] [] x) (ho:RebOut E H H' P true cn i g gl gr X Xl Xr os [] [] x) (hc:gl.cnt=Xl.length∧gr.cnt=Xr.length):
  RebMid H H' P 0 (fun b o=>ncl E gl b o∨ncl E gr b o) i g X os gl.p gr.p (Xl++x::Xr) (SegC (E:=E) P 0 ((gl,Xl):Gt E 0) ((gr,Xr):Gt E 0) x) E:=by
 obtain ⟨hf,g',gl',e1,e2,e3,gg,ggl,dl,hr⟩:=ho
 refine ⟨g',e1,e2,gg,hf.mono (fun b o _ h=>h.elim .inl .inr),?_⟩
 have hml:=hi.ml
 have hmr:=hi.mr
 rcases hr with ⟨hlt,hn,⟨hl,hli,_⟩,hcn⟩|⟨gr',Xl',Xr',osl',osr',y,e4,ggr,dr,dlr,hn,⟨hl,hli,rfl⟩,⟨hr,hri,rfl⟩,hcl,hcr,hx,_,b1,b2,b3,b4,_⟩
 ·
  have hll:(Xl++x::Xr).length=Xl.length+(Xr.length+1):=by simp
  refine .inl ⟨((gl',Xl++x::Xr):Gt E 0),hn,e3,⟨⟨hl,hli,?_,?_⟩,?_,fun b o hb=>(ggl b o hb).imp .inl id,dl⟩,rfl,fun _ _=>trivial⟩
  ·
   show gl'.cnt=_
   rw [hcn,hll,hc.1,hc.2]
  ·
   show (Xl++x::Xr).length≤_
   rw [hll];omega
  ·
   show _≤(Xl++x::Xr).length
   rw [hll];omega
 ·
  simp only [List.map_nil,List.sum_nil,Nat.add_zero] at hcl hcr
  refine .inr ⟨((gl',Xl'):Gt E 0),((gr',Xr'):Gt E 0),y,hn,e3,e4,⟨⟨hl,hli,hcl,b3⟩,b1,fun b o hb=>(ggl b o hb).imp .inl id,dl⟩,⟨⟨hr,hri,hcr,b4⟩,b2,fun b o hb=>(ggr b o hb).imp .inr id,dr⟩,dlr,hx,fun R hR=>⟨trivial,trivial,?_⟩⟩
  obtain ⟨_,_,hc⟩:=hR
  show R y Xr'
  have hlx:Xl'.length+(Xr'.length+1)=Xl.length+(Xr.length+1):=by have:=congrArg List.length hx;simpa using this
  rcases hc with ⟨hc,hs⟩|⟨hc,hs⟩
  ·
   replace hs:Xl.length<P.mn:=hs
   have e1:Xl'=Xl++x::(Xl'.drop (Xl.length+1)):=by
    have h1:=congrArg (List.take Xl'.length) hx
    rw [List.take_left] at h1
    have h2:(Xl++x::Xr).take Xl'.length=Xl++(x::Xr).take (Xl'.length-Xl.length):=by rw [List.take_append,List.take_of_length_le (by omega)]
    obtain ⟨d,hd⟩:∃d,Xl'.length-Xl.length=d+1:=⟨Xl'.length-Xl.length-1,by omega⟩
    rw [h2,hd,List.take_succ_cons] at h1
    have h3:Xl'.drop (Xl.length+1)=Xr.take d:=by rw [h1,←List.drop_drop,List.drop_left];rfl
    rw [h3];exact h1
   have e2:=hx
   rw [e1,List.append_assoc,List.cons_append,List.append_cancel_left_eq,List.cons.injEq] at e2
   refine hc (x::Xl'.drop (Xl.length+1)) y Xr' [] ?_
   show x::Xr=_
   rw [←e2.2];simp
  ·
   replace hs:Xr.length<P.mn:=hs
   have hy:y∈Xl:=by
    have h1:(Xl'++y::Xr')[Xl'.length]?=(Xl++x::Xr)[Xl'.length]?:=by rw [hx]
    rw [List.getElem?_append_right (Nat.le_refl _),Nat.sub_self,List.getElem?_cons_zero,List.getElem?_append_left (by omega)] at h1
    exact List.mem_of_getElem? h1.symm
   exact hc y (List.mem_append_left _ hy) _
theorem sum_os {H:Mem} {h:Nat} {K:List (Gt E h)} {P:Ps} (hK:∀k∈K,Gt.Good H P h k):(((Gt.ps h K).map some).map (cnO (cnOf H))).sum=((K.map (Gt.L h)).map List.length).sum:=by
 congr 1
 unfold Gt.ps
 rw [List.map_map,List.map_map,List.map_map]
 exact List.map_congr_left fun k hk=>((hK k hk).cnOf).2
theorem split_ps {h:Nat} {K:List (Gt E h)} {a b:List (Option Nat)} (e:a++b=(Gt.ps h K).map some):a=(Gt.ps h (K.take a.length)).map some∧b=(Gt.ps h (K.drop a.length)).map some:=by
 unfold Gt.ps at*
 rw [List.map_take,List.map_take,List.map_drop,List.map_drop,←e]
 simp
theorem good_kids {Z:Rg} {H H':Mem} {P:Ps} {h:Nat} {g:Ng} {X:List α} {K:List (Gt E h)} (hr:Rn E H' P g X ((Gt.ps h K).map some)) (hf:Fr Z H H')
  (hK:∀k∈K,Gt.Good H P h k∧P.mn≤(Gt.X h k).length∧(∀b o,Gt.af h k b o→¬Z b o)∧Off (Gt.af h k) (rn E g)) (hp:K.Pairwise fun k k'=>Off (Gt.af h k) (Gt.af h k'))
  (hc:g.cnt=(Pl.inter X (K.map (Gt.L h))).length) (hx:X.length≤P.mx) (hl:K.length=X.length+1):Gt.Good H' P (h+1) ((g,X,K):Gt E (h+1)):=
 ⟨hr.n,KidO.m hr.k,hr.iso,hc,hx,hl,fun k hk=>⟨(hK k hk).1.fr hf (hK k hk).2.2.1,(hK k hk).2.1,fun b o hb=>⟨fun h=>(hK k hk).2.2.2 b o hb (rn_iff.2 (.inl h)),fun h=>(hK k hk).2.2.2 b o hb (rn_iff.2 (.inr h))⟩⟩,hp⟩
theorem reb_inner {D:Nat→Prop} {H H':Mem} {P:Ps} (hm1:1≤P.mn) {h i:Nat} {g gl gr:Ng} {X Xl Xr:List α} {Kl Kr:List (Gt E h)} {os:List (Option Nat)} {x:α}
  (hl:Gt.Good H P (h+1) ((gl,Xl,Kl):Gt E (h+1))) (hr:Gt.Good H P (h+1) ((gr,Xr,Kr):Gt E (h+1))) (hdl:Off (Gt.af (h+1) ((gl,Xl,Kl):Gt E (h+1))) (Gt.af (h+1) ((gr,Xr,Kr):Gt E (h+1))))
  (hng:∀k∈Kl++Kr,Off (Gt.af h k) (rn E g))
  (hi:RebIn E H P D false (cnOf H) i g gl gr X Xl Xr os ((Gt.ps h Kl).map some) ((Gt.ps h Kr).map some) x) (ho:RebOut E H H' P false (cnOf H) i g gl gr X Xl Xr os ((Gt.ps h Kl).map some) ((Gt.ps h Kr).map some) x):
  RebMid H H' P (h+1) (fun b o=>Gt.af (h+1) ((gl,Xl,Kl):Gt E (h+1)) b o∨Gt.af (h+1) ((gr,Xr,Kr):Gt E (h+1)) b o) i g X os gl.p gr.p (Gt.L (h+1) ((gl,Xl,Kl):Gt E (h+1))++x::Gt.L (h+1) ((gr,Xr,Kr):Gt E (h+1))) (SegC (E:=E) P (h+1) ((gl,Xl,Kl):Gt E (h+1)) ((gr,Xr,Kr):Gt E (h+1)) x) E:=by
 obtain ⟨hf,g',gl',e1,e2,e3,gg,ggl,dl,hh⟩:=ho
 have hml:=hi.ml
 have hmr:=hi.mr
 have hKl:Kl.length=Xl.length+1:=hl.2.2.2.2.2.1
 have hKr:Kr.length=Xr.length+1:=hr.2.2.2.2.2.1
 have rl:∀b o,rn E gl b o→Gt.af (h+1) ((gl,Xl,Kl):Gt E (h+1)) b o:=fun b o hb=>(rn_iff.1 hb).elim .inl (fun h=>.inr (.inl h))
 have rr:∀b o,rn E gr b o→Gt.af (h+1) ((gr,Xr,Kr):Gt E (h+1)) b o:=fun b o hb=>(rn_iff.1 hb).elim .inl (fun h=>.inr (.inl h))
 have hfull:Fr (fun b o=>rn E g b o∨(Gt.af (h+1) ((gl,Xl,Kl):Gt E (h+1)) b o∨Gt.af (h+1) ((gr,Xr,Kr):Gt E (h+1)) b o)) H H':=
  hf.mono fun b o _ hz=>hz.elim .inl fun hz=>.inr (hz.imp (rl b o) (rr b o))
 have kAll:∀k∈Kl++Kr,Gt.Good H P h k∧P.mn≤(Gt.X h k).length∧(∀b o,Gt.af h k b o→¬(rn E g b o∨rwc E false gl b o∨rwc E false gr b o))∧Off (Gt.af h k) (rn E gl)∧Off (Gt.af h k) (rn E gr):=fun k hk=>by
  have hg0:=hng k hk
  rcases List.mem_append.1 hk with hk|hk
  ·
   obtain ⟨q1,q2,q3⟩:=hl.2.2.2.2.2.2.1 k hk
   have a1:Off (Gt.af h k) (rn E gl):=fun b o hb hr=>(rn_iff.1 hr).elim (q3 b o hb).1 (q3 b o hb).2
   have a2:Off (Gt.af h k) (rn E gr):=fun b o hb hr=>hdl b o (.inr (.inr ⟨k,hk,hb⟩)) (rr b o hr)
   exact ⟨q1,q2,fun b o hb hz=>hz.elim (hg0 b o hb) fun hz=>hz.elim (a1 b o hb) (a2 b o hb),a1,a2⟩
  ·
   obtain ⟨q1,q2,q3⟩:=hr.2.2.2.2.2.2.1 k hk
   have a1:Off (Gt.af h k) (rn E gr):=fun b o hb hr=>(rn_iff.1 hr).elim (q3 b o hb).1 (q3 b o hb).2
   have a2:Off (Gt.af h k) (rn E gl):=fun b o hb hr=>hdl b o (rl b o hr) (.inr (.inr ⟨k,hk,hb⟩))
   exact ⟨q1,q2,fun b o hb hz=>hz.elim (hg0 b o hb) fun hz=>hz.elim (a2 b o hb) (a1 b o hb),a2,a1⟩
 have pAll:(Kl++Kr).Pairwise fun k k'=>Off (Gt.af h k) (Gt.af h k'):=by
  rw [List.pairwise_append]
  exact ⟨hl.2.2.2.2.2.2.2,hr.2.2.2.2.2.2.2,fun k hk k' hk' b o hb hb'=>hdl b o (.inr (.inr ⟨k,hk,hb⟩)) (.inr (.inr ⟨k',hk',hb'⟩))⟩
 have kaf:∀k∈Kl++Kr,∀b o,Gt.af h k b o→Gt.af (h+1) ((gl,Xl,Kl):Gt E (h+1)) b o∨Gt.af (h+1) ((gr,Xr,Kr):Gt E (h+1)) b o:=fun k hk b o hb=>
  (List.mem_append.1 hk).imp (fun hk=>.inr (.inr ⟨k,hk,hb⟩)) (fun hk=>.inr (.inr ⟨k,hk,hb⟩))
 have glen:∀K:List (Gt E h),(∀k∈K,k∈Kl++Kr)→(((Gt.ps h K).map some).map (cnO (cnOf H))).sum=((K.map (Gt.L h)).map List.length).sum:=fun K hK=>sum_os (P:=P) fun k hk=>(kAll k (hK k hk)).1
 have mk:∀{gm:Ng} {Xm:List α} {K:List (Gt E h)},Rn E H' P gm Xm ((Gt.ps h K).map some)→(∀k∈K,k∈Kl++Kr)→K.Pairwise (fun k k'=>Off (Gt.af h k) (Gt.af h k'))→(∀k∈K,Off (Gt.af h k) (rn E gm))→
   gm.cnt=Xm.length+(((Gt.ps h K).map some).map (cnO (cnOf H))).sum→Xm.length≤P.mx→K.length=Xm.length+1→Gt.Good H' P (h+1) ((gm,Xm,K):Gt E (h+1)):=fun {gm Xm K} h1 h2 h3 h4 h5 h6 h7=>
  good_kids h1 hf (fun k hk=>⟨(kAll k (h2 k hk)).1,(kAll k (h2 k hk)).2.1,(kAll k (h2 k hk)).2.2.1,h4 k hk⟩) h3 (by rw [h5,glen K h2,Pl.inter_length _ _ (by rw [List.length_map];exact h7)]) h6 h7
 have offg':∀k∈Kl++Kr,Off (Gt.af h k) (rn E g'):=fun k hk=>gg.off (hng k hk) fun b o hb=>(kAll k hk).1.lt hb
 refine ⟨g',e1,e2,gg,hfull,?_⟩
 have hLL:Gt.L (h+1) ((gl,Xl,Kl):Gt E (h+1))++x::Gt.L (h+1) ((gr,Xr,Kr):Gt E (h+1))=Pl.inter (Xl++x::Xr) ((Kl++Kr).map (Gt.L h)):=by
  rw [List.map_append,Pl.inter_item _ _ _ _ _ (by rw [List.length_map];omega)];rfl
 rw [hLL]
 rcases hh with ⟨hlt,hn,hl',hcn⟩|⟨gr',Xl',Xr',osl',osr',y,e4,ggr,dr,dlr,hn,hl',hr',hcl,hcr,hx,hos,b1,b2,b3,b4,b5⟩
 ·
  have hll:(Xl++x::Xr).length=Xl.length+(Xr.length+1):=by simp
  replace hl':Rn E H' P gl' (Xl++x::Xr) ((Gt.ps h Kl).map some++(Gt.ps h Kr).map some):=hl'
  rw [show (Gt.ps h Kl).map some++(Gt.ps h Kr).map some=(Gt.ps h (Kl++Kr)).map some by simp [Gt.ps]] at hl'
  have offl':∀k∈Kl++Kr,Off (Gt.af h k) (rn E gl'):=fun k hk=>Gro.off ggl (kAll k hk).2.2.2.1 fun b o hb=>(kAll k hk).1.lt hb
  have hG:=mk hl' (fun _ h=>h) pAll offl' (by
   rw [hcn,hll,show ((Gt.ps h (Kl++Kr)).map some)=(Gt.ps h Kl).map some++(Gt.ps h Kr).map some by simp [Gt.ps],List.map_append,List.sum_append]
   have:=hi.cl
   have:=hi.cr
   omega) (by rw [hll];omega) (by rw [hll,List.length_append];omega)
  refine .inl ⟨((gl',Xl++x::Xr,Kl++Kr):Gt E (h+1)),hn,e3,⟨hG,?_,fun b o hb=>?_,fun b o hb=>?_⟩,rfl,fun R ⟨r1,r2,rc⟩=>⟨?_,fun k hk=>(List.mem_append.1 hk).elim (r1.2 k) (r2.2 k)⟩⟩
  ·
   show _≤(Xl++x::Xr).length
   rw [hll];omega
  ·
   rcases hb with hb|hb|⟨k,hk,hb⟩
   · exact (ggl b o (rn_iff.2 (.inl hb))).imp (fun h=>.inl (rl b o h)) id
   · exact (ggl b o (rn_iff.2 (.inr hb))).imp (fun h=>.inl (rl b o h)) id
   · exact .inl (kaf k hk b o hb)
  ·
   rcases hb with hb|hb|⟨k,hk,hb⟩
   · exact dl b o (rn_iff.2 (.inl hb))
   · exact dl b o (rn_iff.2 (.inr hb))
   · exact offg' k hk b o hb
  ·
   show SegN R (Xl++x::Xr) ((Kl++Kr).map (Gt.L h))
   rw [List.map_append]
   exact SegN.reb (by rw [List.length_map];exact hKl) (by rw [List.length_map];exact hKr) r1.1 r2.1 rc
 ·
  obtain ⟨s1,s2⟩:=split_ps (K:=Kl++Kr) (hos.trans (by simp [Gt.ps]))
  have hol:=b5 rfl
  generalize hA:(Kl++Kr).take osl'.length=A at s1
  generalize hB:(Kl++Kr).drop osl'.length=B at s2
  have hAB:A++B=Kl++Kr:=by rw [←hA,←hB,List.take_append_drop]
  subst s1 s2
  have lA:A.length=Xl'.length+1:=by simpa [Gt.ps] using hol
  have hlen:Xl'.length+(Xr'.length+1)=Xl.length+(Xr.length+1):=by have:=congrArg List.length hx;simpa using this
  have lB:B.length=Xr'.length+1:=by
   have:=congrArg List.length hAB
   simp only [List.length_append] at this
   omega
  have sA:∀k∈A,k∈Kl++Kr:=fun k hk=>by rw [←hAB];exact List.mem_append_left _ hk
  have sB:∀k∈B,k∈Kl++Kr:=fun k hk=>by rw [←hAB];exact List.mem_append_right _ hk
  rw [←hAB,List.pairwise_append] at pAll
  obtain ⟨pA,pB,pAB⟩:=pAll
  have oA:∀k∈Kl++Kr,Off (Gt.af h k) (rn E gl'):=fun k hk=>Gro.off ggl (kAll k hk).2.2.2.1 fun b o hb=>(kAll k hk).1.lt hb
  have oB:∀k∈Kl++Kr,Off (Gt.af h k) (rn E gr'):=fun k hk=>Gro.off ggr (kAll k hk).2.2.2.2 fun b o hb=>(kAll k hk).1.lt hb
  have gA:=mk hl' sA pA (fun k hk=>oA k (sA k hk)) hcl b3 lA
  have gB:=mk hr' sB pB (fun k hk=>oB k (sB k hk)) hcr b4 lB
  refine .inr ⟨((gl',Xl',A):Gt E (h+1)),((gr',Xr',B):Gt E (h+1)),y,hn,e3,e4,⟨gA,b1,fun b o hb=>?_,fun b o hb=>?_⟩,⟨gB,b2,fun b o hb=>?_,fun b o hb=>?_⟩,fun b o hb hb2=>?_,?_,fun R ⟨r1,r2,rc⟩=>?_⟩
  ·
   rcases hb with hb|hb|⟨k,hk,hb⟩
   · exact (ggl b o (rn_iff.2 (.inl hb))).imp (fun h=>.inl (rl b o h)) id
   · exact (ggl b o (rn_iff.2 (.inr hb))).imp (fun h=>.inl (rl b o h)) id
   · exact .inl (kaf k (sA k hk) b o hb)
  ·
   rcases hb with hb|hb|⟨k,hk,hb⟩
   · exact dl b o (rn_iff.2 (.inl hb))
   · exact dl b o (rn_iff.2 (.inr hb))
   · exact offg' k (sA k hk) b o hb
  ·
   rcases hb with hb|hb|⟨k,hk,hb⟩
   · exact (ggr b o (rn_iff.2 (.inl hb))).imp (fun h=>.inr (rr b o h)) id
   · exact (ggr b o (rn_iff.2 (.inr hb))).imp (fun h=>.inr (rr b o h)) id
   · exact .inl (kaf k (sB k hk) b o hb)
  ·
   rcases hb with hb|hb|⟨k,hk,hb⟩
   · exact dr b o (rn_iff.2 (.inl hb))
   · exact dr b o (rn_iff.2 (.inr hb))
   · exact offg' k (sB k hk) b o hb
  ·
   have n1:ncl E gl' b o∨kcl gl' b o→rn E gl' b o:=fun h=>rn_iff.2 h
   have n2:ncl E gr' b o∨kcl gr' b o→rn E gr' b o:=fun h=>rn_iff.2 h
   rcases hb with hb|hb|⟨k,hk,hb⟩<;>rcases hb2 with hb2|hb2|⟨k',hk',hb2⟩
   · exact dlr b o (n1 (.inl hb)) (n2 (.inl hb2))
   · exact dlr b o (n1 (.inl hb)) (n2 (.inr hb2))
   · exact oA k' (sB k' hk') b o hb2 (n1 (.inl hb))
   · exact dlr b o (n1 (.inr hb)) (n2 (.inl hb2))
   · exact dlr b o (n1 (.inr hb)) (n2 (.inr hb2))
   · exact oA k' (sB k' hk') b o hb2 (n1 (.inr hb))
   · exact oB k (sA k hk) b o hb (n2 (.inl hb2))
   · exact oB k (sA k hk) b o hb (n2 (.inr hb2))
   · exact pAB k hk k' hk' b o hb hb2
  ·
   show Pl.inter Xl' (A.map (Gt.L h))++y::Pl.inter Xr' (B.map (Gt.L h))=_
   rw [←Pl.inter_item _ _ _ _ _ (by rw [List.length_map];omega),←List.map_append,hAB,hx]
  ·
   have hgl:=SegN.reb (by rw [List.length_map];exact hKl) (by rw [List.length_map];exact hKr) r1.1 r2.1 rc
   replace hgl:SegN R (Xl++x::Xr) (Kl.map (Gt.L h)++Kr.map (Gt.L h)):=hgl
   rw [←List.map_append,←hAB,List.map_append,←hx] at hgl
   have lA':(A.map (Gt.L h)).length=Xl'.length+1:=by rw [List.length_map];exact lA
   have rk:∀k∈Kl++Kr,Gt.Seg R h k:=fun k hk=>(List.mem_append.1 hk).elim (r1.2 k) (r2.2 k)
   exact ⟨⟨hgl.left lA',fun k hk=>rk k (sA k hk)⟩,⟨hgl.right lA',fun k hk=>rk k (sB k hk)⟩,
    piece_mid (Kl:=Kl.map (Gt.L h)) (Kr:=Kr.map (Gt.L h)) (A:=A.map (Gt.L h)) (B:=B.map (Gt.L h)) (by rw [List.length_map];exact hKl) (by rw [List.length_map];exact hKr) lA' (by rw [List.length_map];exact lB) rc hx (by rw [←List.map_append,←List.map_append,hAB]) b1 b2⟩
def RebS (P:Ps) (h i:Nat) (X:List α) (K1 K2:List (Gt E h)) (u v:Gt E h) (x:α) (t':Gt E (h+1)):Prop:=
 ∀R,SegC P h u v x R→(∀j,j<i→∀z,X[j]?=some z→∀l,R z l)→SegN R X ((K1++[u,v]++K2).map (Gt.L h))→(∀k∈K1++K2,Gt.Seg R h k)→Gt.Seg R (h+1) t'
theorem reb_fin {H H':Mem} {P:Ps} {h i:Nat} {g:Ng} {X:List α} {K1 K2:List (Gt E h)} {tl tr:Gt E h} {x:α} (hI:Inn H P h g X ((Gt.ps h (K1++[tl,tr]++K2)).map some) (K1++K2)) (hi:K1.length=i) (hx:X[i]?=some x)
  (hK:(K1++[tl,tr]++K2).length=X.length+1) (hxm:X.length≤P.mx) {RA:Rg} (hRA:Off RA (innc h g (K1++K2)))
  (hm:RebMid H H' P h RA i g X ((Gt.ps h (K1++[tl,tr]++K2)).map some) (Gt.p h tl) (Gt.p h tr) (Gt.L h tl++x::Gt.L h tr) (SegC P h tl tr x) E):
  ∃(g':Ng) (X':List α) (K':List (Gt E h)),g'.p=g.p∧g'.cnt=g.cnt∧Fr (fun b o=>innc h g (K1++K2) b o∨RA b o) H H'∧Inn H' P h g' X' ((Gt.ps h K').map some) K'∧K'.length=X'.length+1∧
   Pl.inter X' (K'.map (Gt.L h))=Pl.inter X ((K1++[tl,tr]++K2).map (Gt.L h))∧X'.length≤P.mx∧X.length≤X'.length+1∧Gro H (fun b o=>innc h g (K1++K2) b o∨RA b o) (innc h g' K')∧RebS P h i X K1 K2 tl tr x ((g',X',K'):Gt E (h+1)):=by
 subst hi
 obtain ⟨hxl,hxe⟩:=List.getElem?_eq_some_iff.1 hx
 obtain ⟨g',e1,e2,gg,hf,hr⟩:=hm
 have hrn:∀b o,rn E g b o→innc h g (K1++K2) b o:=fun b o hb=>(rn_iff.1 hb).elim .inl (fun h=>.inr (.inl h))
 have hf':Fr (fun b o=>innc h g (K1++K2) b o∨RA b o) H H':=hf.mono fun b o _ hz=>hz.imp (hrn b o) id
 have grow:∀M:List (Gt E h),(∀m∈M,Gro H RA (Gt.af h m))→Gro H (fun b o=>innc h g (K1++K2) b o∨RA b o) (innc h g' (K1++M++K2)):=fun M hM b o hb=>by
  rcases hb with hb|hb|⟨k,hk,hb⟩
  · exact (gg b o (rn_iff.2 (.inl hb))).imp (fun h=>.inl (hrn b o h)) id
  · exact (gg b o (rn_iff.2 (.inr hb))).imp (fun h=>.inl (hrn b o h)) id
  ·
   simp only [List.mem_append] at hk
   rcases hk with (hk|hk)|hk
   · exact .inl (.inl (.inr (.inr ⟨k,List.mem_append_left _ hk,hb⟩)))
   · exact (hM k hk b o hb).imp .inr id
   · exact .inl (.inl (.inr (.inr ⟨k,List.mem_append_right _ hk,hb⟩)))
 have hspX:X=X.take K1.length++x::X.drop (K1.length+1):=by rw [←hxe,List.getElem_cons_drop,List.take_append_drop]
 have lT:(X.take K1.length).length=K1.length:=by rw [List.length_take];omega
 have hK2:K2.length=(X.drop (K1.length+1)).length:=by
  simp only [List.length_append,List.length_cons,List.length_nil] at hK
  rw [List.length_drop];omega
 have hinter:Pl.inter X ((K1++[tl,tr]++K2).map (Gt.L h))=Pl.inter (X.take K1.length++X.drop (K1.length+1)) (K1.map (Gt.L h)++(Gt.L h tl++x::Gt.L h tr)::K2.map (Gt.L h)):=by
  rw [Pl.inter_split (by rw [List.length_map];exact lT) (by rw [List.length_map];exact hK2.symm),←hspX]
  simp
 rcases hr with ⟨m,hn,ep,hm,eL,hsg⟩|⟨m1,m2,y,hn,ep1,ep2,hm1,hm2,hd,eL,hsg⟩
 ·
  have hos:((Gt.ps h (K1++[tl,tr]++K2)).map some).take (K1.length+1)++((Gt.ps h (K1++[tl,tr]++K2)).map some).drop (K1.length+1+1)=(Gt.ps h (K1++[m]++K2)).map some:=by
   have:Gt.ps h (K1++[tl,tr]++K2)=(Gt.ps h K1++[Gt.p h tl])++Gt.p h tr::Gt.ps h K2:=by simp [Gt.ps]
   have h1:(Gt.ps h K1++[Gt.p h tl]).length=K1.length+1:=by simp [Gt.ps]
   rw [this,←List.map_take,←List.map_drop,←h1,List.take_left,←List.drop_drop,List.drop_left]
   simp [Gt.ps,ep]
  rw [hos] at hn
  have hI':=hI.putM hn hf (fun b o _ hz=>hz) gg hRA (M:=[m]) (fun k hk=>by rw [List.mem_singleton] at hk;subst hk;exact hm) (List.pairwise_singleton _ _)
  refine ⟨g',_,K1++[m]++K2,e1,e2,hf',hI',?_,?_,?_,?_,grow [m] fun k hk=>by rw [List.mem_singleton] at hk;subst hk;exact hm.2.2.1,fun R hc hlo hN hK=>⟨?_,fun k hk=>?_⟩⟩
  · simp only [List.length_append,List.length_cons,List.length_nil,lT];omega
  · rw [hinter,←eL];simp
  · simp only [List.length_append,lT,List.length_drop];omega
  · simp only [List.length_append,lT,List.length_drop];omega
  ·
   show SegN R (X.take K1.length++X.drop (K1.length+1)) ((K1++[m]++K2).map (Gt.L h))
   have:=SegN.one (K1:=K1.map (Gt.L h)) (K2:=K2.map (Gt.L h)) (u:=Gt.L h tl) (v:=Gt.L h tr) (m:=Gt.L h m) (by simpa using hN) (by rw [List.length_map];exact hlo) (by rw [List.length_map];exact hxl)
   rw [List.length_map] at this
   simpa using this
  ·
   simp only [List.mem_append,List.mem_singleton] at hk
   rcases hk with (hk|rfl)|hk
   · exact hK k (List.mem_append_left _ hk)
   · exact hsg R hc
   · exact hK k (List.mem_append_right _ hk)
 ·
  have hos:(Gt.ps h (K1++[tl,tr]++K2)).map some=(Gt.ps h (K1++[m1,m2]++K2)).map some:=by simp [Gt.ps,ep1,ep2]
  rw [hos] at hn
  have hI':=hI.putM hn hf (fun b o _ hz=>hz) gg hRA (M:=[m1,m2]) (fun k hk=>by simp only [List.mem_cons,List.not_mem_nil,or_false] at hk;rcases hk with rfl|rfl;exact hm1;exact hm2) (List.pairwise_pair.2 hd)
  refine ⟨g',_,K1++[m1,m2]++K2,e1,e2,hf',hI',?_,?_,?_,?_,grow [m1,m2] fun k hk=>by simp only [List.mem_cons,List.not_mem_nil,or_false] at hk;rcases hk with rfl|rfl;exact hm1.2.2.1;exact hm2.2.2.1,fun R hc hlo hN hK=>⟨?_,fun k hk=>?_⟩⟩
  · simp only [List.length_append,List.length_cons,List.length_nil,lT];omega
  ·
   rw [hinter,←eL,Pl.inter_split (by rw [List.length_map];exact lT) (by rw [List.length_map];exact hK2.symm)]
   simp
  · simp only [List.length_append,List.length_cons,lT,List.length_drop];omega
  · simp only [List.length_append,List.length_cons,lT,List.length_drop];omega
  ·
   show SegN R (X.take K1.length++y::X.drop (K1.length+1)) ((K1++[m1,m2]++K2).map (Gt.L h))
   have:=SegN.two (K1:=K1.map (Gt.L h)) (K2:=K2.map (Gt.L h)) (u:=Gt.L h tl) (v:=Gt.L h tr) (m1:=Gt.L h m1) (m2:=Gt.L h m2) (by simpa using hN) (by rw [List.length_map];exact hlo) (by rw [List.length_map];exact hxl) (hsg R hc).2.2
   rw [List.length_map] at this
   simpa using this
  ·
   simp only [List.mem_append,List.mem_cons,List.not_mem_nil,or_false] at hk
   rcases hk with (hk|rfl|rfl)|hk
   · exact hK k (List.mem_append_left _ hk)
   · exact (hsg R hc).1
   · exact (hsg R hc).2.1
   · exact hK k (List.mem_append_right _ hk)
variable {α:Type} {E:Elt α}
theorem Inn.sub {H:Mem} {P:Ps} {h:Nat} {g:Ng} {X:List α} {os:List (Option Nat)} {K K':List (Gt E h)} (hI:Inn H P h g X os K) (hs:K'.Sublist K):Inn H P h g X os K':=
 ⟨hI.n,hI.k,⟨fun k hk=>hI.c.1 k (hs.subset hk),hI.c.2.sublist hs⟩,hI.iso⟩
theorem innc_sub {h:Nat} {g:Ng} {K K':List (Gt E h)} (hs:∀k∈K',k∈K) {b o:Nat} (hb:innc h g K' b o):innc h g K b o:=
 hb.imp id fun hb=>hb.imp id fun ⟨k,hk,hb⟩=>⟨k,hs k hk,hb⟩
structure RebT (H:Mem) (P:Ps) (D:Nat→Prop) (h i:Nat) (g:Ng) (X:List α) (K1 K2:List (Gt E h)) (u v:Gt E h) (x:α):Prop where
 n:Inn H P h g X ((Gt.ps h (K1++[u,v]++K2)).map some) (K1++K2)
 l:Gt.Good H P h u
 r:Gt.Good H P h v
 ol:Off (Gt.af h u) (innc h g (K1++K2))
 or':Off (Gt.af h v) (innc h g (K1++K2))
 olr:Off (Gt.af h u) (Gt.af h v)
 tn:∀b o,innc h g (K1++K2) b o→¬D b
 tl:∀b o,Gt.af h u b o→¬D b
 tr:∀b o,Gt.af h v b o→¬D b
 dD:∀b,D b→b<H.size
 hi:K1.length=i
 x:X[i]?=some x
 len:(K1++[u,v]++K2).length=X.length+1
 xm:X.length≤P.mx
 b:(Gt.L h u).length+(Gt.L h v).length<4611686018427387904
 sh:(Gt.X h u).length<P.mn∨(Gt.X h v).length<P.mn
 ml:P.mn≤(Gt.X h u).length+1
 mr:P.mn≤(Gt.X h v).length+1
theorem rn_innc {h:Nat} {g:Ng} {K:List (Gt E h)} {b o:Nat} (hb:rn E g b o):innc h g K b o:=(rn_iff.1 hb).elim .inl (fun h=>.inr (.inl h))
section
variable {H:Mem} {P:Ps} {D:Nat→Prop} {h i:Nat} {g:Ng} {X:List α} {x:α}
theorem ps_at {K1 K2:List (Gt E h)} {tl tr:Gt E h}:((Gt.ps h (K1++[tl,tr]++K2)).map some)[K1.length]?=some (some (Gt.p h tl))∧((Gt.ps h (K1++[tl,tr]++K2)).map some)[K1.length+1]?=some (some (Gt.p h tr))∧
  ((Gt.ps h (K1++[tl,tr]++K2)).map some).length=(K1++[tl,tr]++K2).length:=by
 refine ⟨?_,?_,by simp [Gt.ps]⟩<;>simp [Gt.ps]
theorem RebT.in0 {K1 K2:List (Gt E 0)} {u v:Gt E 0} (cn:Nat→Nat) (ht:RebT H P D 0 i g X K1 K2 u v x):RebIn E H P D true cn i g (Gt.g 0 u) (Gt.g 0 v) X (Gt.X 0 u) (Gt.X 0 v) ((Gt.ps 0 (K1++[u,v]++K2)).map some) [] [] x:=by
 obtain ⟨n,l,r,ol,or',olr,tn,tl,tr,dD,hi,hx,len,xm,b,sh,ml,mr⟩:=ht
 subst hi
 obtain ⟨gl,Xl⟩:=u
 obtain ⟨gr,Xr⟩:=v
 obtain ⟨p1,p2,p3⟩:=ps_at (E:=E) (h:=0) (K1:=K1) (K2:=K2) (tl:=(gl,Xl)) (tr:=(gr,Xr))
 have c1:gl.cnt=Xl.length:=l.2.2.1
 have c2:gr.cnt=Xr.length:=r.2.2.1
 replace b:Xl.length+Xr.length<4611686018427387904:=b
 exact ⟨n.alone,⟨l.1,l.2.1,rfl⟩,⟨r.1,r.2.1,rfl⟩,fun b o h1 h2=>ol b o h1 (rn_innc h2),fun b o h1 h2=>or' b o h1 (rn_innc h2),olr,fun b o h=>tn b o (rn_innc h),tl,tr,dD,hx,p1,p2,p3.trans len,xm,l.2.2.2,r.2.2.2,
  fun h=>Bool.noConfusion h,fun h=>Bool.noConfusion h,c1,c2,fun z hz=>absurd hz List.not_mem_nil,(show gl.cnt+gr.cnt<4611686018427387904 by omega),sh,ml,mr⟩
theorem RebT.inS {K1 K2:List (Gt E (h+1))} {u v:Gt E (h+1)} (ht:RebT H P D (h+1) i g X K1 K2 u v x):
  RebIn E H P D false (cnOf H) i g (Gt.g (h+1) u) (Gt.g (h+1) v) X (Gt.X (h+1) u) (Gt.X (h+1) v) ((Gt.ps (h+1) (K1++[u,v]++K2)).map some) ((Gt.ps h u.2.2).map some) ((Gt.ps h v.2.2).map some) x∧(∀k∈u.2.2++v.2.2,Off (Gt.af h k) (rn E g)):=by
 obtain ⟨n,l,r,ol,or',olr,tn,tl,tr,dD,hi,hx,len,xm,b,sh,ml,mr⟩:=ht
 subst hi
 obtain ⟨gl,Xl,Kl⟩:=u
 obtain ⟨gr,Xr,Kr⟩:=v
 obtain ⟨p1,p2,p3⟩:=ps_at (E:=E) (h:=h+1) (K1:=K1) (K2:=K2) (tl:=(gl,Xl,Kl)) (tr:=(gr,Xr,Kr))
 have c1:gl.cnt=(Pl.inter Xl (Kl.map (Gt.L h))).length:=l.2.2.2.1
 have c2:gr.cnt=(Pl.inter Xr (Kr.map (Gt.L h))).length:=r.2.2.2.1
 have k1:Kl.length=Xl.length+1:=l.2.2.2.2.2.1
 have k2:Kr.length=Xr.length+1:=r.2.2.2.2.2.1
 have rl:∀b o,rn E gl b o→Gt.af (h+1) ((gl,Xl,Kl):Gt E (h+1)) b o:=fun b o hb=>(rn_iff.1 hb).elim .inl (fun h=>.inr (.inl h))
 have rr:∀b o,rn E gr b o→Gt.af (h+1) ((gr,Xr,Kr):Gt E (h+1)) b o:=fun b o hb=>(rn_iff.1 hb).elim .inl (fun h=>.inr (.inl h))
 have gng:∀k∈Kl++Kr,Off (Gt.af h k) (rn E g):=fun k hk b o hb hr=>(List.mem_append.1 hk).elim (fun hk=>ol b o (.inr (.inr ⟨k,hk,hb⟩)) (rn_innc hr)) (fun hk=>or' b o (.inr (.inr ⟨k,hk,hb⟩)) (rn_innc hr))
 replace b:(Pl.inter Xl (Kl.map (Gt.L h))).length+(Pl.inter Xr (Kr.map (Gt.L h))).length<4611686018427387904:=b
 refine ⟨⟨n.alone,(Gt.Good.inn l).alone,(Gt.Good.inn r).alone,fun b o h1 h2=>ol b o (rl b o h1) (rn_innc h2),fun b o h1 h2=>or' b o (rr b o h1) (rn_innc h2),fun b o h1 h2=>olr b o (rl b o h1) (rr b o h2),fun b o h=>tn b o (rn_innc h),fun b o h=>tl b o (rl b o h),fun b o h=>tr b o (rr b o h),dD,hx,p1,p2,p3.trans len,xm,l.2.2.2.2.1,r.2.2.2.2.1,
  fun _=>(show ((Gt.ps h Kl).map some).length=Xl.length+1 by simpa [Gt.ps] using k1),fun _=>(show ((Gt.ps h Kr).map some).length=Xr.length+1 by simpa [Gt.ps] using k2),?_,?_,fun z hz=>?_,(show gl.cnt+gr.cnt<4611686018427387904 by omega),sh,ml,mr⟩,gng⟩
 ·
  show gl.cnt=Xl.length+(((Gt.ps h Kl).map some).map (cnO (cnOf H))).sum
  rw [sum_os (P:=P) fun k hk=>(l.2.2.2.2.2.2.1 k hk).1,c1,Pl.inter_length _ _ (by rw [List.length_map];exact k1)]
 ·
  show gr.cnt=Xr.length+(((Gt.ps h Kr).map some).map (cnO (cnOf H))).sum
  rw [sum_os (P:=P) fun k hk=>(r.2.2.2.2.2.2.1 k hk).1,c2,Pl.inter_length _ _ (by rw [List.length_map];exact k2)]
 ·
  have hz':∃k∈Kl++Kr,z=some (Gt.p h k):=by
   simp only [Gt.ps,List.mem_append,List.mem_map] at hz ⊢
   rcases hz with ⟨_,⟨k,hk,rfl⟩,rfl⟩|⟨_,⟨k,hk,rfl⟩,rfl⟩
   · exact ⟨k,.inl hk,rfl⟩
   · exact ⟨k,.inr hk,rfl⟩
  obtain ⟨k,hk,rfl⟩:=hz'
  have hgk:Gt.Good H P h k∧Off (Gt.af h k) (rn E gl)∧Off (Gt.af h k) (rn E gr):=by
   rcases List.mem_append.1 hk with hk|hk
   ·
    obtain ⟨q1,_,q3⟩:=l.2.2.2.2.2.2.1 k hk
    exact ⟨q1,fun b o hb hr=>(rn_iff.1 hr).elim (q3 b o hb).1 (q3 b o hb).2,fun b o hb hr=>olr b o (.inr (.inr ⟨k,hk,hb⟩)) (rr b o hr)⟩
   ·
    obtain ⟨q1,_,q3⟩:=r.2.2.2.2.2.2.1 k hk
    exact ⟨q1,fun b o hb hr=>olr b o (rl b o hr) (.inr (.inr ⟨k,hk,hb⟩)),fun b o hb hr=>(rn_iff.1 hr).elim (q3 b o hb).1 (q3 b o hb).2⟩
  have hp:Gt.af h k (Gt.p h k) 1:=Gt.af_p (by omega)
  exact ⟨Gt.p h k,rfl,(hgk.1.cnOf).1,gng k hk _ _ hp,hgk.2.1 _ _ hp,hgk.2.2 _ _ hp⟩
end
theorem RebT.fin0 {H H':Mem} {P:Ps} {D:Nat→Prop} {i:Nat} {g:Ng} {X:List α} {x:α} (h1:1≤P.mn) {K1 K2:List (Gt E 0)} {u v:Gt E 0} {cn:Nat→Nat} (ht:RebT H P D 0 i g X K1 K2 u v x)
  (ho:RebOut E H H' P true cn i g (Gt.g 0 u) (Gt.g 0 v) X (Gt.X 0 u) (Gt.X 0 v) ((Gt.ps 0 (K1++[u,v]++K2)).map some) [] [] x):
  ∃(g':Ng) (X':List α) (K':List (Gt E 0)),g'.p=g.p∧g'.cnt=g.cnt∧Fr (fun b o=>innc 0 g (K1++K2) b o∨(Gt.af 0 u b o∨Gt.af 0 v b o)) H H'∧Inn H' P 0 g' X' ((Gt.ps 0 K').map some) K'∧K'.length=X'.length+1∧
   Pl.inter X' (K'.map (Gt.L 0))=Pl.inter X ((K1++[u,v]++K2).map (Gt.L 0))∧X'.length≤P.mx∧X.length≤X'.length+1∧Gro H (fun b o=>innc 0 g (K1++K2) b o∨(Gt.af 0 u b o∨Gt.af 0 v b o)) (innc 0 g' K')∧RebS P 0 i X K1 K2 u v x ((g',X',K'):Gt E 1):=
 reb_fin ht.n ht.hi ht.x ht.len ht.xm (fun b o hb=>hb.elim (ht.ol b o) (ht.or' b o)) (reb_leaf h1 (ht.in0 cn) ho ⟨ht.l.2.2.1,ht.r.2.2.1⟩)
theorem RebT.finS {H H':Mem} {P:Ps} {D:Nat→Prop} {h i:Nat} {g:Ng} {X:List α} {x:α} (h1:1≤P.mn) {K1 K2:List (Gt E (h+1))} {u v:Gt E (h+1)} (ht:RebT H P D (h+1) i g X K1 K2 u v x)
  (ho:RebOut E H H' P false (cnOf H) i g (Gt.g (h+1) u) (Gt.g (h+1) v) X (Gt.X (h+1) u) (Gt.X (h+1) v) ((Gt.ps (h+1) (K1++[u,v]++K2)).map some) ((Gt.ps h u.2.2).map some) ((Gt.ps h v.2.2).map some) x):
  ∃(g':Ng) (X':List α) (K':List (Gt E (h+1))),g'.p=g.p∧g'.cnt=g.cnt∧Fr (fun b o=>innc (h+1) g (K1++K2) b o∨(Gt.af (h+1) u b o∨Gt.af (h+1) v b o)) H H'∧Inn H' P (h+1) g' X' ((Gt.ps (h+1) K').map some) K'∧K'.length=X'.length+1∧
   Pl.inter X' (K'.map (Gt.L (h+1)))=Pl.inter X ((K1++[u,v]++K2).map (Gt.L (h+1)))∧X'.length≤P.mx∧X.length≤X'.length+1∧
   Gro H (fun b o=>innc (h+1) g (K1++K2) b o∨(Gt.af (h+1) u b o∨Gt.af (h+1) v b o)) (innc (h+1) g' K')∧RebS P (h+1) i X K1 K2 u v x ((g',X',K'):Gt E (h+1+1)):=
 reb_fin ht.n ht.hi ht.x ht.len ht.xm (fun b o hb=>hb.elim (ht.ol b o) (ht.or' b o)) (reb_inner h1 ht.l ht.r ht.olr (ht.inS).2 (ht.inS).1 ho)
variable {α:Type} {E:Elt α}
def Inf (Q:α→List α→Prop):Prop:=∀y l a z b c,Q y l→y::l=a++z::b++c→Q z b
def Lo (O:Pl.Swo α) (x:α) (Q:α→List α→Prop) (y:α) (l:List α):Prop:=O.lt y x=true∨Q y l
def SegD (O:Pl.Swo α) (mx:Bool) (x:α) (h:Nat) (t t':Gt E h):Prop:=mx=false→∀Q,Inf Q→Gt.Seg (Lo O x Q) h t→Gt.Seg (Lo O x Q) h t'
def SegK (h i:Nat) (X:List α) (K1:List (Gt E h)) (k:Gt E h) (K2:List (Gt E h)) (R:α→List α→Prop):Prop:=
 SegN R X ((K1++[k]++K2).map (Gt.L h))∧(∀m∈K1++[k]++K2,Gt.Seg R h m)∧(∀j,j<i→∀z,X[j]?=some z→∀l,R z l)∧(∀m∈K1,∀w∈Gt.L h m,∀l,R w l)∧∀z m,X[i]?=some z→K2[0]?=some m→AllP R (z::Gt.L h m)
def SegM (O:Pl.Swo α) (mx:Bool) (x:α) (h:Nat) (X:List α) (K:List (Gt E h)) (i:Nat) (X1:List α) (k':Gt E h):Prop:=
 mx=false→∀Q,Inf Q→SegN (Lo O x Q) X (K.map (Gt.L h))→(∀k∈K,Gt.Seg (Lo O x Q) h k)→SegK h i X1 (K.take i) k' (K.drop (i+1)) (Lo O x Q)
def RebK (h i:Nat) (X:List α) (K1:List (Gt E h)) (k:Gt E h) (K2:List (Gt E h)) (t':Gt E (h+1)):Prop:=∀R,SegK h i X K1 k K2 R→Gt.Seg R (h+1) t'
theorem SegM.fin {O:Pl.Swo α} {mx:Bool} {x:α} {h i:Nat} {g g':Ng} {X X1 X':List α} {K K':List (Gt E h)} {k':Gt E h} (hm:SegM O mx x h X K i X1 k') (hr:RebK h i X1 (K.take i) k' (K.drop (i+1)) ((g',X',K'):Gt E (h+1))):SegD O mx x (h+1) ((g,X,K):Gt E (h+1)) ((g',X',K'):Gt E (h+1)):=
 fun e Q hQ hs=>hr _ (hm e Q hQ hs.1 hs.2)
theorem RebK.same {h i:Nat} {g':Ng} {X:List α} {K1 K2:List (Gt E h)} {k:Gt E h}:RebK h i X K1 k K2 ((g',X,K1++[k]++K2):Gt E (h+1)):=fun _ hk=>⟨hk.1,hk.2.1⟩
theorem RebK.last {P:Ps} {h i:Nat} {X:List α} {K1:List (Gt E h)} {u k:Gt E h} {x:α} {t':Gt E (h+1)} (hi:K1.length+1=i) (hx:X[K1.length]?=some x) (hs:(Gt.X h k).length<P.mn) (hr:RebS P h K1.length X K1 [] u k x t'):RebK h i X (K1++[u]) k [] t':=by
 rintro R ⟨h1,h2,h3,h4,h5⟩
 have e:K1++[u]++[k]++[]=K1++[u,k]++[]:=by simp
 rw [e] at h1 h2
 refine hr R ⟨h2 u (by simp),h2 k (by simp),.inr ⟨fun w hw l=>?_,hs⟩⟩ (fun j hj z hz=>h3 j (by omega) z hz) h1 (fun m hm=>h2 m (by simp at hm ⊢;exact .inl hm))
 rcases List.mem_append.1 hw with hw|hw
 · exact h4 u (by simp) w hw l
 ·
  rw [List.mem_singleton] at hw;subst hw
  exact h3 K1.length (by omega) w hx l
theorem RebK.more {P:Ps} {h i:Nat} {X:List α} {K1 K2:List (Gt E h)} {k v:Gt E h} {x:α} {t':Gt E (h+1)} (hi:K1.length=i) (hx:X[K1.length]?=some x) (hs:(Gt.X h k).length<P.mn) (hr:RebS P h K1.length X K1 K2 k v x t'):RebK h i X K1 k (v::K2) t':=by
 rintro R ⟨h1,h2,h3,h4,h5⟩
 subst hi
 have e:K1++[k]++v::K2=K1++[k,v]++K2:=by simp
 rw [e] at h1 h2
 exact hr R ⟨h2 k (by simp),h2 v (by simp),.inl ⟨h5 x v hx rfl,hs⟩⟩ h3 h1 (fun m hm=>h2 m (by simp at hm ⊢;rcases hm with hm|hm;exact .inl hm;exact .inr (.inr (.inr hm))))
theorem Lo.all {O:Pl.Swo α} {x:α} {Q:α→List α→Prop} (hQ:Inf Q) {z:α} {l:List α} (h:Lo O x Q z l) (hz:O.lt z x=false):AllP (Lo O x Q) (z::l):=fun a w b c e=>by
 rcases h with h|h
 · rw [hz] at h;cases h
 · exact .inr (hQ _ _ _ _ _ _ h e)
namespace Pl
theorem pos_before (O:Swo α) {x z:α} {l:List α} {j:Nat} (hj:j<pos O x l) (hz:l[j]?=some z):O.lt z x=true:=
 (pos_split O x l).1 z (List.mem_of_getElem? (i:=j) (by rw [List.getElem?_take_of_lt hj];exact hz))
theorem pos_at (O:Swo α) {x z:α} {l:List α} (hz:l[pos O x l]?=some z):O.lt z x=false:=(pos_split O x l).2 z (by rw [List.head?_drop];exact hz)
theorem kids_low {O:Swo α} {X:List α} {K:List (List α)} (hs:Srt O (inter X K)) (hl:K.length=X.length+1):∀{i j:Nat} {z:α} {m:List α},X[i]?=some z→j≤i→K[j]?=some m→∀w∈m,O.lt w z=true:=by
 intro i j z m hz hj hm w hw
 have hil:=(List.getElem?_eq_some_iff.1 hz).1
 have hspX:X=X.take i++z::X.drop (i+1):=by rw [←(List.getElem?_eq_some_iff.1 hz).2,List.getElem_cons_drop,List.take_append_drop]
 have e:inter X K=inter (X.take i) (K.take (i+1))++z::inter (X.drop (i+1)) (K.drop (i+1)):=by
  rw [←inter_item _ _ _ _ _ (by rw [List.length_take,List.length_take];omega),←hspX,List.take_append_drop]
 rw [e,Srt.append] at hs
 have hlt:(K.take (i+1)).length=(X.take i).length+1:=by rw [List.length_take,List.length_take];omega
 have hm':(K.take (i+1))[j]?=some m:=by rw [List.getElem?_take_of_lt (by omega)];exact hm
 have e2:=inter_self hlt hm'
 refine hs.2.2 w ?_ z List.mem_cons_self
 rw [e2];simp [hw]
end Pl
theorem SegM.base {O:Pl.Swo α} {mx:Bool} {x:α} {h i:Nat} {X X1:List α} {K:List (Gt E h)} {k' k:Gt E h} (hs:Pl.Srt O (Pl.inter X (K.map (Gt.L h)))) (hKl:K.length=X.length+1) (hkk:K[i]?=some k)
  (hX:∀j,j≠i→X1[j]?=X[j]?) (hlo:∀j,j<i→∀z,X[j]?=some z→O.lt z x=true)
  (hkk':mx=false→∀Q,Inf Q→Gt.Seg (Lo O x Q) h k→Gt.Seg (Lo O x Q) h k')
  (hi:∀z,X1[i]?=some z→(O.lt z x=true∧∃z',X[i]?=some z'∧O.lt z' x=false)∨(X[i]?=some z∧O.lt z x=false)):SegM O mx x h X K i X1 k':=by
 intro e Q hQ h1 h2
 have hil:i<K.length:=(List.getElem?_eq_some_iff.1 hkk).1
 have lT:(K.take i).length=i:=by rw [List.length_take];omega
 have hKat:∀j,j≠i→(K.take i++[k']++K.drop (i+1))[j]?=K[j]?:=fun j hj=>by
  rcases Nat.lt_or_ge j i with h|h
  · rw [List.append_assoc,List.getElem?_append_left (by omega),List.getElem?_take_of_lt h]
  ·
   rw [List.getElem?_append_right (by simp only [List.length_append,lT,List.length_singleton];omega),List.getElem?_drop]
   congr 1;simp only [List.length_append,lT,List.length_singleton];omega
 have hmk:∀m∈K.take i++[k']++K.drop (i+1),m=k'∨m∈K:=fun m hm=>by
  simp only [List.mem_append,List.mem_singleton] at hm
  rcases hm with (hm|hm)|hm
  · exact .inr (List.mem_of_mem_take hm)
  · exact .inl hm
  · exact .inr (List.mem_of_mem_drop hm)
 refine ⟨fun j z m hz hm=>?_,fun m hm=>(hmk m hm).elim (fun e'=>by rw [e'];exact hkk' e Q hQ (h2 k (List.mem_of_getElem? hkk))) (h2 m),fun j hj z hz l=>?_,fun m hm w hw l=>?_,fun z m hz hm=>?_⟩
 ·
  rw [List.getElem?_map] at hm
  by_cases hj:j+1=i
  ·
   rw [hX j (by omega)] at hz
   exact .inl (hlo j (by omega) z hz)
  ·
   rw [hKat _ hj] at hm
   have hm':(K.map (Gt.L h))[j+1]?=some m:=by rw [List.getElem?_map];exact hm
   by_cases hji:j=i
   ·
    subst hji
    rcases hi z hz with ⟨h3,_⟩|⟨h3,_⟩
    · exact .inl h3
    · exact h1 j z m h3 hm'
   ·
    rw [hX j hji] at hz
    exact h1 j z m hz hm'
 ·
  rw [hX j (by omega)] at hz
  exact .inl (hlo j hj z hz)
 ·
  obtain ⟨j,hj⟩:=List.mem_iff_getElem?.1 hm
  have hji:j<i:=by have:=(List.getElem?_eq_some_iff.1 hj).1;omega
  rw [List.getElem?_take_of_lt hji] at hj
  obtain ⟨z,hz⟩:∃z,X[j]?=some z:=⟨X[j]'(by omega),List.getElem?_eq_getElem (by omega)⟩
  exact .inl (O.trans (Pl.kids_low hs (by rw [List.length_map];exact hKl) hz (Nat.le_refl _) (by rw [List.getElem?_map,hj];rfl) w hw) (hlo j hji z hz))
 ·
  rw [List.getElem?_drop,Nat.add_zero] at hm
  have hm':(K.map (Gt.L h))[i+1]?=some (Gt.L h m):=by rw [List.getElem?_map,hm];rfl
  rcases hi z hz with ⟨h3,z',h4,h5⟩|⟨h3,h4⟩
  ·
   refine AllP.cons (fun b=>.inl h3) ?_
   have:=Lo.all hQ (h1 i z' _ h4 hm') h5
   exact this.part (a:=[z']) (c:=[]) (by simp)
  · exact Lo.all hQ (h1 i z _ h3 hm') h4
theorem SegM.below {O:Pl.Swo α} {x:α} {h i:Nat} {X:List α} {K:List (Gt E h)} {k' k:Gt E h} (hs:Pl.Srt O (Pl.inter X (K.map (Gt.L h)))) (hKl:K.length=X.length+1) (hsX:Pl.Srt O X) (hpi:Pl.pos O x X=i) (hkk:K[i]?=some k) (hd:SegD O false x h k k'):SegM O false x h X K i X k':=by
 subst hpi
 refine SegM.base hs hKl hkk (fun _ _=>rfl) (fun j hj z hz=>Pl.pos_before O hj hz) hd fun z hz=>.inr ⟨hz,?_⟩
 exact Pl.pos_at O hz
theorem SegM.here {H':Mem} {P:Ps} {O:Pl.Swo α} {mx:Bool} {x y z:α} {h i:Nat} {X X1:List α} {K:List (Gt E h)} {k' k:Gt E h} (hs:Pl.Srt O (Pl.inter X (K.map (Gt.L h)))) (hKl:K.length=X.length+1) (hsX:Pl.Srt O X) (hpi:Pl.pos O x X=i) (hkk:K[i]?=some k) (hz:X[i]?=some z)
  (hzx:O.lt z x=false) (hxz:O.lt x z=false) (hLk:Gt.L h k=Gt.L h k'++[y]) (hg:Gt.Good H' P h k') (e1:X1=X.take i++y::X.drop (i+1)):SegM O mx x h X K i X1 k':=by
 subst hpi e1
 have hil:=(List.getElem?_eq_some_iff.1 hz).1
 have hlow:∀w∈Gt.L h k,O.lt w x=true:=fun w hw=>by
  have h1:=Pl.kids_low hs (by rw [List.length_map];exact hKl) hz (Nat.le_refl _) (by rw [List.getElem?_map,hkk];rfl) w hw
  cases h2:O.lt w x with
  | true=>rfl
  | false=>rw [O.ntr h2 hxz] at h1;cases h1
 have lT:(X.take (Pl.pos O x X)).length=Pl.pos O x X:=by rw [List.length_take];omega
 refine SegM.base hs hKl hkk (fun j hj=>?_) (fun j hj z hz=>Pl.pos_before O hj hz) (fun _ Q _ _=>Gt.Seg.of_low hg fun w hw l=>.inl (hlow w (by rw [hLk];simp [hw]))) fun w hw=>.inl ⟨?_,z,hz,hzx⟩
 ·
  rcases Nat.lt_or_ge j (Pl.pos O x X) with h1|h1
  · rw [List.getElem?_append_left (by omega),List.getElem?_take_of_lt h1]
  ·
   rw [List.getElem?_append_right (by omega),lT,show j-Pl.pos O x X=(j-Pl.pos O x X-1)+1 by omega,List.getElem?_cons_succ,List.getElem?_drop]
   congr 1;omega
 ·
  rw [List.getElem?_append_right (by omega),lT,Nat.sub_self,List.getElem?_cons_zero,Option.some.injEq] at hw
  subst hw
  exact hlow y (by rw [hLk];simp)
structure DelT (H H':Mem) (P:Ps) (h:Nat) (t t':Gt E h) (L':List α) (SD:Prop):Prop where
 fr:Fr (Gt.af h t) H H'
 g:Gt.Good H' P h t'
 p:Gt.p h t'=Gt.p h t
 a:Gro H (Gt.af h t) (Gt.af h t')
 l:Gt.L h t'=L'
 x:(Gt.X h t).length≤(Gt.X h t').length+1
 sd:SD
namespace Pl
def dlr {α:Type} (O:Swo α) (mx:Bool) (x:α) (L:List α):Option (α×List α):=match mx with
 | true=>L.getLast?.map fun y=>(y,L.dropLast)
 | false=>(got O x L).map fun y=>(y,del O x L)
def Sel {α:Type} (O:Swo α) (mx:Bool) (x:α) (X:List α) (s:Nat×Bool):Prop:=(s.2=true→s.1<X.length)∧s.1≤X.length∧(mx=true→s=(X.length-1,true))∧(mx=false→s=(pos O x X,fnd O x X))
theorem sel_max {α:Type} (O:Swo α) (x:α) {X:List α} (h:1≤X.length):Sel O true x X (X.length-1,true):=⟨fun _=>by simp only;omega,by simp only;omega,fun _=>rfl,fun h=>Bool.noConfusion h⟩
theorem sel_key {α:Type} (O:Swo α) (x:α) (X:List α):Sel O false x X (pos O x X,fnd O x X):=⟨fun h=>fnd_pos_lt O h,pos_le O x X,fun h=>Bool.noConfusion h,fun _=>rfl⟩
theorem dlr_leaf {α:Type} (O:Swo α) {mx:Bool} {x y:α} {X:List α} {i:Nat} (hs:Sel O mx x X (i,true)) (hy:X[i]?=some y):dlr O mx x X=some (y,X.take i++X.drop (i+1)):=by
 obtain ⟨h1,_,h2,h3⟩:=hs
 have hi:=h1 rfl
 simp only at hi
 cases mx with
 | true=>
  have h4:=congrArg Prod.fst (h2 rfl)
  simp only at h4
  have:X.getLast?=some y:=by rw [List.getLast?_eq_getElem?,←h4,hy]
  simp only [dlr,this,Option.map_some,Option.some.injEq,Prod.mk.injEq,true_and]
  rw [List.dropLast_eq_take,h4,List.drop_of_length_le (by omega),List.append_nil]
 | false=>
  have h4:=h3 rfl
  have e1:i=pos O x X:=congrArg Prod.fst h4
  have e2:true=fnd O x X:=congrArg Prod.snd h4
  simp only [dlr]
  rw [got_some O e2.symm,←e1,hy]
  simp only [Option.map_some,Option.some.injEq,Prod.mk.injEq,true_and]
  unfold del
  rw [←e2,←e1];rfl
theorem dlr_none {α:Type} (O:Swo α) {mx:Bool} {x:α} {X:List α} {i:Nat} (hs:Sel O mx x X (i,false)):dlr O mx x X=none:=by
 obtain ⟨_,_,h2,h3⟩:=hs
 cases mx with
 | true=>have:=congrArg Prod.snd (h2 rfl);cases this
 | false=>
  have e2:false=fnd O x X:=congrArg Prod.snd (h3 rfl)
  simp only [dlr]
  rw [got_none O e2.symm];rfl
end Pl
structure DMid (H H':Mem) (P:Ps) (h:Nat) (g:Ng) (X:List α) (K:List (Gt E h)) (i:Nat) (X1:List α) (k':Gt E h) (L':List α) (SM:Prop):Prop where
 n:Inn H' P h g X1 ((Gt.ps h K).map some) (K.take i++K.drop (i+1))
 k:Gt.Good H' P h k'
 p:∃k,K[i]?=some k∧Gt.p h k'=Gt.p h k∧Gro H (Gt.af h k) (Gt.af h k')
 mn:P.mn≤(Gt.X h k').length+1
 l:Pl.inter X1 ((K.take i++[k']++K.drop (i+1)).map (Gt.L h))=L'
 len:X1.length=X.length
 fr:Fr (Gt.af (h+1) ((g,X,K):Gt E (h+1))) H H'
 sm:SM
theorem Gt.Good.ne {H:Mem} {P:Ps}:∀{h:Nat} {t:Gt E h},Gt.Good H P h t→1≤(Gt.X h t).length→1≤(Gt.L h t).length
 | 0,_,_,hx=>hx
 | _+1,t,hg,hx=>by
  have:(Gt.L _ t).length=_:=Pl.inter_length t.2.1 (t.2.2.map (Gt.L _)) (by rw [List.length_map];exact hg.2.2.2.2.2.1)
  rw [this]
  exact Nat.le_trans hx (Nat.le_add_right _ _)
section
variable {H H':Mem} {P:Ps} {h:Nat} {g:Ng} {X:List α} {os:List (Option Nat)} {K:List (Gt E h)} {i:Nat} {k k':Gt E h}
theorem kid_split (hk:K[i]?=some k):K=K.take i++[k]++K.drop (i+1):=by
 obtain ⟨h1,h2⟩:=List.getElem?_eq_some_iff.1 hk
 rw [List.append_assoc,List.singleton_append,←h2,List.getElem_cons_drop,List.take_append_drop]
theorem kid_off (hI:Inn H P h g X os K) (hk:K[i]?=some k):Off (Gt.af h k) (innc h g (K.take i++K.drop (i+1))):=fun b o hb hn=>by
 have hs:=kid_split hk
 have hc:=hI.c
 obtain ⟨h1,h2⟩:=hc
 have hkK:k∈K:=List.mem_of_getElem? hk
 rcases hn with hn|hn|⟨m,hm,hn⟩
 · exact (h1 k hkK).2.2 b o hb |>.1 hn
 · exact (h1 k hkK).2.2 b o hb |>.2 hn
 ·
  rw [hs,List.append_assoc,List.pairwise_append,List.singleton_append,List.pairwise_cons] at h2
  obtain ⟨_,⟨p2,_⟩,p3⟩:=h2
  rcases List.mem_append.1 hm with hm|hm
  · exact p3 m hm k List.mem_cons_self b o hn hb
  · exact p2 m hm b o hb hn
theorem kid_sub (hk:K[i]?=some k):(K.take i++K.drop (i+1)).Sublist K:=by
 conv=>rhs;rw [kid_split hk]
 rw [List.append_assoc]
 exact List.Sublist.append_left (List.sublist_append_right _ _) _
theorem Inn.kid (hI:Inn H P h g X os K) (hk:K[i]?=some k) (hf:Fr (Gt.af h k) H H'):Inn H' P h g X os (K.take i++K.drop (i+1)):=
 (hI.sub (kid_sub hk)).fr hf fun b o hb hz=>kid_off hI hk b o hz hb
theorem DMid.pk {X1 L':List α} {SM:Prop} (d:DMid H H' P h g X K i X1 k' L' SM):(Gt.ps h K).map some=(Gt.ps h (K.take i++[k']++K.drop (i+1))).map some:=by
 obtain ⟨k,hk,hp,_⟩:=d.p
 conv=>lhs;rw [kid_split hk]
 simp [Gt.ps,hp]
theorem DMid.off {X1 L':List α} {SM:Prop} (d:DMid H H' P h g X K i X1 k' L' SM) (hI:Inn H P h g X os K):Off (Gt.af h k') (innc h g (K.take i++K.drop (i+1))):=by
 obtain ⟨k,hk,hp,hg⟩:=d.p
 exact (hg.off (kid_off hI hk).symm fun b o hb=>hI.lt (innc_sub (fun m hm=>(List.mem_append.1 hm).elim List.mem_of_mem_take List.mem_of_mem_drop) hb)).symm
theorem DMid.gro {X1 L':List α} {SM:Prop} (d:DMid H H' P h g X K i X1 k' L' SM):Gro H (Gt.af (h+1) ((g,X,K):Gt E (h+1))) (fun b o=>innc h g (K.take i++K.drop (i+1)) b o∨Gt.af h k' b o):=fun b o hb=>by
 obtain ⟨k,hk,hp,hg⟩:=d.p
 rcases hb with hb|hb
 · exact .inl (innc_sub (K:=K) (fun m hm=>(List.mem_append.1 hm).elim List.mem_of_mem_take List.mem_of_mem_drop) hb)
 · exact (hg b o hb).imp (fun h=>.inr (.inr ⟨k,List.mem_of_getElem? hk,h⟩)) id
end
namespace Pl
variable {α:Type} (O:Swo α)
theorem del_last {X:List α} {K:List (List α)} {k m:List α} {y:α} (hl:K.length=X.length+1) (hk:K[X.length]?=some k) (e:k=m++[y]):
  inter X K=inter X (K.take X.length++[m]++K.drop (X.length+1))++[y]:=by
 rw [inter_self hl hk,inter_take hl hk,e,List.drop_of_length_le (l:=X) (Nat.le_refl _)]
 simp [post]
theorem del_node {X:List α} {K:List (List α)} {k m:List α} {y x:α} {i:Nat} (hl:K.length=X.length+1) (hk:K[i]?=some k) (hx:X[i]?=some x) (e:k=m++[y]):
  inter (X.take i++y::X.drop (i+1)) (K.take i++[m]++K.drop (i+1))=inter (X.take i) (K.take (i+1))++inter (X.drop (i+1)) (K.drop (i+1)):=by
 have hi:=(List.getElem?_eq_some_iff.1 hk).1
 have hxi:=(List.getElem?_eq_some_iff.1 hx).1
 have lT:(X.take i).length=i:=by rw [List.length_take];omega
 have lK:(K.take i).length=i:=by rw [List.length_take];omega
 rw [inter_item _ _ _ _ _ (by simp only [List.length_append,List.length_cons,List.length_nil,lT,lK])]
 have h1:K.take (i+1)=K.take i++[k]:=by rw [List.take_add_one,hk];rfl
 have h2:∀z:List α,inter (X.take i) (K.take i++[z])=pre (X.take i) (K.take i)++z:=fun z=>by
  have:=inter_focus (X.take i) [] (K.take i) z [] (by rw [lT,lK]) rfl
  simpa [post] using this
 rw [h1,h2,h2,e]
 simp
end Pl
end Go.Bt
namespace Go.Bt.Pl
variable {α:Type} (O:Swo α)
theorem dlr_child {x y:α} {X:List α} {K:List (List α)} {k m:List α} {i:Nat} (hs:Srt O (inter X K)) (hl:K.length=X.length+1) (h:fnd O x X=false) (hi:pos O x X=i) (hk:K[i]?=some k) (hd:dlr O false x k=some (y,m)):
  dlr O false x (inter X K)=some (y,inter X (K.take i++[m]++K.drop (i+1))):=by
 subst hi
 obtain ⟨e,h1,h2,h3⟩:=inter_child O hs hl h hk
 simp only [dlr,Option.map_eq_some_iff,Prod.mk.injEq] at hd ⊢
 obtain ⟨z,hz,rfl,hm⟩:=hd
 refine ⟨z,?_,rfl,?_⟩
 · rw [e,got_mid O h1 h2];exact hz
 · rw [List.append_assoc,List.singleton_append,h3,e,del_mid O h1 h2,hm]
theorem dlr_none_child {x:α} {X:List α} {K:List (List α)} {k:List α} (hs:Srt O (inter X K)) (hl:K.length=X.length+1) (h:fnd O x X=false) (hk:K[pos O x X]?=some k) (hd:dlr O false x k=none):dlr O false x (inter X K)=none:=by
 obtain ⟨e,h1,h2,h3⟩:=inter_child O hs hl h hk
 simp only [dlr,Option.map_eq_none_iff] at hd ⊢
 rw [e,got_mid O h1 h2];exact hd
theorem dlr_len {mx:Bool} {x y:α} {L m:List α} (hd:dlr O mx x L=some (y,m)):L.length=m.length+1:=by
 cases mx with
 | true=>
  simp only [dlr,Option.map_eq_some_iff,Prod.mk.injEq] at hd
  obtain ⟨z,hz,_,rfl⟩:=hd
  have:L≠[]:=fun e=>by rw [e] at hz;cases hz
  rw [List.length_dropLast]
  have:=List.length_pos_iff.2 this
  omega
 | false=>
  simp only [dlr,Option.map_eq_some_iff,Prod.mk.injEq] at hd
  obtain ⟨z,hz,_,rfl⟩:=hd
  have h1:=length_del O x L
  have h2:=got_isSome O x L
  rw [hz] at h2
  rw [←h2] at h1
  exact h1.symm
theorem dlr_max {x y:α} {L m:List α} (hd:dlr O true x L=some (y,m)):L=m++[y]:=by
 simp only [dlr,Option.map_eq_some_iff,Prod.mk.injEq] at hd
 obtain ⟨z,hz,rfl,rfl⟩:=hd
 have hne:L≠[]:=fun e=>by rw [e] at hz;cases hz
 rw [List.getLast?_eq_some_getLast hne] at hz
 have:=List.dropLast_concat_getLast hne
 rw [Option.some.inj hz] at this
 exact this.symm
theorem dlr_max' {x y:α} {L m:List α} (e:L=m++[y]):dlr O true x L=some (y,m):=by
 subst e
 simp [dlr]
theorem dlr_max_ne {x:α} {L:List α} (hl:1≤L.length) (hd:dlr O true x L=none):False:=by
 simp only [dlr,Option.map_eq_none_iff,List.getLast?_eq_none_iff] at hd
 subst hd
 simp at hl
theorem dlr_found {x:α} {X:List α} {K:List (List α)} {k m:List α} {y z:α} {i:Nat} (hs:Srt O (inter X K)) (hl:K.length=X.length+1) (h:fnd O x X=true) (hi:pos O x X=i) (hk:K[i]?=some k) (hx:X[i]?=some z) (e:k=m++[y]):
  dlr O false x (inter X K)=some (z,inter (X.take i++y::X.drop (i+1)) (K.take i++[m]++K.drop (i+1))):=by
 subst hi
 obtain ⟨y',hy',_,_,_,_,q2,_,_,q5⟩:=inter_found O hs hl h
 obtain rfl:y'=z:=Option.some.inj (hy'.symm.trans hx)
 simp only [dlr,q2,Option.map_some,q5,del_node hl hk hx e]
end Go.Bt.Pl
namespace Go.Bt.Pl
variable {α β:Type} {O:Swo α} {O2:Swo β} {f:α→β} (hf:∀x y,O2.lt (f x) (f y)=O.lt x y)
include hf
end Go.Bt.Pl
namespace Go.Bt.Pl
variable {α β γ:Type}
def runs (f:List α→β→List α×γ) (l:List α) (ks:List β):List α×List γ:=ks.foldl (fun s k=>((f s.1 k).1,s.2++[(f s.1 k).2])) (l,[])
end Go.Bt.Pl
namespace Go.Bt.Pl
end Go.Bt.Pl
namespace Go.Bt
open Go
variable {α:Type} {E:Elt α}
def cix (d:Bool) (n:Nat):Nat:=bif d then n-1 else 0
theorem cix_lt {d:Bool} {n:Nat} (h:0<n):cix d n<n:=by cases d<;>simp [cix]<;>omega
def Gt.sp (d:Bool):(h:Nat)→Gt E h→Nat→Prop
 | 0,t,q=>q=t.1.p
 | h+1,t,q=>q=t.1.p∨∃k,t.2.2[cix d t.2.2.length]?=some k∧Gt.sp d h k q
def Gt.lf (d:Bool):(h:Nat)→Gt E h→Ng×List α
 | 0,t=>t
 | h+1,t=>match t.2.2[cix d t.2.2.length]? with
  | some k=>Gt.lf d h k
  | none=>(t.1,[])
def Gt.ed (d:Bool) (δ:Nat→Nat) (g':Ng) (X':List α):(h:Nat)→Gt E h→Gt E h
 | 0,_=>(g',X')
 | h+1,t=>({ t.1 with cnt:=δ t.1.cnt },t.2.1,t.2.2.take (cix d t.2.2.length)++(t.2.2[cix d t.2.2.length]?.map (Gt.ed d δ g' X' h)).toList++t.2.2.drop (cix d t.2.2.length+1))
def glue (d:Bool) (X R:List α):List α:=bif d then R++X else X++R
theorem Gt.sp_p (d:Bool):∀{h:Nat} {t:Gt E h},Gt.sp d h t (Gt.p h t)
 | 0,_=>rfl
 | _+1,_=>.inl rfl
theorem Gt.sp_af {d:Bool}:∀{h:Nat} {t:Gt E h} {q:Nat},Gt.sp d h t q→∀o,o<4→Gt.af h t q o
 | 0,t,q,hq,o,ho=>.inl ⟨hq,ho⟩
 | h+1,t,q,hq,o,ho=>by
  rcases hq with rfl|⟨k,hk,hq⟩
  · exact .inl (.inl ⟨rfl,ho⟩)
  · exact .inr (.inr ⟨k,List.mem_of_getElem? hk,Gt.sp_af hq o ho⟩)
theorem Gt.lf_af {d:Bool} {H:Mem} {P:Ps}:∀{h:Nat} {t:Gt E h},Gt.Good H P h t→∀b o,ncl E (Gt.lf d h t).1 b o→Gt.af h t b o
 | 0,t,_,b,o,hb=>hb
 | h+1,t,hg,b,o,hb=>by
  unfold Gt.lf at hb
  cases hk:t.2.2[cix d t.2.2.length]? with
  | none=>rw [hk] at hb;exact .inl hb
  | some k=>
   rw [hk] at hb
   exact .inr (.inr ⟨k,List.mem_of_getElem? hk,Gt.lf_af (hg.2.2.2.2.2.2.1 k (List.mem_of_getElem? hk)).1 b o hb⟩)
theorem Gt.Good.spcn {d:Bool} {H:Mem} {P:Ps}:∀{h:Nat} {t:Gt E h},Gt.Good H P h t→∀{q:Nat},Gt.sp d h t q→cl H q 1=some (.int .i64 (Bt.cnOf H q:Int))
 | 0,t,hg,q,hq=>by subst hq;exact (hg.cnOf).1
 | h+1,t,hg,q,hq=>by
  rcases hq with rfl|⟨k,hk,hq⟩
  · exact (hg.cnOf).1
  · exact Gt.Good.spcn (hg.2.2.2.2.2.2.1 k (List.mem_of_getElem? hk)).1 hq
theorem NodeM.eqv {H H':Mem} {g:Ng} {X:List α} {kp:Value} {Z:Rg} (hn:NodeM E H g X kp) (hf:Fr Z H H') (he:∀b o,ncl E g b o→cl H' b o=cl H b o):NodeM E H' g X kp where
 c0:=(he _ _ (.inl ⟨rfl,by omega⟩)).trans hn.c0
 c1:=(he _ _ (.inl ⟨rfl,by omega⟩)).trans hn.c1
 c2:=(he _ _ (.inl ⟨rfl,by omega⟩)).trans hn.c2
 c3:=(he _ _ (.inl ⟨rfl,by omega⟩)).trans hn.c3
 wr:=hf.wr hn.wr
 sl:=⟨hn.sl.hlen,hn.sl.hle,fun i v hv=>by
  have hi:=(List.getElem?_eq_some_iff.1 hv).1
  rw [hn.sl.hlen] at hi
  have h3:=Nat.mul_le_mul_right E.s hn.sl.hle
  exact (he _ _ (.inr ⟨rfl,by omega,by omega⟩)).trans (hn.sl.rd i v hv),hf.wr hn.sl.wr⟩
 ic:=hn.ic
 ne:=hn.ne
theorem KidM.eqv {H H':Mem} {g:Ng} {ks:List Nat} {Z:Rg} (hk:KidM H g ks) (hf:Fr Z H H') (he:∀b o,kcl g b o→cl H' b o=cl H b o):KidM H' g ks where
 c:=(he _ _ (.inl ⟨rfl,by omega⟩)).trans hk.c
 wr:=hf.wr hk.wr
 sl:=⟨hk.sl.hlen,hk.sl.hle,fun i v hv=>by
  have hi:=(List.getElem?_eq_some_iff.1 hv).1
  rw [hk.sl.hlen] at hi
  have h3:=hk.sl.hle
  rw [show EP.s=1 from rfl] at hi
  exact (he _ _ (.inr ⟨rfl,by omega,by omega⟩)).trans (hk.sl.rd i v hv),hf.wr hk.sl.wr⟩
 kc:=hk.kc
 n1:=hk.n1
 n2:=hk.n2
 n3:=hk.n3
 n4:=hk.n4
 n5:=hk.n5
theorem Gt.Good.eqv {P:Ps} {Z:Rg} {H H':Mem} (hf:Fr Z H H'):∀{h:Nat} {t:Gt E h},Gt.Good H P h t→(∀b o,Gt.af h t b o→cl H' b o=cl H b o)→Gt.Good H' P h t
 | 0,_,⟨h1,h2⟩,he=>⟨h1.eqv hf he,h2⟩
 | h+1,_,⟨h1,h2,h3,h4,h5,h6,h7,h8⟩,he=>
  ⟨h1.eqv hf fun b o hb=>he b o (.inl hb),h2.eqv hf fun b o hb=>he b o (.inr (.inl hb)),h3,h4,h5,h6,
   fun k hk=>⟨Gt.Good.eqv hf (h7 k hk).1 fun b o hb=>he b o (.inr (.inr ⟨k,hk,hb⟩)),(h7 k hk).2⟩,h8⟩
structure Spn (H0 H:Mem) (P:Ps) (d:Bool) (δ:Nat→Nat) (h0:Nat) (t0:Gt E h0) (D:Nat→Prop) (h:Nat) (t:Gt E h):Prop where
 g:Gt.Good H0 P h t
 fr:Fr (fun b o=>o=1∧D b) H0 H
 val:∀q,D q→cl H q 1=some (.int .i64 (δ (Bt.cnOf H0 q):Int))
 off:∀q,D q→¬Gt.af h t q 1
 all:∀q,Gt.sp d h0 t0 q↔D q∨Gt.sp d h t q
 lf:Gt.lf d h t=Gt.lf d h0 t0
 sub:∀b o,Gt.af h t b o→Gt.af h0 t0 b o
 x1:1≤(Gt.X h t).length
 le:(Gt.L h t).length≤(Gt.L h0 t0).length
 mn:h<h0→P.mn≤(Gt.X h t).length
theorem kid_le {h:Nat} {t:Gt E (h+1)} (hl:t.2.2.length=t.2.1.length+1) {k:Gt E h} (hk:k∈t.2.2):(Gt.L h k).length≤(Gt.L (h+1) t).length:=by
 have h1:(Gt.L (h+1) t).length=_:=Pl.inter_length t.2.1 (t.2.2.map (Gt.L h)) (by rw [List.length_map];exact hl)
 have h2:(Gt.L h k).length≤((t.2.2.map (Gt.L h)).map List.length).sum:=sum_mem List.length (List.mem_map.2 ⟨k,hk,rfl⟩)
 omega
theorem Spn.start {H:Mem} {P:Ps} {d:Bool} {δ:Nat→Nat} {h:Nat} {t:Gt E h} (hg:Gt.Good H P h t) (hx:1≤(Gt.X h t).length):Spn H H P d δ h t (fun _=>False) h t:=
 ⟨hg,Fr.refl _ _,fun _ h=>h.elim,fun _ h=>h.elim,fun q=>⟨.inr,fun h=>h.elim (fun h=>h.elim) id⟩,rfl,fun _ _ h=>h,hx,Nat.le_refl _,fun h=>absurd h (Nat.lt_irrefl _)⟩
section
variable {H0 H H':Mem} {P:Ps} {d:Bool} {δ:Nat→Nat} {h0 h:Nat} {t0:Gt E h0} {D:Nat→Prop}
theorem Spn.now {t:Gt E h} (s:Spn H0 H P d δ h0 t0 D h t):Gt.Good H P h t:=s.g.fr s.fr fun b o hb hz=>s.off b hz.2 (hz.1▸hb)
theorem Spn.cnt {t:Gt E h} (s:Spn H0 H P d δ h0 t0 D h t):cl H (Gt.p h t) 1=some (.int .i64 (Bt.cnOf H0 (Gt.p h t):Int)):=
 s.fr.keep (s.g.cnOf).1 fun hz=>s.off _ hz.2 (Gt.af_p (by omega))
theorem Spn.step {t:Gt E (h+1)} {k:Gt E h} (h1:1≤P.mn) (s:Spn H0 H P d δ h0 t0 D (h+1) t) (hk:t.2.2[cix d t.2.2.length]?=some k) (W:Wrote H H' t.1.p 1 [.int .i64 (δ (Bt.cnOf H0 t.1.p):Int)]):
  Spn H0 H' P d δ h0 t0 (fun q=>D q∨q=t.1.p) h k:=by
 obtain ⟨q1,q2,q3⟩:=s.g.2.2.2.2.2.2.1 k (List.mem_of_getElem? hk)
 have hD:∀q,D q→q≠t.1.p:=fun q hq e=>s.off q hq (by rw [e];exact Gt.af_p (t:=t) (by omega))
 refine ⟨q1,s.fr.trans' W.fr (fun b o _ hz=>⟨hz.1,.inl hz.2⟩) (fun b o _ hz=>?_),fun q hq=>?_,fun q hq hb=>?_,fun q=>?_,?_,fun b o hb=>s.sub b o (.inr (.inr ⟨k,List.mem_of_getElem? hk,hb⟩)),Nat.le_trans h1 q2,Nat.le_trans (kid_le s.g.2.2.2.2.2.1 (List.mem_of_getElem? hk)) s.le,fun _=>q2⟩
 ·
  have h1:=hz.1;have h2:=hz.2.1;have h3:=hz.2.2
  simp only [List.length_cons,List.length_nil] at h3
  exact ⟨by omega,.inr h1⟩
 ·
  rcases hq with hq|rfl
  · exact W.fr.keep (s.val q hq) (nr (.inl (hD q hq)))
  · exact W.at
 ·
  rcases hq with hq|rfl
  · exact s.off q hq (.inr (.inr ⟨k,List.mem_of_getElem? hk,hb⟩))
  · exact (q3 _ _ hb).1 (.inl ⟨rfl,by omega⟩)
 ·
  rw [s.all q]
  constructor
  ·
   rintro (hq|hq)
   · exact .inl (.inl hq)
   ·
    rcases hq with rfl|⟨k',hk',hq⟩
    · exact .inl (.inr rfl)
    · rw [hk] at hk';cases hk';exact .inr hq
  ·
   rintro ((hq|rfl)|hq)
   · exact .inl hq
   · exact .inr (.inl rfl)
   · exact .inr (.inr ⟨k,hk,hq⟩)
 ·
  rw [←s.lf]
  show _=(match t.2.2[cix d t.2.2.length]? with
   | some k=>Gt.lf d h k
   | none=>(t.1,[]))
  rw [hk]
end
theorem glue_len (d:Bool) (X R:List α):(glue d X R).length=X.length+R.length:=by cases d<;>simp [glue]<;>omega
theorem glue_up {d:Bool} {X:List α} {K:List (List α)} {k k' A A' R:List α} (hl:K.length=X.length+1) (hk:K[cix d K.length]?=some k) (e:k=glue d A R) (e':k'=glue d A' R):
  ∃R',Pl.inter X K=glue d A R'∧Pl.inter X (K.take (cix d K.length)++[k']++K.drop (cix d K.length+1))=glue d A' R':=by
 rw [Pl.inter_self hl hk,Pl.inter_take hl hk]
 cases d with
 | true=>
  have hc:cix true K.length=X.length:=by simp [cix];omega
  rw [hc,e,e']
  refine ⟨Pl.pre (X.take X.length) (K.take X.length)++R,?_,?_⟩<;>simp [glue,List.drop_of_length_le,Pl.post]
 | false=>
  have hc:cix false K.length=0:=rfl
  rw [hc,e,e']
  refine ⟨R++Pl.post X (K.drop 1),?_,?_⟩<;>simp [glue,Pl.pre]
theorem Gt.Good.edit {H H':Mem} {P:Ps} {d:Bool} {δ:Nat→Nat} {g':Ng} {X':List α} {Z:Rg} (hf:Fr Z H H') (hn:NodeM E H' g' X' (.pointer none)) (e2:g'.iso=P.iso) (e3:g'.cnt=X'.length) (hm:X'.length≤P.mx):
  ∀{h:Nat} {t:Gt E h},Gt.Good H P h t→(∀b o,Gt.af h t b o→Z b o→(o=1∧Gt.sp d h t b)∨ncl E (Gt.lf d h t).1 b o)→(∀q,Gt.sp d h t q→q≠(Gt.lf d h t).1.p→cl H' q 1=some (.int .i64 (δ (Bt.cnOf H q):Int)))→
  g'.p=(Gt.lf d h t).1.p→(1≤h→P.mn≤X'.length)→Gro H (ncl E (Gt.lf d h t).1) (ncl E g')→(∀n,(Gt.lf d h t).2.length≤n→δ n+(Gt.lf d h t).2.length=n+X'.length)→
  Gt.Good H' P h (Gt.ed d δ g' X' h t)∧Gt.p h (Gt.ed d δ g' X' h t)=Gt.p h t∧Gro H (Gt.af h t) (Gt.af h (Gt.ed d δ g' X' h t))∧(∃R,Gt.L h t=glue d (Gt.lf d h t).2 R∧Gt.L h (Gt.ed d δ g' X' h t)=glue d X' R)∧
   (0<h→Gt.X h (Gt.ed d δ g' X' h t)=Gt.X h t)∧(h=0→Gt.X h (Gt.ed d δ g' X' h t)=X')
 | 0,(g,X),hg,hz,hv,e1,hmn,hgro,hδ=>⟨⟨hn,e2,e3,hm⟩,e1,hgro,⟨[],by cases d<;>simp [glue]<;>rfl,by cases d<;>simp [glue]<;>rfl⟩,fun h=>absurd h (by omega),fun _=>rfl⟩
 | h+1,(g,X,K),hg,hz,hv,e1,hmn,hgro,hδ=>by
  obtain ⟨hN,hK,hiso,hcnt,hxm,hKl,hkids,hpw⟩:=hg
  replace hKl:K.length=X.length+1:=hKl
  obtain ⟨k,hk⟩:∃k,K[cix d K.length]?=some k:=⟨K[cix d K.length]'(cix_lt (by omega)),List.getElem?_eq_getElem (cix_lt (by omega))⟩
  have hkK:=List.mem_of_getElem? hk
  obtain ⟨q1,q2,q3⟩:=hkids k hkK
  replace hN:NodeM E H g X (.pointer (some ⟨g.cb,0,none⟩)):=hN
  replace q3:∀b o,Gt.af h k b o→¬ncl E g b o∧¬kcl g b o:=q3
  have elf:Gt.lf d (h+1) ((g,X,K):Gt E (h+1))=Gt.lf d h k:=by
   show (match K[cix d K.length]? with
    | some k=>Gt.lf d h k
    | none=>(g,[]))=_
   rw [hk]
  have eed:Gt.ed d δ g' X' (h+1) ((g,X,K):Gt E (h+1))=({ g with cnt:=δ g.cnt },X,K.take (cix d K.length)++[Gt.ed d δ g' X' h k]++K.drop (cix d K.length+1)):=by
   show ({ g with cnt:=δ g.cnt },X,K.take (cix d K.length)++(K[cix d K.length]?.map (Gt.ed d δ g' X' h)).toList++K.drop (cix d K.length+1))=_
   rw [hk];rfl
  rw [elf] at hz hv e1 hgro hδ
  have hlfk:=Gt.lf_af (d:=d) q1
  have spk:∀b,Gt.sp d h k b→Gt.sp d (h+1) ((g,X,K):Gt E (h+1)) b:=fun b hb=>.inr ⟨k,hk,hb⟩
  have spi:∀b,Gt.sp d (h+1) ((g,X,K):Gt E (h+1)) b→b=g.p∨Gt.sp d h k b:=fun b hb=>by
   rcases hb with hb|⟨k',hk',hb⟩
   · exact .inl hb
   ·
    have hk'':K[cix d K.length]?=some k':=hk'
    rw [hk] at hk'';cases hk'';exact .inr hb
  have hpk:∀o,¬Gt.af h k g.p o∨4≤o:=fun o=>by
   rcases Nat.lt_or_ge o 4 with ho|ho
   · exact .inl fun hb=>(q3 _ _ hb).1 (.inl ⟨rfl,ho⟩)
   · exact .inr ho
  have hlp:g.p≠(Gt.lf d h k).1.p:=fun e=>by
   have:=hlfk g.p 1 (.inl ⟨e,by omega⟩)
   exact (hpk 1).elim (fun h=>h this) (fun h=>by omega)
  obtain ⟨r1,r2,r3,⟨R,r4,r5⟩,r6,r7⟩:=Gt.Good.edit hf hn e2 e3 hm q1 (fun b o hb hzz=>by
    rcases hz b o (.inr (.inr ⟨k,hkK,hb⟩)) hzz with ⟨ho,hs⟩|hl
    ·
     rcases spi b hs with rfl|hs
     · subst ho;exact ((hpk 1).elim (fun h=>h hb) (fun h=>by omega)).elim
     · exact .inl ⟨ho,hs⟩
    · exact .inr hl) (fun q hq=>hv q (spk q hq)) e1 (fun _=>hmn (by omega)) hgro hδ
  rw [eed]
  have own:∀b o,(ncl E g b o∨kcl g b o)→¬(b=g.p∧o=1)→¬Z b o:=fun b o hb hne hzz=>by
   have hoff:¬Gt.af h k b o:=fun ha=>hb.elim (q3 b o ha).1 (q3 b o ha).2
   rcases hz b o (hb.elim .inl (fun h=>.inr (.inl h))) hzz with ⟨ho,hs⟩|hl
   ·
    rcases spi b hs with rfl|hs
    · exact hne ⟨rfl,ho⟩
    · exact hoff (Gt.sp_af hs o (by omega))
   · exact hoff (hlfk b o hl)
  have hv0:cl H' g.p 1=some (.int .i64 (δ g.cnt:Int)):=by
   have:=hv g.p (.inl rfl) hlp
   have e9:Bt.cnOf H g.p=g.cnt:=by
    unfold Bt.cnOf
    rw [hN.c1];exact Int.toNat_natCast _
   rw [e9] at this;exact this
  have hLk:(K.map (Gt.L h))[cix d (K.map (Gt.L h)).length]?=some (Gt.L h k):=by rw [List.length_map,List.getElem?_map,hk];rfl
  have hglue:=glue_up (X:=X) (K:=K.map (Gt.L h)) (by rw [List.length_map];exact hKl) hLk r4 r5
  rw [List.length_map] at hglue
  obtain ⟨R',g1,g2⟩:=hglue
  have hL2:Pl.inter X ((K.take (cix d K.length)++[Gt.ed d δ g' X' h k]++K.drop (cix d K.length+1)).map (Gt.L h))=glue d X' R':=by
   rw [List.map_append,List.map_append,List.map_take,List.map_drop];exact g2
  have hps:Gt.ps h (K.take (cix d K.length)++[Gt.ed d δ g' X' h k]++K.drop (cix d K.length+1))=Gt.ps h K:=by
   conv=>rhs;rw [kid_split hk]
   simp [Gt.ps,r2]
  have hspl:=kid_split hk
  have hcc:δ g.cnt=(glue d X' R').length:=by
   have h1:g.cnt=(Pl.inter X (K.map (Gt.L h))).length:=hcnt
   rw [g1,glue_len] at h1
   have h2:=hδ g.cnt (by omega)
   rw [glue_len]
   omega
  have stay:∀m∈K,(∀b o,Gt.af h m b o→¬Gt.af h k b o)→Gt.Good H' P h m:=fun m hm hoff=>(hkids m hm).1.fr hf fun b o hb hzz=>by
   rcases hz b o (.inr (.inr ⟨m,hm,hb⟩)) hzz with ⟨ho,hs⟩|hl
   ·
    rcases spi b hs with rfl|hs
    · exact ((hkids m hm).2.2 _ _ hb).1 (.inl ⟨rfl,by omega⟩)
    · exact hoff b o hb (Gt.sp_af hs o (by omega))
   · exact hoff b o hb (hlfk b o hl)
  have hpw2:=hpw
  replace hpw2:K.Pairwise fun k k'=>∀b o,Gt.af h k b o→¬Gt.af h k' b o:=hpw2
  rw [hspl,List.append_assoc,List.pairwise_append,List.singleton_append,List.pairwise_cons] at hpw2
  obtain ⟨p1,⟨p2,p3⟩,p4⟩:=hpw2
  have oT:∀m∈K.take (cix d K.length),∀b o,Gt.af h m b o→¬Gt.af h k b o:=fun m hm b o hb=>p4 m hm k List.mem_cons_self b o hb
  have oD:∀m∈K.drop (cix d K.length+1),∀b o,Gt.af h m b o→¬Gt.af h k b o:=fun m hm b o hb hbk=>p2 m hm b o hbk hb
  have fresh:∀m∈K,(∀b o,Gt.af h m b o→¬Gt.af h k b o)→∀b o,Gt.af h m b o→¬Gt.af h (Gt.ed d δ g' X' h k) b o:=fun m hm hoff b o hb hbk=>by
   rcases r3 b o hbk with h9|h9
   · exact hoff b o hb h9
   · have:=(hkids m hm).1.lt hb;omega
  have hlt:∀b o,ncl E g b o∨kcl g b o→b<H.size:=fun b o hb=>hb.elim (fun h=>NodeM.lt hN h) (fun h=>hK.lt h)
  refine ⟨⟨⟨hf.keep hN.c0 (own _ _ (.inl (.inl ⟨rfl,by omega⟩)) (by omega)),hv0,hf.keep hN.c2 (own _ _ (.inl (.inl ⟨rfl,by omega⟩)) (by omega)),hf.keep hN.c3 (own _ _ (.inl (.inl ⟨rfl,by omega⟩)) (by omega)),hf.wr hN.wr,
    hN.sl.fr hf (fun i h1 h2=>own _ _ (.inl (.inr ⟨rfl,h1,h2⟩)) (fun e=>hN.ne e.1.symm)),hN.ic,hN.ne⟩,?_,hiso,?_,hxm,?_,fun m hm=>?_,?_⟩,rfl,fun b o hb=>?_,⟨R',by rw [elf];exact g1,hL2⟩,fun _=>rfl,fun h=>by omega⟩
  ·
   show KidM H' { g with cnt:=δ g.cnt } (Gt.ps h _)
   rw [hps]
   have hk2:=hK.fr hf (fun b o hb=>own b o (.inr hb) (fun e=>by
    rcases hb with ⟨h1,h2⟩|⟨h1,h2,h3⟩
    · exact hK.n2 (e.1.symm.trans h1)
    · exact hK.n3 (e.1.symm.trans h1)))
   exact ⟨hk2.c,hk2.wr,hk2.sl,hk2.kc,hk2.n1,hk2.n2,hk2.n3,hk2.n4,hk2.n5⟩
  ·
   show δ g.cnt=(Pl.inter X _).length
   rw [hL2];exact hcc
  ·
   show (K.take (cix d K.length)++[Gt.ed d δ g' X' h k]++K.drop (cix d K.length+1)).length=X.length+1
   have:=cix_lt (d:=d) (n:=K.length) (by omega)
   simp only [List.length_append,List.length_take,List.length_drop,List.length_cons,List.length_nil];omega
  ·
   simp only [List.mem_append,List.mem_singleton] at hm
   rcases hm with (hm|rfl)|hm
   ·
    have hmK:=List.mem_of_mem_take hm
    exact ⟨stay m hmK (oT m hm),(hkids m hmK).2.1,(hkids m hmK).2.2⟩
   ·
    refine ⟨r1,?_,fun b o hb=>?_⟩
    ·
     rcases Nat.eq_zero_or_pos h with h0|h0
     · rw [r7 h0];exact hmn (by omega)
     · rw [r6 h0];exact q2
    ·
     rcases r3 b o hb with h9|h9
     · exact q3 b o h9
     · exact ⟨fun hc=>by have:=hlt b o (.inl hc);omega,fun hc=>by have:=hlt b o (.inr hc);omega⟩
   ·
    have hmK:=List.mem_of_mem_drop hm
    exact ⟨stay m hmK (oD m hm),(hkids m hmK).2.1,(hkids m hmK).2.2⟩
  ·
   show (K.take (cix d K.length)++[Gt.ed d δ g' X' h k]++K.drop (cix d K.length+1)).Pairwise _
   rw [List.append_assoc,List.pairwise_append,List.singleton_append,List.pairwise_cons]
   refine ⟨p1,⟨fun m hm b o hb hbm=>fresh m (List.mem_of_mem_drop hm) (oD m hm) b o hbm hb,p3⟩,fun m hm m' hm' b o hb hbm=>?_⟩
   rcases List.mem_cons.1 hm' with rfl|hm'
   · exact fresh m (List.mem_of_mem_take hm) (oT m hm) b o hb hbm
   · exact p4 m hm m' (List.mem_cons_of_mem _ hm') b o hb hbm
  ·
   rcases hb with hb|hb|⟨m,hm,hb⟩
   · exact .inl (.inl hb)
   · exact .inl (.inr (.inl hb))
   ·
    simp only [List.mem_append,List.mem_singleton] at hm
    rcases hm with (hm|rfl)|hm
    · exact .inl (.inr (.inr ⟨m,List.mem_of_mem_take hm,hb⟩))
    · exact (r3 b o hb).imp (fun h=>.inr (.inr ⟨k,hkK,h⟩)) id
    · exact .inl (.inr (.inr ⟨m,List.mem_of_mem_drop hm,hb⟩))
variable {α:Type} {E:Elt α}
theorem Gt.Good.own {H:Mem} {P:Ps} {d:Bool} {h:Nat} {t:Gt E (h+1)} (hg:Gt.Good H P (h+1) t) {b o:Nat} (hb:ncl E t.1 b o∨kcl t.1 b o) (hne:¬(b=t.1.p∧o=1)):¬(o=1∧Gt.sp d (h+1) t b):=by
 rintro ⟨ho,hs⟩
 rcases hs with rfl|⟨k,hk,hs⟩
 · exact hne ⟨rfl,ho⟩
 ·
  have h1:=(hg.2.2.2.2.2.2.1 k (List.mem_of_getElem? hk)).2.2 b o (Gt.sp_af hs o (by omega))
  exact hb.elim h1.1 h1.2
structure Sp2 (H0 H:Mem) (P:Ps) (d:Bool) (δ:Nat→Nat) (h0:Nat) (t0:Gt E h0) (bx:Nat) (D:Nat→Prop) (h:Nat) (t:Gt E h):Prop where
 g:Gt.Good H0 P h t
 fr:Fr (fun b o=>(o=1∧Gt.sp d h0 t0 b)∨b=bx) H0 H
 nb:∀o,¬Gt.af h0 t0 bx o
 val:∀q,D q→cl H q 1=some (.int .i64 (Bt.cnOf H0 q:Int))
 val2:∀q,Gt.sp d h t q→cl H q 1=some (.int .i64 (δ (Bt.cnOf H0 q):Int))
 off:∀q,D q→¬Gt.af h t q 1
 all:∀q,Gt.sp d h0 t0 q↔D q∨Gt.sp d h t q
 sub:∀b o,Gt.af h t b o→Gt.af h0 t0 b o
 le:(Gt.L h t).length≤(Gt.L h0 t0).length
 x1:1≤(Gt.X h t).length
section
variable {H0 H H':Mem} {P:Ps} {d:Bool} {δ:Nat→Nat} {h0 h bx:Nat} {t0:Gt E h0} {D:Nat→Prop}
theorem Sp2.keep {t:Gt E (h+1)} (s:Sp2 H0 H P d δ h0 t0 bx D (h+1) t) {b o:Nat} {v:Value} (hb:ncl E t.1 b o∨kcl t.1 b o) (hne:¬(b=t.1.p∧o=1)) (hv:cl H0 b o=some v):cl H b o=some v:=by
 have haf:Gt.af (h+1) t b o:=hb.elim .inl (fun h=>.inr (.inl h))
 refine s.fr.keep hv fun hz=>?_
 rcases hz with ⟨ho,hs⟩|rfl
 ·
  rcases (s.all b).1 hs with hD|hs
  · exact s.off b hD (ho▸haf)
  · exact s.g.own hb hne ⟨ho,hs⟩
 · exact s.nb o (s.sub _ _ haf)
theorem Sp2.inner {t:Gt E (h+1)} (s:Sp2 H0 H P d δ h0 t0 bx D (h+1) t) {k:Gt E h} (hk:t.2.2[cix d t.2.2.length]?=some k):
  cl H t.1.p 3=some (.pointer (some ⟨t.1.cb,0,none⟩))∧cl H t.1.cb 0=some (.slice (some ⟨t.1.kb,t.1.ko,none⟩) t.2.2.length t.1.kc)∧cl H t.1.kb (t.1.ko+cix d t.2.2.length*1)=some (ptr (Gt.p h k)):=by
 have hK:=s.g.2.1
 have hi:=(List.getElem?_eq_some_iff.1 hk).1
 have hc:=hK.c
 rw [Gt.ps,List.length_map] at hc
 have hle:=hK.sl.hle
 rw [List.length_map,Gt.ps,List.length_map] at hle
 refine ⟨s.keep (.inl (.inl ⟨rfl,by omega⟩)) (by omega) s.g.1.c3,s.keep (.inr (.inl ⟨rfl,by omega⟩)) (by omega) hc,s.keep (.inr (.inr ⟨rfl,by omega,by omega⟩)) (fun e=>hK.n3 e.1.symm) ?_⟩
 exact hK.o.at (by rw [Gt.ps,List.map_map,List.getElem?_map,hk];rfl)
theorem Sp2.start {t:Gt E h} (hg:Gt.Good H0 P h t) (hf:Fr (fun b o=>(o=1∧Gt.sp d h t b)∨b=bx) H0 H) (hn:∀o,¬Gt.af h t bx o) (hv:∀q,Gt.sp d h t q→cl H q 1=some (.int .i64 (δ (Bt.cnOf H0 q):Int))) (hx:1≤(Gt.X h t).length):
  Sp2 H0 H P d δ h t bx (fun _=>False) h t:=
 ⟨hg,hf,hn,fun _ h=>h.elim,hv,fun _ h=>h.elim,fun q=>⟨.inr,fun h=>h.elim (fun h=>h.elim) id⟩,fun _ _ h=>h,Nat.le_refl _,hx⟩
theorem Sp2.wfr {t:Gt E h} (s:Sp2 H0 H P d δ h0 t0 bx D h t) (W:Wrote H H' (Gt.p h t) 1 [.int .i64 (Bt.cnOf H0 (Gt.p h t):Int)]):Fr (fun b o=>(o=1∧Gt.sp d h0 t0 b)∨b=bx) H0 H':=
 s.fr.trans' W.fr (fun _ _ _ h=>h) fun b o _ hz=>by
  have h1:=hz.1;have h2:=hz.2.1;have h3:=hz.2.2
  simp only [List.length_cons,List.length_nil] at h3
  exact .inl ⟨by omega,h1▸(s.all _).2 (.inr (Gt.sp_p d))⟩
theorem Sp2.step {t:Gt E (h+1)} {k:Gt E h} (h1:1≤P.mn) (s:Sp2 H0 H P d δ h0 t0 bx D (h+1) t) (hk:t.2.2[cix d t.2.2.length]?=some k) (W:Wrote H H' t.1.p 1 [.int .i64 (Bt.cnOf H0 t.1.p:Int)]):
  Sp2 H0 H' P d δ h0 t0 bx (fun q=>D q∨q=t.1.p) h k:=by
 obtain ⟨q1,q2,q3⟩:=s.g.2.2.2.2.2.2.1 k (List.mem_of_getElem? hk)
 have hD:∀q,D q→q≠t.1.p:=fun q hq e=>s.off q hq (by rw [e];exact Gt.af_p (t:=t) (by omega))
 have hpk:∀q,Gt.sp d h k q→q≠t.1.p:=fun q hq e=>(q3 _ _ (Gt.sp_af hq 1 (by omega))).1 (.inl ⟨e,by omega⟩)
 refine ⟨q1,s.wfr (t:=t) W,s.nb,fun q hq=>?_,fun q hq=>W.fr.keep (s.val2 q (.inr ⟨k,hk,hq⟩)) (nr (.inl (hpk q hq))),fun q hq hb=>?_,fun q=>?_,fun b o hb=>s.sub b o (.inr (.inr ⟨k,List.mem_of_getElem? hk,hb⟩)),Nat.le_trans (kid_le s.g.2.2.2.2.2.1 (List.mem_of_getElem? hk)) s.le,Nat.le_trans h1 q2⟩
 ·
  rcases hq with hq|rfl
  · exact W.fr.keep (s.val q hq) (nr (.inl (hD q hq)))
  · exact W.at
 ·
  rcases hq with hq|rfl
  · exact s.off q hq (.inr (.inr ⟨k,List.mem_of_getElem? hk,hb⟩))
  · exact (q3 _ _ hb).1 (.inl ⟨rfl,by omega⟩)
 ·
  rw [s.all q]
  constructor
  ·
   rintro (hq|hq)
   · exact .inl (.inl hq)
   ·
    rcases hq with rfl|⟨k',hk',hq⟩
    · exact .inl (.inr rfl)
    · rw [hk] at hk';cases hk';exact .inr hq
  ·
   rintro ((hq|rfl)|hq)
   · exact .inl hq
   · exact .inr (.inl rfl)
   · exact .inr (.inr ⟨k,hk,hq⟩)
theorem Sp2.fin {t:Gt E 0} (s:Sp2 H0 H P d δ h0 t0 bx D 0 t) (hg0:Gt.Good H0 P h0 t0) (W:Wrote H H' t.1.p 1 [.int .i64 (Bt.cnOf H0 t.1.p:Int)]):Gt.Good H' P h0 t0:=by
 have hf:=s.wfr (t:=t) W
 have hD:∀q,D q→q≠t.1.p:=fun q hq e=>s.off q hq (by rw [e];exact Gt.af_p (t:=t) (by omega))
 refine hg0.eqv hf fun b o hb=>?_
 by_cases hs:o=1∧Gt.sp d h0 t0 b
 ·
  obtain ⟨rfl,hs⟩:=hs
  rw [hg0.spcn hs]
  rcases (s.all b).1 hs with hq|hq
  · exact W.fr.keep (s.val b hq) (nr (.inl (hD b hq)))
  ·
   have e:b=t.1.p:=hq
   subst e
   exact W.at
 · exact hf.cell b o (hg0.lt hb) fun hz=>hz.elim hs fun e=>s.nb o (e▸hb)
end
namespace Pl
variable {α:Type} (O:Swo α)
end Pl
variable {α:Type} {E:Elt α}
section
variable {H0 H:Mem} {P:Ps} {d:Bool} {δ:Nat→Nat} {h0 h bx:Nat} {t0:Gt E h0} {D:Nat→Prop} {l X:List α} {g:Ng}
theorem Sp2.pos {t:Gt E h} (s:Sp2 H0 H P d δ h0 t0 bx D h t):1≤(Gt.L h t).length:=s.g.ne s.x1
end
theorem Go'.mono {P:Program} {B:World} {f:FuncId} {Q Q':Value→Mem→Prop} {n:Nat} {r:Env} {k:List Item} {H:Mem} (hq:∀v H',Q v H'→Q' v H') (h:Go' P B f Q n r k H):Go' P B f Q' n r k H:=
 fun d a ha b cs hb hk=>
  let ⟨v,w'',fr,h1,h2,h3,h4⟩:=h d a ha b cs hb hk
  ⟨v,w'',fr,by obtain ⟨H',d',e,q⟩:=h1;exact ⟨H',d',e,hq _ _ q⟩,h2,h3,h4⟩
theorem Wr.nil (H:Mem) (b o:Nat):Wr H b o 0:=fun i hi=>absurd hi (Nat.not_lt_zero i)
section
variable {P:Program} {B:World} {f:FuncId} {Q:Value→Mem→Prop} {n:Nat} {r:Env} {k:List Item} {H:Mem} {l:List Oper} {C:Mem→Prop} {p:List (Nat×Nat)}
variable {i kd d:Nat} {ty:TypeId} {pos:String} {af:Array Edge} {gd:Option (Nat×Bool)}
end
end Go.Bt
namespace Go.Bt.Pl
theorem srt_ext {α:Type} {O:Swo α}:∀{l1 l2:List α},Srt O l1→Srt O l2→(∀y,y∈l1↔y∈l2)→l1=l2
 | [],[],_,_,_=>rfl
 | [],z::l2,_,_,h=>by have:=(h z).2 List.mem_cons_self;cases this
 | x::l1,[],_,_,h=>by have:=(h x).1 List.mem_cons_self;cases this
 | x::l1,z::l2,h1,h2,h=>by
  have g1:=(Srt.cons O).1 h1
  have g2:=(Srt.cons O).1 h2
  have e:x=z:=by
   rcases List.mem_cons.1 ((h x).1 List.mem_cons_self) with e|hx
   · exact e
   ·
    rcases List.mem_cons.1 ((h z).2 List.mem_cons_self) with e|hz
    · exact e.symm
    ·
     have a:=g2.1 x hx
     have b:=g1.1 z hz
     rw [O.asy a] at b;cases b
  subst e
  rw [srt_ext g1.2 g2.2 fun y=>?_]
  constructor
  ·
   intro hy
   rcases List.mem_cons.1 ((h y).1 (List.mem_cons_of_mem _ hy)) with e|hy2
   · subst e;have:=g1.1 _ hy;rw [O.irr] at this;cases this
   · exact hy2
  ·
   intro hy
   rcases List.mem_cons.1 ((h y).2 (List.mem_cons_of_mem _ hy)) with e|hy2
   · subst e;have:=g2.1 _ hy;rw [O.irr] at this;cases this
   · exact hy2
end Go.Bt.Pl
namespace Go.Bt
open Go
namespace Pl
end Pl
section
variable {α:Type} {E:Elt α}
def EK:Elt (Nat×Int):={ enc:=fun x=>[.pointer (some ⟨x.1,0,none⟩),.int .i64 x.2],s:=2,len:=fun _=>rfl,one:=fun _=>rfl,pos:=by decide }
theorem Acc.form {β:Type} {F:Elt β} {Z:Nat→Prop} {H:Mem} {v:Value} {l:List β} (h:Acc F Z H v l):∃a m c,v=.slice a m c:=by
 rcases h with ⟨e,_⟩|⟨b,o,c,e,_⟩
 · exact ⟨_,_,_,e⟩
 · exact ⟨_,_,_,e⟩
theorem Acc.take {β:Type} {F:Elt β} {Z:Nat→Prop} {H:Mem} {b o c i:Nat} {l:List β} (h:SlE F H b o c l) (hz:Z b) (hb:b<H.size) (hi:i≤l.length):Acc F Z H (.slice (some ⟨b,o,none⟩) i c) (l.take i):=
 .inr ⟨b,o,c,by rw [List.length_take,Nat.min_eq_left hi],hz,hb,h.take i⟩
end
section
variable {α:Type} {E:Elt α} {H0 H H':Mem} {it tr:Nat} {mt sk as ae:Bool} {Z0 Z:Nat→Prop} {fr fs:List (Nat×Int)} {kv:α} {p:Nat} {z:Int}
structure Itr (E:Elt α) (H0 H:Mem) (it tr:Nat) (mt:Bool) (Z0:Nat→Prop) (sk as ae:Bool) (Z:Nat→Prop) (fr:List (Nat×Int)) (kv:α):Prop where
 c0:cl H it 0=some (.pointer (some ⟨tr,0,none⟩))
 c1:cl H it 1=some (.bool mt)
 c2:cl H it 2=some (.bool sk)
 c3:cl H it 3=some (.bool as)
 c4:cl H it 4=some (.bool ae)
 st:∃sv,cl H it 5=some sv∧Acc EK Z H sv fr.reverse
 kv:Rd H it 6 (E.enc kv)
 wr:Wr H it 0 (6+E.s)
 nz:¬Z it
 f:Fr (fun b _=>b=it∨Z0 b) H0 H
 zz:∀b,Z b→Z0 b∨H0.size≤b
theorem Itr.w (h:Itr E H0 H it tr mt Z0 sk as ae Z fr kv) (i:Nat) (hi:i<6):Wr H it i 1:=h.wr.at0 i 1 (by omega)
structure TopC (H:Mem) (it b o c p:Nat) (z:Int) (n:Nat):Prop where
 c5:cl H it 5=some (.slice (some ⟨b,o,none⟩) (n+1) c)
 cp:cl H b (o+n*2)=some (.pointer (some ⟨p,0,none⟩))
 ci:cl H b (o+n*2+1)=some (.int .i64 z)
 wi:Wr H b (o+n*2+1) 1
 le:n+1≤c
theorem Itr.stk (h:Itr E H0 H it tr mt Z0 sk as ae Z ((p,z)::fs) kv):∃b o c,cl H it 5=some (.slice (some ⟨b,o,none⟩) (fs.length+1) c)∧Z b∧b<H.size∧SlE EK H b o c (fs.reverse++[(p,z)]):=by
 obtain ⟨sv,h1,h2⟩:=h.st
 rw [List.reverse_cons] at h2
 rcases h2 with ⟨_,e⟩|⟨b,o,c,rfl,hz,hb,hs⟩
 · simp at e
 ·
  rw [List.length_append,List.length_reverse,List.length_singleton] at h1
  exact ⟨b,o,c,h1,hz,hb,hs⟩
theorem TopC.of {b o c:Nat} (h1:cl H it 5=some (.slice (some ⟨b,o,none⟩) (fs.length+1) c)) (hs:SlE EK H b o c (fs.reverse++[(p,z)])):TopC H it b o c p z fs.length:=by
 have hl:(fs.reverse++[(p,z)]).length=fs.length+1:=by rw [List.length_append,List.length_reverse,List.length_singleton]
 have hx:(fs.reverse++[(p,z)])[fs.length]?=some (p,z):=by rw [List.getElem?_append_right (by rw [List.length_reverse];exact Nat.le_refl _),List.length_reverse,Nat.sub_self];rfl
 exact ⟨h1,hs.cell hx (j:=0) rfl,hs.cell hx (j:=1) rfl,by
  have:=(hs.wri (i:=fs.length) (by omega)).part 1 1 (by decide)
  exact this,by have:=hs.hle;omega⟩
theorem Itr.top (h:Itr E H0 H it tr mt Z0 sk as ae Z ((p,z)::fs) kv):∃b o c,TopC H it b o c p z fs.length:=by
 obtain ⟨b,o,c,h1,_,_,hs⟩:=h.stk
 exact ⟨b,o,c,TopC.of h1 hs⟩
structure TreeR (H:Mem) (tr:Nat) (P:Ps) (S:Nat→Prop) (l:List α) (r:Option ((h:Nat)×Gt E h)):Prop where
 iso:cl H tr 0=some (.int .u64 (P.iso:Int))
 own:S tr
 lt:∀b,S b→b<H.size
 ll:l.length≤4294967296
 mn:1≤P.mn
 rt:match r with
  | none=>l=[]∧cl H tr 2=some (.pointer none)
  | some ⟨h,t⟩=>Gt.Good H P h t∧1≤(Gt.X h t).length∧Gt.L h t=l∧cl H tr 2=some (ptr (Gt.p h t))∧∀b o,Gt.af h t b o→S b
theorem TreeR.keep {P:Ps} {S:Nat→Prop} {l:List α} {r:Option ((h:Nat)×Gt E h)} (h:TreeR H tr P S l r) {X:Nat→Nat→Prop} (hf:Fr X H H') (hx:∀b o,S b→¬X b o):TreeR H' tr P S l r where
 iso:=hf.keep h.iso (hx _ _ h.own)
 own:=h.own
 lt:=fun b hb=>Nat.lt_of_lt_of_le (h.lt b hb) hf.size
 ll:=h.ll
 mn:=h.mn
 rt:=by
  have h1:=h.rt
  cases r with
  | none=>exact ⟨h1.1,hf.keep h1.2 (hx _ _ h.own)⟩
  | some s=>
   obtain ⟨hh,t⟩:=s
   obtain ⟨h2,h3,h4,h5,h6⟩:=h1
   exact ⟨h2.fr hf fun b o hb=>hx b o (h6 b o hb),h3,h4,hf.keep h5 (hx _ _ h.own),h6⟩
end
namespace Pl
end Pl
section
variable {P:Program} {B:World} {f:FuncId} {Q:Value→Mem→Prop} {n:Nat} {r:Env} {k:List Item} {H:Mem} {l:List Oper} {C:Mem→Prop} {p:List (Nat×Nat)}
variable {i kd d:Nat} {ty:TypeId} {pos:String} {af:Array Edge} {gd:Option (Nat×Bool)}
theorem O.slcNil {t e:TypeId} {x:Operand} {hi':Option Operand} {s:Nat} (hi:l[i]?=some ⟨some d,.slice t x none hi' none,ty,pos,af,gd⟩) (hk:Nat.blt kd 2=true) (hg:guardOn l r gd=true) (hd:Nat.blt d n=true)
  (hu:P.underlying t=some (.slice e)) (hs:Sz P e s) (hx:ev r x=some (.slice none 0 0)) (hh:bnd r 0 hi' 0)
  (h:Pl P B f Q n l C k p ((d,.slice none 0 0)::r) H):Pl P B f Q n l C k ((i,kd)::p) r H:=by
 refine Pl.quiet hi hk hg hd (fun ac H' d' ha _=>?_) h
 have hb:(Instr.sliceBounds true 0 0 none (hi'.map ac.eval) none).run P (mk B H' d')=.ok (0,0,0) (mk B H' d'):=by
  have z0:∀(w:World) (kk:IntKind) (m:Nat) (c:BoundsCode),(Instr.sliceBound (.int kk 0) m c).run P w=.ok 0 w:=fun w kk m c=>run_sliceBound w kk 0 m c (Nat.zero_le m)
  unfold Instr.sliceBounds
  cases hi' with
  | none=>simp
  | some z=>
   obtain ⟨kz,hz⟩:=hh
   simp [ha.eval hz,z0]
 simp only [execOp,ha.eval hx,Sem.run_bind,Sem.run_pure,Instr.sliceAt,run_und hu,Result.andThen_ok,Instr.slice,Option.map_none,hb,hs _]
 rfl
end
end Go.Bt
namespace Go.Bt.Pl
variable {α:Type} (O:Swo α)
def Dis (l:List α):Prop:=l.Pairwise fun x y=>O.lt x y=true∨O.lt y x=true
theorem Dis.perm {l m:List α} (h:Dis O l) (p:l.Perm m):Dis O m:=p.pairwise h fun h=>h.symm
theorem put_new {x:α} {l:List α} (h:fnd O x l=false) (y:α):y∈put O x l↔y∈l∨y=x:=by
 unfold put
 rw [h]
 have e:l=l.take (pos O x l)++l.drop (pos O x l):=(List.take_append_drop _ _).symm
 constructor
 ·
  intro hy
  rcases List.mem_append.1 hy with hy|hy
  · exact .inl (List.mem_of_mem_take hy)
  ·
   rcases List.mem_cons.1 hy with hy|hy
   · exact .inr hy
   · exact .inl (List.mem_of_mem_drop hy)
 ·
  rintro (hy|hy)
  ·
   rw [e] at hy
   rcases List.mem_append.1 hy with hy|hy
   · exact List.mem_append_left _ hy
   · exact List.mem_append_right _ (List.mem_cons_of_mem _ (by simpa using hy))
  · exact List.mem_append_right _ (hy▸List.mem_cons_self)
theorem fnd_no {x:α} {l:List α} (hs:Srt O l) (h:∀y∈l,O.lt y x=true∨O.lt x y=true):fnd O x l=false:=by
 cases hf:fnd O x l with
 | false=>rfl
 | true=>
  obtain ⟨y,hy,h1,h2⟩:=fnd_at O hs hf
  rcases h y (List.mem_of_getElem? hy) with h|h
  · rw [h1] at h;cases h
  · rw [h2] at h;cases h
theorem no_fnd {x:α} {l:List α} (hs:Srt O l) (hf:fnd O x l=false):∀y∈l,O.lt y x=true∨O.lt x y=true:=by
 intro y hy
 rw [←List.take_append_drop (pos O x l) l] at hy
 rcases List.mem_append.1 hy with hy|hy
 · exact .inl ((pos_split O x l).1 y hy)
 · exact .inr (after_pos O hs hf y hy)
theorem puts_dis:∀(l:List α),((puts O l).length=l.length→Dis O l)∧(Dis O l→((puts O l).length=l.length∧∀y,y∈puts O l↔y∈l)):=by
 intro l
 induction h:l.length generalizing l with
 | zero=>
  obtain rfl:=List.length_eq_zero_iff.1 h
  exact ⟨fun _=>List.Pairwise.nil,fun _=>⟨rfl,fun y=>Iff.rfl⟩⟩
 | succ n ih=>
  obtain ⟨m,x,rfl⟩:∃m x,l=m++[x]:=by
   refine ⟨l.dropLast,l.getLast (by intro e;rw [e] at h;simp at h),(List.dropLast_concat_getLast _).symm⟩
  rw [List.length_append,List.length_singleton] at h
  obtain ⟨ih1,ih2⟩:=ih m (by omega)
  have hs:=puts_srt O m
  have hl:=length_put O x (puts O m)
  have hle:=puts_length O m
  rw [puts_snoc]
  constructor
  ·
   intro hh
   cases hf:fnd O x (puts O m) with
   | true=>rw [hf] at hl;simp at hl;omega
   | false=>
    rw [hf] at hl
    have hd:=ih1 (by simp at hl;omega)
    refine List.pairwise_append.2 ⟨hd,List.pairwise_singleton _ _,fun y hy z hz=>?_⟩
    obtain rfl:=List.mem_singleton.1 hz
    exact no_fnd O hs hf y (((ih2 hd).2 y).2 hy)
  ·
   intro hd
   obtain ⟨hd1,_,hd2⟩:=List.pairwise_append.1 hd
   obtain ⟨e1,e2⟩:=ih2 hd1
   have hf:fnd O x (puts O m)=false:=fnd_no O hs fun y hy=>hd2 y ((e2 y).1 hy) x (List.mem_singleton.2 rfl)
   rw [hf] at hl
   refine ⟨by rw [hl];simp;omega,fun y=>?_⟩
   rw [put_new O hf,e2 y,List.mem_append,List.mem_singleton]
theorem puts_perm {l m:List α} (hl:(puts O l).length=l.length) (p:l.Perm m):puts O m=puts O l:=by
 have hd:=(puts_dis O l).1 hl
 exact srt_ext (puts_srt O m) (puts_srt O l) fun y=>by
  rw [((puts_dis O m).2 (hd.perm O p)).2 y,((puts_dis O l).2 hd).2 y,p.mem_iff]
end Go.Bt.Pl
