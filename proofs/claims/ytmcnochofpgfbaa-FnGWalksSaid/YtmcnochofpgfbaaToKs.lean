/- Well formed trees in memory: what stays, how a child is replaced, how a node is parted. Conditions: none. -/
import Derived.Laws.Strings
import Derived.ChangeArms
import Derived.Deep.Slices
import Derived.Deep.Strs
import Derived.ChangeSame
import Derived.Test.YtmcnochofpgfbaaToAb
set_option linter.unusedVariables false
namespace Go.Bt
open Go
structure Ps where
 iso:Nat
 mx:Nat
 mn:Nat
namespace Pl
theorem inter_length {α:Type}:∀(X:List α) (K:List (List α)),K.length=X.length+1→(inter X K).length=X.length+(K.map List.length).sum
 | [],[k],_=>by simp [inter]
 | x::X,k::K,h=>by
  simp only [inter,List.length_append,List.length_cons,List.map_cons,List.sum_cons]
  rw [inter_length X K (by simpa using h)]
  omega
 | [],[],h=>by simp at h
 | [],_::_::_,h=>by simp at h
 | _::_,[],h=>by simp at h
theorem ins_list {α:Type} (X:List α) (e x:α) (i:Nat) (hi:i≤X.length):
  ((X++[e]).take (i+1)++X.drop i++(X++[e]).drop (i+1+(X.drop i).length)).take i++x::((X++[e]).take (i+1)++X.drop i++(X++[e]).drop (i+1+(X.drop i).length)).drop (i+1)=X.take i++x::X.drop i:=by
 have h1:((X++[e]).take (i+1)).length=i+1:=by simp;omega
 have h2:(X++[e]).drop (i+1+(X.drop i).length)=[]:=by apply List.drop_eq_nil_of_le;simp;omega
 have h3:((X++[e]).take (i+1)++X.drop i).take i=X.take i:=by
  rw [List.take_append_of_le_length (by omega),List.take_take,Nat.min_eq_left (by omega),List.take_append_of_le_length hi]
 have h4:((X++[e]).take (i+1)++X.drop i).drop (i+1)=X.drop i:=by
  rw [List.drop_append,h1];simp
 rw [h2,List.append_nil,h3,h4]
end Pl
variable {α:Type} {E:Elt α}
def Gt.Good (H:Mem) (P:Ps):(h:Nat)→Gt E h→Prop
 | 0,t=>NodeM E H t.1 t.2 (.pointer none)∧t.1.iso=P.iso∧t.1.cnt=t.2.length∧t.2.length≤P.mx
 | h+1,t=>NodeM E H t.1 t.2.1 (.pointer (some ⟨t.1.cb,0,none⟩))∧KidM H t.1 (Gt.ps h t.2.2)∧t.1.iso=P.iso∧t.1.cnt=(Gt.L (h+1) t).length∧
   t.2.1.length≤P.mx∧t.2.2.length=t.2.1.length+1∧
   (∀k∈t.2.2,Gt.Good H P h k∧P.mn≤(Gt.X h k).length∧∀b o,Gt.af h k b o→¬ncl E t.1 b o∧¬kcl t.1 b o)∧
   t.2.2.Pairwise fun k k'=>∀b o,Gt.af h k b o→¬Gt.af h k' b o
def Kids (H:Mem) (P:Ps) (h:Nat) (g:Ng) (K:List (Gt E h)):Prop:=
 (∀k∈K,Gt.Good H P h k∧P.mn≤(Gt.X h k).length∧∀b o,Gt.af h k b o→¬ncl E g b o∧¬kcl g b o)∧
   K.Pairwise fun k k'=>∀b o,Gt.af h k b o→¬Gt.af h k' b o
theorem Gt.Good.fr {P:Ps} {Z:Nat→Nat→Prop} {H H':Mem} (hf:Fr Z H H'):∀{h:Nat} {t:Gt E h},Gt.Good H P h t→(∀b o,Gt.af h t b o→¬Z b o)→Gt.Good H' P h t
 | 0,_,⟨h1,h2⟩,hz=>⟨NodeM.fr E h1 hf hz,h2⟩
 | h+1,_,⟨h1,h2,h3,h4,h5,h6,h7,h8⟩,hz=>
  ⟨NodeM.fr E h1 hf fun b o hb=>hz b o (.inl hb),h2.fr hf fun b o hb=>hz b o (.inr (.inl hb)),h3,h4,h5,h6,
   fun k hk=>⟨Gt.Good.fr hf (h7 k hk).1 fun b o hb=>hz b o (.inr (.inr ⟨k,hk,hb⟩)),(h7 k hk).2⟩,h8⟩
theorem Gt.Good.lt {P:Ps} {H:Mem}:∀{h:Nat} {t:Gt E h},Gt.Good H P h t→∀{b o:Nat},Gt.af h t b o→b<H.size
 | 0,_,hm,_,_,hb=>NodeM.lt hm.1 hb
 | h+1,_,⟨h1,h2,h3,h4,h5,h6,h7,h8⟩,b,o,hb=>by
  rcases hb with hb|hb|⟨k,hk,hb⟩
  · exact NodeM.lt h1 hb
  · exact h2.lt hb
  · exact Gt.Good.lt (h7 k hk).1 hb
theorem Gt.Good.node {P:Ps} {H:Mem}:∀{h:Nat} {t:Gt E h},Gt.Good H P h t→∃kp,NodeM E H (Gt.g h t) (Gt.X h t) kp
 | 0,_,hm=>⟨_,hm.1⟩
 | _+1,_,hm=>⟨_,hm.1⟩
theorem Gt.Good.cnt {P:Ps} {H:Mem}:∀{h:Nat} {t:Gt E h},Gt.Good H P h t→(Gt.g h t).cnt=(Gt.L h t).length
 | 0,_,hm=>hm.2.2.1
 | _+1,_,hm=>hm.2.2.2.1
theorem Gt.Good.isoe {P:Ps} {H:Mem}:∀{h:Nat} {t:Gt E h},Gt.Good H P h t→(Gt.g h t).iso=P.iso
 | 0,_,hm=>hm.2.1
 | _+1,_,hm=>hm.2.2.1
theorem Gt.af_node:∀{h:Nat} {t:Gt E h} {b o:Nat},ncl E (Gt.g h t) b o→Gt.af h t b o
 | 0,_,_,_,hb=>hb
 | _+1,_,_,_,hb=>.inl hb
theorem Gt.Good.kids {P:Ps} {H:Mem} {h:Nat} {t:Gt E (h+1)} (hg:Gt.Good H P (h+1) t):Kids H P h t.1 t.2.2:=⟨hg.2.2.2.2.2.2.1,hg.2.2.2.2.2.2.2⟩
theorem Kids.fr {P:Ps} {Z:Nat→Nat→Prop} {H H':Mem} {h:Nat} {g:Ng} {K:List (Gt E h)} (hK:Kids H P h g K) (hf:Fr Z H H') (hz:∀b o,b<H.size→Z b o→ncl E g b o∨kcl g b o):Kids H' P h g K:=
 ⟨fun k hk=>⟨(hK.1 k hk).1.fr hf fun b o hb hzb=>(hz b o ((hK.1 k hk).1.lt hb) hzb).elim ((hK.1 k hk).2.2 b o hb).1 ((hK.1 k hk).2.2 b o hb).2,(hK.1 k hk).2⟩,hK.2⟩
theorem Kids.repl {P:Ps} {Z:Nat→Nat→Prop} {H H':Mem} {h:Nat} {g:Ng} {K1 A K2 M:List (Gt E h)} (hK:Kids H P h g (K1++A++K2)) (hf:Fr Z H H')
  (hZ:∀b o,b<H.size→Z b o→(∃a∈A,Gt.af h a b o)∨ncl E g b o∨kcl g b o) (hlt:∀b o,ncl E g b o∨kcl g b o→b<H.size)
  (hM:∀m∈M,Gt.Good H' P h m∧P.mn≤(Gt.X h m).length∧∀b o,Gt.af h m b o→(∃a∈A,Gt.af h a b o)∨H.size≤b) (hP:M.Pairwise fun k k'=>∀b o,Gt.af h k b o→¬Gt.af h k' b o):
  Kids H' P h g (K1++M++K2):=by
 obtain ⟨h1,h2⟩:=hK
 rw [List.append_assoc,List.pairwise_append,List.pairwise_append] at h2
 obtain ⟨p1,⟨pA,p2,pA2⟩,p12⟩:=h2
 have outer:∀k,(k∈K1∨k∈K2)→∀a∈A,∀b o,Gt.af h k b o→¬Gt.af h a b o:=by
  intro k hk a ha b o hb hab
  rcases hk with hk|hk
  · exact p12 k hk a (List.mem_append_left _ ha) b o hb hab
  · exact pA2 a ha k hk b o hab hb
 have stay:∀k,(k∈K1∨k∈K2)→Gt.Good H' P h k∧P.mn≤(Gt.X h k).length∧∀b o,Gt.af h k b o→¬ncl E g b o∧¬kcl g b o:=by
  intro k hk
  have h0:=h1 k (hk.elim (fun h=>List.mem_append_left _ (List.mem_append_left _ h)) (fun h=>List.mem_append_right _ h))
  refine ⟨h0.1.fr hf fun b o hb hz=>?_,h0.2⟩
  rcases hZ b o (h0.1.lt hb) hz with ⟨a,ha,hab⟩|hn|hn
  · exact outer k hk a ha b o hb hab
  · exact (h0.2.2 b o hb).1 hn
  · exact (h0.2.2 b o hb).2 hn
 have fresh:∀k,(k∈K1∨k∈K2)→∀m∈M,∀b o,Gt.af h k b o→¬Gt.af h m b o:=by
  intro k hk m hm b o hb hmb
  rcases (hM m hm).2.2 b o hmb with ⟨a,ha,hab⟩|hn
  · exact outer k hk a ha b o hb hab
  ·
   have:=(h1 k (hk.elim (fun h=>List.mem_append_left _ (List.mem_append_left _ h)) (fun h=>List.mem_append_right _ h))).1.lt hb
   omega
 refine ⟨fun k hk=>?_,?_⟩
 ·
  simp only [List.mem_append] at hk
  rcases hk with (hk|hk)|hk
  · exact stay k (.inl hk)
  ·
   refine ⟨(hM k hk).1,(hM k hk).2.1,fun b o hb=>?_⟩
   rcases (hM k hk).2.2 b o hb with ⟨a,ha,hab⟩|hn
   · exact (h1 a (List.mem_append_left _ (List.mem_append_right _ ha))).2.2 b o hab
   · exact ⟨fun hc=>by have:=hlt b o (.inl hc);omega,fun hc=>by have:=hlt b o (.inr hc);omega⟩
  · exact stay k (.inr hk)
 ·
  rw [List.append_assoc,List.pairwise_append,List.pairwise_append]
  refine ⟨p1,⟨hP,p2,fun m hm k hk b o hmb hb=>fresh k (.inr hk) m hm b o hb hmb⟩,fun k hk m hm b o hb hmb=>?_⟩
  rcases List.mem_append.1 hm with hm|hm
  · exact fresh k (.inl hk) m hm b o hb hmb
  · exact p12 k hk m (List.mem_append_right _ hm) b o hb hmb
/-! ### A node is changed -/
theorem NodeM.items {Z:Nat→Nat→Prop} {H H':Mem} {g:Ng} {X X':List α} {kp:Value} (hN:NodeM E H g X kp) (hf:Fr Z H H') (hz:∀o,o<4→¬Z g.p o) (hs:SlE E H' g.ib g.io g.ic X') (hl:X'.length=X.length):NodeM E H' g X' kp where
 c0:=hf.keep hN.c0 (hz _ (by omega))
 c1:=hf.keep hN.c1 (hz _ (by omega))
 c2:=by rw [hl];exact hf.keep hN.c2 (hz _ (by omega))
 c3:=hf.keep hN.c3 (hz _ (by omega))
 wr:=hf.wr hN.wr
 sl:=hs
 ic:=hN.ic
 ne:=hN.ne
theorem NodeM.count {H H':Mem} {g:Ng} {X:List α} {kp:Value} {n:Nat} (hN:NodeM E H g X kp) (W:Wrote H H' g.p 1 [.int .i64 (n:Int)]):NodeM E H' { g with cnt:=n } X kp where
 c0:=W.keep1 hN.c0 (by omega)
 c1:=W.at
 c2:=W.keep1 hN.c2 (by omega)
 c3:=W.keep1 hN.c3 (by omega)
 wr:=W.fr.wr hN.wr
 sl:=hN.sl.fr W.fr fun i h1 h2=>nr (.inl (Ne.symm hN.ne))
 ic:=hN.ic
 ne:=hN.ne
theorem NodeM.hdr {H H':Mem} {g:Ng} {X X':List α} {kp:Value} {b' o' c':Nat} (hN:NodeM E H g X kp) (W:Wrote H H' g.p 2 [.slice (some ⟨b',o',none⟩) X'.length c']) (hs:SlE E H b' o' c' X') (hc:0<c') (ne:g.p≠b'):
  NodeM E H' { g with ib:=b',io:=o',ic:=c' } X' kp where
 c0:=W.keep1 hN.c0 (by omega)
 c1:=W.keep1 hN.c1 (by omega)
 c2:=W.at
 c3:=W.keep1 hN.c3 (by omega)
 wr:=W.fr.wr hN.wr
 sl:=hs.fr W.fr fun i h1 h2=>nr (.inl (Ne.symm ne))
 ic:=hc
 ne:=ne
theorem NodeM.appd {H H':Mem} {g:Ng} {X:List α} {kp:Value} {m b' o' c':Nat} {news:List Value} (hN:NodeM E H g X kp) (ha:App H H' g.ib g.io X.length g.ic m E.s (row E X) news b' o' c'):NodeM E H' g X kp where
 c0:=ha.fr.keep hN.c0 (nr (.inl hN.ne))
 c1:=ha.fr.keep hN.c1 (nr (.inl hN.ne))
 c2:=ha.fr.keep hN.c2 (nr (.inl hN.ne))
 c3:=ha.fr.keep hN.c3 (nr (.inl hN.ne))
 wr:=ha.fr.wr hN.wr
 sl:=⟨hN.sl.hlen,hN.sl.hle,ha.fr.rd hN.sl.rd (fun i hi=>nr (by rw [hN.sl.hlen] at hi;omega)),ha.fr.wr hN.sl.wr⟩
 ic:=hN.ic
 ne:=hN.ne
theorem App.in_node {H H':Mem} {g:Ng} {X:List α} {kp:Value} {m b' o' c':Nat} {news:List Value} (hN:NodeM E H g X kp) (ha:App H H' g.ib g.io X.length g.ic m E.s (row E X) news b' o' c'):Fr (ncl E g) H H':=
 ha.fr.mono fun b o _ h=>.inr ⟨h.1,by have:=h.2.1;omega,by
  have h1:=h.2.1
  have h2:=h.2.2
  have h3:=Nat.mul_le_mul_right E.s hN.sl.hle
  rw [Nat.sub_mul] at h2
  omega⟩
theorem App.cap_pos {H H':Mem} {b o len cap m s:Nat} {xs news:List Value} {b' o' c':Nat} (ha:App H H' b o len cap m s xs news b' o' c') (hm:0<m):0<c':=by have:=ha.sl.hle;omega
theorem App.ne {H H':Mem} {b o len cap m s:Nat} {xs news:List Value} {b' o' c' q:Nat} (ha:App H H' b o len cap m s xs news b' o' c') (h1:q≠b) (h2:q<H.size):q≠b':=by
 rcases ha.place with ⟨rfl,_⟩|⟨rfl,_⟩
 · exact h1
 · omega
theorem App.ncl {H H':Mem} {g:Ng} {len m s:Nat} {xs news:List Value} {b' o' c':Nat} (ha:App H H' g.ib g.io len g.ic m s xs news b' o' c') {b o:Nat} (h:ncl E { g with ib:=b',io:=o',ic:=c' } b o):Bt.ncl E g b o∨b=H.size:=by
 rcases ha.place with ⟨h1,h2,h3,_⟩|⟨h1,h2,h3⟩
 · subst h1 h2 h3;exact .inl h
 ·
  rcases h with h|h
  · exact .inl (.inl h)
  · right;have:=h.1;simp only at this;omega
/-! ### Parting a node -/
structure SplT (H H':Mem) (P:Ps) (h:Nat) (t t1 t2:Gt E h) (med:α):Prop where
 fr:Fr (Gt.af h t) H H'
 g1:Gt.Good H' P h t1
 g2:Gt.Good H' P h t2
 p1:Gt.p h t1=Gt.p h t
 l:Gt.L h t=Gt.L h t1++med::Gt.L h t2
 x1:(Gt.X h t1).length=P.mn
 x2:(Gt.X h t2).length=P.mn
 a1:∀b o,Gt.af h t1 b o→Gt.af h t b o∨H.size≤b
 a2:∀b o,Gt.af h t2 b o→Gt.af h t b o∨H.size≤b
 dis:∀b o,Gt.af h t1 b o→¬Gt.af h t2 b o
 ab1:Gt.ab h t1=Ab.lo P.mn h (Gt.ab h t)
 ab2:Gt.ab h t2=Ab.hi P.mn h (Gt.ab h t)
 md:(Gt.X h t)[P.mn]?=some med
theorem split_item {X:List α} {med:α} {mn:Nat} (hm:X[mn]?=some med):X=X.take mn++med::X.drop (mn+1):=by
 have h:=(List.getElem?_eq_some_iff.1 hm)
 obtain ⟨h1,h2⟩:=h
 rw [←h2,List.getElem_cons_drop,List.take_append_drop]
theorem split_leaf {P:Ps} {H H':Mem} {g:Ng} {X:List α} {med:α} {q:Nat} (hg:Gt.Good H P 0 (E:=E) (g,X)) (hX:X.length=P.mx) (hm:P.mx=2*P.mn+1) (h1:1≤P.mn) (hmed:X[P.mn]?=some med)
  (hq:H.size≤q) (hql:q<H'.size) (hf:Fr (ncl E g) H H') (n1:NodeM E H' { g with cnt:=P.mn,ic:=P.mn } (X.take P.mn) (.pointer none))
  (n2:NodeM E H' { p:=q,iso:=P.iso,cnt:=P.mn,ib:=g.ib,io:=g.io+(P.mn+1)*E.s,ic:=g.ic-(P.mn+1),cb:=0,kb:=0,ko:=0,kc:=0 } (X.drop (P.mn+1)) (.pointer none)):
  ∃t1 t2:Gt E 0,Gt.p 0 t2=q∧SplT H H' P 0 (g,X) t1 t2 med:=by
 have gN:NodeM E H g X (.pointer none):=hg.1
 have hic:X.length≤g.ic:=gN.sl.hle
 have hp:=E.pos
 have hpl:g.p<H.size:=cl_lt gN.c0
 have hil:g.ib<H.size:=NodeM.lt gN (b:=g.ib) (o:=g.io) (.inr ⟨rfl,Nat.le_refl _,by have:=Nat.mul_pos gN.ic E.pos;omega⟩)
 have e1:(X.take P.mn).length=P.mn:=by rw [List.length_take];omega
 have e2:(X.drop (P.mn+1)).length=P.mn:=by rw [List.length_drop];omega
 have m1:P.mn*E.s≤g.ic*E.s:=Nat.mul_le_mul_right _ (by omega)
 have m2:(P.mn+1)*E.s≤g.ic*E.s:=Nat.mul_le_mul_right _ (by omega)
 have m3:(P.mn+1)*E.s=P.mn*E.s+E.s:=Nat.succ_mul _ _
 refine ⟨({ g with cnt:=P.mn,ic:=P.mn },X.take P.mn),(_,X.drop (P.mn+1)),rfl,⟨hf,⟨n1,hg.2.1,?_,?_⟩,⟨n2,rfl,?_,?_⟩,rfl,split_item hmed,e1,e2,fun b o hb=>.inl ?_,fun b o hb=>?_,fun b o hb hb2=>?_,rfl,rfl,hmed⟩⟩
 · exact e1.symm
 · show (X.take P.mn).length≤_;omega
 · exact e2.symm
 · show (X.drop (P.mn+1)).length≤_;omega
 ·
  replace hb:ncl E { g with cnt:=P.mn,ic:=P.mn } b o:=hb
  show ncl E g b o
  rcases hb with ⟨h1,h2⟩|⟨h1,h2,h3⟩
  · exact .inl ⟨h1,h2⟩
  · exact .inr ⟨h1,h2,by simp only at h3;omega⟩
 ·
  replace hb:ncl E { p:=q,iso:=P.iso,cnt:=P.mn,ib:=g.ib,io:=g.io+(P.mn+1)*E.s,ic:=g.ic-(P.mn+1),cb:=0,kb:=0,ko:=0,kc:=0 } b o:=hb
  show ncl E g b o∨H.size≤b
  rcases hb with ⟨h1,h2⟩|⟨h1,h2,h3⟩
  · right;simp only at h1;omega
  · left;exact .inr ⟨h1,by simp only at h2;omega,by simp only at h3;rw [Nat.sub_mul] at h3;omega⟩
 ·
  replace hb:ncl E { g with cnt:=P.mn,ic:=P.mn } b o:=hb
  replace hb2:ncl E { p:=q,iso:=P.iso,cnt:=P.mn,ib:=g.ib,io:=g.io+(P.mn+1)*E.s,ic:=g.ic-(P.mn+1),cb:=0,kb:=0,ko:=0,kc:=0 } b o:=hb2
  rcases hb with ⟨h1,h2⟩|⟨h1,h2,h3⟩<;>rcases hb2 with ⟨h4,h5⟩|⟨h4,h5,h6⟩
  · simp only at h1 h4;omega
  · simp only at h1 h4;exact gN.ne (h1.symm.trans h4)
  · simp only at h1 h4;omega
  · simp only at h3 h5;omega
theorem split_inner {P:Ps} {H H':Mem} {h:Nat} {g:Ng} {X:List α} {K:List (Gt E h)} {med:α} {q:Nat} (hg:Gt.Good H P (h+1) (g,X,K)) (hX:X.length=P.mx) (hm:P.mx=2*P.mn+1) (h1:1≤P.mn) (hmed:X[P.mn]?=some med)
  (hq:H.size≤q) (hql:q+1<H'.size) (hf:Fr (fun b o=>ncl E g b o∨kcl g b o) H H') {c1 c2:Nat}
  (hc1:c1=P.mn+(((K.map (Gt.L h)).take (P.mn+1)).map List.length).sum) (hc2:c2=P.mn+(((K.map (Gt.L h)).drop (P.mn+1)).map List.length).sum)
  (n1:NodeM E H' { g with cnt:=c1,ic:=P.mn,kc:=P.mn+1 } (X.take P.mn) (.pointer (some ⟨g.cb,0,none⟩))) (k1:KidM H' { g with cnt:=c1,ic:=P.mn,kc:=P.mn+1 } ((Gt.ps h K).take (P.mn+1)))
  (n2:NodeM E H' { p:=q,iso:=P.iso,cnt:=c2,ib:=g.ib,io:=g.io+(P.mn+1)*E.s,ic:=g.ic-(P.mn+1),cb:=q+1,kb:=g.kb,ko:=g.ko+(P.mn+1),kc:=g.kc-(P.mn+1) } (X.drop (P.mn+1)) (.pointer (some ⟨q+1,0,none⟩)))
  (k2:KidM H' { p:=q,iso:=P.iso,cnt:=c2,ib:=g.ib,io:=g.io+(P.mn+1)*E.s,ic:=g.ic-(P.mn+1),cb:=q+1,kb:=g.kb,ko:=g.ko+(P.mn+1),kc:=g.kc-(P.mn+1) } ((Gt.ps h K).drop (P.mn+1))):
  ∃t1 t2:Gt E (h+1),Gt.p (h+1) t2=q∧SplT H H' P (h+1) (g,X,K) t1 t2 med:=by
 obtain ⟨gN,gK,g3,g4,g5,g6,g7,g8⟩:=hg
 replace gN:NodeM E H g X (.pointer (some ⟨g.cb,0,none⟩)):=gN
 replace gK:KidM H g (Gt.ps h K):=gK
 have hic:X.length≤g.ic:=gN.sl.hle
 have hkc:=gK.sl.hle
 simp only at g6 g3 g4 g5 g7 g8
 rw [List.length_map,Gt.ps,List.length_map,g6] at hkc
 have hp:=E.pos
 have hpl:g.p<H.size:=cl_lt gN.c0
 have hil:g.ib<H.size:=NodeM.lt gN (b:=g.ib) (o:=g.io) (.inr ⟨rfl,Nat.le_refl _,by have:=Nat.mul_pos gN.ic E.pos;omega⟩)
 have hcl0:g.cb<H.size:=cl_lt gK.c
 have hkl:g.kb<H.size:=gK.lt (b:=g.kb) (o:=g.ko) (.inr ⟨rfl,Nat.le_refl _,by have:=gK.kc;omega⟩)
 have e1:(X.take P.mn).length=P.mn:=by rw [List.length_take];omega
 have e2:(X.drop (P.mn+1)).length=P.mn:=by rw [List.length_drop];omega
 have f1:(K.take (P.mn+1)).length=P.mn+1:=by rw [List.length_take];omega
 have f2:(K.drop (P.mn+1)).length=P.mn+1:=by rw [List.length_drop];omega
 have m1:P.mn*E.s≤g.ic*E.s:=Nat.mul_le_mul_right _ (by omega)
 have m2:(P.mn+1)*E.s≤g.ic*E.s:=Nat.mul_le_mul_right _ (by omega)
 have m3:(P.mn+1)*E.s=P.mn*E.s+E.s:=Nat.succ_mul _ _
 have g8':=g8
 rw [←List.take_append_drop (P.mn+1) K,List.pairwise_append] at g8'
 obtain ⟨w1,w2,w3⟩:=g8'
 have hKid:Kids H P h g K:=⟨g7,g8⟩
 have hKid':Kids H' P h g K:=hKid.fr hf fun b o _ hz=>hz
 rw [←List.map_take] at hc1
 rw [←List.map_drop] at hc2
 have hL1:(Pl.inter (X.take P.mn) ((K.take (P.mn+1)).map (Gt.L h))).length=c1:=by
  rw [Pl.inter_length _ _ (by rw [List.length_map];omega),hc1,e1]
 have hL2:(Pl.inter (X.drop (P.mn+1)) ((K.drop (P.mn+1)).map (Gt.L h))).length=c2:=by
  rw [Pl.inter_length _ _ (by rw [List.length_map];omega),hc2,e2]
 have sub1:∀b o,ncl E { g with cnt:=c1,ic:=P.mn,kc:=P.mn+1 } b o→ncl E g b o:=fun b o hb=>by
  rcases hb with ⟨h1,h2⟩|⟨h1,h2,h3⟩
  · exact .inl ⟨h1,h2⟩
  · exact .inr ⟨h1,h2,by simp only at h3;omega⟩
 have sub1k:∀b o,kcl { g with cnt:=c1,ic:=P.mn,kc:=P.mn+1 } b o→kcl g b o:=fun b o hb=>by
  rcases hb with ⟨h1,h2⟩|⟨h1,h2,h3⟩
  · exact .inl ⟨h1,h2⟩
  · exact .inr ⟨h1,h2,by simp only at h3;omega⟩
 have gOk:∀k∈K,Gt.Good H' P h k∧P.mn≤(Gt.X h k).length:=fun k hk=>⟨(hKid'.1 k hk).1,(hKid'.1 k hk).2.1⟩
 have kdis:∀k∈K,∀b o,Gt.af h k b o→(¬ncl E g b o∧¬kcl g b o)∧b<H.size:=fun k hk b o hb=>⟨(g7 k hk).2.2 b o hb,(g7 k hk).1.lt hb⟩
 generalize hG2:({ p:=q,iso:=P.iso,cnt:=c2,ib:=g.ib,io:=g.io+(P.mn+1)*E.s,ic:=g.ic-(P.mn+1),cb:=q+1,kb:=g.kb,ko:=g.ko+(P.mn+1),kc:=g.kc-(P.mn+1) }:Ng)=g2 at*
 have sub2:∀b o,ncl E g2 b o→ncl E g b o∨H.size≤b:=fun b o hb=>by
  subst hG2
  rcases hb with ⟨h1,h2⟩|⟨h1,h2,h3⟩
  · right;simp only at h1;omega
  · left;exact .inr ⟨h1,by simp only at h2;omega,by simp only at h3;rw [Nat.sub_mul] at h3;omega⟩
 have sub2k:∀b o,kcl g2 b o→kcl g b o∨H.size≤b:=fun b o hb=>by
  subst hG2
  rcases hb with ⟨h1,h2⟩|⟨h1,h2,h3⟩
  · right;simp only at h1;omega
  · left;exact .inr ⟨h1,by simp only at h2;omega,by simp only at h3;omega⟩
 have hp2:g2.p=q∧g2.iso=P.iso∧g2.cnt=c2∧g2.cb=q+1:=by subst hG2;exact ⟨rfl,rfl,rfl,rfl⟩
 refine ⟨({ g with cnt:=c1,ic:=P.mn,kc:=P.mn+1 },X.take P.mn,K.take (P.mn+1)),(g2,X.drop (P.mn+1),K.drop (P.mn+1)),hp2.1,⟨hf.mono fun b o _ hz=>hz.elim .inl (fun h=>.inr (.inl h)),⟨n1,?_,g3,hL1.symm,?_,?_,fun k hk=>?_,w1⟩,⟨?_,?_,hp2.2.1,?_,?_,?_,fun k hk=>?_,w2⟩,rfl,?_,e1,e2,fun b o hb=>?_,fun b o hb=>?_,fun b o hb hb2=>?_,congrArg (Prod.mk (X.take P.mn)) List.map_take,congrArg (Prod.mk (X.drop (P.mn+1))) List.map_drop,hmed⟩⟩
 ·
  show KidM H' _ (Gt.ps h (K.take (P.mn+1)))
  rw [Gt.ps,List.map_take];exact k1
 · show (X.take P.mn).length≤_;omega
 · show (K.take (P.mn+1)).length=(X.take P.mn).length+1;omega
 ·
  have hk':=List.mem_of_mem_take hk
  exact ⟨(gOk k hk').1,(gOk k hk').2,fun b o hb=>⟨fun hc=>(kdis k hk' b o hb).1.1 (sub1 b o hc),fun hc=>(kdis k hk' b o hb).1.2 (sub1k b o hc)⟩⟩
 ·
  show NodeM E H' g2 (X.drop (P.mn+1)) (.pointer (some ⟨g2.cb,0,none⟩))
  rw [hp2.2.2.2];exact n2
 ·
  show KidM H' _ (Gt.ps h (K.drop (P.mn+1)))
  rw [Gt.ps,List.map_drop];exact k2
 ·
  show g2.cnt=(Pl.inter _ _).length
  rw [hp2.2.2.1];exact hL2.symm
 · show (X.drop (P.mn+1)).length≤_;omega
 · show (K.drop (P.mn+1)).length=(X.drop (P.mn+1)).length+1;omega
 ·
  have hk':=List.mem_of_mem_drop hk
  refine ⟨(gOk k hk').1,(gOk k hk').2,fun b o hb=>?_⟩
  have hd:=kdis k hk' b o hb
  exact ⟨fun hc=>(sub2 b o hc).elim hd.1.1 (fun h=>by omega),fun hc=>(sub2k b o hc).elim hd.1.2 (fun h=>by omega)⟩
 ·
  show Pl.inter X (K.map (Gt.L h))=Pl.inter _ _++med::Pl.inter _ _
  rw [List.map_take,List.map_drop,←Pl.inter_item _ _ _ _ _ (by rw [←List.map_take,List.length_map,e1];omega),List.take_append_drop,←split_item hmed]
 ·
  left
  rcases hb with hb|hb|⟨k,hk,hb⟩
  · exact .inl (sub1 b o hb)
  · exact .inr (.inl (sub1k b o hb))
  · exact .inr (.inr ⟨k,List.mem_of_mem_take hk,hb⟩)
 ·
  rcases hb with hb|hb|⟨k,hk,hb⟩
  · exact (sub2 b o hb).elim (fun h=>.inl (.inl h)) .inr
  · exact (sub2k b o hb).elim (fun h=>.inl (.inr (.inl h))) .inr
  · exact .inl (.inr (.inr ⟨k,List.mem_of_mem_drop hk,hb⟩))
 ·
  have ne1:=gN.ne
  have ne2:=gK.n1
  have ne3:=gK.n2
  have ne4:=gK.n3
  have ne5:=gK.n4
  have ne6:=gK.n5
  replace hb:ncl E { g with cnt:=c1,ic:=P.mn,kc:=P.mn+1 } b o∨kcl { g with cnt:=c1,ic:=P.mn,kc:=P.mn+1 } b o∨∃k∈K.take (P.mn+1),Gt.af h k b o:=hb
  replace hb2:ncl E g2 b o∨kcl g2 b o∨∃k∈K.drop (P.mn+1),Gt.af h k b o:=hb2
  rcases hb with hb|hb|⟨k,hk,hb⟩
  ·
   rcases hb2 with hb2|hb2|⟨k',hk',hb2⟩
   ·
    subst hG2
    rcases hb with ⟨h1,h2⟩|⟨h1,h2,h3⟩<;>rcases hb2 with ⟨h4,h5⟩|⟨h4,h5,h6⟩
    · simp only at h1 h4;omega
    · simp only at h1 h4;omega
    · simp only at h1 h4;omega
    · simp only at h3 h5;omega
   ·
    subst hG2
    rcases hb with ⟨h1,h2⟩|⟨h1,h2,h3⟩<;>rcases hb2 with ⟨h4,h5⟩|⟨h4,h5,h6⟩<;>simp only at h1 h4<;>omega
   · exact (kdis k' (List.mem_of_mem_drop hk') b o hb2).1.1 (sub1 b o hb)
  ·
   rcases hb2 with hb2|hb2|⟨k',hk',hb2⟩
   ·
    subst hG2
    rcases hb with ⟨h1,h2⟩|⟨h1,h2,h3⟩<;>rcases hb2 with ⟨h4,h5⟩|⟨h4,h5,h6⟩<;>simp only at h1 h4<;>omega
   ·
    subst hG2
    rcases hb with ⟨h1,h2⟩|⟨h1,h2,h3⟩<;>rcases hb2 with ⟨h4,h5⟩|⟨h4,h5,h6⟩
    · simp only at h1 h4;omega
    · simp only at h1 h4;omega
    · simp only at h1 h4;omega
    · simp only at h3 h5;omega
   · exact (kdis k' (List.mem_of_mem_drop hk') b o hb2).1.2 (sub1k b o hb)
  ·
   have hd:=kdis k (List.mem_of_mem_take hk) b o hb
   rcases hb2 with hb2|hb2|⟨k',hk',hb2⟩
   · exact (sub2 b o hb2).elim hd.1.1 (fun h=>by omega)
   · exact (sub2k b o hb2).elim hd.1.2 (fun h=>by omega)
   · exact w3 k hk k' hk' b o hb hb2
end Go.Bt
namespace Go.Bt.Pl
variable {α:Type} (O:Swo α)
def got (x:α) (l:List α):Option α:=if fnd O x l then l[pos O x l]? else none
theorem got_none {x:α} {l:List α} (h:fnd O x l=false):got O x l=none:=by unfold got;rw [h];rfl
theorem got_some {x:α} {l:List α} (h:fnd O x l=true):got O x l=l[pos O x l]?:=by unfold got;rw [h];rfl
theorem got_mid {x:α} {a m c:List α} (ha:∀y∈a,O.lt y x=true) (hc:∀y∈c,O.lt x y=true):got O x (a++m++c)=got O x m:=by
 unfold got
 rw [fnd_mid O ha hc,pos_mid O ha hc]
 cases h:fnd O x m with
 | false=>rfl
 | true=>
  have:=fnd_pos_lt O h
  simp only [if_true]
  rw [List.getElem?_append_left (by simp;omega),List.getElem?_append_right (by omega),Nat.add_sub_cancel_left]
theorem at_item {x y:α} {a c:List α} (hs:Srt O (a++y::c)) (h1:O.lt y x=false) (h2:O.lt x y=false):
  pos O x (a++y::c)=a.length∧fnd O x (a++y::c)=true∧got O x (a++y::c)=some y∧put O x (a++y::c)=a++x::c∧del O x (a++y::c)=a++c:=by
 have hi:(a++y::c)[a.length]?=some y:=by simp
 obtain ⟨e1,e2⟩:=search_found O hs hi h1 h2
 refine ⟨e1,e2,?_,?_,?_⟩
 · rw [got_some O e2,e1,hi]
 ·
  unfold put;rw [e1,e2]
  simp only [Bool.toNat_true]
  rw [List.take_left,←List.drop_drop,List.drop_left];rfl
 ·
  unfold del;rw [e1,e2]
  simp only [Bool.toNat_true]
  rw [List.take_left,←List.drop_drop,List.drop_left];rfl
theorem fnd_at {x:α} {l:List α} (hs:Srt O l) (h:fnd O x l=true):∃y,l[pos O x l]?=some y∧O.lt y x=false∧O.lt x y=false:=by
 have hlt:=fnd_pos_lt O h
 refine ⟨l[pos O x l],List.getElem?_eq_getElem hlt,?_,?_⟩
 · exact hs.drop_pos O (x:=x) _ (by rw [←List.getElem_cons_drop (h:=hlt)];exact List.mem_cons_self)
 ·
  unfold fnd at h
  rw [List.getElem?_eq_getElem hlt] at h
  simpa using h
theorem inter_found {x:α} {X:List α} {K:List (List α)} (hs:Srt O (inter X K)) (hl:K.length=X.length+1) (h:fnd O x X=true):
  ∃y,X[pos O x X]?=some y∧O.lt y x=false∧O.lt x y=false∧inter X K=inter (X.take (pos O x X)) (K.take (pos O x X+1))++y::inter (X.drop (pos O x X+1)) (K.drop (pos O x X+1))∧
   fnd O x (inter X K)=true∧got O x (inter X K)=some y∧put O x (inter X K)=inter (X.take (pos O x X)++x::X.drop (pos O x X+1)) K∧
   pos O x (inter X K)=(inter (X.take (pos O x X)) (K.take (pos O x X+1))).length∧del O x (inter X K)=inter (X.take (pos O x X)) (K.take (pos O x X+1))++inter (X.drop (pos O x X+1)) (K.drop (pos O x X+1)):=by
 have hX:Srt O X:=hs.sublist (sublist_inter X K (by omega))
 obtain ⟨y,hy,h1,h2⟩:=fnd_at O hX h
 have hlt:=fnd_pos_lt O h
 have hsp:X=X.take (pos O x X)++y::X.drop (pos O x X+1):=by
  rw [←(List.getElem?_eq_some_iff.1 hy).2,List.getElem_cons_drop,List.take_append_drop]
 have hl2:(X.take (pos O x X)).length+1=(K.take (pos O x X+1)).length:=by
  rw [List.length_take,List.length_take,Nat.min_eq_left (by omega),Nat.min_eq_left (by omega)]
 have e:inter X K=inter (X.take (pos O x X)) (K.take (pos O x X+1))++y::inter (X.drop (pos O x X+1)) (K.drop (pos O x X+1)):=by
  rw [←inter_item _ _ _ _ _ hl2,List.take_append_drop,←hsp]
 have e2:inter (X.take (pos O x X)++x::X.drop (pos O x X+1)) K=inter (X.take (pos O x X)) (K.take (pos O x X+1))++x::inter (X.drop (pos O x X+1)) (K.drop (pos O x X+1)):=by
  rw [←inter_item _ _ _ _ _ hl2,List.take_append_drop]
 have hs':=hs
 rw [e] at hs'
 obtain ⟨a1,a2,a3,a4,a5⟩:=at_item O hs' h1 h2
 exact ⟨y,hy,h1,h2,e,by rw [e];exact a2,by rw [e];exact a3,by rw [e,a4,e2],by rw [e,a1],by rw [e,a5]⟩
theorem inter_child {x:α} {X:List α} {K:List (List α)} (hs:Srt O (inter X K)) (hl:K.length=X.length+1) (h:fnd O x X=false) {k:List α} (hk:K[pos O x X]?=some k):
  inter X K=pre (X.take (pos O x X)) (K.take (pos O x X))++k++post (X.drop (pos O x X)) (K.drop (pos O x X+1))∧
   (∀y∈pre (X.take (pos O x X)) (K.take (pos O x X)),O.lt y x=true)∧(∀y∈post (X.drop (pos O x X)) (K.drop (pos O x X+1)),O.lt x y=true)∧
   ∀m,inter X (K.take (pos O x X)++m::K.drop (pos O x X+1))=pre (X.take (pos O x X)) (K.take (pos O x X))++m++post (X.drop (pos O x X)) (K.drop (pos O x X+1)):=by
 have hX:Srt O X:=hs.sublist (sublist_inter X K (by omega))
 have hle:=pos_le O x X
 have hkl:=(List.getElem?_eq_some_iff.1 hk).1
 have hsp:K=K.take (pos O x X)++k::K.drop (pos O x X+1):=by
  rw [←(List.getElem?_eq_some_iff.1 hk).2,List.getElem_cons_drop,List.take_append_drop]
 have l1:(X.take (pos O x X)).length=(K.take (pos O x X)).length:=by
  rw [List.length_take,List.length_take,Nat.min_eq_left (by omega),Nat.min_eq_left (by omega)]
 have l2:(X.drop (pos O x X)).length=(K.drop (pos O x X+1)).length:=by rw [List.length_drop,List.length_drop];omega
 have foc:∀m,inter X (K.take (pos O x X)++m::K.drop (pos O x X+1))=pre (X.take (pos O x X)) (K.take (pos O x X))++m++post (X.drop (pos O x X)) (K.drop (pos O x X+1)):=fun m=>by
  have:=inter_focus (X.take (pos O x X)) (X.drop (pos O x X)) (K.take (pos O x X)) m (K.drop (pos O x X+1)) l1 l2
  rwa [List.take_append_drop] at this
 have e:=foc k
 rw [←hsp] at e
 have hs':=hs
 rw [e,Srt.append,Srt.append] at hs'
 have hps:=pos_split O x X
 refine ⟨e,pre_lt O l1 hs'.1.1 fun y hy=>hps.1 y (List.mem_of_getLast? hy),post_gt O hs'.2.1 fun y hy=>?_,foc⟩
 have hy0:X[pos O x X]?=some y:=by rw [←hy,List.head?_drop]
 have:fnd O x X=!O.lt x y:=by unfold fnd;rw [hy0]
 rw [h] at this
 cases hxy:O.lt x y with
 | true=>rfl
 | false=>rw [hxy] at this;cases this
end Go.Bt.Pl
namespace Go.Bt.Pl
variable {α:Type} (O:Swo α)
theorem inter_split {X1 X2:List α} {K1 K2:List (List α)} {a b:List α} {m:α} (h1:X1.length=K1.length) (h2:X2.length=K2.length):
  inter (X1++X2) (K1++(a++m::b)::K2)=inter (X1++m::X2) (K1++a::b::K2):=by
 rw [inter_focus _ _ _ _ _ h1 h2,show K1++a::b::K2=(K1++[a])++(b::K2) by simp,inter_item _ _ _ _ _ (by simp [h1]),inter_post _ _ _ h2]
 have:=inter_focus X1 [] K1 a [] h1 rfl
 rw [List.append_nil] at this
 rw [this]
 simp [post]
theorem after_pos {x:α} {X:List α} (hs:Srt O X) (h:fnd O x X=false):∀y∈X.drop (pos O x X),O.lt x y=true:=by
 intro y hy
 have hsd:Srt O (X.drop (pos O x X)):=hs.sublist (List.drop_sublist _ _)
 cases hd:X.drop (pos O x X) with
 | nil=>rw [hd] at hy;cases hy
 | cons z t=>
  have hz:X[pos O x X]?=some z:=by
   have:(X.drop (pos O x X))[0]?=some z:=by rw [hd];rfl
   simpa using this
  have hxz:O.lt x z=true:=by
   unfold fnd at h;rw [hz] at h;simpa using h
  rw [hd] at hy hsd
  rcases List.mem_cons.1 hy with rfl|hy
  · exact hxz
  · exact O.trans hxz (((Srt.cons O).1 hsd).1 y hy)
theorem pos_ins {x m:α} {X:List α} (hs:Srt O X) (h:fnd O x X=false):pos O x (X.take (pos O x X)++m::X.drop (pos O x X))=pos O x X∨pos O x (X.take (pos O x X)++m::X.drop (pos O x X))=pos O x X+1:=by
 have:=pos_mid O (x:=x) (a:=X.take (pos O x X)) (m:=[m]) (c:=X.drop (pos O x X)) (pos_split O x X).1 (after_pos O hs h)
 rw [List.append_assoc,List.singleton_append] at this
 rw [this,List.length_take,Nat.min_eq_left (pos_le O x X)]
 have h1:=pos_le O x [m]
 simp only [List.length_singleton] at h1
 omega
theorem ins_list2 (X:List α) (e x:α) (i:Nat) (hi:i<X.length):
  ((X++[e]).take (i+1)++X.drop i++(X++[e]).drop (i+1+(X.drop i).length)).take (i+1)++x::((X++[e]).take (i+1)++X.drop i++(X++[e]).drop (i+1+(X.drop i).length)).drop (i+1+1)=X.take (i+1)++x::X.drop (i+1):=by
 have h1:((X++[e]).take (i+1)).length=i+1:=by simp;omega
 have h2:(X++[e]).drop (i+1+(X.drop i).length)=[]:=by apply List.drop_eq_nil_of_le;simp;omega
 rw [h2,List.append_nil]
 have h3:((X++[e]).take (i+1)++X.drop i).take (i+1)=X.take (i+1):=by
  rw [List.take_append_of_le_length (by omega),List.take_take,Nat.min_self,List.take_append_of_le_length (by omega)]
 have h4:((X++[e]).take (i+1)++X.drop i).drop (i+1+1)=X.drop (i+1):=by
  rw [←List.drop_drop,List.drop_append,h1,Nat.sub_self,List.drop_zero,List.drop_of_length_le (l:=(X++[e]).take (i+1)) (by omega),List.nil_append,List.drop_drop]
 rw [h3,h4]
end Go.Bt.Pl
namespace Go.Bt
open Go
variable {α:Type} {E:Elt α}
theorem Pl.ins_len {α:Type} (X:List α) (e:α) (i:Nat) (hi:i≤X.length):((X++[e]).take (i+1)++X.drop i++(X++[e]).drop (i+1+(X.drop i).length)).length=X.length+1:=by
 simp only [List.length_append,List.length_take,List.length_drop,List.length_singleton];omega
/-! ### Items -/
theorem NodeM.set {H H':Mem} {g:Ng} {X:List α} {kp:Value} {i:Nat} {x:α} (hN:NodeM E H g X kp) (W:Wrote H H' g.ib (g.io+i*E.s) (E.enc x)) (hi:i<X.length):NodeM E H' g (X.take i++x::X.drop (i+1)) kp:=
 hN.items W.fr (fun o _ hz=>hN.ne hz.1) (hN.sl.set W hi) (by simp;omega)
theorem NodeM.cpy {H H':Mem} {g:Ng} {X Y:List α} {kp:Value} {i:Nat} (hN:NodeM E H g X kp) (W:Wrote H H' g.ib (g.io+i*E.s) (row E Y)) (hi:i+Y.length≤X.length):NodeM E H' g (X.take i++Y++X.drop (i+Y.length)) kp:=
 hN.items W.fr (fun o _ hz=>hN.ne hz.1) (hN.sl.put W hi) (by simp;omega)
theorem Wrote.in_items {H H':Mem} {g:Ng} {X Y:List α} {kp:Value} {i:Nat} (hN:NodeM E H g X kp) (W:Wrote H H' g.ib (g.io+i*E.s) (row E Y)) (hi:i+Y.length≤X.length) {b o:Nat} (hz:rng g.ib (g.io+i*E.s) (row E Y).length b o):b=g.ib∧g.io≤o∧o<g.io+g.ic*E.s:=by
 have h1:=hz.2.1
 have h2:=hz.2.2
 rw [row_len] at h2
 have h3:(i+Y.length)*E.s≤g.ic*E.s:=Nat.mul_le_mul_right _ (Nat.le_trans hi hN.sl.hle)
 rw [Nat.add_mul] at h3
 exact ⟨hz.1,by omega,by omega⟩
theorem Wrote.as_row {H H':Mem} {b o:Nat} {x:α} (W:Wrote H H' b o (E.enc x)):Wrote H H' b o (row E [x]):=by rw [row_one];exact W
theorem NodeM.in1 {H H':Mem} {g:Ng} {j n:Nat} (hj:j+n≤4) {b o:Nat} (hz:rng g.p j n b o):ncl E g b o:=.inl ⟨hz.1,by have:=hz.2.2;omega⟩
/-! ### Children's array -/
structure KidO (H:Mem) (g:Ng) (os:List (Option Nat)):Prop where
 c:cl H g.cb 0=some (.slice (some ⟨g.kb,g.ko,none⟩) os.length g.kc)
 wr:Wr H g.cb 0 1
 sl:SlE EP H g.kb g.ko g.kc os
 kc:0<g.kc
 n1:g.cb≠g.kb
 n2:g.p≠g.cb
 n3:g.p≠g.kb
 n4:g.ib≠g.cb
 n5:g.ib≠g.kb
theorem KidM.o {H:Mem} {g:Ng} {ks:List Nat} (h:KidM H g ks):KidO H g (ks.map some):=⟨by rw [List.length_map];exact h.c,h.wr,h.sl,h.kc,h.n1,h.n2,h.n3,h.n4,h.n5⟩
theorem KidO.m {H:Mem} {g:Ng} {ks:List Nat} (h:KidO H g (ks.map some)):KidM H g ks:=⟨by have:=h.c;rwa [List.length_map] at this,h.wr,h.sl,h.kc,h.n1,h.n2,h.n3,h.n4,h.n5⟩
theorem KidO.fr {os:List (Option Nat)} {H H':Mem} {g:Ng} {Z:Nat→Nat→Prop} (h:KidO H g os) (hf:Fr Z H H') (hz:∀b o,kcl g b o→¬Z b o):KidO H' g os where
 c:=hf.keep h.c (hz _ _ (.inl ⟨rfl,by omega⟩))
 wr:=hf.wr h.wr
 sl:=h.sl.fr hf fun i h1 h2=>hz _ _ (.inr ⟨rfl,h1,by have e:EP.s=1:=rfl;rw [e,Nat.mul_one] at h2;exact h2⟩)
 kc:=h.kc
 n1:=h.n1
 n2:=h.n2
 n3:=h.n3
 n4:=h.n4
 n5:=h.n5
theorem KidO.lt {H:Mem} {g:Ng} {os:List (Option Nat)} (h:KidO H g os) {b o:Nat} (hb:kcl g b o):b<H.size:=by
 rcases hb with ⟨rfl,_⟩|⟨rfl,h1,h2⟩
 · exact cl_lt h.c
 ·
  obtain ⟨⟨v,hv⟩,_⟩:=h.sl.wr 0 (Nat.mul_pos h.kc EP.pos)
  exact cl_lt hv
theorem KidO.at {H:Mem} {g:Ng} {os:List (Option Nat)} (h:KidO H g os) {i q:Nat} (hi:os[i]?=some (some q)):cl H g.kb (g.ko+i*1)=some (ptr q):=h.sl.cell (i:=i) (x:=some q) hi (j:=0) rfl
structure Inn (H:Mem) (P:Ps) (h:Nat) (g:Ng) (X:List α) (os:List (Option Nat)) (K:List (Gt E h)):Prop where
 n:NodeM E H g X (.pointer (some ⟨g.cb,0,none⟩))
 k:KidO H g os
 c:Kids H P h g K
 iso:g.iso=P.iso
def innc {E:Elt α} (h:Nat) (g:Ng) (K:List (Gt E h)) (b o:Nat):Prop:=ncl E g b o∨kcl g b o∨∃k∈K,Gt.af h k b o
section
variable {H H':Mem} {P:Ps} {h:Nat} {g:Ng} {X:List α} {os:List (Option Nat)} {K:List (Gt E h)}
theorem Gt.Good.inn (hg:Gt.Good H P (h+1) ((g,X,K):Gt E (h+1))):Inn H P h g X ((Gt.ps h K).map some) K:=⟨hg.1,KidM.o hg.2.1,hg.kids,hg.2.2.1⟩
theorem Inn.good (hI:Inn H P h g X ((Gt.ps h K).map some) K) (h1:g.cnt=(Pl.inter X (K.map (Gt.L h))).length) (h2:X.length≤P.mx) (h3:K.length=X.length+1):Gt.Good H P (h+1) ((g,X,K):Gt E (h+1)):=
 ⟨hI.n,hI.k.m,hI.iso,h1,h2,h3,hI.c.1,hI.c.2⟩
theorem Inn.lt (hI:Inn H P h g X os K) {b o:Nat} (hb:innc h g K b o):b<H.size:=by
 rcases hb with hb|hb|⟨k,hk,hb⟩
 · exact NodeM.lt hI.n hb
 · exact hI.k.lt hb
 · exact (hI.c.1 k hk).1.lt hb
theorem Inn.fr {Z:Nat→Nat→Prop} (hI:Inn H P h g X os K) (hf:Fr Z H H') (hz:∀b o,innc h g K b o→¬Z b o):Inn H' P h g X os K where
 n:=NodeM.fr E hI.n hf fun b o hb=>hz b o (.inl hb)
 k:=hI.k.fr hf fun b o hb=>hz b o (.inr (.inl hb))
 c:=⟨fun k hk=>⟨(hI.c.1 k hk).1.fr hf fun b o hb=>hz b o (.inr (.inr ⟨k,hk,hb⟩)),(hI.c.1 k hk).2⟩,hI.c.2⟩
 iso:=hI.iso
theorem Inn.node {Z:Nat→Nat→Prop} {g':Ng} {X':List α} (hI:Inn H P h g X os K) (hf:Fr Z H H') (hz:∀b o,Z b o→ncl E g b o) (hn:NodeM E H' g' X' (.pointer (some ⟨g.cb,0,none⟩)))
  (e:g'.p=g.p∧g'.iso=g.iso∧g'.cb=g.cb∧g'.kb=g.kb∧g'.ko=g.ko∧g'.kc=g.kc) (n4:g'.ib≠g.cb) (n5:g'.ib≠g.kb) (hc:∀b o,b<H.size→ncl E g' b o→ncl E g b o∨∀k∈K,¬Gt.af h k b o):Inn H' P h g' X' os K:=by
 obtain ⟨e1,e2,e3,e4,e5,e6⟩:=e
 have hkz:∀b o,kcl g b o→¬Z b o:=fun b o hb hz'=>by
  have hn':=hz b o hz'
  rcases hb with ⟨h1,h2⟩|⟨h1,h2⟩<;>rcases hn' with ⟨h3,h4⟩|⟨h3,h4⟩
  · exact hI.k.n2 (h3.symm.trans h1)
  · exact hI.k.n4 (h3.symm.trans h1)
  · exact hI.k.n3 (h3.symm.trans h1)
  · exact hI.k.n5 (h3.symm.trans h1)
 have hk:=hI.k.fr hf hkz
 refine ⟨by rw [e3];exact hn,⟨by rw [e3,e4,e5,e6];exact hk.c,by rw [e3];exact hk.wr,by rw [e4,e5,e6];exact hk.sl,by rw [e6];exact hk.kc,by rw [e3,e4];exact hk.n1,by rw [e1,e3];exact hk.n2,by rw [e1,e4];exact hk.n3,by rw [e3];exact n4,by rw [e4];exact n5⟩,?_,e2.trans hI.iso⟩
 have hc1:=hI.c.fr hf fun b o _ hz'=>.inl (hz b o hz')
 refine ⟨fun k hkk=>⟨(hc1.1 k hkk).1,(hc1.1 k hkk).2.1,fun b o hb=>⟨fun hn'=>?_,fun hk'=>?_⟩⟩,hc1.2⟩
 ·
  rcases hc b o ((hI.c.1 k hkk).1.lt hb) hn' with h1|h1
  · exact ((hI.c.1 k hkk).2.2 b o hb).1 h1
  · exact h1 k hkk hb
 ·
  refine ((hI.c.1 k hkk).2.2 b o hb).2 ?_
  unfold kcl at hk' ⊢
  rw [e3,e4,e5,e6] at hk'
  exact hk'
theorem Inn.nodeI {Z:Nat→Nat→Prop} {X':List α} (hI:Inn H P h g X os K) (hf:Fr Z H H') (hz:∀b o,Z b o→ncl E g b o) (hn:NodeM E H' g X' (.pointer (some ⟨g.cb,0,none⟩))):Inn H' P h g X' os K:=
 hI.node hf hz hn ⟨rfl,rfl,rfl,rfl,rfl,rfl⟩ hI.k.n4 hI.k.n5 fun _ _ _ h=>.inl h
theorem Inn.set {i:Nat} {x:α} (hI:Inn H P h g X os K) (W:Wrote H H' g.ib (g.io+i*E.s) (E.enc x)) (hi:i<X.length):Inn H' P h g (X.take i++x::X.drop (i+1)) os K:=
 hI.nodeI W.as_row.fr (fun b o hz=>.inr (W.as_row.in_items hI.n (by rw [List.length_singleton];omega) hz)) (hI.n.set W hi)
theorem Inn.cpy {i:Nat} {Y:List α} (hI:Inn H P h g X os K) (W:Wrote H H' g.ib (g.io+i*E.s) (row E Y)) (hi:i+Y.length≤X.length):Inn H' P h g (X.take i++Y++X.drop (i+Y.length)) os K:=
 hI.nodeI W.fr (fun b o hz=>.inr (W.in_items hI.n hi hz)) (hI.n.cpy W hi)
theorem Inn.count {n:Nat} (hI:Inn H P h g X os K) (W:Wrote H H' g.p 1 [.int .i64 (n:Int)]):Inn H' P h { g with cnt:=n } X os K:=
 hI.node W.fr (fun b o hz=>NodeM.in1 (H:=H) (H':=H') (by simp) hz) (hI.n.count W) ⟨rfl,rfl,rfl,rfl,rfl,rfl⟩ hI.k.n4 hI.k.n5 fun _ _ _ h=>.inl h
theorem Inn.app {m b' o' c':Nat} {news:List Value} (hI:Inn H P h g X os K) (ha:App H H' g.ib g.io X.length g.ic m E.s (row E X) news b' o' c'):Inn H' P h g X os K:=
 hI.nodeI (ha.in_node hI.n) (fun b o hz=>hz) (hI.n.appd ha)
theorem App.fresh {m b' o' c':Nat} {news:List Value} {len s:Nat} {xs:List Value} (hI:Inn H P h g X os K) (ha:App H H' g.ib g.io len g.ic m s xs news b' o' c'):(b'=g.ib∧o'=g.io∧c'=g.ic)∨∀b o,innc h g K b o→b≠b':=by
 rcases ha.place with ⟨h1,h2,h3,_⟩|⟨h1,_⟩
 · exact .inl ⟨h1,h2,h3⟩
 · exact .inr fun b o hb e=>by have:=hI.lt hb;omega
theorem App.freshk {m b' o' c':Nat} {news:List Value} {len s:Nat} {xs:List Value} (hI:Inn H P h g X os K) (ha:App H H' g.kb g.ko len g.kc m s xs news b' o' c'):(b'=g.kb∧o'=g.ko∧c'=g.kc)∨∀b o,innc h g K b o→b≠b':=by
 rcases ha.place with ⟨h1,h2,h3,_⟩|⟨h1,_⟩
 · exact .inl ⟨h1,h2,h3⟩
 · exact .inr fun b o hb e=>by have:=hI.lt hb;omega
theorem Inn.hdr {X':List α} {b' o' c':Nat} (hI:Inn H P h g X os K) (W:Wrote H H' g.p 2 [.slice (some ⟨b',o',none⟩) X'.length c']) (hs:SlE E H b' o' c' X') (hc:0<c')
  (hb:(b'=g.ib∧o'=g.io∧c'=g.ic)∨∀b o,innc h g K b o→b≠b'):Inn H' P h { g with ib:=b',io:=o',ic:=c' } X' os K:=by
 have hne:g.p≠b'∧b'≠g.cb∧b'≠g.kb:=by
  rcases hb with ⟨rfl,rfl,rfl⟩|hb
  · exact ⟨hI.n.ne,hI.k.n4,hI.k.n5⟩
  · exact ⟨hb g.p 0 (.inl (.inl ⟨rfl,by omega⟩)),fun e=>hb g.cb 0 (.inr (.inl (.inl ⟨rfl,by omega⟩))) e.symm,fun e=>hb g.kb g.ko (.inr (.inl (.inr ⟨rfl,Nat.le_refl _,by have:=hI.k.kc;omega⟩))) e.symm⟩
 refine hI.node W.fr (fun b o hz=>NodeM.in1 (H:=H) (H':=H') (by simp) hz) (hI.n.hdr W hs hc hne.1) ⟨rfl,rfl,rfl,rfl,rfl,rfl⟩ hne.2.1 hne.2.2 fun b o _ hz=>?_
 rcases hb with ⟨rfl,rfl,rfl⟩|hb
 · exact .inl hz
 ·
  rcases hz with hz|hz
  · exact .inl (.inl hz)
  · exact .inr fun k hk hkb=>hb b o (.inr (.inr ⟨k,hk,hkb⟩)) hz.1
theorem Inn.kids {Z:Nat→Nat→Prop} {os':List (Option Nat)} {b' o' c':Nat} (hI:Inn H P h g X os K) (hf:Fr Z H H') (hz:∀b o,Z b o→kcl g b o)
  (hc:cl H' g.cb 0=some (.slice (some ⟨b',o',none⟩) os'.length c')) (hs:SlE EP H' b' o' c' os') (hc0:0<c') (hb:(b'=g.kb∧o'=g.ko∧c'=g.kc)∨∀b o,innc h g K b o→b≠b'):
  Inn H' P h { g with kb:=b',ko:=o',kc:=c' } X os' K:=by
 have hne:g.cb≠b'∧g.p≠b'∧g.ib≠b':=by
  rcases hb with ⟨rfl,rfl,rfl⟩|hb
  · exact ⟨hI.k.n1,hI.k.n3,hI.k.n5⟩
  · exact ⟨hb g.cb 0 (.inr (.inl (.inl ⟨rfl,by omega⟩))),hb g.p 0 (.inl (.inl ⟨rfl,by omega⟩)),hb g.ib g.io (.inl (.inr ⟨rfl,Nat.le_refl _,by have:=Nat.mul_pos hI.n.ic E.pos;omega⟩))⟩
 have hnz:∀b o,ncl E g b o→¬Z b o:=fun b o hn' hz'=>by
  have hb:=hz b o hz'
  rcases hb with ⟨h1,h2⟩|⟨h1,h2⟩<;>rcases hn' with ⟨h3,h4⟩|⟨h3,h4⟩
  · exact hI.k.n2 (h3.symm.trans h1)
  · exact hI.k.n4 (h3.symm.trans h1)
  · exact hI.k.n3 (h3.symm.trans h1)
  · exact hI.k.n5 (h3.symm.trans h1)
 have hn:=NodeM.fr E hI.n hf hnz
 refine ⟨⟨hn.c0,hn.c1,hn.c2,hn.c3,hn.wr,hn.sl,hn.ic,hn.ne⟩,⟨hc,hf.wr hI.k.wr,hs,hc0,hne.1,hI.k.n2,hne.2.1,hI.k.n4,hne.2.2⟩,?_,hI.iso⟩
 have hc1:=hI.c.fr hf fun b o _ hz'=>.inr (hz b o hz')
 refine ⟨fun k hkk=>⟨(hc1.1 k hkk).1,(hc1.1 k hkk).2.1,fun b o hbb=>⟨fun hn'=>((hI.c.1 k hkk).2.2 b o hbb).1 hn',fun hk'=>?_⟩⟩,hc1.2⟩
 rcases hb with ⟨rfl,rfl,rfl⟩|hb
 · exact ((hI.c.1 k hkk).2.2 b o hbb).2 hk'
 ·
  rcases hk' with hk'|hk'
  · exact ((hI.c.1 k hkk).2.2 b o hbb).2 (.inl hk')
  · exact hb b o (.inr (.inr ⟨k,hkk,hbb⟩)) hk'.1
theorem Inn.kset {i:Nat} {q:Option Nat} {u:List Value} (hI:Inn H P h g X os K) (W:Wrote H H' g.kb (g.ko+i*1) u) (hu:u=EP.enc q) (hi:i<os.length):Inn H' P h g X (os.take i++q::os.drop (i+1)) K:=by
 subst hu
 have h1:=Nat.le_trans (Nat.succ_le_of_lt hi) hI.k.sl.hle
 have:=hI.kids (os':=os.take i++q::os.drop (i+1)) W.fr (fun b o hz=>.inr ⟨hz.1,by have:=hz.2.1;omega,by have:=hz.2.2;rw [EP.len,show EP.s=1 from rfl] at this;omega⟩)
  (by rw [show (os.take i++q::os.drop (i+1)).length=os.length by simp;omega];exact W.fr.keep hI.k.c (nr (.inl hI.k.n1))) (hI.k.sl.set W hi) hI.k.kc (.inl ⟨rfl,rfl,rfl⟩)
 exact this
theorem Inn.kcpy {i:Nat} {Y:List (Option Nat)} (hI:Inn H P h g X os K) (W:Wrote H H' g.kb (g.ko+i*1) (row EP Y)) (hi:i+Y.length≤os.length):Inn H' P h g X (os.take i++Y++os.drop (i+Y.length)) K:=by
 have h1:=Nat.le_trans hi hI.k.sl.hle
 have:=hI.kids (os':=os.take i++Y++os.drop (i+Y.length)) W.fr (fun b o hz=>.inr ⟨hz.1,by have:=hz.2.1;omega,by have:=hz.2.2;rw [row_len,show EP.s=1 from rfl] at this;omega⟩)
  (by rw [show (os.take i++Y++os.drop (i+Y.length)).length=os.length by simp;omega];exact W.fr.keep hI.k.c (nr (.inl hI.k.n1))) (hI.k.sl.put W hi) hI.k.kc (.inl ⟨rfl,rfl,rfl⟩)
 exact this
theorem Inn.kapp {m b' o' c':Nat} {news:List Value} (hI:Inn H P h g X os K) (ha:App H H' g.kb g.ko os.length g.kc m 1 (row EP os) news b' o' c'):Inn H' P h g X os K:=by
 have hle:=hI.k.sl.hle
 have:=hI.kids (os':=os) (b':=g.kb) (o':=g.ko) (c':=g.kc) ha.fr (fun b o hz=>.inr ⟨hz.1,by have:=hz.2.1;omega,by have:=hz.2.2;omega⟩)
  (ha.fr.keep hI.k.c (nr (.inl hI.k.n1))) ⟨hI.k.sl.hlen,hle,ha.fr.rd hI.k.sl.rd (fun i hi=>nr (by have:=hI.k.sl.hlen;rw [show EP.s=1 from rfl] at this;omega)),ha.fr.wr hI.k.sl.wr⟩ hI.k.kc (.inl ⟨rfl,rfl,rfl⟩)
 exact this
theorem Inn.khdr {os':List (Option Nat)} {b' o' c':Nat} (hI:Inn H P h g X os K) (W:Wrote H H' g.cb 0 [.slice (some ⟨b',o',none⟩) os'.length c']) (hs:SlE EP H b' o' c' os') (hc:0<c')
  (hb:(b'=g.kb∧o'=g.ko∧c'=g.kc)∨∀b o,innc h g K b o→b≠b'):Inn H' P h { g with kb:=b',ko:=o',kc:=c' } X os' K:=by
 have hne:g.cb≠b':=by
  rcases hb with ⟨rfl,rfl,rfl⟩|hb
  · exact hI.k.n1
  · exact hb g.cb 0 (.inr (.inl (.inl ⟨rfl,by omega⟩)))
 exact hI.kids W.fr (fun b o hz=>.inl ⟨hz.1,by have:=hz.2.2;simpa using this⟩) W.at (hs.fr W.fr fun i _ _=>nr (.inl (Ne.symm hne))) hc hb
theorem Inn.repl {Z:Nat→Nat→Prop} {K1 A K2 M:List (Gt E h)} (hI:Inn H P h g X os (K1++A++K2)) (hf:Fr Z H H') (hZ:∀b o,Z b o→∃a∈A,Gt.af h a b o)
  (hM:∀m∈M,Gt.Good H' P h m∧P.mn≤(Gt.X h m).length∧∀b o,Gt.af h m b o→(∃a∈A,Gt.af h a b o)∨H.size≤b) (hP:M.Pairwise fun k k'=>∀b o,Gt.af h k b o→¬Gt.af h k' b o):
  Inn H' P h g X os (K1++M++K2) where
 n:=NodeM.fr E hI.n hf fun b o hb hz=>by
  obtain ⟨a,ha,hab⟩:=hZ b o hz
  exact ((hI.c.1 a (List.mem_append_left _ (List.mem_append_right _ ha))).2.2 b o hab).1 hb
 k:=hI.k.fr hf fun b o hb hz=>by
  obtain ⟨a,ha,hab⟩:=hZ b o hz
  exact ((hI.c.1 a (List.mem_append_left _ (List.mem_append_right _ ha))).2.2 b o hab).2 hb
 c:=hI.c.repl hf (fun b o _ hz=>.inl (hZ b o hz)) (fun b o hb=>hb.elim (fun h=>NodeM.lt hI.n h) (fun h=>hI.k.lt h)) hM hP
 iso:=hI.iso
end
/-! ### Appending one -/
theorem NodeM.push {H H' H'':Mem} {g:Ng} {X:List α} {kp:Value} {e:α} {b' o' c':Nat} (hN:NodeM E H g X kp) (ha:App H H' g.ib g.io X.length g.ic 1 E.s (row E X) (E.enc e) b' o' c')
  (W:Wrote H' H'' g.p 2 [.slice (some ⟨b',o',none⟩) (X.length+1) c']):NodeM E H'' { g with ib:=b',io:=o',ic:=c' } (X++[e]) kp:=
 (hN.appd ha).hdr (by rw [List.length_append];exact W) (SlE.app ha) (ha.cap_pos (by decide)) (ha.ne hN.ne (cl_lt hN.c0))
theorem Inn.push {H H' H'':Mem} {P:Ps} {h:Nat} {g:Ng} {X:List α} {os:List (Option Nat)} {K:List (Gt E h)} {e:α} {b' o' c':Nat} (hI:Inn H P h g X os K) (ha:App H H' g.ib g.io X.length g.ic 1 E.s (row E X) (E.enc e) b' o' c')
  (W:Wrote H' H'' g.p 2 [.slice (some ⟨b',o',none⟩) (X.length+1) c']):Inn H'' P h { g with ib:=b',io:=o',ic:=c' } (X++[e]) os K:=
 (hI.app ha).hdr (by rw [List.length_append];exact W) (SlE.app ha) (ha.cap_pos (by decide)) (ha.fresh hI)
theorem Inn.kpush {H H' H'':Mem} {P:Ps} {h:Nat} {g:Ng} {X:List α} {os:List (Option Nat)} {K:List (Gt E h)} {e:Option Nat} {u:List Value} {b' o' c':Nat} (hI:Inn H P h g X os K) (hu:u=EP.enc e) (ha:App H H' g.kb g.ko os.length g.kc 1 1 (row EP os) u b' o' c')
  (W:Wrote H' H'' g.cb 0 [.slice (some ⟨b',o',none⟩) (os.length+1) c']):Inn H'' P h { g with kb:=b',ko:=o',kc:=c' } X (os++[e]) K:=by
 subst hu
 exact (hI.kapp ha).khdr (by rw [List.length_append];exact W) (SlE.app ha) (ha.cap_pos (by decide)) (ha.freshk hI)
theorem App.inside {H H':Mem} {b o len cap m s:Nat} {xs news:List Value} {b' o' c':Nat} (ha:App H H' b o len cap m s xs news b' o' c') {b1 o1:Nat} (h1:b1<H.size) (h2:b1=b'∧o'≤o1∧o1<o'+c'*s):b1=b∧o≤o1∧o1<o+cap*s:=by
 rcases ha.place with ⟨rfl,rfl,rfl,_⟩|⟨e,_⟩
 · exact h2
 · have:=h2.1;omega
theorem SlE.tail {H:Mem} {b o c:Nat} {X:List α} {e:α} (h:SlE E H b o c (X++[e])) {i:Nat} (hi:i≤X.length):Rd H b (o+i*E.s) (row E (X.drop i)):=by
 have:=h.sub i (X.length-i) (by rw [List.length_append];omega)
 rwa [List.drop_append_of_le_length hi,List.take_append_of_le_length (by rw [List.length_drop];omega),List.take_of_length_le (by rw [List.length_drop];omega)] at this
theorem Inn.cells {H:Mem} {P:Ps} {h:Nat} {g:Ng} {X:List α} {os:List (Option Nat)} {K:List (Gt E h)} (hI:Inn H P h g X os K):g.p<H.size∧g.ib<H.size∧g.cb<H.size∧g.kb<H.size:=
 ⟨hI.lt (o:=0) (.inl (.inl ⟨rfl,by omega⟩)),hI.lt (o:=g.io) (.inl (.inr ⟨rfl,Nat.le_refl _,by have:=Nat.mul_pos hI.n.ic E.pos;omega⟩)),
  hI.lt (o:=0) (.inr (.inl (.inl ⟨rfl,by omega⟩))),hI.lt (o:=g.ko) (.inr (.inl (.inr ⟨rfl,Nat.le_refl _,by have:=hI.k.kc;omega⟩)))⟩
theorem NodeM.cells {H:Mem} {g:Ng} {X:List α} {kp:Value} (hN:NodeM E H g X kp):g.p<H.size∧g.ib<H.size:=
 ⟨cl_lt hN.c0,NodeM.lt hN (b:=g.ib) (o:=g.io) (.inr ⟨rfl,Nat.le_refl _,by have:=Nat.mul_pos hN.ic E.pos;omega⟩)⟩
/-! ### Setting an item -/
structure SetT (O:Pl.Swo α) (H H':Mem) (P:Ps) (h:Nat) (t t':Gt E h) (y:α):Prop where
 fr:Fr (Gt.af h t) H H'
 g:Gt.Good H' P h t'
 p:Gt.p h t'=Gt.p h t
 a:∀b o,Gt.af h t' b o→Gt.af h t b o∨H.size≤b
 l:Gt.L h t'=Pl.put O y (Gt.L h t)
 x:(Gt.X h t).length≤(Gt.X h t').length
 ab:Ab.put O P.mx P.mn y h (Gt.ab h t)=some (Gt.ab h t')
def Gt.NF (O:Pl.Swo α) (P:Ps) (x:α):(h:Nat)→Gt E h→Prop
 | 0,t=>t.2.length<P.mx
 | h+1,t=>Pl.fnd O x t.2.1=true∨∀k,t.2.2[Pl.pos O x t.2.1]?=some k→(Gt.X h k).length<P.mx
def cnOf (H:Mem) (q:Nat):Nat:=match cl H q 1 with
 | some (.int _ z)=>z.toNat
 | _=>0
theorem Gt.Good.cnOf {H:Mem} {P:Ps} {h:Nat} {t:Gt E h} (hg:Gt.Good H P h t):cl H (Gt.p h t) 1=some (.int .i64 (Bt.cnOf H (Gt.p h t):Int))∧Bt.cnOf H (Gt.p h t)=(Gt.L h t).length:=by
 obtain ⟨kp,hn⟩:=hg.node
 have e:=hn.c1
 have e2:Bt.cnOf H (Gt.p h t)=(Gt.g h t).cnt:=by
  unfold Bt.cnOf
  show (match cl H (Gt.g h t).p 1 with
   | some (.int _ z)=>z.toNat
   | _=>0)=_
  rw [e]
  exact Int.toNat_natCast _
 rw [e2]
 exact ⟨e,hg.cnt⟩
theorem Gt.af_p {h:Nat} {t:Gt E h} {o:Nat} (ho:o<4):Gt.af h t (Gt.p h t) o:=Gt.af_node (.inl ⟨rfl,ho⟩)
theorem Sl.none (H:Mem) (b o s:Nat):Sl H b o 0 0 s []:=⟨by simp,Nat.le_refl _,Rd.nil _ _ _,fun i hi=>by rw [Nat.zero_mul] at hi;exact absurd hi (Nat.not_lt_zero i)⟩
theorem App.fromNone {H H':Mem} {b o m s:Nat} {xs news:List Value} {b' o' c':Nat} (ha:App H H' b o 0 0 m s xs news b' o' c') (hm:0<m):b'=H.size∧o'=0∧H'.size=H.size+1∧m≤c'∧Fr nowhere H H':=by
 have h1:=ha.sl.hle
 refine ⟨?_,?_,?_,by omega,ha.fr.mono fun b1 o1 _ hz=>by have h2:=hz.2.1;have h3:=hz.2.2;simp only [Nat.sub_self,Nat.zero_mul,Nat.add_zero] at h2 h3;omega⟩<;>rcases ha.place with h|h<;>omega
def EJ:Elt (Int×Int):={ enc:=fun x=>[.int .i64 x.1,.int .i64 x.2],s:=2,len:=fun _=>rfl,one:=fun _=>rfl,pos:=by decide }
def EN:Elt Int:={ enc:=fun x=>[.int .i64 x],s:=1,len:=fun _=>rfl,one:=fun _=>rfl,pos:=by decide }
def InS {α:Type} (E:Elt α) (H:Mem) (v:Value) (l:List α):Prop:=(∃b o c,v=.slice (some ⟨b,o,none⟩) l.length c∧l.length≤c∧Rd H b o (row E l))∨(l=[]∧∃a c,v=.slice a 0 c)
theorem InS.nil {α:Type} (E:Elt α) (H:Mem):InS E H (.slice none 0 0) ([]:List α):=.inr ⟨rfl,_,_,rfl⟩
theorem InS.fr {α:Type} {E:Elt α} {H H':Mem} {v:Value} {l:List α} (h:InS E H v l) (hf:Fr nowhere H H'):InS E H' v l:=h.elim (fun ⟨b,o,c,e,hc,hr⟩=>.inl ⟨b,o,c,e,hc,hf.rd hr fun _ _=>nw⟩) .inr
theorem InS.len {α:Type} {E:Elt α} {H:Mem} {v:Value} {l:List α} (h:InS E H v l):∃a c,v=.slice a l.length c:=by
 rcases h with ⟨b,o,c,e,_⟩|⟨rfl,a,c,e⟩
 · exact ⟨_,_,e⟩
 · exact ⟨_,_,e⟩
theorem InS.at {α:Type} {E:Elt α} {H:Mem} {v:Value} {l:List α} {i:Nat} {x:α} (h:InS E H v l) (hx:l[i]?=some x):∃b o c,v=.slice (some ⟨b,o,none⟩) l.length c∧Rd H b (o+i*E.s) (E.enc x):=by
 rcases h with ⟨b,o,c,e,_,hr⟩|⟨rfl,_⟩
 · exact ⟨b,o,c,e,Rd.item E hr hx⟩
 · simp at hx
def OutS {α:Type} (E:Elt α) (H:Mem) (v:Value) (l:List α):Prop:=(v=.slice none 0 0∧l=[])∨∃b o c,v=.slice (some ⟨b,o,none⟩) l.length c∧SlE E H b o c l
theorem OutS.inS {α:Type} {E:Elt α} {H:Mem} {v:Value} {l:List α} (h:OutS E H v l):InS E H v l:=by
 rcases h with ⟨rfl,rfl⟩|⟨b,o,c,e,h⟩
 · exact .inr ⟨rfl,_,_,rfl⟩
 · exact .inl ⟨b,o,c,e,h.hle,h.rd⟩
def FV:Option (Int×Int)→Value
 | some y=>.agg #[.int .i64 y.1,.int .i64 y.2,.bool true]
 | none=>.agg #[.int .i64 0,.int .i64 0,.bool false]
def fvs:Option (Int×Int)→List Value
 | some y=>[.int .i64 y.1,.int .i64 y.2,.bool true]
 | none=>[.int .i64 0,.int .i64 0,.bool false]
def rank (ord:List Int) (k:Int):Int:=if ord.length=0 then k else ord.getD ((k.tmod ord.length+ord.length).tmod ord.length).toNat 0
def OO (ord:List Int):Pl.Swo (Int×Int):={ lt:=fun x y=>decide (rank ord x.1<rank ord y.1),irr:=fun x=>by simp,ntr:=fun h k=>by simp at *;omega,asy:=fun h=>by simp at *;omega }
theorem InS.src {α:Type} {E:Elt α} {H:Mem} {v:Value} {l:List α} (h:InS E H v l):(∃b2 o2 c2,v=.slice (some ⟨b2,o2,none⟩) l.length c2∧Rd H b2 o2 (row E l))∨(∃a c2,v=.slice a 0 c2∧l.length=0):=by
 rcases h with ⟨b,o,c,e,_,hr⟩|⟨rfl,a,c,e⟩
 · exact .inl ⟨b,o,c,e,hr⟩
 · exact .inr ⟨a,c,e,rfl⟩
theorem App.quiet {H H':Mem} {b o m s:Nat} {xs news:List Value} {b' o' c':Nat} (ha:App H H' b o 0 0 m s xs news b' o' c'):Fr nowhere H H':=
 ha.fr.mono fun b1 o1 _ hz=>by have h2:=hz.2.1;have h3:=hz.2.2;simp only [Nat.sub_self,Nat.zero_mul,Nat.add_zero] at h2 h3;omega
theorem SlE.of {α:Type} {E:Elt α} {H:Mem} {b o c n:Nat} {l:List α} {vs:List Value} (h:Sl H b o n c E.s vs) (hv:vs=row E l) (hn:n=l.length):SlE E H b o c l:=by subst hv;subst hn;exact h
section
variable {P:Program} {B:World} {f:FuncId} {Q:Value→Mem→Prop} {n:Nat} {r:Env} {k:List Item} {H:Mem} {l:List Oper} {C:Mem→Prop} {p:List (Nat×Nat)}
variable {i kd d:Nat} {ty:TypeId} {pos:String} {af:Array Edge} {gd:Option (Nat×Bool)}
theorem O.slc0 {t e:TypeId} {x:Operand} {lo hi':Option Operand} {a:Option Addr} {s cap:Nat} (hi:l[i]?=some ⟨some d,.slice t x lo hi' none,ty,pos,af,gd⟩) (hk:Nat.blt kd 2=true) (hg:guardOn l r gd=true) (hd:Nat.blt d n=true)
  (hu:P.underlying t=some (.slice e)) (hs:Sz P e s) (hx:ev r x=some (.slice a 0 cap)) (hh:bnd r 0 hi' 0) (hl:bnd r 0 lo 0)
  (h:∀a',Pl P B f Q n l C k p ((d,.slice a' 0 cap)::r) H):Pl P B f Q n l C k ((i,kd)::p) r H:=by
 refine Pl.quiet hi hk hg hd (fun ac H' d' ha _=>?_) (h (if cap=0 then a else a.map (·.add (0*s))))
 have hb:(Instr.sliceBounds true 0 cap (lo.map ac.eval) (hi'.map ac.eval) none).run P (mk B H' d')=.ok (0,0,cap) (mk B H' d'):=by
  have z0:∀(w:World) (kk:IntKind) (m:Nat) (c:BoundsCode),(Instr.sliceBound (.int kk 0) m c).run P w=.ok 0 w:=fun w kk m c=>run_sliceBound w kk 0 m c (Nat.zero_le m)
  unfold Instr.sliceBounds
  cases hi' with
  | none=>
   cases lo with
   | none=>simp
   | some y=>
    obtain ⟨kk,hy⟩:=hl
    simp [ha.eval hy,z0]
  | some z=>
   obtain ⟨kz,hz⟩:=hh
   cases lo with
   | none=>simp [ha.eval hz,z0]
   | some y=>
    obtain ⟨kk,hy⟩:=hl
    simp [ha.eval hy,ha.eval hz,z0]
 simp only [execOp,ha.eval hx,Sem.run_bind,Sem.run_pure,Instr.sliceAt,run_und hu,Result.andThen_ok,Instr.slice,Option.map_none,hb,hs _]
 rfl
theorem O.slcIn {α:Type} {E:Elt α} {t e:TypeId} {x:Operand} {lo hi':Option Operand} {v:Value} {l':List α} {jl jh:Nat} (hi:l[i]?=some ⟨some d,.slice t x lo hi' none,ty,pos,af,gd⟩) (hk:Nat.blt kd 2=true) (hg:guardOn l r gd=true) (hd:Nat.blt d n=true)
  (hu:P.underlying t=some (.slice e)) (hs:Sz P e E.s) (hx:ev r x=some v) (hv:InS E H v l') (hh:bnd r l'.length hi' jh) (hl:bnd r 0 lo jl) (h1:jl≤jh) (h2:jh≤l'.length)
  (h:∀v',InS E H v' ((l'.drop jl).take (jh-jl))→Pl P B f Q n l C k p ((d,v')::r) H):Pl P B f Q n l C k ((i,kd)::p) r H:=by
 rcases hv with ⟨b,o,c,rfl,hc,hr⟩|⟨rfl,a,c,rfl⟩
 ·
  refine O.slc (jl:=jl) (jh:=jh) (jm:=c) hi hk hg hd hu hs hx rfl hh hl h1 (by omega) (Nat.le_refl _) (by simp) fun o' ho'=>h _ ?_
  have hlen:((l'.drop jl).take (jh-jl)).length=jh-jl:=by rw [List.length_take,List.length_drop];omega
  rcases Nat.lt_or_ge jl c with hlt|hge
  ·
   rw [ho' hlt]
   refine .inl ⟨b,o+jl*E.s,c-jl,by rw [hlen],by rw [hlen];omega,?_⟩
   have h3:l'=l'.take jl++((l'.drop jl).take (jh-jl)++(l'.drop jl).drop (jh-jl)):=by rw [List.take_append_drop,List.take_append_drop]
   rw [h3,row_append,row_append] at hr
   have h4:=((Rd.append).1 ((Rd.append).1 hr).2).1
   rwa [row_len,List.length_take,Nat.min_eq_left (by omega)] at h4
  ·
   have e0:jh-jl=0:=by omega
   rw [e0,List.take_zero]
   exact .inr ⟨rfl,_,_,rfl⟩
 ·
  simp only [List.length_nil] at h2 hh
  obtain rfl:jh=0:=by omega
  obtain rfl:jl=0:=by omega
  exact O.slc0 hi hk hg hd hu hs hx hh hl fun a'=>h _ (.inr ⟨by simp,_,_,rfl⟩)
end
namespace Pl
def puts {α:Type} (O:Swo α) (ls:List α):List α:=ls.foldl (fun l x=>put O x l) []
theorem puts_snoc {α:Type} (O:Swo α) (ls:List α) (x:α):puts O (ls++[x])=put O x (puts O ls):=by simp [puts]
theorem puts_srt {α:Type} (O:Swo α) (ls:List α):Srt O (puts O ls):=by
 unfold puts
 have:∀(ls l:List α),Srt O l→Srt O (ls.foldl (fun l x=>put O x l) l):=by
  intro ls
  induction ls with
  | nil=>exact fun l h=>h
  | cons x ls ih=>exact fun l h=>ih _ (h.put O)
 exact this ls [] List.Pairwise.nil
theorem puts_length {α:Type} (O:Swo α) (ls:List α):(puts O ls).length≤ls.length:=by
 unfold puts
 have:∀(ls l:List α),(ls.foldl (fun l x=>put O x l) l).length≤l.length+ls.length:=by
  intro ls
  induction ls with
  | nil=>exact fun l=>by simp
  | cons x ls ih=>
   intro l
   have h1:=ih (put O x l)
   have h2:=length_put O x l
   simp only [List.foldl_cons,List.length_cons] at h1 ⊢
   omega
 simpa using this ls []
end Pl
namespace Pl
end Pl
def takes {α:Type} (go:List α→Bool):List α→List α→List α×Bool
 | acc,[]=>(acc,true)
 | acc,x::l=>if go (acc++[x]) then takes go (acc++[x]) l else (acc++[x],false)
theorem takes_append {α:Type} (go:List α→Bool):∀(l1 acc l2:List α),takes go acc (l1++l2)=if (takes go acc l1).2 then takes go (takes go acc l1).1 l2 else takes go acc l1
 | [],acc,l2=>by simp [takes]
 | x::l1,acc,l2=>by
  simp only [List.cons_append,takes]
  by_cases h:go (acc++[x])=true
  · simp only [h,if_true];exact takes_append go l1 (acc++[x]) l2
  · simp only [h];rfl
def goN {α:Type} (n:Int) (acc:List α):Bool:=decide (n<1)||decide ((acc.length:Int)<n)
def firstN {α:Type} (l:List α) (n:Int):List α:=if n<1∨(l.length:Int)<n then l else l.take n.toNat
theorem takes_goN {α:Type} (n:Int):∀(l acc:List α),(n<1∨(acc.length:Int)<n)→(takes (goN n) acc l).1=if n<1∨((acc.length+l.length:Nat):Int)<n then acc++l else acc++l.take (n.toNat-acc.length)
 | [],acc,h=>by
  simp only [takes,List.length_nil,Nat.add_zero,List.append_nil,List.take_nil]
  split<;>rfl
 | x::l,acc,h=>by
  simp only [takes]
  by_cases hg:goN n (acc++[x])=true
  ·
   have hg':n<1∨((acc++[x]).length:Int)<n:=by
    unfold goN at hg;simpa using hg
   rw [if_pos hg,takes_goN n l (acc++[x]) hg']
   have e:(acc++[x]).length+l.length=acc.length+(x::l).length:=by simp;omega
   rw [e]
   split
   · simp
   ·
    rename_i hn
    have hlen:(acc++[x]).length=acc.length+1:=by simp
    rw [hlen] at hg' ⊢
    have:n.toNat-acc.length=(n.toNat-(acc.length+1))+1:=by omega
    rw [this,List.take_succ_cons];simp
  ·
   have hg':¬(n<1)∧n≤((acc.length+1:Nat):Int):=by
    unfold goN at hg;simp at hg;constructor<;>omega
   rw [if_neg hg]
   have hacc:(acc.length:Int)<n:=by omega
   have hn:n.toNat=acc.length+1:=by omega
   split
   ·
    rename_i hh
    have:(x::l).length=l.length+1:=rfl
    omega
   · rw [hn,show acc.length+1-acc.length=1 by omega];simp
theorem takes_first {α:Type} (n:Int) (l:List α):(takes (goN n) [] l).1=firstN l n:=by
 rcases Int.lt_or_le n 1 with h|h
 · rw [takes_goN n l [] (.inl h),firstN,if_pos (.inl h),if_pos (.inl h),List.nil_append]
 ·
  rw [takes_goN n l [] (.inr (by simp;omega)),firstN]
  simp
structure Cb {α:Type} (P:Program) (B:World) (enc:α→List Value) (g:FuncId) (us cs:List Value) (go:List α→Bool) (M:Nat) where
 T:List α→(Nat→Prop)→Mem→Prop
 fr:∀{acc Z H H' Y},T acc Z H→Fr Y H H'→(∀b o,Z b→¬Y b o)→T acc Z H'
 lt:∀{acc Z H b},T acc Z H→Z b→b<H.size
 call:∀{acc Z H} (x:α),T acc Z H→acc.length<M→Fn P B g (us++enc x++cs) H fun r H'=>r=.bool (go (acc++[x]))∧∃Z',T (acc++[x]) Z' H'∧Fr (fun b _=>Z b) H H'∧∀b,Z' b→Z b∨H.size≤b
theorem takes_length {α:Type} (go:List α→Bool):∀(l acc:List α),(takes go acc l).1.length≤acc.length+l.length
 | [],acc=>by simp [takes]
 | x::l,acc=>by
  simp only [takes]
  split
  · have:=takes_length go l (acc++[x]);simp at this ⊢;omega
  · simp
end Go.Bt
namespace Go.Bt.Pl
variable {α:Type} (O:Swo α)
def up (x:α) (l:List α):List α:=l.drop (pos O x l)
theorem pre_succ {α:Type}:∀{j:Nat} {X:List α} {K:List (List α)} {x:α} {k:List α},X[j]?=some x→K[j]?=some k→pre (X.take (j+1)) (K.take (j+1))=pre (X.take j) (K.take j)++(k++[x])
 | 0,x::X,k::K,_,_,h1,h2=>by simp at h1 h2;subst h1;subst h2;simp [pre]
 | j+1,x::X,k::K,_,_,h1,h2=>by
  simp only [List.take_succ_cons,pre]
  rw [pre_succ (j:=j) (by simpa using h1) (by simpa using h2)]
  simp
 | _,[],_,_,_,h1,_=>by simp at h1
 | _,_::_,[],_,_,_,h2=>by simp at h2
theorem inter_eq_pre {α:Type}:∀{j:Nat} {X:List α} {K:List (List α)} {k:List α},j≤X.length→K[j]?=some k→inter (X.take j) (K.take (j+1))=pre (X.take j) (K.take j)++k
 | 0,X,k::K,_,_,h2=>by simp at h2;subst h2;simp [inter,pre]
 | j+1,x::X,k::K,_,h1,h2=>by
  simp only [List.take_succ_cons,inter,pre]
  rw [inter_eq_pre (j:=j) (by simpa using h1) (by simpa using h2)]
  simp
 | _,_,[],_,_,h2=>by simp at h2
 | j+1,[],_::_,_,h1,_=>by simp at h1
theorem pre_len {α:Type} (X:List α) (K:List (List α)) (h:K.length=X.length+1) (j:Nat) (hj:j≤X.length):(pre (X.take j) (K.take j)).length≤(inter X K).length:=by
 obtain ⟨k,hk⟩:∃k,K[j]?=some k:=⟨K[j],List.getElem?_eq_getElem (by omega)⟩
 have l1:(X.take j).length=(K.take j).length:=by rw [List.length_take,List.length_take];omega
 have l2:(X.drop j).length=(K.drop (j+1)).length:=by rw [List.length_drop,List.length_drop];omega
 have:=inter_focus (X.take j) (X.drop j) (K.take j) k (K.drop (j+1)) l1 l2
 rw [List.take_append_drop,←(List.getElem?_eq_some_iff.1 hk).2,List.getElem_cons_drop,List.take_append_drop] at this
 rw [this,List.length_append,List.length_append]
 omega
end Go.Bt.Pl
namespace Go.Bt
def Acc {α:Type} (E:Elt α) (Z:Nat→Prop) (H:Mem) (v:Value) (l:List α):Prop:=
 (v=.slice none 0 0∧l=[])∨∃b o c,v=.slice (some ⟨b,o,none⟩) l.length c∧Z b∧b<H.size∧SlE E H b o c l
theorem Acc.nil {α:Type} (E:Elt α) (Z:Nat→Prop) (H:Mem):Acc E Z H (.slice none 0 0) ([]:List α):=.inl ⟨rfl,rfl⟩
theorem Acc.fr {α:Type} {E:Elt α} {Z:Nat→Prop} {X:Nat→Nat→Prop} {H H':Mem} {v:Value} {l:List α} (h:Acc E Z H v l) (hf:Fr X H H') (hz:∀b o,b<H.size→Z b→¬X b o):Acc E Z H' v l:=
 h.imp id fun ⟨b,o,c,e,z,hb,hs⟩=>⟨b,o,c,e,z,Nat.lt_of_lt_of_le hb hf.size,hs.fr hf fun i _ _=>hz b i hb z⟩
theorem Acc.mono {α:Type} {E:Elt α} {Z Y:Nat→Prop} {H:Mem} {v:Value} {l:List α} (h:Acc E Z H v l) (hz:∀b,b<H.size→Z b→Y b):Acc E Y H v l:=
 h.imp id fun ⟨b,o,c,e,z,hb,hs⟩=>⟨b,o,c,e,hz b hb z,hb,hs⟩
theorem Acc.out {α:Type} {E:Elt α} {Z:Nat→Prop} {H:Mem} {v:Value} {l:List α} (h:Acc E Z H v l):OutS E H v l:=h.imp id fun ⟨b,o,c,e,_,_,hs⟩=>⟨b,o,c,e,hs⟩
theorem Acc.inS {α:Type} {E:Elt α} {Z:Nat→Prop} {H:Mem} {v:Value} {l:List α} (h:Acc E Z H v l):InS E H v l:=h.out.inS
section
variable {P:Program} {B:World} {f:FuncId} {Q:Value→Mem→Prop} {n:Nat} {r:Env} {k:List Item} {H:Mem} {l:List Oper} {C:Mem→Prop} {p:List (Nat×Nat)}
variable {i kd d:Nat} {ty:TypeId} {pos:String} {af:Array Edge} {gd:Option (Nat×Bool)}
theorem O.appA {α:Type} {E:Elt α} {t e:TypeId} {by':Nat} {z:Value} {x y:Operand} {v u:Value} {l' Y:List α} {Z:Nat→Prop} (hi:l[i]?=some ⟨some d,.call ⟨.builtin .append,#[x,y],#[t,t]⟩,ty,pos,af,gd⟩)
  (hg:guardOn l r gd=true) (hd:Nat.blt d n=true) (T:SlT P t e E.s by' z) (hx:ev r x=some v) (hA:Acc E Z H v l') (hy:ev r y=some u)
  (hv:∃b2 o2 c2,u=.slice (some ⟨b2,o2,none⟩) Y.length c2∧Rd H b2 o2 (row E Y)) (hm:0<Y.length) (hb:(l'.length+Y.length)*by'≤140737488355328) (h63:l'.length+Y.length<9223372036854775808)
  (h:∀v' H',Acc E (fun b=>Z b∨(b=H.size∧b<H'.size)) H' v' (l'++Y)→Fr (fun b _=>Z b) H H'→H'.size≤H.size+1→C H'∧Pl P B f Q n l C k p ((d,v')::r) H'):Pl P B f Q n l C k ((i,2)::p) r H:=by
 rcases hA with ⟨rfl,rfl⟩|⟨b,o,c,rfl,hz,hlt,hs⟩
 ·
  rw [List.length_nil,Nat.zero_add] at hb h63
  refine O.appN (m:=Y.length) (news:=row E Y) hi hg hd T hx hy hv (row_len E Y) hb h63 hm fun cap' H' h1 h2 h3=>?_
  refine h _ _ (.inr ⟨H.size,0,cap',by rw [List.nil_append],.inr ⟨rfl,by omega⟩,by omega,?_⟩) (h2.mono fun _ _ _ h=>h.elim) (by omega)
  exact h1
 ·
  refine O.app (m:=Y.length) (news:=row E Y) (xs:=row E l') (s:=E.s) hi hg hd T hx hs hy (.inl hv) (row_len E Y) (row_ones E Y) hb h63 fun b' o' cap' H' ha=>?_
  have hp:b'=b∧H'.size=H.size∨b'=H.size∧H'.size=H.size+1:=ha.place.elim (fun h=>.inl ⟨h.1,h.2.2.2⟩) (fun h=>.inr ⟨h.1,h.2.2⟩)
  refine h _ _ (.inr ⟨b',o',cap',by rw [List.length_append],?_,by omega,SlE.apps ha⟩) (ha.fr.mono fun b1 o1 _ h1=>?_) (by omega)
  ·
   rcases hp with ⟨rfl,_⟩|⟨rfl,_⟩
   · exact .inl hz
   · exact .inr ⟨rfl,by omega⟩
  ·
   have:b1=b:=h1.1
   subst this;exact hz
end
section
variable {P:Program} {B:World} {f:FuncId} {Q:Value→Mem→Prop} {n:Nat} {r:Env} {k:List Item} {H:Mem} {l:List Oper} {C:Mem→Prop} {p:List (Nat×Nat)}
variable {i kd d:Nat} {ty:TypeId} {pos:String} {af:Array Edge} {gd:Option (Nat×Bool)}
end
namespace Pl
end Pl
section
variable {P:Program} {B:World} {f:FuncId} {Q:Value→Mem→Prop} {n:Nat} {r:Env} {k:List Item} {H:Mem} {l:List Oper} {C:Mem→Prop} {p:List (Nat×Nat)}
variable {i kd d:Nat} {ty:TypeId} {pos:String} {af:Array Edge} {gd:Option (Nat×Bool)}
def AccN {α:Type} (E:Elt α) (Z:Nat→Prop) (H:Mem) (v:Value) (l:List α):Prop:=∃b o c,v=.slice (some ⟨b,o,none⟩) l.length c∧Z b∧b<H.size∧SlE E H b o c l
theorem AccN.acc {α:Type} {E:Elt α} {Z:Nat→Prop} {H:Mem} {v:Value} {l:List α} (h:AccN E Z H v l):Acc E Z H v l:=.inr h
theorem AccN.fr {α:Type} {E:Elt α} {Z:Nat→Prop} {X:Nat→Nat→Prop} {H H':Mem} {v:Value} {l:List α} (h:AccN E Z H v l) (hf:Fr X H H') (hz:∀b o,b<H.size→Z b→¬X b o):AccN E Z H' v l:=
 have ⟨b,o,c,e,z,hb,hs⟩:=h
 ⟨b,o,c,e,z,Nat.lt_of_lt_of_le hb hf.size,hs.fr hf fun i _ _=>hz b i hb z⟩
theorem AccN.mono {α:Type} {E:Elt α} {Z Y:Nat→Prop} {H:Mem} {v:Value} {l:List α} (h:AccN E Z H v l) (hz:∀b,b<H.size→Z b→Y b):AccN E Y H v l:=
 have ⟨b,o,c,e,z,hb,hs⟩:=h
 ⟨b,o,c,e,hz b hb z,hb,hs⟩
theorem AccN.made {α:Type} {E:Elt α} {H H':Mem} {c:Array Value} {e:TypeId} (h:Made H H' c e):AccN E (fun b=>H.size≤b) H' (.slice (some ⟨H.size,0,none⟩) 0 0) []:=
 ⟨H.size,0,0,rfl,Nat.le_refl _,by rw [h.size];omega,Sl.none _ _ _ _⟩
theorem O.appI {α:Type} {E:Elt α} {t e:TypeId} {by':Nat} {z:Value} {x y:Operand} {v u:Value} {l' Y:List α} {Z:Nat→Prop} (hi:l[i]?=some ⟨some d,.call ⟨.builtin .append,#[x,y],#[t,t]⟩,ty,pos,af,gd⟩)
  (hg:guardOn l r gd=true) (hd:Nat.blt d n=true) (T:SlT P t e E.s by' z) (hx:ev r x=some v) (hA:AccN E Z H v l') (hy:ev r y=some u)
  (hv:InS E H u Y) (hb:(l'.length+Y.length)*by'≤140737488355328) (h63:l'.length+Y.length<9223372036854775808)
  (h:∀v' H',AccN E (fun b=>Z b∨(b=H.size∧b<H'.size)) H' v' (l'++Y)→Fr (fun b _=>Z b) H H'→H'.size≤H.size+1→C H'∧Pl P B f Q n l C k p ((d,v')::r) H'):Pl P B f Q n l C k ((i,2)::p) r H:=by
 obtain ⟨b,o,c,rfl,hz,hlt,hs⟩:=hA
 refine O.app (m:=Y.length) (news:=row E Y) (xs:=row E l') (s:=E.s) hi hg hd T hx hs hy hv.src (row_len E Y) (row_ones E Y) hb h63 fun b' o' cap' H' ha=>?_
 have hp:b'=b∧H'.size=H.size∨b'=H.size∧H'.size=H.size+1:=ha.place.elim (fun h=>.inl ⟨h.1,h.2.2.2⟩) (fun h=>.inr ⟨h.1,h.2.2⟩)
 refine h _ _ ⟨b',o',cap',by rw [List.length_append],?_,by omega,SlE.apps ha⟩ (ha.fr.mono fun b1 o1 _ h1=>?_) (by omega)
 ·
  rcases hp with ⟨rfl,_⟩|⟨rfl,_⟩
  · exact .inl hz
  · exact .inr ⟨rfl,by omega⟩
 ·
  have:b1=b:=h1.1
  subst this;exact hz
end
section
variable {P:Program} {B:World} {H:Mem}
theorem run_append_zeros {t t2 e ty:TypeId} {s by':Nat} {z:Value} {kk:IntKind} (T:SlT P t e s by' z) (h2:P.underlying t2=some (.int kk)) {a:Option Addr} {m:Nat} (hb:m*by'≤140737488355328) (h63:m<9223372036854775808) (hm:0<m)
  (d:Nat):∃cap' H' d',(Builtin.append_ #[t,t2] ty #[.slice a 0 0,.int .i64 (m:Int)]).run P (mk B H d)=.ok (.slice (some ⟨H.size,0,none⟩) m cap') (mk B H' d')∧m≤cap'∧Wr H' H.size 0 (cap'*s)∧Fr nowhere H H'∧H'.size=H.size+1:=by
 obtain ⟨inf,hinf,hby⟩:=T.bytes
 have hcap:((Question.appendCap m 0 e).cut ((mk B H d).tape (mk B H d).drawn (.appendCap m 0 e)))=grownCap (mk B H d) m 0 e:=rfl
 generalize hG:grownCap (mk B H d) m 0 e=G at*
 have hge:m≤G:=by rw [←hG];exact Nat.le_add_right _ _
 have hfit:¬(281474976710656<Builtin.nextslicecap m 0*inf.bytes):=by
  have:=growslice_fits (need:=m) (old:=0) (bytes:=by') (by omega) hb
  rw [hby];omega
 have hmade:=made_push H (Builtin.zeroCells z.cells m++Builtin.zeroCells z.cells (G-m)) e
 have hsize:(Builtin.zeroCells z.cells m++Builtin.zeroCells z.cells (G-m)).size=G*s:=by
  simp only [Array.size_append,zeroCells_size,T.zs,←Nat.add_mul]
  congr 1
  omega
 refine ⟨G,H.push (.cells (Builtin.zeroCells z.cells m++Builtin.zeroCells z.cells (G-m)) e),d+1,?_,hge,hmade.wr _ (by rw [hsize];exact Nat.le_refl _) T.lt,hmade.fr _,hmade.size⟩
 have hi:IntKind.i64.max=9223372036854775807:=rfl
 have hw:IntKind.i64.wrap (m:Int)=(m:Int):=wrap_id ⟨by omega,by omega⟩
 have hq:(choose (.appendCap m 0 e)).run P (mk B H d)=.ok G (mk B H (d+1)):=by
  rw [run_choose]
  simp only [Question.forced,Bool.false_eq_true,if_false]
  rw [hcap];rfl
 have hz:=T.zero (mk B H (d+1))
 have hroom:¬(m≤0):=by omega
 have hneg:¬((m:Int)<0):=by omega
 have hbig:¬((281474976710656:Int)<(m:Int)*(inf.bytes:Int)):=by
  rw [hby]
  have:((m*by':Nat):Int)≤140737488355328:=by omega
  push_cast at this
  omega
 have hms:¬(m*s=0):=fun h=>by
  have:=Nat.mul_pos hm T.pos
  omega
 have hg2:¬((m:Int) > IntKind.i64.max∧(True∨inf.bytes=0)):=fun h=>by have:=h.1;rw [hi] at this;omega
 have hg3:¬(Builtin.nextslicecap m 0*inf.bytes > 2 ^ 48):=by simpa using hfit
 have hg4:¬((9223372036854775807:Int)<(m:Int)):=by omega
 simp [Builtin.append_,run_und T.und,run_und h2,T.sz _,asInt,asIntOf,hw,hneg,hi,hg4,hfit,hbig,hinf,hms,run_askRoom,run_firstCells_empty,newRow,show ∀w,(zeroValue e).run P w=.ok z w from T.zero,show m≠0 by omega,Question.forced,hcap]
 exact ⟨rfl,rfl⟩
end
section
variable {P:Program} {B:World} {f:FuncId} {Q:Value→Mem→Prop} {n:Nat} {r:Env} {k:List Item} {H:Mem} {l:List Oper} {C:Mem→Prop} {p:List (Nat×Nat)}
variable {i kd d:Nat} {ty:TypeId} {pos:String} {af:Array Edge} {gd:Option (Nat×Bool)}
theorem O.appZ {t t2 e:TypeId} {s by':Nat} {z:Value} {kk:IntKind} {x y:Operand} {a:Option Addr} {m:Nat} (hi:l[i]?=some ⟨some d,.call ⟨.builtin .append,#[x,y],#[t,t2]⟩,ty,pos,af,gd⟩)
  (hg:guardOn l r gd=true) (hd:Nat.blt d n=true) (T:SlT P t e s by' z) (h2:P.underlying t2=some (.int kk)) (hx:ev r x=some (.slice a 0 0)) (hy:ev r y=some (.int .i64 (m:Int)))
  (hb:m*by'≤140737488355328) (h63:m<9223372036854775808) (hm:0<m)
  (h:∀cap' H',m≤cap'→Wr H' H.size 0 (cap'*s)→Fr nowhere H H'→H'.size=H.size+1→C H'∧Pl P B f Q n l C k p ((d,.slice (some ⟨H.size,0,none⟩) m cap')::r) H'):Pl P B f Q n l C k ((i,2)::p) r H:=
 Pl.loudV hi rfl hg hd (fun u H'=>∃cap',u=.slice (some ⟨H.size,0,none⟩) m cap'∧m≤cap'∧Wr H' H.size 0 (cap'*s)∧Fr nowhere H H'∧H'.size=H.size+1)
  (fun a2 d' ha=>by
   obtain ⟨cap',H',d'',h1,h3⟩:=run_append_zeros (a:=a) (ty:=ty) T h2 hb h63 hm d'
   refine ⟨_,H',d'',?_,cap',rfl,h3⟩
   simp only [execOp,resolve,List.map_toArray,List.map_cons,List.map_nil,ha.eval hx,ha.eval hy,Sem.run_bind,Sem.run_pure,Result.andThen_ok,invoke,builtin]
   rw [h1];rfl)
  (fun u H' hu=>by obtain ⟨cap',rfl,h1,h2,h3,h4⟩:=hu;exact h cap' H' h1 h2 h3 h4)
theorem O.cvi {src dst:TypeId} {x:Operand} {k1:IntKind} {z v:Int} (hi:l[i]?=some ⟨some d,.convert src dst x,ty,pos,af,gd⟩) (hg:guardOn l r gd=true) (hd:Nat.blt d n=true)
  (hs:(P.underlying src).isSome=true) (hu:P.underlying dst=some (.int (P.intKind dst))) (hk:P.intKind dst=.i64) (hx:ev r x=some (.int k1 z)) (hv:IntKind.i64.wrap z=v) (hC:C H)
  (h:Pl P B f Q n l C k p ((d,.int .i64 v)::r) H):Pl P B f Q n l C k ((i,2)::p) r H:=
 Pl.loudV hi rfl hg hd (fun u H'=>u=.int .i64 v∧H'=H)
  (fun a d' ha=>⟨_,H,d',by
   have hc:(convert src dst (.int k1 z)).run P (mk B H d')=.ok (.int .i64 v) (mk B H d'):=by rw [run_convert_int _ src dst k1 z hs hu,hk,hv]
   simp [execOp,ha.eval hx,hc],rfl,rfl⟩)
  (fun u H' hu=>by obtain ⟨rfl,rfl⟩:=hu;exact ⟨hC,h⟩)
theorem run_equalIn_sl {P:Program} {t e:TypeId} (hu:P.underlying t=some (.slice e)) (k:Nat) (a:Option Addr) (m c:Nat) (w:World):(Op.equalIn (k+1) t (.slice a m c) (.slice none 0 0)).run P w=.ok a.isNone w:=by
 cases a<;>simp [Op.equalIn,run_und hu]
theorem O.slNil {t t' e:TypeId} {x y:Operand} {a:Option Addr} {m c:Nat} (hi:l[i]?=some ⟨some d,.binOp .eql t x y t',ty,pos,af,gd⟩) (hk:Nat.blt kd 2=true) (hg:guardOn l r gd=true) (hd:Nat.blt d n=true)
  (hu:P.underlying t=some (.slice e)) (hx:ev r x=some (.slice a m c)) (hy:ev r y=some (.slice none 0 0)) (h:Pl P B f Q n l C k p ((d,.bool a.isNone)::r) H):Pl P B f Q n l C k ((i,kd)::p) r H:=
 O.bin hi hk hg hd hx hy (fun w=>⟨by unfold eqGuard;simp,by
  have h1:=run_equalIn_sl hu 9999 a m c w
  have h2:binOp .eql t (.slice a m c) (.slice none 0 0)=(do pure (.bool (←Op.equal t (.slice a m c) (.slice none 0 0)))):=by cases a<;>rfl
  rw [h2]
  simp only [Op.equal,Op.maxDepth,Sem.run_bind,h1,Result.andThen_ok,Sem.run_pure]⟩) h
end
theorem run_append_00 {P:Program} {B:World} {H:Mem} {t e ty:TypeId} {s by':Nat} {z:Value} (T:SlT P t e s by' z) (a:Option Addr) (c:Nat) (d:Nat):
  (Builtin.append_ #[t,t] ty #[.slice none 0 0,.slice a 0 c]).run P (mk B H d)=.ok (.slice none 0 0) (mk B H d):=by
 simp [Builtin.append_,run_und T.und,T.sz _,Builtin.lenOf,run_firstCells_empty]
section
variable {P:Program} {B:World} {f:FuncId} {Q:Value→Mem→Prop} {n:Nat} {r:Env} {k:List Item} {H:Mem} {l:List Oper} {C:Mem→Prop} {p:List (Nat×Nat)}
variable {i kd d:Nat} {ty:TypeId} {pos:String} {af:Array Edge} {gd:Option (Nat×Bool)}
theorem O.app00 {t e:TypeId} {s by':Nat} {z:Value} {x y:Operand} {a:Option Addr} {c:Nat} (hi:l[i]?=some ⟨some d,.call ⟨.builtin .append,#[x,y],#[t,t]⟩,ty,pos,af,gd⟩)
  (hg:guardOn l r gd=true) (hd:Nat.blt d n=true) (T:SlT P t e s by' z) (hx:ev r x=some (.slice none 0 0)) (hy:ev r y=some (.slice a 0 c))
  (h:C H∧Pl P B f Q n l C k p ((d,.slice none 0 0)::r) H):Pl P B f Q n l C k ((i,2)::p) r H:=
 Pl.loudV hi rfl hg hd (fun u H'=>u=.slice none 0 0∧H'=H)
  (fun a2 d' ha=>by
   refine ⟨_,H,d',?_,rfl,rfl⟩
   simp only [execOp,resolve,List.map_toArray,List.map_cons,List.map_nil,ha.eval hx,ha.eval hy,Sem.run_bind,Sem.run_pure,Result.andThen_ok,invoke,builtin]
   rw [run_append_00 T];rfl)
  (fun u H' h1=>by
   obtain ⟨rfl,rfl⟩:=h1
   exact h)
theorem O.appAI {α:Type} {E:Elt α} {t e:TypeId} {by':Nat} {z:Value} {x y:Operand} {v u:Value} {l' Y:List α} {Z:Nat→Prop} (hi:l[i]?=some ⟨some d,.call ⟨.builtin .append,#[x,y],#[t,t]⟩,ty,pos,af,gd⟩)
  (hg:guardOn l r gd=true) (hd:Nat.blt d n=true) (T:SlT P t e E.s by' z) (hx:ev r x=some v) (hA:Acc E Z H v l') (hy:ev r y=some u)
  (hv:InS E H u Y) (hb:(l'.length+Y.length)*by'≤140737488355328) (h63:l'.length+Y.length<9223372036854775808)
  (h:∀v' H',Acc E (fun b=>Z b∨(b=H.size∧b<H'.size)) H' v' (l'++Y)→Fr (fun b _=>Z b) H H'→H'.size≤H.size+1→C H'∧Pl P B f Q n l C k p ((d,v')::r) H'):Pl P B f Q n l C k ((i,2)::p) r H:=by
 rcases hA with ⟨rfl,rfl⟩|hA
 ·
  rcases Nat.eq_zero_or_pos Y.length with h0|h0
  ·
   obtain rfl:Y=[]:=List.eq_nil_of_length_eq_zero h0
   obtain ⟨a,c,rfl⟩:=hv.len
   exact O.app00 hi hg hd T hx hy (h _ _ (.inl ⟨rfl,rfl⟩) (Fr.refl _ _) (by omega))
  ·
   refine O.appA hi hg hd T hx (.inl ⟨rfl,rfl⟩:Acc E Z H _ []) hy ?_ h0 hb h63 h
   rcases hv with ⟨b,o,c,e,_,hr⟩|⟨rfl,_⟩
   · exact ⟨b,o,c,e,hr⟩
   · cases h0
 · exact O.appI hi hg hd T hx hA hy hv hb h63 fun v' H' h1 h2 h3=>h v' H' (.inr h1) h2 h3
theorem O.cvk {src dst:TypeId} {x:Operand} {k1:IntKind} (kk:IntKind) {z v:Int} (hi:l[i]?=some ⟨some d,.convert src dst x,ty,pos,af,gd⟩) (hg:guardOn l r gd=true) (hd:Nat.blt d n=true)
  (hs:(P.underlying src).isSome=true) (hu:P.underlying dst=some (.int (P.intKind dst))) (hk:P.intKind dst=kk) (hx:ev r x=some (.int k1 z)) (hv:kk.wrap z=v) (hC:C H)
  (h:Pl P B f Q n l C k p ((d,.int kk v)::r) H):Pl P B f Q n l C k ((i,2)::p) r H:=
 Pl.loudV hi rfl hg hd (fun u H'=>u=.int kk v∧H'=H)
  (fun a d' ha=>⟨_,H,d',by
   have hc:(convert src dst (.int k1 z)).run P (mk B H d')=.ok (.int kk v) (mk B H d'):=by rw [run_convert_int _ src dst k1 z hs hu,hk,hv]
   simp [execOp,ha.eval hx,hc],rfl,rfl⟩)
  (fun u H' hu=>by obtain ⟨rfl,rfl⟩:=hu;exact ⟨hC,h⟩)
theorem wrap_idU {z:Int} (h:0≤z∧z<18446744073709551616):IntKind.u64.wrap z=z:=by
 have e:(2 ^ IntKind.u64.bits:Int)=18446744073709551616:=rfl
 unfold IntKind.wrap
 simp only [IntKind.signed,Bool.false_and,Bool.false_eq_true,if_false]
 rw [e]
 exact Int.emod_eq_of_lt h.1 h.2
theorem wrap_id8 {z:Int} (h:0≤z∧z<256):IntKind.u8.wrap z=z:=by
 have e:(2 ^ IntKind.u8.bits:Int)=256:=rfl
 unfold IntKind.wrap
 simp only [IntKind.signed,Bool.false_and,Bool.false_eq_true,if_false]
 rw [e]
 exact Int.emod_eq_of_lt h.1 h.2
end
section
variable {P:Program} {B:World} {f:FuncId} {Q:Value→Mem→Prop} {n:Nat} {r:Env} {H:Mem} {σ:Type}
theorem Go'.share2 {c c2:Item} {k:List Item} (J:σ→Mem→Prop) (q:σ→Env)
  (ht:∀s H',J s H'→Go' P B f Q n (q s) k H') (h:(∀s H',J s H'→Go' P B f Q n (q s) k H')→Go' P B f Q n r (c::c2::k) H):Go' P B f Q n r (c::c2::k) H:=h ht
theorem Go'.joinL {l:Nat} {body X:Code} {k k2:List Item} (_hx:gotoIn l (.inScope body::k)=some (.code (.seq .skip X)::k2)) (J:σ→Mem→Prop) (q:σ→Env)
  (ht:∀s H',J s H'→Go' P B f Q n (q s) (.code X::k2) H') (h:(∀s H',J s H'→Go' P B f Q n (q s) (.code X::k2) H')→Go' P B f Q n r (.code body::.inScope body::k) H):Go' P B f Q n r (.code body::.inScope body::k) H:=h ht
end
section
variable {P:Program} {B:World} {f:FuncId} {Q:Value→Mem→Prop} {n:Nat} {r:Env} {k:List Item} {H:Mem} {l:List Oper} {C:Mem→Prop} {p:List (Nat×Nat)}
variable {i kd d:Nat} {ty:TypeId} {pos:String} {af:Array Edge} {gd:Option (Nat×Bool)}
theorem run_indexArr {t e:TypeId} {b o s len j:Nat} {kk:IntKind} (hu:P.underlying t=some (.array len e)) (hs:Sz P e s) (hj:j<len) (w:World):(Instr.indexAt t (.pointer (some ⟨b,o,none⟩)) (.int kk (j:Int))).run P w=.ok (.pointer (some ⟨b,o+j*s,none⟩)) w:=by
 have h:(0:Int)≤(j:Int)∧(j:Int)<(len:Int):=by omega
 simp only [Instr.indexAt,asIntOf,Instr.sureAddr,Sem.run_bind,Sem.run_pure,Result.andThen_ok,run_und hu,if_pos h,hs _,Int.toNat_natCast,Addr.add_lit]
theorem O.ixr {t e:TypeId} {x ix:Operand} {b o s len j:Nat} {kk:IntKind} {z:Int} (hi:l[i]?=some ⟨some d,.indexAddr t x ix,ty,pos,af,gd⟩) (hk:Nat.blt kd 2=true) (hg:guardOn l r gd=true) (hd:Nat.blt d n=true)
  (hu:P.underlying t=some (.array len e)) (hs:Sz P e s) (hx:ev r x=some (.pointer (some ⟨b,o,none⟩))) (hix:ev r ix=some (.int kk z)) (hz:z=(j:Int)) (hj:j<len)
  (h:Pl P B f Q n l C k p ((d,.pointer (some ⟨b,o+j*s,none⟩))::r) H):Pl P B f Q n l C k ((i,kd)::p) r H:=
 Pl.quiet hi hk hg hd (fun a H' d' ha _=>by subst hz;simp [execOp,ha.eval hx,ha.eval hix,run_indexArr hu hs hj]) h
end
theorem Fr.split {Z:Nat→Nat→Prop} {H H':Mem} {hb:Nat} (hlt:hb<H.size) (hf:Fr (fun b o=>Z b o∨b=hb) H H'):
  ∃Hm:Mem,Hm.size=H.size∧Fr (fun b _=>b=hb) H Hm∧Fr Z Hm H':=by
 have hlt':hb<H'.size:=Nat.lt_of_lt_of_le hlt hf.size
 obtain ⟨Hm,hm⟩:∃Hm:Mem,Hm=H.setIfInBounds hb H'[hb]:=⟨_,rfl⟩
 have hs:Hm.size=H.size:=by rw [hm,Array.size_setIfInBounds]
 have e1:∀b,b≠hb→Hm[b]?=H[b]?:=fun b hn=>by rw [hm,Array.getElem?_setIfInBounds,if_neg (fun e=>hn e.symm)]
 have e2:Hm[hb]?=H'[hb]?:=by rw [hm,Array.getElem?_setIfInBounds,if_pos rfl,if_pos hlt,Array.getElem?_eq_getElem hlt']
 have c1:∀b o,b≠hb→cl Hm b o=cl H b o∧fz Hm b o=fz H b o∧shp Hm b=shp H b:=fun b o hn=>by
  unfold cl fz shp;rw [e1 b hn];exact ⟨rfl,rfl,rfl⟩
 have c2:∀o,cl Hm hb o=cl H' hb o∧fz Hm hb o=fz H' hb o∧shp Hm hb=shp H' hb:=fun o=>by
  unfold cl fz shp;rw [e2];exact ⟨rfl,rfl,rfl⟩
 refine ⟨Hm,hs,⟨Nat.le_of_eq hs.symm,fun b o _ hn=>(c1 b o hn).1,fun b o hb'=>?_,fun b hb'=>?_,fun b _ hn=>e1 b (hn 0)⟩,⟨by rw [hs];exact hf.size,fun b o hb' hn=>?_,fun b o hb'=>?_,fun b hb'=>?_,fun b hb' hn=>?_⟩⟩
 ·
  by_cases e:b=hb
  · subst e;exact (c2 o).2.1.trans (hf.frz b o hb')
  · exact (c1 b o e).2.1
 ·
  by_cases e:b=hb
  · subst e;exact (c2 0).2.2.trans (hf.shape b hb')
  · exact (c1 b 0 e).2.2
 ·
  rw [hs] at hb'
  by_cases e:b=hb
  · subst e;exact (c2 o).1.symm
  · exact (hf.cell b o hb' (fun h=>h.elim hn e)).trans (c1 b o e).1.symm
 ·
  rw [hs] at hb'
  by_cases e:b=hb
  · subst e;exact (c2 o).2.1.symm
  · exact (hf.frz b o hb').trans (c1 b o e).2.1.symm
 ·
  rw [hs] at hb'
  by_cases e:b=hb
  · subst e;exact (c2 0).2.2.symm
  · exact (hf.shape b hb').trans (c1 b 0 e).2.2.symm
 ·
  rw [hs] at hb'
  by_cases e:b=hb
  · subst e;exact e2.symm
  · exact (hf.blk b hb' (fun o h=>h.elim (hn o) e)).trans (e1 b e).symm
end Go.Bt
namespace Go.Bt.Pl
end Go.Bt.Pl
namespace Go.Bt
open Go
namespace Pl
end Pl
section
variable {α:Type} {E:Elt α}
def EK:Elt (Nat×Int):={ enc:=fun x=>[.pointer (some ⟨x.1,0,none⟩),.int .i64 x.2],s:=2,len:=fun _=>rfl,one:=fun _=>rfl,pos:=by decide }
theorem Acc.form {β:Type} {F:Elt β} {Z:Nat→Prop} {H:Mem} {v:Value} {l:List β} (h:Acc F Z H v l):∃a m c,v=.slice a m c:=by
 rcases h with ⟨e,_⟩|⟨b,o,c,e,_⟩
 · exact ⟨_,_,_,e⟩
 · exact ⟨_,_,_,e⟩
theorem Acc.take {β:Type} {F:Elt β} {Z:Nat→Prop} {H:Mem} {b o c i:Nat} {l:List β} (h:SlE F H b o c l) (hz:Z b) (hb:b<H.size) (hi:i≤l.length):Acc F Z H (.slice (some ⟨b,o,none⟩) i c) (l.take i):=
 .inr ⟨b,o,c,by rw [List.length_take,Nat.min_eq_left hi],hz,hb,h.take i⟩
end
section
variable {α:Type} {E:Elt α} {H0 H H':Mem} {it tr:Nat} {mt sk as ae:Bool} {Z0 Z:Nat→Prop} {fr fs:List (Nat×Int)} {kv:α} {p:Nat} {z:Int}
structure Itr (E:Elt α) (H0 H:Mem) (it tr:Nat) (mt:Bool) (Z0:Nat→Prop) (sk as ae:Bool) (Z:Nat→Prop) (fr:List (Nat×Int)) (kv:α):Prop where
 c0:cl H it 0=some (.pointer (some ⟨tr,0,none⟩))
 c1:cl H it 1=some (.bool mt)
 c2:cl H it 2=some (.bool sk)
 c3:cl H it 3=some (.bool as)
 c4:cl H it 4=some (.bool ae)
 st:∃sv,cl H it 5=some sv∧Acc EK Z H sv fr.reverse
 kv:Rd H it 6 (E.enc kv)
 wr:Wr H it 0 (6+E.s)
 nz:¬Z it
 f:Fr (fun b _=>b=it∨Z0 b) H0 H
 zz:∀b,Z b→Z0 b∨H0.size≤b
theorem Itr.w (h:Itr E H0 H it tr mt Z0 sk as ae Z fr kv) (i:Nat) (hi:i<6):Wr H it i 1:=h.wr.at0 i 1 (by omega)
structure TopC (H:Mem) (it b o c p:Nat) (z:Int) (n:Nat):Prop where
 c5:cl H it 5=some (.slice (some ⟨b,o,none⟩) (n+1) c)
 cp:cl H b (o+n*2)=some (.pointer (some ⟨p,0,none⟩))
 ci:cl H b (o+n*2+1)=some (.int .i64 z)
 wi:Wr H b (o+n*2+1) 1
 le:n+1≤c
theorem Itr.stk (h:Itr E H0 H it tr mt Z0 sk as ae Z ((p,z)::fs) kv):∃b o c,cl H it 5=some (.slice (some ⟨b,o,none⟩) (fs.length+1) c)∧Z b∧b<H.size∧SlE EK H b o c (fs.reverse++[(p,z)]):=by
 obtain ⟨sv,h1,h2⟩:=h.st
 rw [List.reverse_cons] at h2
 rcases h2 with ⟨_,e⟩|⟨b,o,c,rfl,hz,hb,hs⟩
 · simp at e
 ·
  rw [List.length_append,List.length_reverse,List.length_singleton] at h1
  exact ⟨b,o,c,h1,hz,hb,hs⟩
theorem TopC.of {b o c:Nat} (h1:cl H it 5=some (.slice (some ⟨b,o,none⟩) (fs.length+1) c)) (hs:SlE EK H b o c (fs.reverse++[(p,z)])):TopC H it b o c p z fs.length:=by
 have hl:(fs.reverse++[(p,z)]).length=fs.length+1:=by rw [List.length_append,List.length_reverse,List.length_singleton]
 have hx:(fs.reverse++[(p,z)])[fs.length]?=some (p,z):=by rw [List.getElem?_append_right (by rw [List.length_reverse];exact Nat.le_refl _),List.length_reverse,Nat.sub_self];rfl
 exact ⟨h1,hs.cell hx (j:=0) rfl,hs.cell hx (j:=1) rfl,by
  have:=(hs.wri (i:=fs.length) (by omega)).part 1 1 (by decide)
  exact this,by have:=hs.hle;omega⟩
theorem Itr.top (h:Itr E H0 H it tr mt Z0 sk as ae Z ((p,z)::fs) kv):∃b o c,TopC H it b o c p z fs.length:=by
 obtain ⟨b,o,c,h1,_,_,hs⟩:=h.stk
 exact ⟨b,o,c,TopC.of h1 hs⟩
structure TreeR (H:Mem) (tr:Nat) (P:Ps) (S:Nat→Prop) (l:List α) (r:Option ((h:Nat)×Gt E h)):Prop where
 iso:cl H tr 0=some (.int .u64 (P.iso:Int))
 own:S tr
 lt:∀b,S b→b<H.size
 ll:l.length≤4294967296
 mn:1≤P.mn
 rt:match r with
  | none=>l=[]∧cl H tr 2=some (.pointer none)
  | some ⟨h,t⟩=>Gt.Good H P h t∧1≤(Gt.X h t).length∧Gt.L h t=l∧cl H tr 2=some (ptr (Gt.p h t))∧∀b o,Gt.af h t b o→S b
theorem TreeR.keep {P:Ps} {S:Nat→Prop} {l:List α} {r:Option ((h:Nat)×Gt E h)} (h:TreeR H tr P S l r) {X:Nat→Nat→Prop} (hf:Fr X H H') (hx:∀b o,S b→¬X b o):TreeR H' tr P S l r where
 iso:=hf.keep h.iso (hx _ _ h.own)
 own:=h.own
 lt:=fun b hb=>Nat.lt_of_lt_of_le (h.lt b hb) hf.size
 ll:=h.ll
 mn:=h.mn
 rt:=by
  have h1:=h.rt
  cases r with
  | none=>exact ⟨h1.1,hf.keep h1.2 (hx _ _ h.own)⟩
  | some s=>
   obtain ⟨hh,t⟩:=s
   obtain ⟨h2,h3,h4,h5,h6⟩:=h1
   exact ⟨h2.fr hf fun b o hb=>hx b o (h6 b o hb),h3,h4,hf.keep h5 (hx _ _ h.own),h6⟩
end
namespace Pl
end Pl
section
variable {P:Program} {B:World} {f:FuncId} {Q:Value→Mem→Prop} {n:Nat} {r:Env} {k:List Item} {H:Mem} {l:List Oper} {C:Mem→Prop} {p:List (Nat×Nat)}
variable {i kd d:Nat} {ty:TypeId} {pos:String} {af:Array Edge} {gd:Option (Nat×Bool)}
end
namespace Pl
theorem sing_flat {α:Type}:∀X:List α,(X.map fun y=>[y]).flatten=X
 | []=>rfl
 | x::X=>by rw [List.map_cons,List.flatten_cons,sing_flat X];rfl
theorem inter_flat {α:Type}:∀(X:List α) (K:List (List (List α))),(inter (X.map fun y=>[y]) K).flatten=inter X (K.map List.flatten)
 | X,[]=>by simp only [inter,List.map_nil];exact sing_flat X
 | [],k::_=>rfl
 | x::X,k::K=>by
  simp only [List.map_cons,inter,List.flatten_append,List.flatten_cons,inter_flat X K,List.singleton_append]
theorem mem_inter {α:Type} {c:α}:∀{X:List α} {K:List (List α)},c∈inter X K→c∈X∨∃k∈K,c∈k
 | X,[],h=>.inl (by simpa only [inter] using h)
 | [],k::_,h=>.inr ⟨k,List.mem_cons_self,by simpa only [inter] using h⟩
 | x::X,k::K,h=>by
  simp only [inter,List.mem_append,List.mem_cons] at h
  rcases h with h|rfl|h
  · exact .inr ⟨k,List.mem_cons_self,h⟩
  · exact .inl List.mem_cons_self
  ·
   rcases mem_inter h with h|⟨k',hk,h⟩
   · exact .inl (List.mem_cons_of_mem _ h)
   · exact .inr ⟨k',List.mem_cons_of_mem _ hk,h⟩
theorem flat_len {α:Type}:∀{l:List (List α)},(∀c∈l,1≤c.length)→l.length≤l.flatten.length
 | [],_=>Nat.le_refl _
 | c::l,h=>by
  have h1:=h c List.mem_cons_self
  have h2:=flat_len (l:=l) fun c hc=>h c (List.mem_cons_of_mem _ hc)
  simp only [List.length_cons,List.flatten_cons,List.length_append]
  omega
end Pl
variable {α:Type} {E:Elt α}
def Ab.ch:(h:Nat)→Ab α h→List (List α)
 | 0,a=>[a]
 | h+1,a=>Pl.inter (a.1.map fun y=>[y]) (a.2.map (Ab.ch h))
def Gt.ch:(h:Nat)→Gt E h→List (List α)
 | 0,t=>[t.2]
 | h+1,t=>Pl.inter (t.2.1.map fun y=>[y]) (t.2.2.map (Gt.ch h))
theorem Gt.ch_ab:∀(h:Nat) (t:Gt E h),Ab.ch h (Gt.ab h t)=Gt.ch h t
 | 0,_=>rfl
 | h+1,t=>by
  show Pl.inter (t.2.1.map _) ((t.2.2.map (Gt.ab h)).map (Ab.ch h))=Pl.inter (t.2.1.map _) (t.2.2.map (Gt.ch h))
  rw [List.map_map]
  congr 1
  exact List.map_congr_left fun k _=>Gt.ch_ab h k
theorem Gt.ch_flat:∀(h:Nat) (t:Gt E h),(Gt.ch h t).flatten=Gt.L h t
 | 0,t=>by show [t.2].flatten=t.2;simp
 | h+1,t=>by
  show (Pl.inter (t.2.1.map _) (t.2.2.map (Gt.ch h))).flatten=Pl.inter t.2.1 (t.2.2.map (Gt.L h))
  rw [Pl.inter_flat,List.map_map]
  congr 1
  exact List.map_congr_left fun k _=>Gt.ch_flat h k
theorem Gt.ch_ok {H:Mem} {P:Ps} (h1:1≤P.mn) (h2:1≤P.mx):∀{h:Nat} {t:Gt E h},Gt.Good H P h t→1≤(Gt.X h t).length→∀c∈Gt.ch h t,1≤c.length∧c.length≤P.mx
 | 0,(g,X),hg,hx,c,hc=>by
  have e:c=X:=by
   have:c∈[X]:=hc
   simpa using this
  subst e
  exact ⟨hx,hg.2.2.2⟩
 | h+1,(g,X,K),hg,hx,c,hc=>by
  rcases Pl.mem_inter hc with hc|⟨k,hk,hc⟩
  ·
   obtain ⟨y,_,rfl⟩:=List.mem_map.1 hc
   exact ⟨Nat.le_refl 1,h2⟩
  ·
   obtain ⟨k0,hk0,rfl⟩:=List.mem_map.1 hk
   have hgk:=hg.2.2.2.2.2.2.1 k0 hk0
   exact Gt.ch_ok h1 h2 hgk.1 (Nat.le_trans h1 hgk.2.1) c hc
def AbT.ch:AbT α→List (List α)
 | none=>[]
 | some s=>Ab.ch s.1 s.2
theorem Go'.mono {P:Program} {B:World} {f:FuncId} {Q Q':Value→Mem→Prop} {n:Nat} {r:Env} {k:List Item} {H:Mem} (hq:∀v H',Q v H'→Q' v H') (h:Go' P B f Q n r k H):Go' P B f Q' n r k H:=
 fun d a ha b cs hb hk=>
  let ⟨v,w'',fr,h1,h2,h3,h4⟩:=h d a ha b cs hb hk
  ⟨v,w'',fr,by obtain ⟨H',d',e,q⟩:=h1;exact ⟨H',d',e,hq _ _ q⟩,h2,h3,h4⟩
theorem Wr.nil (H:Mem) (b o:Nat):Wr H b o 0:=fun i hi=>absurd hi (Nat.not_lt_zero i)
section
variable {P:Program} {B:World} {f:FuncId} {Q:Value→Mem→Prop} {n:Nat} {r:Env} {k:List Item} {H:Mem} {l:List Oper} {C:Mem→Prop} {p:List (Nat×Nat)}
variable {i kd d:Nat} {ty:TypeId} {pos:String} {af:Array Edge} {gd:Option (Nat×Bool)}
end
end Go.Bt
namespace Go.Bt.Pl
variable {α:Type} (O:Swo α)
end Go.Bt.Pl
namespace Go.Bt
open Go
section
variable {P:Program} {B:World} {f:FuncId} {Q:Value→Mem→Prop} {n:Nat} {r:Env} {k:List Item} {H:Mem} {σ:Type} {i1 i2 i3 i4:Item}
end
section
variable {α:Type} {E:Elt α} {H0 H H':Mem} {it tr:Nat} {mt sk as ae:Bool} {Z0 Z:Nat→Prop} {fr:List (Nat×Int)} {kv:α}
end
inductive Kd where
 | int (k:IntKind)
 | bool
 | str
def Kd.ok:Kd→Value→Prop
 | .int k,v=>∃n,v=.int k n∧(Lit.int k n).wf=true
 | .bool,v=>∃b,v=.bool b
 | .str,v=>∃s:ByteArray,v=.string s∧s.size≤maxLen
def AllOk:List Kd→List Value→Prop
 | [],[]=>True
 | k::ks,v::vs=>k.ok v∧AllOk ks vs
 | _,_=>False
theorem AllOk.app:∀{ks:List Kd} {vs:List Value} {ks':List Kd} {vs':List Value},AllOk ks vs→AllOk ks' vs'→AllOk (ks++ks') (vs++vs')
 | [],[],_,_,_,h=>h
 | _::_,_::_,_,_,h,h'=>⟨h.1,h.2.app h'⟩
 | [],_::_,_,_,h,_=>h.elim
 | _::_,[],_,_,h,_=>h.elim
theorem AllOk.len:∀{ks:List Kd} {vs:List Value},AllOk ks vs→vs.length=ks.length
 | [],[],_=>rfl
 | _::_,_::_,h=>by rw [List.length_cons,List.length_cons,h.2.len]
 | [],_::_,h=>h.elim
 | _::_,[],h=>h.elim
def kindsF (P:Program) (g:TypeId→Option (List Kd)):Nat→List Field→Option (List Kd)
 | _,[]=>some []
 | off,f::fs=>
  match g f.type with
  | none=>none
  | some a=>if f.offset=off∧P.cellsOf f.type=a.length then (kindsF P g (off+a.length) fs).map (a++·) else none
def kinds (P:Program):Nat→TypeId→Option (List Kd)
 | 0,_=>none
 | n+1,t=>
  match P.underlying t with
  | some .bool=>some [.bool]
  | some (.int k)=>some [.int k]
  | some .string=>some [.str]
  | some (.struct fs)=>
   match kindsF P (kinds P n) 0 fs.toList with
   | some ks=>if P.cellsOf t=ks.length then some ks else none
   | none=>none
  | _=>none
section
variable {H:Type} {enc:TypeId×Value→H} {P:Program} {w:World} {base:Nat} {spare:Nat→Bool} {held:Bool}
end
theorem AllOk.get1 {k:Kd} {ks:List Kd} {vs:List Value} (h:AllOk (k::ks) vs):∃v vs',vs=v::vs'∧k.ok v∧AllOk ks vs':=by
 cases vs with
 | nil=>exact h.elim
 | cons v vs=>exact ⟨v,vs,rfl,h.1,h.2⟩
theorem AllOk.nil' {vs:List Value} (h:AllOk [] vs):vs=[]:=by
 cases vs with
 | nil=>rfl
 | cons v vs=>exact h.elim
def EMv:Elt (Int×Int×Int):={ enc:=fun m=>[.int .i64 m.1,.int .i64 m.2.1,.int .i64 m.2.2],s:=3,len:=fun _=>rfl,one:=fun _=>rfl,pos:=by decide }
theorem EMv.of (vs:List Value) (h:AllOk [.int .i64,.int .i64,.int .i64] vs):∃y,EMv.enc y=vs:=by
 obtain ⟨x1,v1,e1,⟨a,e2,_⟩,h1⟩:=h.get1
 obtain ⟨x2,v2,e3,⟨b,e4,_⟩,h2⟩:=h1.get1
 obtain ⟨x3,v3,e5,⟨c,e6,_⟩,h3⟩:=h2.get1
 rw [e1,e3,e5,e2,e4,e6,h3.nil']
 exact ⟨(a,b,c),rfl⟩
namespace Pl
def cut (n:Nat) (z:Int):Option Nat:=if 0≤z∧z<(n:Int) then some z.toNat else none
theorem cut_nat (n q:Nat):cut n (q:Int)=if q<n then some q else none:=by
 unfold cut
 by_cases h:q<n
 · rw [if_pos ⟨by omega,by omega⟩,if_pos h];rfl
 · rw [if_neg (by omega),if_neg h]
theorem cut_last (n:Nat):cut n ((n:Int)-1)=if 0<n then some (n-1) else none:=by
 by_cases h:0<n
 · rw [show (n:Int)-1=((n-1:Nat):Int) by omega,cut_nat,if_pos (by omega),if_pos h]
 · rw [if_neg h,cut,if_neg (by omega)]
theorem cut_first (n:Nat):cut n 0=if 0<n then some 0 else none:=cut_nat n 0
section
variable {α:Type} (O:Swo α) (l:List α)
def mvTo (m:Int×α) (st:Option Nat):Int:=
 if m.1=2∨m.1=3 then (match st with|none=>-1|some q=>if m.1=2 then (q:Int)+1 else (q:Int)-1)
 else if m.1=1 then (l.length:Int)-1
 else if m.1=4∨m.1=5 then (pos O m.2 l:Int)
 else 0
def mvTold (m:Int×α) (st:Option Nat):Bool:=if m.1=2∨m.1=3 then st.isSome||l.isEmpty else true
end
def Agree {γ:Type} (a b:List γ) (t:List Bool):Prop:=a.length=b.length∧t.length=b.length∧∀j:Nat,t[j]?=some true→a[j]?=b[j]?
theorem Agree.nil {γ:Type}:Agree ([]:List γ) [] []:=⟨rfl,rfl,fun _ _=>rfl⟩
end Pl
namespace Pl
section
variable {α:Type} (O:Swo α) (l:List α)
structure Res (m:Int×α) (s0:Option Nat) (b:Bool) (st:Option Nat):Prop where
 told:mvTold l m s0=true→b=st.isSome∧st=cut l.length (mvTo O l m s0)
 not:mvTold l m s0=false→cut l.length (mvTo O l m s0)=none
variable {O l}
theorem Res.out {m:Int×α} {s0 st:Option Nat} {b:Bool} (h:Res O l m s0 b st) {kv:α} (hkv:∀q,st=some q→l[q]?=some kv) (ht:mvTold l m s0=true):(if b=true then some kv else none)=(cut l.length (mvTo O l m s0)).bind (l[·]?):=by
 obtain ⟨h1,h2⟩:=h.told ht
 rw [←h2,h1]
 cases st with
 | none=>rfl
 | some q=>exact (hkv q rfl).symm
theorem Res.first {m:Int×α} {s0:Option Nat} (h1:m.1≠1) (h2:m.1≠2) (h3:m.1≠3) (h4:m.1≠4) (h5:m.1≠5):Res O l m s0 (decide (0<l.length)) (if 0<l.length then some 0 else none):=by
 have e:mvTo O l m s0=0:=by unfold mvTo;rw [if_neg (by omega),if_neg h1,if_neg (by omega)]
 refine ⟨fun _=>⟨?_,by rw [e,cut_first]⟩,fun h=>?_⟩
 · by_cases h:0<l.length<;>simp [h]
 · unfold mvTold at h;rw [if_neg (by omega)] at h;cases h
theorem Res.last {m:Int×α} {s0:Option Nat} (h1:m.1=1):Res O l m s0 (decide (0<l.length)) (if 0<l.length then some (l.length-1) else none):=by
 have e:mvTo O l m s0=(l.length:Int)-1:=by unfold mvTo;rw [if_neg (by omega),if_pos h1]
 refine ⟨fun _=>⟨?_,by rw [e,cut_last]⟩,fun h=>?_⟩
 · by_cases h:0<l.length<;>simp [h]
 · unfold mvTold at h;rw [if_neg (by omega)] at h;cases h
end
end Pl
namespace Pl
section
variable {α:Type} (O:Swo α) (T:List α)
end
end Pl
theorem slice_inG {α:Type} (E:Elt α) {Hh:Type} {enc:TypeId×Value→Hh} {P:Program} {w:World} {fuel:Nat} {t e:TypeId} {a:Option Addr} {len cap:Nat} {x:DataW Hh×List MemPlace} (ht:P.underlying t=some (.slice e))
  (hce:P.cellsOf e=E.s) (hE:∀(n:Nat) (cs:List Value) (y:DataW Hh×List MemPlace),DataW.trod enc P w 0 (fun _=>true) true n e cs=some y→∃y,E.enc y=cs) (h:DataW.trod enc P w 0 (fun _=>true) true fuel t [.slice a len cap]=some x):∃l,InS E w.heap (.slice a len cap) l:=by
 rcases Go.Deep.open_slice ht h with ⟨hcs,_⟩|⟨a',len',cap',m',n,D,Pl,hcs,_,hl,_,hm,_,hx⟩
 ·
  simp at hcs
  obtain ⟨rfl,rfl,rfl⟩:=hcs
  exact ⟨[],.inr ⟨rfl,_,_,rfl⟩⟩
 ·
  simp at hcs
  obtain ⟨rfl,rfl,rfl⟩:=hcs
  simp only [if_true] at hm
  subst hm
  rcases Nat.eq_zero_or_pos m' with rfl|hc
  ·
   obtain rfl:len=0:=by omega
   exact ⟨[],.inr ⟨rfl,_,_,rfl⟩⟩
  ·
   have hex:∀i,i<m'→∃y:α,w.cells? 0 (a'.add (i*E.s)) E.s=some (E.enc y):=fun i hi=>by
    obtain ⟨cs',h1,h2⟩:=hx i hi
    obtain ⟨y,hy⟩:=hE _ _ _ h2
    rw [hce] at h1
    exact ⟨y,by rw [hy];exact h1⟩
   have hx':∀i,∃y:α,i<m'→w.cells? 0 (a'.add (i*E.s)) E.s=some (E.enc y):=fun i=>by
    by_cases hi:i<m'
    ·
     obtain ⟨y,hy⟩:=hex i hi
     exact ⟨y,fun _=>hy⟩
    ·
     obtain ⟨y,_⟩:=hex 0 hc
     exact ⟨y,fun hh=>absurd hh hi⟩
   obtain ⟨f,hf⟩:∃f:Nat→α,∀i,i<m'→w.cells? 0 (a'.add (i*E.s)) E.s=some (E.enc (f i)):=⟨fun i=>Classical.choose (hx' i),fun i=>Classical.choose_spec (hx' i)⟩
   obtain ⟨b,o,s⟩:=a'
   have cell:∀i j,i<m'→j<E.s→w.cell? ((Addr.add ⟨b,o,s⟩ (i*E.s)).add j)=(E.enc (f i))[j]?:=fun i j hi hj=>(World.cells?_some (hf i hi)).2.2 j hj
   have hs:s=none:=by
    have h0:=cell 0 0 hc E.pos
    cases s with
    | none=>rfl
    | some k=>
     have hne:(E.enc (f 0))[0]?≠none:=by
      intro hh
      have:=List.getElem?_eq_none_iff.1 hh
      rw [E.len] at this
      have:=E.pos
      omega
     rw [←h0] at hne
     simp only [Nat.zero_mul,Addr.add,if_true,World.cell?] at hne
     split at hne<;>simp at hne
   subst hs
   refine ⟨(List.range len).map f,.inl ⟨b,o,m',by simp,by simpa using hl,fun j v hv=>?_⟩⟩
   have hj:=(List.getElem?_eq_some_iff.1 hv).1
   rw [row_len,List.length_map,List.length_range] at hj
   have hi:j / E.s<len:=Nat.div_lt_of_lt_mul (by rw [Nat.mul_comm];exact hj)
   have hr:j % E.s<E.s:=Nat.mod_lt _ E.pos
   have hq:((List.range len).map f)[j / E.s]?=some (f (j / E.s)):=by simp [hi]
   have hjm:j / E.s*E.s+j % E.s=j:=by rw [Nat.mul_comm];exact Nat.div_add_mod j E.s
   have h1:=cell (j / E.s) (j % E.s) (by omega) hr
   have hlt:j % E.s<(E.enc (f (j / E.s))).length:=by rw [E.len];exact hr
   have hg:=row_get E hq (j % E.s) _ (List.getElem?_eq_getElem hlt)
   rw [hjm] at hg
   have hvv:=Option.some.inj (hv.symm.trans hg)
   have cc:∀n,World.cell? w ⟨b,n,none⟩=cl w.heap b n:=fun n=>by rw [←mk_self w];exact mk_cell _ _ _ _ _
   rw [Addr.add_lit,Addr.add_lit,cc] at h1
   rw [show o+j=o+j / E.s*E.s+j % E.s by omega,h1,hvv]
   exact List.getElem?_eq_getElem hlt
end Go.Bt
namespace Go.Bt
open Go Go.ChangeShapes
section
variable {Hh:Type} {enc:TypeId×Value→Hh} {P:Program} {w:World} {fuel:Nat} {t e:TypeId} {f0 f1 f2:Field} {cs:List Value} {x:DataW Hh×List MemPlace}
theorem len1 {α:Type} {l:List α} {c:α} (h:l=[c]):l=[c]:=h
theorem open_mk (ht:P.underlying t=some (.struct #[f0,f1,f2])) (o0:f0.offset=0) (o1:f1.offset=1) (o2:f2.offset=2) (h0:P.underlying f0.type=some (.slice e)) (hce:P.cellsOf e=1) (he:P.underlying e=some (.int .i64))
  (h1:P.underlying f1.type=some (.int .i64)) (h2:P.underlying f2.type=some .bool) (c0:P.cellsOf f0.type=1) (c1:P.cellsOf f1.type=1) (c2:P.cellsOf f2.type=1) (ct:P.cellsOf t=3)
  (h:DataW.trod enc P w 0 (fun _=>true) true fuel t cs=some x) (hsl:∀v n y,DataW.trod enc P w 0 (fun _=>true) true n f0.type [v]=some y→∃a m c,v=.slice a m c):
  ∃(v:Value) (l:List Int) (z:Int) (b:Bool),cs=[v,.int .i64 z,.bool b]∧InS EN w.heap v l:=by
 obtain ⟨y0,y1,y2,n,_,hl,t0,t1,t2⟩:=Go.Deep.trod_struct3 ht h
 rw [ct] at hl
 obtain ⟨a0,a1,a2,rfl⟩:∃a0 a1 a2,cs=[a0,a1,a2]:=by
  match cs,hl with
  | [a0,a1,a2],_=>exact ⟨a0,a1,a2,rfl⟩
 rw [o0,c0] at t0
 rw [o1,c1] at t1
 rw [o2,c2] at t2
 obtain ⟨z,hz,_⟩:=DataW.trod_int h1 t1
 obtain ⟨b,hb,_⟩:=DataW.trod_bool h2 t2
 obtain ⟨a,m,c,rfl⟩:=hsl a0 n y0 t0
 obtain ⟨l,hi⟩:=slice_inG EN (a:=a) (len:=m) (cap:=c) h0 hce (fun n cs y hy=>by obtain ⟨z,hz,_⟩:=DataW.trod_int he hy;exact ⟨z,hz.symm⟩) t0
 have ez:a1=.int .i64 z:=by simpa using hz
 have eb:a2=.bool b:=by simpa using hb
 exact ⟨_,l,z,b,by rw [ez,eb],hi⟩
theorem trod_isl (ht:P.underlying t=some (.slice e)) {v:Value} {n:Nat} {y:DataW Hh×List MemPlace} (h:DataW.trod enc P w 0 (fun _=>true) true n t [v]=some y):∃a m c,v=.slice a m c:=by
 rcases Go.Deep.open_slice ht h with ⟨hcs,_⟩|⟨a',len',cap',m',n,D,Pl,hcs,_⟩
 · exact ⟨_,_,_,by simpa using hcs⟩
 · exact ⟨_,_,_,by simpa using hcs⟩
end
end Go.Bt
