/- A priority queue in a list: sifting up, sifting down, popping. Conditions: none. -/
import Derived.ChangeArms
import Derived.Deep.Slices
import Derived.Test.YtmcnochofpgfbaaToAb
import Derived.Test.YtmcnochofpgfbaaToPe
import Derived.Test.YtmcnochofpgfbaaToRb
import Derived.Test.YtmcnochofpgfbaaToLgH
set_option linter.unusedVariables false
namespace Go.Bt
namespace Hp
variable {ε α:Type} (O:Pl.Swo α) (key:ε→α)
def swp (q:List ε) (i j:Nat) (a b:ε):List ε:=(q.set i b).set j a
def Heap (q:List ε):Prop:=∀j a b,0<j→q[j]?=some a→q[(j-1) / 2]?=some b→O.lt (key a) (key b)=false
def Up (q:List ε) (i:Nat):Prop:=(∀j a b,0<j→j≠i→q[j]?=some a→q[(j-1) / 2]?=some b→O.lt (key a) (key b)=false)∧
 ∀j a b,0<i→0<j→(j-1) / 2=i→q[j]?=some a→q[(i-1) / 2]?=some b→O.lt (key a) (key b)=false
def Dn (q:List ε) (i:Nat):Prop:=(∀j a b,0<j→(j-1) / 2≠i→q[j]?=some a→q[(j-1) / 2]?=some b→O.lt (key a) (key b)=false)∧
 ∀j a b,0<i→0<j→(j-1) / 2=i→q[j]?=some a→q[(i-1) / 2]?=some b→O.lt (key a) (key b)=false
theorem swp_len (q:List ε) (i j:Nat) (a b:ε):(swp q i j a b).length=q.length:=by simp [swp]
theorem swp_i {q:List ε} {i j:Nat} {a b:ε} (hi:i<q.length) (hne:i≠j):(swp q i j a b)[i]?=some b:=by
 unfold swp;rw [List.getElem?_set_ne (Ne.symm hne),List.getElem?_set_self hi]
theorem swp_j {q:List ε} {i j:Nat} {a b:ε} (hj:j<q.length):(swp q i j a b)[j]?=some a:=by
 unfold swp;rw [List.getElem?_set_self (by simpa using hj)]
theorem swp_o {q:List ε} {i j k:Nat} {a b:ε} (h1:k≠i) (h2:k≠j):(swp q i j a b)[k]?=q[k]?:=by
 unfold swp;rw [List.getElem?_set_ne (Ne.symm h2),List.getElem?_set_ne (Ne.symm h1)]
theorem swp_perm {q:List ε} {i j:Nat} {a b:ε} (hi:q[i]?=some a) (hj:q[j]?=some b):(swp q i j a b).Perm q:=by
 obtain ⟨h1,e1⟩:=List.getElem?_eq_some_iff.1 hi
 obtain ⟨h2,e2⟩:=List.getElem?_eq_some_iff.1 hj
 unfold swp
 rw [←e1,←e2]
 exact List.set_set_perm h1 h2
theorem Up.start {q:List ε} {e:ε} (h:Heap O key q):Up O key (q++[e]) q.length:=by
 refine ⟨fun j a b h0 hne h1 h2=>?_,fun j a b _ h0 hp h1 h2=>?_⟩
 ·
  have hl:=(List.getElem?_eq_some_iff.1 h1).1
  simp only [List.length_append,List.length_singleton] at hl
  rw [List.getElem?_append_left (by omega)] at h1 h2
  exact h j a b h0 h1 h2
 ·
  have hl:=(List.getElem?_eq_some_iff.1 h1).1
  simp only [List.length_append,List.length_singleton] at hl
  omega
theorem Up.fin {q:List ε} {i:Nat} (h:Up O key q i) (hd:i=0∨∀a b,q[i]?=some a→q[(i-1) / 2]?=some b→O.lt (key a) (key b)=false):Heap O key q:=fun j a b h0 h1 h2=>by
 by_cases e:j=i
 ·
  subst e
  rcases hd with h3|h3
  · omega
  · exact h3 a b h1 h2
 · exact h.1 j a b h0 e h1 h2
theorem Up.step {q:List ε} {i:Nat} {a b:ε} (h:Up O key q i) (h0:0<i) (ha:q[i]?=some a) (hb:q[(i-1) / 2]?=some b) (hlt:O.lt (key a) (key b)=true):Up O key (swp q i ((i-1) / 2) a b) ((i-1) / 2):=by
 obtain ⟨p,hp⟩:∃p,p=(i-1) / 2:=⟨_,rfl⟩
 rw [←hp] at hb ⊢
 have hil:=(List.getElem?_eq_some_iff.1 ha).1
 have hpl:=(List.getElem?_eq_some_iff.1 hb).1
 have hpi:p<i:=by omega
 have nlt:O.lt (key b) (key a)=false:=O.asy hlt
 refine ⟨fun j x y hj hne h1 h2=>?_,fun j x y hp0 hj hpar h1 h2=>?_⟩
 ·
  by_cases e1:j=i
  ·
   subst e1
   rw [swp_i hil (by omega)] at h1
   rw [←hp,swp_j hpl] at h2
   cases h1;cases h2;exact nlt
  ·
   rw [swp_o e1 hne] at h1
   by_cases e2:(j-1) / 2=i
   ·
    rw [e2,swp_i hil (by omega)] at h2
    cases h2
    exact h.2 j x b h0 hj e2 h1 (by rw [←hp];exact hb)
   ·
    by_cases e3:(j-1) / 2=p
    ·
     rw [e3,swp_j hpl] at h2
     cases h2
     have h3:=h.1 j x b hj e1 h1 (by rw [e3];exact hb)
     cases hx:O.lt (key x) (key a) with
     | false=>rfl
     | true=>rw [O.trans hx hlt] at h3;cases h3
    ·
     rw [swp_o e2 e3] at h2
     exact h.1 j x y hj e1 h1 h2
 ·
  rw [swp_o (by omega) (by omega)] at h2
  by_cases e1:j=i
  ·
   subst e1
   rw [swp_i hil (by omega)] at h1
   cases h1
   exact h.1 p b y hp0 (by omega) hb h2
  ·
   rw [swp_o e1 (by omega)] at h1
   exact O.ntr (h.1 j x b hj e1 h1 (by rw [hpar];exact hb)) (h.1 p b y hp0 (by omega) hb h2)
theorem Dn.fin {q:List ε} {i:Nat} (h:Dn O key q i) (hd:∀j a b,0<j→(j-1) / 2=i→q[j]?=some a→q[i]?=some b→O.lt (key a) (key b)=false):Heap O key q:=fun j a b h0 h1 h2=>by
 by_cases e:(j-1) / 2=i
 · rw [e] at h2;exact hd j a b h0 e h1 h2
 · exact h.1 j a b h0 e h1 h2
theorem Dn.step {q:List ε} {i s:Nat} {a b:ε} (h:Dn O key q i) (hs0:0<s) (hs:(s-1) / 2=i) (ha:q[i]?=some a) (hb:q[s]?=some b) (h1:O.lt (key a) (key b)=false)
  (h2:∀j x,0<j→(j-1) / 2=i→q[j]?=some x→O.lt (key x) (key b)=false):Dn O key (swp q s i b a) s:=by
 have hil:=(List.getElem?_eq_some_iff.1 ha).1
 have hsl:=(List.getElem?_eq_some_iff.1 hb).1
 have his:i<s:=by omega
 refine ⟨fun j x y hj hne h3 h4=>?_,fun j x y _ hj hpar h3 h4=>?_⟩
 ·
  by_cases e1:j=s
  ·
   subst e1
   rw [swp_i hsl (by omega)] at h3
   rw [hs,swp_j hil] at h4
   cases h3;cases h4;exact h1
  ·
   by_cases e2:j=i
   ·
    subst e2
    rw [swp_j hil] at h3
    cases h3
    rw [swp_o (by omega) (by omega)] at h4
    exact h.2 s b y hj hs0 hs hb h4
   ·
    rw [swp_o e1 e2] at h3
    by_cases e3:(j-1) / 2=i
    ·
     rw [e3,swp_j hil] at h4
     cases h4
     exact h2 j x hj e3 h3
    ·
     rw [swp_o hne e3] at h4
     exact h.1 j x y hj e3 h3 h4
 ·
  rw [hs,swp_j hil] at h4
  cases h4
  rw [swp_o (by omega) (by omega)] at h3
  exact h.1 j x b hj (by omega) h3 (by rw [hpar];exact hb)
theorem Dn.start {q:List ε} {e z:ε} (h:Heap O key (e::q++[z])):Dn O key (z::q) 0:=by
 refine ⟨fun j a b h0 hne h1 h2=>?_,fun j a b h0=>absurd h0 (Nat.lt_irrefl 0)⟩
 have hl:=(List.getElem?_eq_some_iff.1 h1).1
 have hg:∀k,0<k→k<(z::q).length→(z::q)[k]?=(e::q++[z])[k]?:=fun k hk hkl=>by
  rcases k with _|k
  · omega
  · rw [List.getElem?_cons_succ,List.cons_append,List.getElem?_cons_succ,List.getElem?_append_left (by simpa using hkl)]
 rw [hg j h0 hl] at h1
 rw [hg _ (by omega) (by omega)] at h2
 exact h j a b h0 h1 h2
theorem heap_nil:Heap O key ([]:List ε):=fun j a b _ h1=>by simp at h1
theorem Heap.min {q:List ε} {e:ε} (h:Heap O key q) (h0:q[0]?=some e):∀(j:Nat) (x:ε),q[j]?=some x→O.lt (key x) (key e)=false:=by
 intro j
 induction j using Nat.strongRecOn with
 | _ j ih=>
  intro x hx
  by_cases hj:j=0
  · subst hj;rw [h0] at hx;cases hx;exact O.irr _
  ·
   have hl:=(List.getElem?_eq_some_iff.1 hx).1
   obtain ⟨y,hy⟩:∃y,q[(j-1) / 2]?=some y:=⟨q[(j-1) / 2]'(by omega),List.getElem?_eq_getElem (by omega)⟩
   exact O.ntr (h j x y (by omega) hx hy) (ih ((j-1) / 2) (by omega) y hy)
theorem Dn.stop {q:List ε} {i:Nat} {a:ε} (h:Dn O key q i) (ha:q[i]?=some a) (hl:∀x,q[i*2+1]?=some x→O.lt (key a) (key x)=true) (hr:∀x,q[i*2+2]?=some x→O.lt (key a) (key x)=true):Heap O key q:=
 h.fin O key fun j x y h0 hj hx hy=>by
  rw [ha] at hy;cases hy
  rcases (show j=i*2+1∨j=i*2+2 by omega) with rfl|rfl
  · exact O.asy (hl x hx)
  · exact O.asy (hr x hx)
theorem Dn.left {q:List ε} {i:Nat} {a b:ε} (h:Dn O key q i) (ha:q[i]?=some a) (hb:q[i*2+1]?=some b) (h1:O.lt (key a) (key b)=false) (hr:∀x,q[i*2+2]?=some x→O.lt (key b) (key x)=true):Dn O key (swp q (i*2+1) i b a) (i*2+1):=
 h.step O key (by omega) (by omega) ha hb h1 fun j x h0 hj hx=>by
  rcases (show j=i*2+1∨j=i*2+2 by omega) with rfl|rfl
  · rw [hb] at hx;cases hx;exact O.irr _
  · exact O.asy (hr x hx)
theorem Dn.right {q:List ε} {i:Nat} {a b c:ε} (h:Dn O key q i) (ha:q[i]?=some a) (hb:q[i*2+2]?=some b) (hc:q[i*2+1]?=some c)
  (h1:(O.lt (key a) (key c)=true∧O.lt (key a) (key b)=false)∨(O.lt (key a) (key c)=false∧O.lt (key c) (key b)=false)):Dn O key (swp q (i*2+2) i b a) (i*2+2):=by
 have hab:O.lt (key a) (key b)=false:=h1.elim (fun h=>h.2) fun h=>O.ntr h.1 h.2
 have hcb:O.lt (key c) (key b)=false:=h1.elim (fun h=>by
  cases e:O.lt (key c) (key b) with
  | false=>rfl
  | true=>exact absurd (O.trans h.1 e) (by rw [h.2];exact Bool.false_ne_true)) fun h=>h.2
 refine h.step O key (by omega) (by omega) ha hb hab fun j x h0 hj hx=>?_
 rcases (show j=i*2+1∨j=i*2+2 by omega) with rfl|rfl
 · rw [hc] at hx;cases hx;exact hcb
 · rw [hb] at hx;cases hx;exact O.irr _
theorem pop_start {q rest:List ε} {e z:ε} (he:q=e::rest) (hz:q[q.length-1]?=some z):((q.set 0 z).take (q.length-1)).Perm rest∧(Heap O key q→Dn O key ((q.set 0 z).take (q.length-1)) 0):=by
 subst he
 rcases List.eq_nil_or_concat rest with rfl|⟨mid,z',e2⟩
 · exact ⟨List.Perm.refl _,fun _=>⟨fun j a b _ _ h1=>by simp at h1,fun j a b h0=>absurd h0 (Nat.lt_irrefl 0)⟩⟩
 ·
  have e3:rest=mid++[z']:=by simpa using e2
  subst e3
  have hz':z'=z:=by
   have hl:(e::(mid++[z'])).length-1=mid.length+1:=by simp
   rw [hl,List.getElem?_cons_succ,List.getElem?_append_right (Nat.le_refl _),Nat.sub_self] at hz
   exact Option.some.inj hz
  subst hz'
  have e4:(((e::(mid++[z'])).set 0 z').take ((e::(mid++[z'])).length-1))=z'::mid:=by simp
  rw [e4]
  exact ⟨List.perm_append_comm (l₁:=[z']) (l₂:=mid),fun h=>Dn.start O key (e:=e) (by simpa using h)⟩
end Hp
variable {α:Type} {E:Elt α}
@[reducible] def Gt.nd {h:Nat} (g:Ng) (X:List α) (K:List (Gt E h)):Gt E (h+1):=(g,X,K)
inductive Dn:{h0:Nat}→Gt E h0→List (Nat×Nat)→{h:Nat}→Gt E h→List α→List α→Prop
 | nil {h:Nat} {t:Gt E h}:Dn t [] t [] []
 | cons {h0:Nat} {g:Ng} {X:List α} {K:List (Gt E h0)} {k:Gt E h0} {i:Nat} {fs:List (Nat×Nat)} {h:Nat} {t:Gt E h} {A C:List α} (hk:K[i]?=some k) (d:Dn k fs t A C):
   Dn (Gt.nd g X K) ((Gt.p h0 k,i)::fs) t (Pl.pre (X.take i) ((K.map (Gt.L h0)).take i)++A) (C++Pl.post (X.drop i) ((K.map (Gt.L h0)).drop (i+1)))
theorem Dn.le {h0 h:Nat} {t0:Gt E h0} {t:Gt E h} {fs:List (Nat×Nat)} {A C:List α} (d:Dn t0 fs t A C):h0=h+fs.length:=by
 induction d with
 | nil=>rfl
 | cons _ _ ih=>simp only [List.length_cons];omega
theorem Dn.L {H:Mem} {P:Ps} {h0 h:Nat} {t0:Gt E h0} {t:Gt E h} {fs:List (Nat×Nat)} {A C:List α} (d:Dn t0 fs t A C) (hg:Gt.Good H P h0 t0):Gt.L h0 t0=A++Gt.L h t++C:=by
 induction d with
 | nil=>simp
 | @cons h0 g X K k i fs h t A C hk d ih=>
  have hl:(K.map (Gt.L h0)).length=X.length+1:=by rw [List.length_map];exact hg.2.2.2.2.2.1
  have e:Gt.L (h0+1) ((g,X,K):Gt E (h0+1))=_:=Pl.inter_self hl (by rw [List.getElem?_map,hk];rfl)
  rw [e,ih (hg.2.2.2.2.2.2.1 k (List.mem_of_getElem? hk)).1]
  simp
theorem Dn.sub {h0 h:Nat} {t0:Gt E h0} {t:Gt E h} {fs:List (Nat×Nat)} {A C:List α} (d:Dn t0 fs t A C):∀b o,Gt.af h t b o→Gt.af h0 t0 b o:=by
 induction d with
 | nil=>exact fun _ _ h=>h
 | cons hk d ih=>exact fun b o hb=>.inr (.inr ⟨_,List.mem_of_getElem? hk,ih b o hb⟩)
theorem Dn.good {H:Mem} {P:Ps} {h0 h:Nat} {t0:Gt E h0} {t:Gt E h} {fs:List (Nat×Nat)} {A C:List α} (d:Dn t0 fs t A C) (hg:Gt.Good H P h0 t0):Gt.Good H P h t∧(fs≠[]→P.mn≤(Gt.X h t).length):=by
 induction d with
 | nil=>exact ⟨hg,fun h=>absurd rfl h⟩
 | @cons h0 g X K k i fs h t A C hk d ih=>
  have hk2:=hg.2.2.2.2.2.2.1 k (List.mem_of_getElem? hk)
  obtain ⟨h1,h2⟩:=ih hk2.1
  refine ⟨h1,fun _=>?_⟩
  cases d with
  | nil=>exact hk2.2.1
  | cons=>exact h2 (by simp)
theorem Dn.pts {h0 h:Nat} {t0:Gt E h0} {t:Gt E h} {fs:List (Nat×Nat)} {A C:List α} (d:Dn t0 fs t A C):∀q∈Gt.p h0 t0::fs.map Prod.fst,∀o,o<4→Gt.af h0 t0 q o:=by
 induction d with
 | nil=>
  intro q hq o ho
  simp only [List.map_nil,List.mem_singleton] at hq
  subst hq
  exact Gt.af_p ho
 | @cons h0 g X K k i fs h t A C hk d ih=>
  intro q hq o ho
  rcases List.mem_cons.1 hq with rfl|hq
  · exact Gt.af_p (t:=Gt.nd g X K) ho
  · exact .inr (.inr ⟨k,List.mem_of_getElem? hk,ih q hq o ho⟩)
theorem Dn.nodup {H:Mem} {P:Ps} {h0 h:Nat} {t0:Gt E h0} {t:Gt E h} {fs:List (Nat×Nat)} {A C:List α} (d:Dn t0 fs t A C) (hg:Gt.Good H P h0 t0):(Gt.p h0 t0::fs.map Prod.fst).Nodup:=by
 induction d with
 | nil=>simp
 | @cons h0 g X K k i fs h t A C hk d ih=>
  have hk2:=hg.2.2.2.2.2.2.1 k (List.mem_of_getElem? hk)
  rw [List.map_cons,List.nodup_cons]
  refine ⟨fun hm=>?_,ih hk2.1⟩
  have:=d.pts _ hm 0 (by decide)
  exact (hk2.2.2 _ _ this).1 (.inl ⟨rfl,by decide⟩)
theorem Dn.cnts {H:Mem} {P:Ps} {h0 h:Nat} {t0:Gt E h0} {t:Gt E h} {fs:List (Nat×Nat)} {A C:List α} (d:Dn t0 fs t A C) (hg:Gt.Good H P h0 t0):∀q∈Gt.p h0 t0::fs.map Prod.fst,∃c:Nat,cl H q 1=some (.int .i64 (c:Int))∧(Gt.L h t).length≤c∧c≤(Gt.L h0 t0).length∧Wr H q 0 4:=by
 induction d with
 | nil=>
  intro q hq
  simp only [List.map_nil,List.mem_singleton] at hq
  subst hq
  obtain ⟨kp,hn⟩:=hg.node
  exact ⟨_,hn.c1,by rw [hg.cnt];exact Nat.le_refl _,by rw [hg.cnt];exact Nat.le_refl _,hn.wr⟩
 | @cons h0 g X K k i fs h t A C hk d ih=>
  have hk2:=hg.2.2.2.2.2.2.1 k (List.mem_of_getElem? hk)
  have hle:=kid_le (t:=Gt.nd g X K) hg.2.2.2.2.2.1 (List.mem_of_getElem? hk)
  have hl:=congrArg List.length (d.L hk2.1)
  simp only [List.length_append] at hl
  intro q hq
  rcases List.mem_cons.1 hq with rfl|hq
  ·
   obtain ⟨kp,hn⟩:=hg.node
   exact ⟨_,hn.c1,by rw [hg.cnt];omega,by rw [hg.cnt];exact Nat.le_refl _,hn.wr⟩
  ·
   obtain ⟨c,h1,h2,h3,h4⟩:=ih hk2.1 q hq
   exact ⟨c,h1,h2,Nat.le_trans h3 hle,h4⟩
def DownOk {h0:Nat} (t0:Gt E h0) (fs:List (Nat×Nat)) (A C:List α):(h1:Nat)→Gt E h1→Prop
 | 0,_=>True
 | h+1,t=>∀i k,t.2.2[i]?=some k→Dn t0 (fs++[(Gt.p h k,i)]) k (A++Pl.pre (t.2.1.take i) ((t.2.2.map (Gt.L h)).take i)) (Pl.post (t.2.1.drop i) ((t.2.2.map (Gt.L h)).drop (i+1))++C)
theorem Dn.down0 {h0 h1:Nat} {t0:Gt E h0} {fs:List (Nat×Nat)} {A C:List α} {t:Gt E h1} (d:Dn t0 fs t A C):DownOk t0 fs A C h1 t:=by
 induction d with
 | @nil h1 t=>
  rcases h1 with _|h
  · trivial
  ·
   intro i k hk
   obtain ⟨g,X,K⟩:=t
   have:=Dn.cons (g:=g) (X:=X) (K:=K) hk (Dn.nil (t:=k))
   simpa using this
 | @cons h2 g X K k2 j fs h1 t A C hk2 d ih=>
  rcases h1 with _|h
  · trivial
  ·
   intro i k hk
   have:=Dn.cons (g:=g) (X:=X) hk2 (ih i k hk)
   simpa using this
theorem Dn.down {h0 h:Nat} {t0:Gt E h0} {fs:List (Nat×Nat)} {A C:List α} {t:Gt E (h+1)} {i:Nat} {k:Gt E h} (d:Dn t0 fs t A C) (hk:t.2.2[i]?=some k):
  Dn t0 (fs++[(Gt.p h k,i)]) k (A++Pl.pre (t.2.1.take i) ((t.2.2.map (Gt.L h)).take i)) (Pl.post (t.2.1.drop i) ((t.2.2.map (Gt.L h)).drop (i+1))++C):=d.down0 i k hk
theorem Dn.up {h0:Nat} {t0:Gt E h0} {fs:List (Nat×Nat)} {q i:Nat} {h:Nat} {k:Gt E h} {A C:List α} (d:Dn t0 (fs++[(q,i)]) k A C):∃(t:Gt E (h+1)) (A' C':List α),Dn t0 fs t A' C'∧t.2.2[i]?=some k∧q=Gt.p h k∧
  A=A'++Pl.pre (t.2.1.take i) ((t.2.2.map (Gt.L h)).take i)∧C=Pl.post (t.2.1.drop i) ((t.2.2.map (Gt.L h)).drop (i+1))++C':=by
 generalize hfs:fs++[(q,i)]=fs1 at d
 induction d generalizing fs with
 | nil=>simp at hfs
 | @cons h0 g X K k1 j fs2 h t A C hk d ih=>
  rcases fs with _|⟨f,fs⟩
  ·
   simp only [List.nil_append,List.cons.injEq,Prod.mk.injEq] at hfs
   obtain ⟨⟨rfl,rfl⟩,rfl⟩:=hfs
   cases d with
   | nil=>exact ⟨(g,X,K),[],[],.nil,hk,rfl,by simp,by simp⟩
  ·
   simp only [List.cons_append,List.cons.injEq] at hfs
   obtain ⟨rfl,h2⟩:=hfs
   obtain ⟨t2,A',C',d2,h3,h4,h5,h6⟩:=ih h2
   exact ⟨t2,_,_,.cons hk d2,h3,h4,by rw [h5];simp,by rw [h6];simp⟩
theorem Kids.one {P:Ps} {Z:Nat→Nat→Prop} {H H':Mem} {h:Nat} {g g':Ng} {K1 K2:List (Gt E h)} {a m:Gt E h} (hK:Kids H P h g (K1++[a]++K2)) (hf:Fr Z H H') (hZ:∀k∈K1++K2,∀b o,Gt.af h k b o→¬Z b o)
  (hg:∀b o,ncl E g' b o∨kcl g' b o→ncl E g b o∨kcl g b o) (hm:Gt.Good H' P h m∧P.mn≤(Gt.X h m).length) (hs:∀b o,Gt.af h m b o→Gt.af h a b o):Kids H' P h g' (K1++[m]++K2):=by
 obtain ⟨h1,h2⟩:=hK
 have hd:∀k∈K1++[a]++K2,∀b o,Gt.af h k b o→¬ncl E g' b o∧¬kcl g' b o:=fun k hk b o hb=>
  ⟨fun hn=>(hg b o (.inl hn)).elim ((h1 k hk).2.2 b o hb).1 ((h1 k hk).2.2 b o hb).2,fun hn=>(hg b o (.inr hn)).elim ((h1 k hk).2.2 b o hb).1 ((h1 k hk).2.2 b o hb).2⟩
 have old:∀k,k∈K1∨k∈K2→k∈K1++[a]++K2:=fun k hk=>by simp;rcases hk with hk|hk;exact .inl hk;exact .inr (.inr hk)
 refine ⟨fun k hk=>?_,?_⟩
 ·
  have hk':(k∈K1∨k∈K2)∨k=m:=by
   simp only [List.mem_append,List.mem_singleton] at hk
   rcases hk with (hk|hk)|hk
   · exact .inl (.inl hk)
   · exact .inr hk
   · exact .inl (.inr hk)
  rcases hk' with hk'|rfl
  · exact ⟨(h1 k (old k hk')).1.fr hf (hZ k (List.mem_append.2 hk')),(h1 k (old k hk')).2.1,hd k (old k hk')⟩
  · exact ⟨hm.1,hm.2,fun b o hb=>hd a (by simp) b o (hs b o hb)⟩
 ·
  rw [List.append_assoc,List.pairwise_append,List.pairwise_append] at h2 ⊢
  obtain ⟨p1,⟨_,p2,pA2⟩,p12⟩:=h2
  refine ⟨p1,⟨List.pairwise_singleton _ _,p2,fun x hx k hk b o hb hb2=>?_⟩,fun k hk x hx b o hb hb2=>?_⟩
  ·
   rw [List.mem_singleton] at hx;subst hx
   exact pA2 a (List.mem_singleton.2 rfl) k hk b o (hs b o hb) hb2
  ·
   rcases List.mem_append.1 hx with hx|hx
   ·
    rw [List.mem_singleton] at hx;subst hx
    exact p12 k hk a (by simp) b o hb (hs b o hb2)
   · exact p12 k hk x (List.mem_append_right _ hx) b o hb hb2
theorem Gt.Seg.mono {R R':α→List α→Prop} {H:Mem} {P:Ps}:∀{h:Nat} {t:Gt E h},Gt.Good H P h t→Gt.Seg R h t→(∀a w l c,Gt.L h t=a++w::l++c→R w l→R' w l)→Gt.Seg R' h t
 | 0,_,_,_,_=>trivial
 | h+1,t,hg,hs,hm=>by
  have hl:(t.2.2.map (Gt.L h)).length=t.2.1.length+1:=by rw [List.length_map];exact hg.2.2.2.2.2.1
  refine ⟨fun i z k hx hk=>?_,fun k hk=>?_⟩
  ·
   obtain ⟨a',c',e⟩:=Pl.inter_piece hl hx hk
   exact hm a' z k c' e (hs.1 i z k hx hk)
  ·
   obtain ⟨j,hj⟩:=List.mem_iff_getElem?.1 hk
   have hj':(t.2.2.map (Gt.L h))[j]?=some (Gt.L h k):=by rw [List.getElem?_map,hj];rfl
   have e:Gt.L (h+1) t=_:=Pl.inter_self hl hj'
   refine Gt.Seg.mono (hg.2.2.2.2.2.2.1 k hk).1 (hs.2 k hk) fun a w l c e2=>hm (Pl.pre (t.2.1.take j) ((t.2.2.map (Gt.L h)).take j)++a) w l (c++Pl.post (t.2.1.drop j) ((t.2.2.map (Gt.L h)).drop (j+1))) ?_
   rw [e,e2];simp
theorem Dn.pt_off {H:Mem} {P:Ps} {h0 h:Nat} {t0:Gt E h0} {t:Gt E h} {fs:List (Nat×Nat)} {A C:List α} (d:Dn t0 fs t A C) (hg:Gt.Good H P h0 t0):∀q∈Gt.p h0 t0::fs.map Prod.fst,q≠Gt.p h t→∀o,o<4→¬Gt.af h t q o:=by
 induction d with
 | nil=>
  intro q hq hne
  simp only [List.map_nil,List.mem_singleton] at hq
  exact absurd hq hne
 | @cons h0 g X K k i fs h t A C hk d ih=>
  have hk2:=hg.2.2.2.2.2.2.1 k (List.mem_of_getElem? hk)
  intro q hq hne o ho hb
  rcases List.mem_cons.1 hq with rfl|hq
  · exact (hk2.2.2 _ _ (d.sub _ _ hb)).1 (.inl ⟨rfl,ho⟩)
  · exact ih hk2.1 q hq hne o ho hb
theorem Dn.at {h0 h:Nat} {t0:Gt E h0} {t:Gt E h} {fs:List (Nat×Nat)} {A C:List α} (d:Dn t0 fs t A C):(Gt.p h0 t0::fs.map Prod.fst)[fs.length]?=some (Gt.p h t):=by
 induction d with
 | nil=>rfl
 | cons hk d ih=>rw [List.map_cons,List.length_cons,List.getElem?_cons_succ];exact ih
theorem Dn.p_mem {h0 h:Nat} {t0:Gt E h0} {t:Gt E h} {fs:List (Nat×Nat)} {A C:List α} (d:Dn t0 fs t A C):Gt.p h t∈Gt.p h0 t0::fs.map Prod.fst:=by
 induction d with
 | nil=>exact List.mem_cons_self
 | cons hk d ih=>exact List.mem_cons_of_mem _ ih
namespace Pl
theorem pre_item {X:List α} {K:List (List α)} {i j:Nat} {z:α} (hl:K.length=X.length+1) (hj:j<i) (hi:i≤X.length) (hz:X[j]?=some z):z∈pre (X.take i) (K.take i):=by
 have:∀(X:List α) (K:List (List α)) (j:Nat),X.length≤K.length→X[j]?=some z→z∈pre X K:=by
  intro X
  induction X with
  | nil=>intro K j _ h;simp at h
  | cons x X ih=>
   intro K j hl h
   rcases K with _|⟨k,K⟩
   · simp at hl
   ·
    rcases j with _|j
    ·
     simp only [List.getElem?_cons_zero,Option.some.injEq] at h
     subst h;simp [pre]
    ·
     rw [List.getElem?_cons_succ] at h
     simp only [pre,List.mem_append,List.mem_cons]
     exact .inr (.inr (ih K j (by simpa using hl) h))
 exact this _ _ j (by rw [List.length_take,List.length_take];omega) (by rw [List.getElem?_take_of_lt hj];exact hz)
theorem pre_kid {X:List α} {K:List (List α)} {i j:Nat} {m:List α} {w:α} (hl:K.length=X.length+1) (hj:j<i) (hi:i≤X.length) (hm:K[j]?=some m) (hw:w∈m):w∈pre (X.take i) (K.take i):=by
 have:∀(X:List α) (K:List (List α)) (j:Nat),K.length≤X.length→K[j]?=some m→w∈pre X K:=by
  intro X
  induction X with
  | nil=>intro K j hl h;have:K=[]:=List.length_eq_zero_iff.1 (by simpa using hl);subst this;simp at h
  | cons x X ih=>
   intro K j hl h
   rcases K with _|⟨k,K⟩
   · simp at h
   ·
    rcases j with _|j
    ·
     simp only [List.getElem?_cons_zero,Option.some.injEq] at h
     subst h;simp [pre,hw]
    ·
     rw [List.getElem?_cons_succ] at h
     simp only [pre,List.mem_append,List.mem_cons]
     exact .inr (.inr (ih K j (by simpa using hl) h))
 exact this _ _ j (by rw [List.length_take,List.length_take];omega) (by rw [List.getElem?_take_of_lt hj];exact hm)
theorem post_piece {X:List α} {K:List (List α)} {j:Nat} {z:α} {k:List α} (hl:X.length=K.length) (hz:X[j]?=some z) (hk:K[j]?=some k):∃a c,post X K=a++z::k++c:=by
 induction X generalizing K j with
 | nil=>simp at hz
 | cons x X ih=>
  rcases K with _|⟨k0,K⟩
  · simp at hl
  ·
   rcases j with _|j
   ·
    simp only [List.getElem?_cons_zero,Option.some.injEq] at hz hk
    subst hz hk
    exact ⟨[],post X K,by simp [post]⟩
   ·
    rw [List.getElem?_cons_succ] at hz hk
    obtain ⟨a,c,e⟩:=ih (by simpa using hl) hz hk
    exact ⟨x::k0++a,c,by simp [post,e]⟩
end Pl
structure SegE (R R':α→List α→Prop) (A C:List α):Prop where
 lo:∀w∈A,∀l,R' w l
 hi:∀a w l c,C=a++w::l++c→R w l→R' w l
theorem Dn.edit {H H':Mem} {P:Ps} {Z:Nat→Nat→Prop} (hf:Fr Z H H') {d:Nat} {h0 h:Nat} {t0:Gt E h0} {t:Gt E h} {fs:List (Nat×Nat)} {A C:List α} (dn:Dn t0 fs t A C) (hg:Gt.Good H P h0 t0) {t':Gt E h} (hg':Gt.Good H' P h t') (hp:Gt.p h t'=Gt.p h t)
  (ha:∀b o,Gt.af h t' b o→Gt.af h t b o) (hd:(Gt.L h t).length=(Gt.L h t').length+d) (hx:fs≠[]→P.mn≤(Gt.X h t').length)
  (hZ:∀b o,Gt.af h0 t0 b o→Z b o→Gt.af h t b o∨(o=1∧b∈Gt.p h0 t0::fs.map Prod.fst))
  (hc:∀q∈Gt.p h0 t0::fs.map Prod.fst,q≠Gt.p h t→∀c:Nat,cl H q 1=some (.int .i64 (c:Int))→cl H' q 1=some (.int .i64 ((c-d:Nat):Int))):
  ∃t0':Gt E h0,Gt.Good H' P h0 t0'∧Dn t0' fs t' A C∧Gt.p h0 t0'=Gt.p h0 t0∧(∀b o,Gt.af h0 t0' b o→Gt.af h0 t0 b o∧(Gt.af h t b o→Gt.af h t' b o))∧(Gt.L h0 t0).length=(Gt.L h0 t0').length+d∧(fs≠[]→Gt.X h0 t0'=Gt.X h0 t0)∧
   ∀R R',SegE R R' A C→(Gt.Seg R h t→Gt.Seg R' h t')→Gt.Seg R h0 t0→Gt.Seg R' h0 t0':=by
 induction dn with
 | nil=>exact ⟨t',hg',.nil,hp,fun b o hb=>⟨ha b o hb,fun _=>hb⟩,hd,fun h=>absurd rfl h,fun R R' _ h1 h2=>h1 h2⟩
 | @cons h0 g X K k i fs h t A C hk dn ih=>
  have hkK:=List.mem_of_getElem? hk
  have hil:=(List.getElem?_eq_some_iff.1 hk).1
  obtain ⟨hgk,hmk,hdk⟩:=hg.2.2.2.2.2.2.1 k hkK
  have hN:NodeM E H g X (.pointer (some ⟨g.cb,0,none⟩)):=hg.1
  have hKl:K.length=X.length+1:=hg.2.2.2.2.2.1
  have hsp:=kid_split hk
  have hpts:=dn.pts
  have hkp:∀q∈Gt.p h0 k::fs.map Prod.fst,q≠g.p:=fun q hq e=>(hdk q 0 (hpts q hq 0 (by decide))).1 (.inl ⟨e,by decide⟩)
  obtain ⟨k',gk',dn',pk',ak',lk',xk',sk'⟩:=ih hgk hg' hp ha hd (fun h=>hx (by simp)) (fun b o hb hz=>by
   rcases hZ b o (.inr (.inr ⟨k,hkK,hb⟩)) hz with h1|⟨rfl,h1⟩
   · exact .inl h1
   ·
    rcases List.mem_cons.1 h1 with rfl|h1
    · exact absurd (.inl ⟨rfl,by decide⟩) (hdk _ _ hb).1
    · exact .inr ⟨rfl,h1⟩) (fun q hq=>hc q (List.mem_cons_of_mem _ hq))
  have htk:=dn.sub
  have hmn':P.mn≤(Gt.X h0 k').length:=by
   cases dn with
   | nil=>
    cases dn' with
    | nil=>exact hx (by simp)
   | cons=>rw [xk' (by simp)];exact hmk
  have hz:∀b o,(ncl E g b o∨kcl g b o)→¬(b=g.p∧o=1)→¬Z b o:=fun b o hb hn hzz=>by
   rcases hZ b o (hb.elim .inl (fun h=>.inr (.inl h))) hzz with h1|⟨rfl,h1⟩
   · exact hb.elim (hdk _ _ (htk _ _ h1)).1 (hdk _ _ (htk _ _ h1)).2
   ·
    rcases List.mem_cons.1 h1 with rfl|h1
    · exact hn ⟨rfl,rfl⟩
    · exact hb.elim (hdk _ _ (hpts _ h1 1 (by decide))).1 (hdk _ _ (hpts _ h1 1 (by decide))).2
  have hzk:∀m∈K.take i++K.drop (i+1),∀b o,Gt.af h0 m b o→¬Z b o:=fun m hm b o hb hzz=>by
   have hmK:m∈K:=(kid_sub hk).subset hm
   have hoff:∀b o,Gt.af h0 k b o→¬Gt.af h0 m b o:=fun b o h1 h2=>kid_off hg.inn hk b o h1 (.inr (.inr ⟨m,hm,h2⟩))
   rcases hZ b o (.inr (.inr ⟨m,hmK,hb⟩)) hzz with h1|⟨rfl,h1⟩
   · exact hoff b o (htk b o h1) hb
   ·
    rcases List.mem_cons.1 h1 with rfl|h1
    · exact ((hg.2.2.2.2.2.2.1 m hmK).2.2 _ _ hb).1 (.inl ⟨rfl,by decide⟩)
    · exact hoff _ _ (hpts _ h1 1 (by decide)) hb
  have hcn:g.cnt=(Gt.L (h0+1) ((g,X,K):Gt E (h0+1))).length:=hg.2.2.2.1
  have hle:(Gt.L h0 k).length≤(Gt.L (h0+1) ((g,X,K):Gt E (h0+1))).length:=kid_le (t:=Gt.nd g X K) hKl hkK
  have hdg:d≤g.cnt:=by omega
  have hpt:g.p≠Gt.p h t:=fun e=>(hdk _ _ (htk _ 0 (Gt.af_p (t:=t) (by decide)))).1 (.inl ⟨e.symm,by decide⟩)
  have hN':NodeM E H' { g with cnt:=g.cnt-d } X (.pointer (some ⟨g.cb,0,none⟩)):={
   c0:=hf.keep hN.c0 (hz _ _ (.inl (.inl ⟨rfl,by decide⟩)) (by omega))
   c1:=hc g.p List.mem_cons_self hpt _ hN.c1
   c2:=hf.keep hN.c2 (hz _ _ (.inl (.inl ⟨rfl,by decide⟩)) (by omega))
   c3:=hf.keep hN.c3 (hz _ _ (.inl (.inl ⟨rfl,by decide⟩)) (by omega))
   wr:=hf.wr hN.wr
   sl:=hN.sl.fr hf fun j h1 h2=>hz _ _ (.inl (.inr ⟨rfl,h1,h2⟩)) (fun e=>hN.ne e.1.symm)
   ic:=hN.ic
   ne:=hN.ne }
  have hKM:KidM H g (Gt.ps h0 K):=hg.2.1
  have hps:Gt.ps h0 (K.take i++[k']++K.drop (i+1))=Gt.ps h0 K:=by
   conv=>rhs;rw [hsp]
   simp [Gt.ps,pk']
  have hKM':KidM H' { g with cnt:=g.cnt-d } (Gt.ps h0 (K.take i++[k']++K.drop (i+1))):=by
   rw [hps]
   have:=hKM.fr hf fun b o hb=>hz b o (.inr hb) (fun e=>by
    rcases hb with hb|hb
    · exact hKM.n2 (e.1.symm.trans hb.1)
    · exact hKM.n3 (e.1.symm.trans hb.1))
   exact ⟨this.c,this.wr,this.sl,this.kc,this.n1,this.n2,this.n3,this.n4,this.n5⟩
  have hkids:Kids H P h0 g (K.take i++[k]++K.drop (i+1)):=by rw [←hsp];exact hg.kids
  have hkids':=hkids.one (g':={ g with cnt:=g.cnt-d }) hf hzk (fun b o hb=>hb) ⟨gk',hmn'⟩ (fun b o hb=>(ak' b o hb).1)
  have hLk:(K.map (Gt.L h0))[i]?=some (Gt.L h0 k):=by rw [List.getElem?_map,hk];rfl
  have hKL:(K.map (Gt.L h0)).length=X.length+1:=by rw [List.length_map];exact hKl
  have e1:Gt.L (h0+1) ((g,X,K):Gt E (h0+1))=Pl.pre (X.take i) ((K.map (Gt.L h0)).take i)++Gt.L h0 k++Pl.post (X.drop i) ((K.map (Gt.L h0)).drop (i+1)):=Pl.inter_self hKL hLk
  have e2:Pl.inter X ((K.take i++[k']++K.drop (i+1)).map (Gt.L h0))=Pl.pre (X.take i) ((K.map (Gt.L h0)).take i)++Gt.L h0 k'++Pl.post (X.drop i) ((K.map (Gt.L h0)).drop (i+1)):=by
   have:=Pl.inter_take (m:=Gt.L h0 k') hKL hLk
   rw [←this];simp
  have lL:(Gt.L (h0+1) ((g,X,K):Gt E (h0+1))).length=(Pl.inter X ((K.take i++[k']++K.drop (i+1)).map (Gt.L h0))).length+d:=by
   rw [e1,e2];simp only [List.length_append];omega
  have lK:(K.take i++[k']++K.drop (i+1)).length=X.length+1:=by simp only [List.length_append,List.length_take,List.length_drop,List.length_singleton];omega
  have lT:(K.take i).length=i:=by rw [List.length_take];omega
  have hdn:Dn (Gt.nd { g with cnt:=g.cnt-d } X (K.take i++[k']++K.drop (i+1))) ((Gt.p h0 k,i)::fs) t' (Pl.pre (X.take i) ((K.map (Gt.L h0)).take i)++A) (C++Pl.post (X.drop i) ((K.map (Gt.L h0)).drop (i+1))):=by
   have hk2:(K.take i++[k']++K.drop (i+1))[i]?=some k':=by
    rw [List.append_assoc,List.getElem?_append_right (by omega),lT,Nat.sub_self];rfl
   have:=Dn.cons (g:=({ g with cnt:=g.cnt-d }:Ng)) (X:=X) hk2 dn'
   rw [pk'] at this
   have q1:((K.take i++[k']++K.drop (i+1)).map (Gt.L h0)).take i=(K.map (Gt.L h0)).take i:=by
    rw [List.append_assoc,List.map_append,List.take_append_of_le_length (by rw [List.length_map];omega),List.take_of_length_le (by rw [List.length_map];omega),List.map_take]
   have q2:((K.take i++[k']++K.drop (i+1)).map (Gt.L h0)).drop (i+1)=(K.map (Gt.L h0)).drop (i+1):=by
    have:(K.take i++[k']).length=i+1:=by rw [List.length_append,lT];rfl
    have l3:((K.take i++[k']).map (Gt.L h0)).length=i+1:=by rw [List.length_map];exact this
    rw [List.map_append,←l3,List.drop_left,l3,List.map_drop]
   rw [q1,q2] at this
   exact this
  refine ⟨(({ g with cnt:=g.cnt-d }:Ng),X,K.take i++[k']++K.drop (i+1)),⟨hN',hKM',hg.2.2.1,?_,hg.2.2.2.2.1,lK,hkids'.1,hkids'.2⟩,hdn,rfl,fun b o hb=>?_,lL,fun _=>rfl,fun R R' hS ht hs=>⟨?_,?_⟩⟩
  ·
   show g.cnt-d=(Pl.inter X ((K.take i++[k']++K.drop (i+1)).map (Gt.L h0))).length
   omega
  ·
   have hoffm:∀m,m∈K.take i++K.drop (i+1)→Gt.af h0 m b o→¬Gt.af h t b o:=fun m hm h1 h2=>kid_off hg.inn hk b o (htk b o h2) (.inr (.inr ⟨m,hm,h1⟩))
   rcases hb with hb|hb|⟨m,hm,hb⟩
   · exact ⟨.inl hb,fun h2=>absurd hb (hdk b o (htk b o h2)).1⟩
   · exact ⟨.inr (.inl hb),fun h2=>absurd hb (hdk b o (htk b o h2)).2⟩
   ·
    simp only [List.mem_append,List.mem_singleton] at hm
    rcases hm with (hm|rfl)|hm
    · exact ⟨.inr (.inr ⟨m,List.mem_of_mem_take hm,hb⟩),fun h2=>absurd h2 (hoffm m (List.mem_append_left _ hm) hb)⟩
    · exact ⟨.inr (.inr ⟨k,hkK,(ak' b o hb).1⟩),(ak' b o hb).2⟩
    · exact ⟨.inr (.inr ⟨m,List.mem_of_mem_drop hm,hb⟩),fun h2=>absurd h2 (hoffm m (List.mem_append_right _ hm) hb)⟩
  ·
   intro j z m hz' hm'
   replace hz':X[j]?=some z:=hz'
   replace hm':((K.take i++[k']++K.drop (i+1)).map (Gt.L h0))[j+1]?=some m:=hm'
   rcases Nat.lt_or_ge j i with hj|hj
   · exact hS.lo z (List.mem_append_left _ (Pl.pre_item hKL hj (by omega) hz')) m
   ·
    have hm2:(K.map (Gt.L h0))[j+1]?=some m:=by
     rw [List.getElem?_map] at hm' ⊢
     rw [←hm',List.getElem?_append_right (by simp only [List.length_append,lT,List.length_singleton];omega),List.getElem?_drop]
     congr 2
     simp only [List.length_append,lT,List.length_singleton];omega
    have hr:R z m:=hs.1 j z m hz' hm2
    obtain ⟨a,c,e⟩:=Pl.post_piece (X:=X.drop i) (K:=(K.map (Gt.L h0)).drop (i+1)) (j:=j-i) (by rw [List.length_drop,List.length_drop,hKL];omega) (by rw [List.getElem?_drop,←hz'];congr 1;omega) (by rw [List.getElem?_drop,←hm2];congr 1;omega)
    exact hS.hi (C++a) z m c (by rw [e];simp) hr
  ·
   intro m hm
   replace hm:m∈K.take i++[k']++K.drop (i+1):=hm
   simp only [List.mem_append,List.mem_singleton] at hm
   rcases hm with (hm|rfl)|hm
   ·
    obtain ⟨j,hj⟩:=List.mem_iff_getElem?.1 hm
    have hji:j<i:=by have:=(List.getElem?_eq_some_iff.1 hj).1;omega
    rw [List.getElem?_take_of_lt hji] at hj
    have hmK:=List.mem_of_getElem? hj
    refine Gt.Seg.of_low (hg.2.2.2.2.2.2.1 m hmK).1 fun w hw l=>hS.lo w (List.mem_append_left _ (Pl.pre_kid hKL hji (by omega) (by rw [List.getElem?_map,hj];rfl) hw)) l
   · exact sk' R R' ⟨fun w hw l=>hS.lo w (List.mem_append_right _ hw) l,fun a w l c e=>hS.hi a w l (c++Pl.post (X.drop i) ((K.map (Gt.L h0)).drop (i+1))) (by rw [e];simp)⟩ ht (hs.2 k hkK)
   ·
    obtain ⟨j,hj⟩:=List.mem_iff_getElem?.1 hm
    rw [List.getElem?_drop] at hj
    have hmK:=List.mem_of_getElem? hj
    have hjl:=(List.getElem?_eq_some_iff.1 hj).1
    obtain ⟨z,hz'⟩:∃z,X[i+j]?=some z:=⟨X[i+j]'(by omega),List.getElem?_eq_getElem (by omega)⟩
    obtain ⟨a,c,e⟩:=Pl.post_piece (X:=X.drop i) (K:=(K.map (Gt.L h0)).drop (i+1)) (j:=j) (z:=z) (k:=Gt.L h0 m) (by rw [List.length_drop,List.length_drop,hKL];omega) (by rw [List.getElem?_drop];exact hz') (by rw [List.getElem?_drop,List.getElem?_map,hj];rfl)
    refine Gt.Seg.mono (hg.2.2.2.2.2.2.1 m hmK).1 (hs.2 m hmK) fun a2 w l c2 e2=>hS.hi (C++a++z::a2) w l (c2++c) ?_
    rw [e,e2];simp
section
variable {α:Type} (O:Pl.Swo α)
abbrev Pc (α:Type):=α×List α
def Pc.l (p:Pc α):List α:=p.1::p.2
def flat (Q:List (Pc α)):List α:=(Q.map Pc.l).flatten
def Bf (p q:Pc α):Prop:=∀w∈p.l,∀z∈q.l,O.lt w z=true
def Ap (z:α) (p:Pc α):Prop:=(∀w∈p.l,O.lt z w=true)∨∀w∈p.l,O.lt w z=true
def Qg (G:List α) (y:α) (l:List α):Prop:=∀w∈y::l,∀z∈y::l,∀g∈G,¬(O.lt w g=true∧O.lt g z=true)
theorem Qg.inf (G:List α):Inf (Qg O G):=fun y l a z b c h e w hw v hv g hg=>h w (by rw [e];simp at hw ⊢;rcases hw with rfl|hw;exact .inr (.inl rfl);exact .inr (.inr (.inl hw))) v (by rw [e];simp at hv ⊢;rcases hv with rfl|hv;exact .inr (.inl rfl);exact .inr (.inr (.inl hv))) g hg
def Ra (A G:List α) (w:α) (l:List α):Prop:=w∈A∨Qg O G w l
theorem Ra.add {A G p:List α} {w:α} {l:List α} (h:Ra O A G w l) (hp:w∈A∨(∀v∈w::l,∀g∈p,O.lt v g=true)∨(∀v∈w::l,∀g∈p,O.lt g v=true)):Ra O A (G++p) w l:=by
 rcases hp with hp|hp
 · exact .inl hp
 ·
  rcases h with h|h
  · exact .inl h
  ·
   refine .inr fun u hu v hv g hg hh=>?_
   rcases List.mem_append.1 hg with hg|hg
   · exact h u hu v hv g hg hh
   ·
    rcases hp with hp|hp
    · have:=O.asy (hp v hv g hg);rw [hh.2] at this;cases this
    · have:=O.asy (hp u hu g hg);rw [hh.1] at this;cases this
structure Dri (A R R0:List α) (Q:List (Pc α)) (stop:α→Bool):Prop where
 srt:Pl.Srt O (A++R)
 srt0:Pl.Srt O (A++R0)
 pm:(R++flat Q).Perm R0
 q:∀p∈Q,Pl.Srt O p.l
 ap:∀p∈Q,∀z∈A++R,Ap O z p
 pw:Q.Pairwise fun p p'=>Bf O p p'∨Bf O p' p
 ns:∀p∈Q,∀w∈p.l,stop w=false
theorem Dri.start {A R:List α} {stop:α→Bool} (h:Pl.Srt O (A++R)):Dri O A R R [] stop:=
 ⟨h,h,by simp [flat],fun _ h=>absurd h List.not_mem_nil,fun _ h=>absurd h List.not_mem_nil,List.Pairwise.nil,fun _ h=>absurd h List.not_mem_nil⟩
theorem Dri.cut {A R1 R2 R0:List α} {Q:List (Pc α)} {stop:α→Bool} {p:Pc α} (h:Dri O A (R1++p.l++R2) R0 Q stop) (hq:Qg O (flat Q) p.1 p.2) (hs:∀w∈p.l,stop w=false):Dri O A (R1++R2) R0 (Q++[p]) stop:=by
 obtain ⟨h1,h2,h3,h4,h5,h6,h7⟩:=h
 have e:A++(R1++p.l++R2)=(A++R1)++p.l++R2:=by simp
 have hsub:(A++(R1++R2)).Sublist (A++(R1++p.l++R2)):=by
  rw [List.append_assoc R1]
  exact List.Sublist.append_left (List.Sublist.append_left (List.sublist_append_right _ _) _) _
 have hsrt:=h1
 rw [e,Pl.Srt.append,Pl.Srt.append] at hsrt
 obtain ⟨⟨_,sp,s1⟩,_,s2⟩:=hsrt
 have hmem:∀w∈p.l,w∈A++(R1++p.l++R2):=fun w hw=>by simp [hw]
 refine ⟨h1.sublist hsub,h2,?_,fun q hq'=>?_,fun q hq' z hz=>?_,?_,fun q hq'=>?_⟩
 ·
  refine List.Perm.trans ?_ h3
  unfold flat
  rw [List.map_append,List.flatten_append]
  simp only [List.map_cons,List.map_nil,List.flatten_cons,List.flatten_nil,List.append_nil]
  have p1:(R1++R2++((Q.map Pc.l).flatten++p.l)).Perm (p.l++(R1++R2++(Q.map Pc.l).flatten)):=by
   rw [←List.append_assoc];exact List.perm_append_comm
  refine p1.trans ?_
  simp only [←List.append_assoc]
  refine List.Perm.append_right _ ?_
  exact List.Perm.append_right _ List.perm_append_comm
 ·
  rcases List.mem_append.1 hq' with hq'|hq'
  · exact h4 q hq'
  · rw [List.mem_singleton] at hq';subst hq';exact sp
 ·
  rcases List.mem_append.1 hq' with hq'|hq'
  · exact h5 q hq' z (hsub.subset hz)
  ·
   rw [List.mem_singleton] at hq';subst hq'
   have hz':z∈A++R1∨z∈R2:=by
    simp only [List.mem_append] at hz ⊢
    rcases hz with hz|hz|hz
    · exact .inl (.inl hz)
    · exact .inl (.inr hz)
    · exact .inr hz
   rcases hz' with hz'|hz'
   · exact .inl fun w hw=>s1 z hz' w hw
   · exact .inr fun w hw=>s2 w (List.mem_append_right _ hw) z hz'
 ·
  rw [List.pairwise_append]
  refine ⟨h6,List.pairwise_singleton _ _,fun q hq' r hr=>?_⟩
  rw [List.mem_singleton] at hr;subst hr
  have side:∀g∈q.l,(∀w∈r.l,O.lt g w=true)∨∀w∈r.l,O.lt w g=true:=fun g hg=>by
   have hap:∀w∈r.l,O.lt w g=true∨O.lt g w=true:=fun w hw=>by
    rcases h5 q hq' w (hmem w hw) with h|h
    · exact .inl (h g hg)
    · exact .inr (h g hg)
   have hgf:g∈flat Q:=by
    unfold flat
    exact List.mem_flatten.2 ⟨q.l,List.mem_map.2 ⟨q,hq',rfl⟩,hg⟩
   by_cases hx:∃w∈r.l,O.lt w g=true
   ·
    obtain ⟨w,hw,hwg⟩:=hx
    refine .inr fun v hv=>?_
    rcases hap v hv with h|h
    · exact h
    · exact absurd ⟨hwg,h⟩ (hq w hw v hv g hgf)
   · exact .inl fun w hw=>(hap w hw).elim (fun h=>absurd ⟨w,hw,h⟩ hx) id
  rcases h5 q hq' r.1 (hmem r.1 List.mem_cons_self) with h|h
  ·
   refine .inr fun w hw g hg=>?_
   rcases side g hg with h'|h'
   · have:=O.asy (h g hg);rw [h' r.1 List.mem_cons_self] at this;cases this
   · exact h' w hw
  ·
   refine .inl fun g hg w hw=>?_
   rcases side g hg with h'|h'
   · exact h' w hw
   · have:=O.asy (h g hg);rw [h' r.1 List.mem_cons_self] at this;cases this
 ·
  rcases List.mem_append.1 hq' with hq'|hq'
  · exact h7 q hq'
  · rw [List.mem_singleton] at hq';subst hq';exact hs
theorem Dri.perm {A R R0:List α} {Q Q':List (Pc α)} {stop:α→Bool} (h:Dri O A R R0 Q stop) (hp:Q'.Perm Q):Dri O A R R0 Q' stop:=
 ⟨h.srt,h.srt0,(List.Perm.append_left R (by unfold flat;exact (hp.map _).flatten)).trans h.pm,fun p hp'=>h.q p (hp.subset hp'),fun p hp'=>h.ap p (hp.subset hp'),hp.symm.pairwise h.pw fun hh=>hh.symm,fun p hp'=>h.ns p (hp.subset hp')⟩
def InO (Q:List (Pc α)):Prop:=Q.Pairwise fun p p'=>O.lt p'.1 p.1=false
theorem Bf.of_le {p p':Pc α} (h:Bf O p p'∨Bf O p' p) (hl:O.lt p'.1 p.1=false):Bf O p p':=by
 rcases h with h|h
 · exact h
 · rw [h p'.1 List.mem_cons_self p.1 List.mem_cons_self] at hl;cases hl
theorem flat_srt {Q:List (Pc α)} (h1:∀p∈Q,Pl.Srt O p.l) (h2:Q.Pairwise fun p p'=>Bf O p p'∨Bf O p' p) (h3:InO O Q):Pl.Srt O (flat Q):=by
 induction Q with
 | nil=>exact List.Pairwise.nil
 | cons p Q ih=>
  obtain ⟨a1,a2⟩:=List.pairwise_cons.1 h2
  obtain ⟨b1,b2⟩:=List.pairwise_cons.1 h3
  show Pl.Srt O (p.l++flat Q)
  rw [Pl.Srt.append]
  refine ⟨h1 p List.mem_cons_self,ih (fun q hq=>h1 q (List.mem_cons_of_mem _ hq)) a2 b2,fun w hw z hz=>?_⟩
  obtain ⟨m,hm,hz⟩:=List.mem_flatten.1 hz
  obtain ⟨q,hq,rfl⟩:=List.mem_map.1 hm
  exact Bf.of_le O (a1 q hq) (b1 q hq) w hw z hz
theorem srt_perm {l m:List α} (hl:Pl.Srt O l) (hm:Pl.Srt O m) (hp:l.Perm m):l=m:=by
 induction l generalizing m with
 | nil=>exact (List.nil_perm.1 hp).symm▸rfl
 | cons x l ih=>
  rcases m with _|⟨y,m⟩
  · exact absurd hp.length_eq (by simp)
  ·
   obtain ⟨a1,a2⟩:=(Pl.Srt.cons O).1 hl
   obtain ⟨b1,b2⟩:=(Pl.Srt.cons O).1 hm
   have hxy:x=y:=by
    have hx:x∈y::m:=hp.subset List.mem_cons_self
    have hy:y∈x::l:=hp.symm.subset List.mem_cons_self
    rcases List.mem_cons.1 hx with h|h
    · exact h
    ·
     rcases List.mem_cons.1 hy with h'|h'
     · exact h'.symm
     · have:=O.asy (a1 y h');rw [b1 x h] at this;cases this
   subst hxy
   rw [ih a2 b2 ((List.perm_cons x).1 hp)]
theorem Dri.fin {A R R0:List α} {Q:List (Pc α)} {stop:α→Bool} (h:Dri O A R R0 Q stop) (hr:∀r∈R,stop r=true) (hi:InO O Q):R=R0.filter stop∧flat Q=R0.filter fun x=>!stop x:=by
 have hns:∀x∈flat Q,stop x=false:=fun x hx=>by
  obtain ⟨m,hm,hx⟩:=List.mem_flatten.1 hx
  obtain ⟨q,hq,rfl⟩:=List.mem_map.1 hm
  exact h.ns q hq x hx
 have sR:Pl.Srt O R:=((Pl.Srt.append O).1 h.srt).2.1
 have sR0:Pl.Srt O R0:=((Pl.Srt.append O).1 h.srt0).2.1
 have p1:=h.pm.filter stop
 have p2:=h.pm.filter fun x=>!stop x
 rw [List.filter_append,List.filter_eq_self.2 hr,List.filter_eq_nil_iff.2 (fun x hx=>by rw [hns x hx];decide),List.append_nil] at p1
 rw [List.filter_append,List.filter_eq_nil_iff.2 (fun x hx=>by rw [hr x hx];decide),List.filter_eq_self.2 (fun x hx=>by rw [hns x hx];rfl),List.nil_append] at p2
 exact ⟨srt_perm O sR (sR0.sublist List.filter_sublist) p1,srt_perm O (flat_srt O h.q h.pw hi) (sR0.sublist List.filter_sublist) p2⟩
theorem Dri.left {A R R0:List α} {Q:List (Pc α)} {stop:α→Bool} (h:Dri O A R R0 Q stop) (hr:∀r∈R,stop r=true):R=R0.filter stop∧(flat Q).Perm (R0.filter fun x=>!stop x):=by
 have hns:∀x∈flat Q,stop x=false:=fun x hx=>by
  obtain ⟨m,hm,hx⟩:=List.mem_flatten.1 hx
  obtain ⟨q,hq,rfl⟩:=List.mem_map.1 hm
  exact h.ns q hq x hx
 have sR:Pl.Srt O R:=((Pl.Srt.append O).1 h.srt).2.1
 have sR0:Pl.Srt O R0:=((Pl.Srt.append O).1 h.srt0).2.1
 have p1:=h.pm.filter stop
 have p2:=h.pm.filter fun x=>!stop x
 rw [List.filter_append,List.filter_eq_self.2 hr,List.filter_eq_nil_iff.2 (fun x hx=>by rw [hns x hx];decide),List.append_nil] at p1
 rw [List.filter_append,List.filter_eq_nil_iff.2 (fun x hx=>by rw [hr x hx];decide),List.filter_eq_self.2 (fun x hx=>by rw [hns x hx];rfl),List.nil_append] at p2
 exact ⟨srt_perm O sR (sR0.sublist List.filter_sublist) p1,p2⟩
end
theorem grownCap_lt (w:World) (need old:Nat) (e:TypeId) (h:need<9223372036854775808):grownCap w need old e<9223372036854775808:=by
 have hlt:=Nat.mod_lt (w.tape w.drawn (.appendCap need old e)) (show 0<2 ^ 63-need by omega)
 simp only [grownCap,Question.cut] at h ⊢
 omega
section
variable {P:Program} {B:World} {H:Mem}
theorem run_appendC {t e ty:TypeId} {s by':Nat} {z:Value} (T:SlT P t e s by' z) {b o len cap:Nat} {xs:List Value} (hx:Sl H b o len cap s xs) {y:Value} {m:Nat} {news:List Value}
  (hy:(∃b2 o2 c2,y=.slice (some ⟨b2,o2,none⟩) m c2∧Rd H b2 o2 news)∨(∃a c2,y=.slice a 0 c2∧m=0)) (hl:news.length=m*s) (h1:ones news=true) (hb:(len+m)*by'≤140737488355328) (h63:len+m<9223372036854775808) (hc0:cap<9223372036854775808)
  (d:Nat):∃b' o' cap' H' d',(Builtin.append_ #[t,t] ty #[.slice (some ⟨b,o,none⟩) len cap,y]).run P (mk B H d)=.ok (.slice (some ⟨b',o',none⟩) (len+m) cap') (mk B H' d')∧App H H' b o len cap m s xs news b' o' cap'∧cap'<9223372036854775808:=by
 obtain ⟨inf,hinf,hby⟩:=T.bytes
 have hlen:∀w,(Builtin.lenOf y).run P w=.ok m w:=fun w=>by
  rcases hy with ⟨b2,o2,c2,rfl,_⟩|⟨a,c2,rfl,rfl⟩<;>simp [Builtin.lenOf]
 have hfirst:∀d,(Builtin.firstCells s m y).run P (mk B H d)=.ok news.toArray (mk B H d):=fun d=>by
  rcases hy with ⟨b2,o2,c2,rfl,hr⟩|⟨a,c2,rfl,rfl⟩
  · exact run_firstCells d s m hl hr
  ·
   have:news=[]:=List.eq_nil_of_length_eq_zero (by simpa using hl)
   subst this
   exact run_firstCells_empty s a 0 c2 _
 by_cases hroom:len+m≤cap
 ·
  have hw:Wr H b (o+len*s) news.length:=fun i hi=>by
   have:=hx.wr (len*s+i) (by
    have:(len+m)*s≤cap*s:=Nat.mul_le_mul_right s hroom
    rw [Nat.add_mul] at this
    omega)
   rw [show o+len*s+i=o+(len*s+i) by omega]
   exact this
  have hst:=run_stores P B d b news H (o+len*s) 0 (by simpa using hw) h1
  simp only [Nat.add_zero] at hst
  refine ⟨b,o,cap,setcs H b (o+len*s) news,d,?_,?_,hc0⟩
  · simp [Builtin.append_,run_und T.und,T.sz _,hlen,hroom,hfirst,Addr.add_lit,hst]
  ·
   have W:=setcs_wrote news H b (o+len*s) hw
   refine ⟨⟨by rw [List.length_append,hx.hlen,hl,Nat.add_mul],hroom,fun i v hv=>?_,W.fr.wr hx.wr⟩,W.fr.mono fun b' o' _ hr=>?_,.inl ⟨rfl,rfl,rfl,W.size⟩⟩
   ·
    rcases Nat.lt_or_ge i xs.length with h|h
    ·
     rw [List.getElem?_append_left h] at hv
     exact W.fr.keep (hx.rd i v hv) (by rw [hx.hlen] at h;simp only [rng];omega)
    ·
     rw [List.getElem?_append_right h] at hv
     have:=W.rd _ v hv
     rw [show o+i=o+len*s+(i-xs.length) by rw [hx.hlen] at h ⊢;omega]
     exact this
   ·
    simp only [rng] at hr ⊢
    have:(len+m)*s≤cap*s:=Nat.mul_le_mul_right s hroom
    rw [Nat.add_mul] at this
    rw [Nat.sub_mul]
    omega
 ·
  have hcap:((Question.appendCap (len+m) cap e).cut ((mk B H d).tape (mk B H d).drawn (.appendCap (len+m) cap e)))=grownCap (mk B H d) (len+m) cap e:=rfl
  generalize hG:grownCap (mk B H d) (len+m) cap e=G at*
  have hGl:G<9223372036854775808:=by
   have h9:=grownCap_lt (mk B H d) (len+m) cap e h63
   rw [hG] at h9;exact h9
  have hge:len+m≤G:=by rw [←hG];exact Nat.le_add_right _ _
  have hfit:¬(281474976710656<Builtin.nextslicecap (len+m) cap*inf.bytes):=by
   have:=growslice_fits (need:=len+m) (old:=cap) (bytes:=by') (by omega) hb
   rw [hby];omega
  have hold:=run_firstCells (P:=P) (B:=B) (d+1) s len (len:=len) (cap:=cap) hx.hlen hx.rd
  have hmade:=made_push H (xs.toArray++news.toArray++Builtin.zeroCells z.cells (G-(len+m))) e
  have hsize:(xs.toArray++news.toArray++Builtin.zeroCells z.cells (G-(len+m))).size=G*s:=by
   simp only [Array.size_append,List.size_toArray,zeroCells_size,T.zs,hx.hlen,hl,←Nat.add_mul]
   congr 1
   omega
  refine ⟨H.size,0,G,H.push (.cells (xs.toArray++news.toArray++Builtin.zeroCells z.cells (G-(len+m))) e),d+1,?_,?_,hGl⟩
  ·
   have h63':¬(9223372036854775807<((len+m:Nat):Int)):=by omega
   have hi:IntKind.i64.max=9223372036854775807:=rfl
   have hcc:¬(((len+m:Nat):Int) > IntKind.i64.max∧(false=true∨inf.bytes=0)):=fun h=>h63' (by rw [←hi];exact h.1)
   have hq:(choose (.appendCap (len+m) cap e)).run P (mk B H d)=.ok G (mk B H (d+1)):=by
    rw [run_choose]
    simp only [Question.forced,Bool.false_eq_true,if_false]
    rw [hcap];rfl
   have hz:=T.zero (mk B H (d+1))
   simp only [Builtin.append_,List.getElem?_toArray,List.getElem?_cons_zero,List.getElem?_cons_succ,Sem.run_bind,run_und T.und,Result.andThen_ok,Sem.run_pure,T.sz _,Sem.run_ite,Bool.false_eq_true,if_false,hlen,if_neg hroom,
    hinf,Bool.not_false]
   have hg2:¬((len:Int)+(m:Int) > IntKind.i64.max∧(inf.bytes=0)):=fun h=>h63' (by rw [←hi];push_cast;exact h.1)
   have hg3:¬(Builtin.nextslicecap (len+m) cap*inf.bytes > 2 ^ 48):=by simpa using hfit
   simp only [Int.natCast_add,false_or,if_neg hg2,Result.andThen_ok,if_neg hg3,hq,run_askRoom,hold,hfirst,hz,newRow,if_true]
   rfl
  ·
   have hr:=hmade.rd (xs++news) (Builtin.zeroCells z.cells (G-(len+m))).toList (by simp)
   exact ⟨⟨by rw [List.length_append,hx.hlen,hl,Nat.add_mul],hge,hr,hmade.wr _ (by rw [hsize];exact Nat.le_refl _) T.lt⟩,hmade.fr _,.inr ⟨rfl,rfl,hmade.size⟩⟩
theorem run_append_noneC {t e ty:TypeId} {s by':Nat} {z:Value} (T:SlT P t e s by' z) {y:Value} {m:Nat} {news:List Value}
  (hy:∃b2 o2 c2,y=.slice (some ⟨b2,o2,none⟩) m c2∧Rd H b2 o2 news) (hl:news.length=m*s) (hb:m*by'≤140737488355328) (h63:m<9223372036854775808) (hm:0<m)
  (d:Nat):∃cap' H' d',(Builtin.append_ #[t,t] ty #[.slice none 0 0,y]).run P (mk B H d)=.ok (.slice (some ⟨H.size,0,none⟩) m cap') (mk B H' d')∧Sl H' H.size 0 m cap' s news∧Fr nowhere H H'∧H'.size=H.size+1∧cap'<9223372036854775808:=by
 obtain ⟨inf,hinf,hby⟩:=T.bytes
 obtain ⟨b2,o2,c2,rfl,hr⟩:=hy
 have hfirst:∀d,(Builtin.firstCells s m (.slice (some ⟨b2,o2,none⟩) m c2)).run P (mk B H d)=.ok news.toArray (mk B H d):=fun d=>run_firstCells d s m hl hr
 have hcap:((Question.appendCap m 0 e).cut ((mk B H d).tape (mk B H d).drawn (.appendCap m 0 e)))=grownCap (mk B H d) m 0 e:=rfl
 generalize hG:grownCap (mk B H d) m 0 e=G at*
 have hGl:G<9223372036854775808:=by
  have h9:=grownCap_lt (mk B H d) m 0 e h63
  rw [hG] at h9;exact h9
 have hge:m≤G:=by rw [←hG];exact Nat.le_add_right _ _
 have hfit:¬(281474976710656<Builtin.nextslicecap m 0*inf.bytes):=by
  have:=growslice_fits (need:=m) (old:=0) (bytes:=by') (by omega) hb
  rw [hby];omega
 have hmade:=made_push H (news.toArray++Builtin.zeroCells z.cells (G-m)) e
 have hsize:(news.toArray++Builtin.zeroCells z.cells (G-m)).size=G*s:=by
  simp only [Array.size_append,List.size_toArray,zeroCells_size,T.zs,hl,←Nat.add_mul]
  congr 1
  omega
 refine ⟨G,H.push (.cells (news.toArray++Builtin.zeroCells z.cells (G-m)) e),d+1,?_,?_⟩
 ·
  have h63':¬(9223372036854775807<(m:Int)):=by omega
  have hi:IntKind.i64.max=9223372036854775807:=rfl
  have hq:(choose (.appendCap m 0 e)).run P (mk B H d)=.ok G (mk B H (d+1)):=by
   rw [run_choose]
   simp only [Question.forced,Bool.false_eq_true,if_false]
   rw [hcap];rfl
  have hz:=T.zero (mk B H (d+1))
  have hroom:¬(m≤0):=by omega
  have hg2:¬((m:Int) > IntKind.i64.max∧(inf.bytes=0)):=fun h=>h63' (by rw [←hi];exact h.1)
  have hg3:¬(Builtin.nextslicecap m 0*inf.bytes > 2 ^ 48):=by simpa using hfit
  simp only [Builtin.append_,List.getElem?_toArray,List.getElem?_cons_zero,List.getElem?_cons_succ,Sem.run_bind,run_und T.und,Result.andThen_ok,Sem.run_pure,T.sz _,Sem.run_ite,Bool.false_eq_true,if_false,Builtin.lenOf,Nat.zero_add,if_neg hroom,
   hinf,Bool.not_false,false_or,if_neg hg2,if_neg hg3,hq,run_askRoom,run_firstCells_empty,hfirst,hz,newRow,run_newObj,if_true,Sem.run_pure,Array.empty_append]
  rfl
 ·
  have h1:=hmade.rd news (Builtin.zeroCells z.cells (G-m)).toList (by simp)
  exact ⟨⟨hl,hge,h1,hmade.wr _ (by rw [hsize];exact Nat.le_refl _) T.lt⟩,hmade.fr _,hmade.size,hGl⟩
end
def CapB (v:Value):Prop:=∀a m c,v=.slice a m c→c<9223372036854775808
theorem CapB.nil:CapB (.slice none 0 0):=fun _ _ _ e=>by cases e;decide
theorem CapB.of {a:Option Addr} {m c:Nat} (h:c<9223372036854775808):CapB (.slice a m c):=fun _ _ _ e=>by cases e;exact h
theorem CapB.lt {a:Option Addr} {m c:Nat} (h:CapB (.slice a m c)):c<9223372036854775808:=h _ _ _ rfl
section
variable {P:Program} {B:World} {f:FuncId} {Q:Value→Mem→Prop} {n:Nat} {r:Env} {k:List Item} {H:Mem} {l:List Oper} {C:Mem→Prop} {p:List (Nat×Nat)}
variable {i kd d:Nat} {ty:TypeId} {pos:String} {af:Array Edge} {gd:Option (Nat×Bool)}
theorem O.appAC {α:Type} {E:Elt α} {t e:TypeId} {by':Nat} {z:Value} {x y:Operand} {v u:Value} {l' Y:List α} {Z:Nat→Prop} (hi:l[i]?=some ⟨some d,.call ⟨.builtin .append,#[x,y],#[t,t]⟩,ty,pos,af,gd⟩)
  (hg:guardOn l r gd=true) (hd:Nat.blt d n=true) (T:SlT P t e E.s by' z) (hx:ev r x=some v) (hA:Acc E Z H v l') (hcb:CapB v) (hy:ev r y=some u)
  (hv:∃b2 o2 c2,u=.slice (some ⟨b2,o2,none⟩) Y.length c2∧Rd H b2 o2 (row E Y)) (hm:0<Y.length) (hb:(l'.length+Y.length)*by'≤140737488355328) (h63:l'.length+Y.length<9223372036854775808)
  (h:∀v' H',Acc E (fun b=>Z b∨(b=H.size∧b<H'.size)) H' v' (l'++Y)→CapB v'→Fr (fun b _=>Z b) H H'→H'.size≤H.size+1→C H'∧Pl P B f Q n l C k p ((d,v')::r) H'):Pl P B f Q n l C k ((i,2)::p) r H:=by
 rcases hA with ⟨rfl,rfl⟩|⟨b,o,c,rfl,hz,hlt,hs⟩
 ·
  rw [List.length_nil,Nat.zero_add] at hb h63
  refine Pl.loudV hi rfl hg hd (fun u H'=>∃cap',u=.slice (some ⟨H.size,0,none⟩) Y.length cap'∧Sl H' H.size 0 Y.length cap' E.s (row E Y)∧Fr nowhere H H'∧H'.size=H.size+1∧cap'<9223372036854775808)
   (fun a d' ha=>by
    obtain ⟨cap',H',d'',h1,h2⟩:=run_append_noneC (ty:=ty) T hv (row_len E Y) hb h63 hm d'
    refine ⟨_,H',d'',?_,cap',rfl,h2⟩
    simp only [execOp,resolve,List.map_toArray,List.map_cons,List.map_nil,ha.eval hx,ha.eval hy,Sem.run_bind,Sem.run_pure,Result.andThen_ok,invoke,builtin]
    rw [h1];rfl)
   (fun u H' hu=>by
    obtain ⟨cap',rfl,h1,h2,h3,h4⟩:=hu
    exact h _ _ (.inr ⟨H.size,0,cap',by rw [List.nil_append],.inr ⟨rfl,by omega⟩,by omega,h1⟩) (CapB.of h4) (h2.mono fun _ _ _ h=>h.elim) (by omega))
 ·
  refine Pl.loudV hi rfl hg hd (fun u H'=>∃b' o' cap',u=.slice (some ⟨b',o',none⟩) (l'.length+Y.length) cap'∧App H H' b o l'.length c Y.length E.s (row E l') (row E Y) b' o' cap'∧cap'<9223372036854775808)
   (fun a d' ha=>by
    obtain ⟨b',o',cap',H',d'',h1,h2⟩:=run_appendC (ty:=ty) T hs (.inl hv) (row_len E Y) (row_ones E Y) hb h63 hcb.lt d'
    refine ⟨_,H',d'',?_,b',o',cap',rfl,h2⟩
    simp only [execOp,resolve,List.map_toArray,List.map_cons,List.map_nil,ha.eval hx,ha.eval hy,Sem.run_bind,Sem.run_pure,Result.andThen_ok,invoke,builtin]
    rw [h1];rfl)
   (fun u H' hu=>by
    obtain ⟨b',o',cap',rfl,ha,h4⟩:=hu
    have hp:b'=b∧H'.size=H.size∨b'=H.size∧H'.size=H.size+1:=ha.place.elim (fun h=>.inl ⟨h.1,h.2.2.2⟩) (fun h=>.inr ⟨h.1,h.2.2⟩)
    refine h _ _ (.inr ⟨b',o',cap',by rw [List.length_append],?_,by omega,SlE.apps ha⟩) (CapB.of h4) (ha.fr.mono fun b1 o1 _ h1=>?_) (by omega)
    ·
     rcases hp with ⟨rfl,_⟩|⟨rfl,_⟩
     · exact .inl hz
     · exact .inr ⟨rfl,by omega⟩
    ·
     have:b1=b:=h1.1
     subst this;exact hz)
end
variable {α:Type} {E:Elt α}
def ahd {h:Nat} (t:Gt E (h+1)) (i:Nat):List α:=Pl.pre (t.2.1.take i) ((t.2.2.map (Gt.L h)).take i)
def bhd {h:Nat} (t:Gt E (h+1)) (i:Nat):List α:=Pl.post (t.2.1.drop i) ((t.2.2.map (Gt.L h)).drop (i+1))
theorem Gt.L_at {H:Mem} {P:Ps} {h:Nat} {t:Gt E (h+1)} (hg:Gt.Good H P (h+1) t) {i:Nat} {k:Gt E h} (hk:t.2.2[i]?=some k):Gt.L (h+1) t=ahd t i++Gt.L h k++bhd t i:=
 Pl.inter_self (by rw [List.length_map];exact hg.2.2.2.2.2.1) (by rw [List.getElem?_map,hk];rfl)
theorem bhd_cons {h:Nat} {t:Gt E (h+1)} {i:Nat} {x:α} {k:Gt E h} (hx:t.2.1[i]?=some x) (hk:t.2.2[i+1]?=some k):bhd t i=x::Gt.L h k++bhd t (i+1):=by
 obtain ⟨h1,e1⟩:=List.getElem?_eq_some_iff.1 hx
 have hk':(t.2.2.map (Gt.L h))[i+1]?=some (Gt.L h k):=by rw [List.getElem?_map,hk];rfl
 obtain ⟨h2,e2⟩:=List.getElem?_eq_some_iff.1 hk'
 unfold bhd
 rw [←List.getElem_cons_drop (h:=h1),←List.getElem_cons_drop (h:=h2),e1,e2]
 rfl
theorem bhd_end {h:Nat} {t:Gt E (h+1)}:bhd t t.2.1.length=[]:=by
 unfold bhd;rw [List.drop_length];rfl
section
variable (O:Pl.Swo α)
theorem split_uniq {p:α→Bool} {l1 l2 m1 m2:List α} (e:l1++l2=m1++m2) (h1:∀a∈l1,p a=true) (h2:∀a∈l2,p a=false) (h3:∀a∈m1,p a=true) (h4:∀a∈m2,p a=false):l1=m1∧l2=m2:=by
 have f:∀{a b:List α},(∀x∈a,p x=true)→(∀x∈b,p x=false)→(a++b).filter p=a:=fun ha hb=>by
  rw [List.filter_append,List.filter_eq_self.2 ha,List.filter_eq_nil_iff.2 (fun x hx=>by rw [hb x hx];decide),List.append_nil]
 have e1:=congrArg (List.filter p) e
 rw [f h1 h2,f h3 h4] at e1
 subst e1
 exact ⟨rfl,List.append_cancel_left e⟩
def Pv (A R:List α) (v:α):Prop:=(∀a∈A,O.lt a v=true)∧∀r∈R,O.lt r v=false
theorem Pv.same {A R A' R':List α} {v:α} (h:Pv O A R v) (h':Pv O A' R' v) (e:A++R=A'++R'):A=A'∧R=R':=split_uniq (p:=fun a=>O.lt a v) e h.1 h.2 h'.1 h'.2
theorem Pv.cut {A R1 p R2:List α} {v:α} (h:Pv O A (R1++p++R2) v):Pv O A (R1++R2) v:=⟨h.1,fun r hr=>h.2 r (by
 rcases List.mem_append.1 hr with hr|hr
 · simp [hr]
 · simp [hr])⟩
theorem Pl.Srt.pv {l:List α} (hs:Pl.Srt O l) (v:α):Pv O (l.take (Pl.pos O v l)) (l.drop (Pl.pos O v l)) v:=by
 obtain ⟨h1,h2⟩:=Pl.pos_split O v l
 refine ⟨h1,fun r hr=>?_⟩
 rcases hd:l.drop (Pl.pos O v l) with _|⟨z,m⟩
 · rw [hd] at hr;cases hr
 ·
  have hz:=h2 z (by rw [hd];rfl)
  rw [hd] at hr
  have hs':Pl.Srt O (z::m):=by rw [←hd];exact hs.sublist (List.drop_sublist _ _)
  rcases List.mem_cons.1 hr with rfl|hr
  · exact hz
  ·
   cases e:O.lt r v with
   | false=>rfl
   | true=>rw [O.trans (((Pl.Srt.cons O).1 hs').1 r hr) e] at hz;cases hz
structure CuI (A R A1 C1:List α) {h:Nat} (t:Gt E (h+1)) (i:Nat) (k:Gt E h) (R1 R2:List α):Prop where
 kk:t.2.2[i]?=some k
 l:Gt.L h k=R2++R1
 a:A=A1++ahd t i++R2
 r:R=R1++bhd t i++C1
variable {O} {H:Mem} {P:Ps} {h h0:Nat} {t:Gt E (h+1)} {A R A1 C1:List α} {v:α}
theorem ahd_lt (hg:Gt.Good H P (h+1) t) (hs:Pl.Srt O (Gt.L (h+1) t)) {i:Nat} {k:Gt E h} (hk:t.2.2[i]?=some k) (hi:i=Pl.pos O v t.2.1):(∀y∈ahd t i,O.lt y v=true)∧(∀y∈bhd t i,O.lt y v=false)∧(Pl.fnd O v t.2.1=true→∀y∈Gt.L h k,O.lt y v=true):=by
 have hl:t.2.2.length=t.2.1.length+1:=hg.2.2.2.2.2.1
 rw [Gt.L_at hg hk,Pl.Srt.append,Pl.Srt.append] at hs
 obtain ⟨⟨sa,sk,sak⟩,sb,sx⟩:=hs
 have hlt:∀{z},t.2.1[i]?=some z→(∀y∈Gt.L h k,O.lt y z=true)∧∃m,bhd t i=z::m:=fun {z} hz=>by
  have hil:=(List.getElem?_eq_some_iff.1 hz).1
  have e:=bhd_cons hz (List.getElem?_eq_getElem (show i+1<t.2.2.length by omega))
  exact ⟨fun y hy=>sx y (List.mem_append_right _ hy) z (by rw [e];simp),_,e⟩
 refine ⟨?_,?_,?_⟩
 ·
  refine Pl.pre_lt O (by rw [List.length_take,List.length_take,List.length_map];have:=Pl.pos_le O v t.2.1;omega) sa fun y hy=>?_
  exact (Pl.pos_split O v t.2.1).1 y (by rw [←hi];exact List.mem_of_getLast? hy)
 ·
  intro y hy
  cases hz:t.2.1[i]? with
  | none=>
   have hz':=List.getElem?_eq_none_iff.1 hz
   unfold bhd at hy
   rw [List.drop_of_length_le hz'] at hy
   cases hy
  | some z=>
   obtain ⟨_,m,e⟩:=hlt hz
   have hzv:O.lt z v=false:=Pl.pos_at O (by rw [←hi];exact hz)
   rw [e] at hy sb
   rcases List.mem_cons.1 hy with rfl|hy
   · exact hzv
   ·
    cases e2:O.lt y v with
    | false=>rfl
    | true=>rw [O.trans (((Pl.Srt.cons O).1 sb).1 y hy) e2] at hzv;cases hzv
 ·
  intro hf y hy
  have hpl:=Pl.fnd_pos_lt O hf
  rw [←hi] at hpl
  have hz:t.2.1[i]?=some t.2.1[i]:=List.getElem?_eq_getElem hpl
  have h1:=(hlt hz).1 y hy
  have hf':O.lt v t.2.1[i]=false:=by
   unfold Pl.fnd at hf
   rw [←hi,hz] at hf
   simpa using hf
  exact O.lt_of_lt_of_le h1 hf'
theorem CuI.find (hg:Gt.Good H P (h+1) t) (e:A++R=A1++Gt.L (h+1) t++C1) (hs:Pl.Srt O (A++R)) (hp:Pv O A R v) (hw:Pv O A1 C1 v) {i:Nat} (hi:i=Pl.pos O v t.2.1):
  ∃k R1 R2,CuI A R A1 C1 t i k R1 R2∧(Pl.fnd O v t.2.1=true→R1=[]):=by
 have hl:t.2.2.length=t.2.1.length+1:=hg.2.2.2.2.2.1
 have hpl:=Pl.pos_le O v t.2.1
 obtain ⟨k,hk⟩:∃k,t.2.2[i]?=some k:=⟨t.2.2[i]'(by omega),List.getElem?_eq_getElem (by omega)⟩
 have hst:Pl.Srt O (Gt.L (h+1) t):=by
  rw [e,List.append_assoc,Pl.Srt.append,Pl.Srt.append] at hs
  exact hs.2.1.1
 obtain ⟨h1,h2,h3⟩:=ahd_lt hg hst hk hi
 have hsk:Pl.Srt O (Gt.L h k):=by
  rw [Gt.L_at hg hk,Pl.Srt.append,Pl.Srt.append] at hst
  exact hst.1.2.1
 have hkv:=hsk.pv O v
 have e2:A++R=(A1++ahd t i++(Gt.L h k).take (Pl.pos O v (Gt.L h k)))++((Gt.L h k).drop (Pl.pos O v (Gt.L h k))++bhd t i++C1):=by
  rw [e,Gt.L_at hg hk]
  conv=>lhs;rw [←List.take_append_drop (Pl.pos O v (Gt.L h k)) (Gt.L h k)]
  simp only [List.append_assoc]
 have hp2:Pv O (A1++ahd t i++(Gt.L h k).take (Pl.pos O v (Gt.L h k))) ((Gt.L h k).drop (Pl.pos O v (Gt.L h k))++bhd t i++C1) v:=by
  refine ⟨fun a ha=>?_,fun r hr=>?_⟩
  ·
   simp only [List.mem_append] at ha
   rcases ha with (ha|ha)|ha
   · exact hw.1 a ha
   · exact h1 a ha
   · exact hkv.1 a ha
  ·
   simp only [List.mem_append] at hr
   rcases hr with (hr|hr)|hr
   · exact hkv.2 r hr
   · exact h2 r hr
   · exact hw.2 r hr
 obtain ⟨ea,er⟩:=hp.same O hp2 e2
 refine ⟨k,_,_,⟨hk,(List.take_append_drop _ _).symm,ea,er⟩,fun hf=>?_⟩
 rcases hd:(Gt.L h k).drop (Pl.pos O v (Gt.L h k)) with _|⟨z,m⟩
 · rfl
 ·
  have hz:z∈(Gt.L h k).drop (Pl.pos O v (Gt.L h k)):=by rw [hd];exact List.mem_cons_self
  have:=hkv.2 z hz
  rw [h3 hf z (List.mem_of_mem_drop hz)] at this
  cases this
theorem way_down (hg:Gt.Good H P (h+1) t) (hs:Pl.Srt O (Gt.L (h+1) t)) (hw:Pv O A1 C1 v) {i:Nat} {k:Gt E h} (hk:t.2.2[i]?=some k) (hi:i=Pl.pos O v t.2.1):Pv O (A1++ahd t i) (bhd t i++C1) v:=by
 obtain ⟨h1,h2,_⟩:=ahd_lt hg hs hk hi
 exact ⟨fun a ha=>(List.mem_append.1 ha).elim (hw.1 a) (h1 a),fun r hr=>(List.mem_append.1 hr).elim (h2 r) (hw.2 r)⟩
theorem cu_leaf {X:List α} (e:A++R=A1++X++C1) (hs:Pl.Srt O (A++R)) (hp:Pv O A R v) (hw:Pv O A1 C1 v) {i:Nat} (hi:i=Pl.pos O v X):A=A1++X.take i∧R=X.drop i++C1:=by
 have hsX:Pl.Srt O X:=by
  rw [e,List.append_assoc,Pl.Srt.append,Pl.Srt.append] at hs
  exact hs.2.1.1
 have hx:=hsX.pv O v
 rw [←hi] at hx
 refine hp.same O (A':=A1++X.take i) (R':=X.drop i++C1) ⟨fun a ha=>(List.mem_append.1 ha).elim (hw.1 a) (hx.1 a),fun r hr=>(List.mem_append.1 hr).elim (hx.2 r) (hw.2 r)⟩ ?_
 rw [e]
 conv=>lhs;rw [←List.take_append_drop i X]
 simp only [List.append_assoc]
theorem CuI.up (hg:Gt.Good H P (h+1) t) {i:Nat} {k:Gt E h} (hk:t.2.2[i]?=some k) (ha:A=A1++ahd t i++Gt.L h k) (hr:R=bhd t i++C1):CuI A R A1 C1 t i k [] (Gt.L h k):=⟨hk,by simp,ha,by simpa using hr⟩
theorem CuI.over {i:Nat} {k:Gt E h} {R2:List α} (hg:Gt.Good H P (h+1) t) (hc:CuI A R A1 C1 t i k [] R2) (hi:i=t.2.1.length):A=A1++Gt.L (h+1) t∧R=C1:=by
 subst hi
 obtain ⟨h1,h2,h3,h4⟩:=hc
 rw [bhd_end] at h4
 refine ⟨?_,by simpa using h4⟩
 rw [h3,Gt.L_at hg h1,bhd_end,h2]
 simp
def cutN {h:Nat} (g':Ng) (t:Gt E (h+1)) (i:Nat):Gt E (h+1):=(g',t.2.1.take i++t.2.1.drop (i+1),t.2.2.take (i+1)++t.2.2.drop (i+2))
theorem cutN_k {g':Ng} {i j:Nat} (hj:j≤i) (hi:i<t.2.2.length):(cutN g' t i).2.2[j]?=t.2.2[j]?:=by
 show (t.2.2.take (i+1)++t.2.2.drop (i+2))[j]?=_
 rw [List.getElem?_append_left (by rw [List.length_take];omega),List.getElem?_take_of_lt (by omega)]
theorem cutN_ahd {g':Ng} {i:Nat} (hi:i<t.2.1.length) (hl:t.2.2.length=t.2.1.length+1):ahd (cutN g' t i) i=ahd t i:=by
 unfold ahd
 show Pl.pre ((t.2.1.take i++t.2.1.drop (i+1)).take i) (((t.2.2.take (i+1)++t.2.2.drop (i+2)).map (Gt.L h)).take i)=_
 rw [List.take_append_of_le_length (by rw [List.length_take];omega),List.take_take,Nat.min_self,List.map_append,List.take_append_of_le_length (by rw [List.length_map,List.length_take];omega),List.map_take,List.take_take,Nat.min_eq_left (by omega)]
theorem cutN_bhd {g':Ng} {i:Nat} (hi:i<t.2.1.length) (hl:t.2.2.length=t.2.1.length+1):bhd (cutN g' t i) i=bhd t (i+1):=by
 unfold bhd
 show Pl.post ((t.2.1.take i++t.2.1.drop (i+1)).drop i) (((t.2.2.take (i+1)++t.2.2.drop (i+2)).map (Gt.L h)).drop (i+1))=_
 have l1:(t.2.1.take i).length=i:=by rw [List.length_take];omega
 have l2:((t.2.2.take (i+1)).map (Gt.L h)).length=i+1:=by rw [List.length_map,List.length_take];omega
 rw [List.drop_append_of_le_length (by omega),List.drop_of_length_le (by omega),List.nil_append,List.map_append,List.drop_append_of_le_length (by omega),List.drop_of_length_le (l:=(t.2.2.take (i+1)).map (Gt.L h)) (by omega),List.nil_append,List.map_drop]
theorem CuI.cut {g':Ng} {i:Nat} {k k2:Gt E h} {x:α} {R1 R2:List α} (hl:t.2.2.length=t.2.1.length+1) (hc:CuI A R A1 C1 t i k R1 R2) (hx:t.2.1[i]?=some x) (hk2:t.2.2[i+1]?=some k2):
  R=R1++(x::Gt.L h k2)++(bhd t (i+1)++C1)∧CuI A (R1++(bhd t (i+1)++C1)) A1 C1 (cutN g' t i) i k R1 R2:=by
 have hil:=(List.getElem?_eq_some_iff.1 hx).1
 obtain ⟨h1,h2,h3,h4⟩:=hc
 refine ⟨by rw [h4,bhd_cons hx hk2];simp,⟨by rw [cutN_k (Nat.le_refl _) (by omega)];exact h1,h2,by rw [cutN_ahd hil hl];exact h3,by rw [cutN_bhd hil hl];simp⟩⟩
theorem cutN_L {g':Ng} {i:Nat} {k k2:Gt E h} {x:α} (hl:t.2.2.length=t.2.1.length+1) (hk:t.2.2[i]?=some k) (hx:t.2.1[i]?=some x) (hk2:t.2.2[i+1]?=some k2):
  Gt.L (h+1) t=(ahd t i++Gt.L h k)++(x::Gt.L h k2)++bhd t (i+1)∧Gt.L (h+1) (cutN g' t i)=(ahd t i++Gt.L h k)++bhd t (i+1):=by
 have hil:=(List.getElem?_eq_some_iff.1 hx).1
 have e1:Gt.L (h+1) t=ahd t i++Gt.L h k++bhd t i:=Pl.inter_self (by rw [List.length_map];exact hl) (by rw [List.getElem?_map,hk];rfl)
 have hl':((cutN g' t i).2.2.map (Gt.L h)).length=(cutN g' t i).2.1.length+1:=by
  show ((t.2.2.take (i+1)++t.2.2.drop (i+2)).map (Gt.L h)).length=(t.2.1.take i++t.2.1.drop (i+1)).length+1
  simp only [List.length_map,List.length_append,List.length_take,List.length_drop];omega
 have e2:Gt.L (h+1) (cutN g' t i)=ahd (cutN g' t i) i++Gt.L h k++bhd (cutN g' t i) i:=Pl.inter_self hl' (by rw [List.getElem?_map,cutN_k (Nat.le_refl _) (by omega),hk];rfl)
 rw [cutN_ahd hil hl,cutN_bhd hil hl] at e2
 exact ⟨by rw [e1,bhd_cons hx hk2];simp,e2⟩
end
variable {α:Type} {E:Elt α}
theorem Dn.seg {R:α→List α→Prop} {h0 h:Nat} {t0:Gt E h0} {t:Gt E h} {fs:List (Nat×Nat)} {A C:List α} (d:Dn t0 fs t A C) (hs:Gt.Seg R h0 t0):Gt.Seg R h t:=by
 induction d with
 | nil=>exact hs
 | cons hk d ih=>exact ih (hs.2 _ (List.mem_of_getElem? hk))
section
variable {O:Pl.Swo α} {H:Mem} {P:Ps} {h h0:Nat} {t:Gt E (h+1)} {A R A1 C1 G:List α} {v:α}
theorem Ra.lo {A G:List α} {w:α} {l:List α} (h:w∈A):Ra O A G w l:=.inl h
theorem segE_cut {p:List α} (ha:∀w∈A1,w∈A) (hc:∀g∈p,∀c∈C1,O.lt g c=true):SegE (Ra O A G) (Ra O A (G++p)) A1 C1:=
 ⟨fun w hw l=>.inl (ha w hw),fun a w l c e hr=>hr.add O (.inr (.inr fun u hu g hg=>hc g hg u (by rw [e];simp at hu ⊢;rcases hu with rfl|hu;exact .inr (.inl rfl);exact .inr (.inr (.inl hu)))))⟩
theorem seg_cutN {g':Ng} {i:Nat} {k k2:Gt E h} {x:α} (hg:Gt.Good H P (h+1) t) (hs:Pl.Srt O (Gt.L (h+1) t)) (hk:t.2.2[i]?=some k) (hx:t.2.1[i]?=some x) (hk2:t.2.2[i+1]?=some k2) (hA:∀w∈ahd t i,w∈A)
  (hS:Gt.Seg (Ra O A G) (h+1) t):Gt.Seg (Ra O A (G++(x::Gt.L h k2))) (h+1) (cutN g' t i):=by
 have hl:t.2.2.length=t.2.1.length+1:=hg.2.2.2.2.2.1
 have hKL:(t.2.2.map (Gt.L h)).length=t.2.1.length+1:=by rw [List.length_map];exact hl
 have hil:=(List.getElem?_eq_some_iff.1 hx).1
 have e:=(cutN_L (g':=g') hl hk hx hk2).1
 rw [e,Pl.Srt.append,Pl.Srt.append,Pl.Srt.append] at hs
 obtain ⟨⟨⟨_,_,s0⟩,sp,s1⟩,sb,s2⟩:=hs
 have hpost:∀j y m,i+1≤j→t.2.1[j]?=some y→(t.2.2.map (Gt.L h))[j+1]?=some m→∀u∈y::m,∀g∈x::Gt.L h k2,O.lt g u=true:=fun j y m hj hy hm u hu g hg=>by
  obtain ⟨a,c,e2⟩:=Pl.post_piece (X:=t.2.1.drop (i+1)) (K:=(t.2.2.map (Gt.L h)).drop (i+1+1)) (j:=j-(i+1)) (by rw [List.length_drop,List.length_drop,hKL];omega) (by rw [List.getElem?_drop,←hy];congr 1;omega) (by rw [List.getElem?_drop,←hm];congr 1;omega)
  have hm2:u∈bhd t (i+1):=by
   unfold bhd;rw [e2]
   simp at hu ⊢
   rcases hu with rfl|hu
   · exact .inr (.inl rfl)
   · exact .inr (.inr (.inl hu))
  exact s2 g (List.mem_append_right _ hg) u hm2
 refine ⟨fun j y m hy hm=>?_,fun m hm=>?_⟩
 ·
  replace hy:(t.2.1.take i++t.2.1.drop (i+1))[j]?=some y:=hy
  replace hm:((t.2.2.take (i+1)++t.2.2.drop (i+2)).map (Gt.L h))[j+1]?=some m:=hm
  have lT:(t.2.1.take i).length=i:=by rw [List.length_take];omega
  have lK:((t.2.2.take (i+1)).map (Gt.L h)).length=i+1:=by rw [List.length_map,List.length_take];omega
  rcases Nat.lt_or_ge j i with hj|hj
  ·
   rw [List.getElem?_append_left (by omega),List.getElem?_take_of_lt hj] at hy
   exact .inl (hA y (Pl.pre_item hKL hj (by omega) hy))
  ·
   rw [List.getElem?_append_right (by omega),lT,List.getElem?_drop] at hy
   rw [List.map_append,List.getElem?_append_right (by omega),lK,List.map_drop,List.getElem?_drop] at hm
   have hy':t.2.1[j+1]?=some y:=by rw [←hy];congr 1;omega
   have hm':(t.2.2.map (Gt.L h))[j+1+1]?=some m:=by rw [←hm];congr 1;omega
   exact (hS.1 (j+1) y m hy' hm').add O (.inr (.inr fun u hu g hg=>hpost (j+1) y m (by omega) hy' hm' u hu g hg))
 ·
  replace hm:m∈t.2.2.take (i+1)++t.2.2.drop (i+2):=hm
  have hgm:∀m∈t.2.2,Gt.Good H P h m:=fun m hm=>(hg.2.2.2.2.2.2.1 m hm).1
  rcases List.mem_append.1 hm with hm|hm
  ·
   have hmK:=List.mem_of_mem_take hm
   obtain ⟨j,hj⟩:=List.mem_iff_getElem?.1 hm
   have hj1:=(List.getElem?_eq_some_iff.1 hj).1
   rw [List.length_take] at hj1
   rw [List.getElem?_take_of_lt (by omega)] at hj
   have hmL:(t.2.2.map (Gt.L h))[j]?=some (Gt.L h m):=by rw [List.getElem?_map,hj];rfl
   rcases Nat.lt_or_ge j i with hji|hji
   · exact Gt.Seg.of_low (hgm m hmK) fun y hy l=>.inl (hA y (Pl.pre_kid hKL hji (by omega) hmL hy))
   ·
    have:j=i:=by omega
    subst this
    rw [hk] at hj;cases hj
    refine Gt.Seg.mono (hgm _ hmK) (hS.2 _ hmK) fun a w l c e2 hr=>hr.add O (.inr (.inl fun u hu g hg=>s1 u (List.mem_append_right _ ?_) g hg))
    rw [e2];simp at hu ⊢
    rcases hu with rfl|hu
    · exact .inr (.inl rfl)
    · exact .inr (.inr (.inl hu))
  ·
   have hmK:=List.mem_of_mem_drop hm
   obtain ⟨j,hj⟩:=List.mem_iff_getElem?.1 hm
   rw [List.getElem?_drop] at hj
   have hj1:=(List.getElem?_eq_some_iff.1 hj).1
   have hmL:(t.2.2.map (Gt.L h))[i+1+j+1]?=some (Gt.L h m):=by rw [List.getElem?_map,←show t.2.2[i+2+j]?=t.2.2[i+1+j+1]? by congr 1;omega,hj];rfl
   have hy:t.2.1[i+1+j]?=some (t.2.1[i+1+j]'(by omega)):=List.getElem?_eq_getElem (by omega)
   refine Gt.Seg.mono (hgm _ hmK) (hS.2 _ hmK) fun a w l c e2 hr=>hr.add O (.inr (.inr fun u hu g hg=>hpost (i+1+j) _ _ (by omega) hy hmL u (List.mem_cons_of_mem _ ?_) g hg))
   rw [e2];simp at hu ⊢
   rcases hu with rfl|hu
   · exact .inr (.inl rfl)
   · exact .inr (.inr (.inl hu))
theorem Ra.qg {x:α} {l:List α} (h:Ra O A G x l) (hn:x ∉ A):Qg O G x l:=h.elim (fun h=>absurd h hn) id
theorem Qg.one {x:α}:Qg O G x []:=fun w hw z hz g hg hh=>by
 rw [List.mem_singleton] at hw hz
 subst hw;subst hz
 have:=O.asy hh.1;rw [hh.2] at this;cases this
theorem flat_app {Q1 Q2:List (Pc α)}:flat (Q1++Q2)=flat Q1++flat Q2:=by unfold flat;rw [List.map_append,List.flatten_append]
theorem flat_one {p:Pc α}:flat [p]=p.l:=by simp [flat]
theorem flat_ones {l:List α}:flat (l.map fun e=>((e,[]):Pc α))=l:=by
 induction l with
 | nil=>rfl
 | cons x l ih=>
  unfold flat at ih ⊢
  simp only [List.map_cons,List.flatten_cons,ih]
  rfl
theorem Dri.cuts {R0:List α} {stop:α→Bool}:∀{D R1 R2:List α} {Q:List (Pc α)},Dri O A (R1++D++R2) R0 Q stop→(∀w∈D,stop w=false)→Dri O A (R1++R2) R0 (Q++D.map fun e=>((e,[]):Pc α)) stop
 | [],R1,R2,Q,h,_=>by simpa using h
 | x::D,R1,R2,Q,h,hs=>by
  have h1:Dri O A (R1++Pc.l ((x,[]):Pc α)++(D++R2)) R0 Q stop:=by
   have e:R1++x::D++R2=R1++Pc.l ((x,[]):Pc α)++(D++R2):=by simp [Pc.l]
   rw [←e];exact h
  have h2:=h1.cut O Qg.one (fun w hw=>by
   have:w=x:=by simpa [Pc.l] using hw
   subst this;exact hs w List.mem_cons_self)
  rw [←List.append_assoc] at h2
  have h3:=Dri.cuts h2 (fun w hw=>hs w (List.mem_cons_of_mem _ hw))
  simpa using h3
theorem seg_del {x:α} {R':List α} {t0:Gt E h0} (hg:Gt.Good H P h0 t0) (e:Gt.L h0 t0=A++x::R') (hs:Pl.Srt O (A++x::R')) (hS:Gt.Seg (Ra O A G) h0 t0):Gt.Seg (Lo O x (Qg O G)) h0 t0:=by
 rw [Pl.Srt.append] at hs
 exact Gt.Seg.mono hg hS fun a w l c _ hr=>hr.imp (fun hw=>hs.2.2 w hw x List.mem_cons_self) id
theorem seg_del' {H':Mem} {h':Nat} {x:α} {R':List α} {t0:Gt E h'} (hg:Gt.Good H' P h' t0) (e:Gt.L h' t0=A++R') (hs:Pl.Srt O (A++x::R')) (hS:Gt.Seg (Lo O x (Qg O G)) h' t0):Gt.Seg (Ra O A (G++[x])) h' t0:=by
 rw [Pl.Srt.append,Pl.Srt.cons] at hs
 obtain ⟨s1,⟨s2,s3⟩,s4⟩:=hs
 refine Gt.Seg.mono hg hS fun a w l c e2 hr=>?_
 have hw:w∈A++R':=by rw [←e,e2];simp
 have hA:w∈A∨(∀u∈w::l,O.lt x u=true):=by
  by_cases hwA:w∈A
  · exact .inl hwA
  ·
   have hwR:w∈R':=(List.mem_append.1 hw).elim (fun h=>absurd h hwA) id
   refine .inr fun u hu=>?_
   rcases List.mem_cons.1 hu with rfl|hu
   · exact s2 u hwR
   ·
    have hso:Pl.Srt O (Gt.L h' t0):=by rw [e,Pl.Srt.append];exact ⟨s1,s3,fun a ha b hb=>s4 a ha b (List.mem_cons_of_mem _ hb)⟩
    rw [e2,Pl.Srt.append,Pl.Srt.append,Pl.Srt.cons] at hso
    exact O.trans (s2 w hwR) (hso.1.2.1.1 u hu)
 rcases hA with hA|hA
 · exact .inl hA
 ·
  rcases hr with hr|hr
  · have:=O.asy hr;rw [hA w List.mem_cons_self] at this;cases this
  · exact Ra.add O (.inr hr) (.inr (.inr fun u hu g hg=>by rw [List.mem_singleton] at hg;subst hg;exact hA u hu))
theorem seg_start {t0:Gt E h0} (hg:Gt.Good H P h0 t0):Gt.Seg (Ra O A []) h0 t0:=Gt.Seg.of_all hg fun a w b c _=>.inr fun u _ z _ g hg=>absurd hg List.not_mem_nil
theorem del_next {x:α} {R':List α} (hs:Pl.Srt O (A++x::R')):Pl.del O x (A++x::R')=A++R'∧Pl.fnd O x (A++x::R')=true:=by
 have hs':=hs
 rw [Pl.Srt.append] at hs
 have hp:Pl.pos O x (A++x::R')=A.length:=Pl.pos_eq O (fun y hy=>hs.2.2 y hy x List.mem_cons_self) (fun y hy=>by simp at hy;subst hy;exact O.irr _)
 have hf:Pl.fnd O x (A++x::R')=true:=by
  unfold Pl.fnd
  rw [hp,List.getElem?_append_right (Nat.le_refl _),Nat.sub_self]
  simp [O.irr]
 refine ⟨?_,hf⟩
 unfold Pl.del
 rw [hp,hf,List.take_left,show A.length+true.toNat=A.length+1 from rfl,List.drop_append,List.drop_of_length_le (by omega)]
 simp
theorem pv_next {x:α} {R':List α} (hs:Pl.Srt O (A++x::R')):Pv O A R' x:=by
 rw [Pl.Srt.append,Pl.Srt.cons] at hs
 exact ⟨fun a ha=>hs.2.2 a ha x List.mem_cons_self,fun r hr=>O.asy (hs.2.1.1 r hr)⟩
end
variable {α:Type} {E:Elt α}
theorem nodup_ne {β:Type} {l:List β} (hn:l.Nodup) {j k:Nat} {q:β} (hj:l[j]?=some q) (hk:l[k]?=some q) (h:j<k):False:=by
 obtain ⟨h1,e1⟩:=List.getElem?_eq_some_iff.1 hj
 obtain ⟨h2,e2⟩:=List.getElem?_eq_some_iff.1 hk
 exact List.pairwise_iff_getElem.1 hn j k h1 h2 h (by rw [e1,e2])
structure CntL (H1 H':Mem) (pts:List Nat) (k d:Nat):Prop where
 fr:Fr (fun b o=>o=1∧b∈pts.take k) H1 H'
 ch:∀q∈pts.take k,∀c:Nat,cl H1 q 1=some (.int .i64 (c:Int))→cl H' q 1=some (.int .i64 ((c-d:Nat):Int))
theorem CntL.start {H:Mem} {pts:List Nat} {d:Nat}:CntL H H pts 0 d:=⟨Fr.refl _ _,fun q hq=>by simp at hq⟩
theorem CntL.old {H1 H':Mem} {pts:List Nat} {k d q c:Nat} (h:CntL H1 H' pts k d) (hn:pts.Nodup) (hq:pts[k]?=some q) (hc:cl H1 q 1=some (.int .i64 (c:Int))):cl H' q 1=some (.int .i64 (c:Int)):=
 h.fr.keep hc fun hz=>by
  obtain ⟨j,hj⟩:=List.mem_iff_getElem?.1 hz.2
  have hjl:=(List.getElem?_eq_some_iff.1 hj).1
  rw [List.length_take] at hjl
  rw [List.getElem?_take_of_lt (by omega)] at hj
  exact nodup_ne hn hj hq (by omega)
theorem CntL.step {H1 H' H'':Mem} {pts:List Nat} {k d q c:Nat} (h:CntL H1 H' pts k d) (hn:pts.Nodup) (hq:pts[k]?=some q) (hc:cl H1 q 1=some (.int .i64 (c:Int))) (W:Wrote H' H'' q 1 [.int .i64 ((c-d:Nat):Int)]):CntL H1 H'' pts (k+1) d:=by
 have ht:pts.take (k+1)=pts.take k++[q]:=by rw [List.take_add_one,hq];rfl
 have hqn:q ∉ pts.take k:=fun hz=>by
  obtain ⟨j,hj⟩:=List.mem_iff_getElem?.1 hz
  have hjl:=(List.getElem?_eq_some_iff.1 hj).1
  rw [List.length_take] at hjl
  rw [List.getElem?_take_of_lt (by omega)] at hj
  exact nodup_ne hn hj hq (by omega)
 refine ⟨h.fr.trans' W.fr (fun b o _ hz=>⟨hz.1,by rw [ht];exact List.mem_append_left _ hz.2⟩) (fun b o _ hz=>?_),fun r hr c' hc'=>?_⟩
 ·
  have h2:=hz.2.1;have h3:=hz.2.2
  simp only [List.length_cons,List.length_nil] at h3
  exact ⟨by omega,by rw [ht,hz.1];simp⟩
 ·
  rw [ht] at hr
  rcases List.mem_append.1 hr with hr|hr
  · exact W.fr.keep (h.ch r hr c' hc') (nr (.inl (fun e=>hqn (e▸hr))))
  ·
   rw [List.mem_singleton] at hr;subst hr
   have:c'=c:=by
    have h8:=hc'.symm.trans hc
    simp only [Option.some.injEq,Value.int.injEq,true_and] at h8
    exact_mod_cast h8
   subst this
   exact W.at
theorem NodeM.recount {Z:Nat→Nat→Prop} {H H':Mem} {g:Ng} {X:List α} {kp:Value} {n:Nat} (hN:NodeM E H g X kp) (hf:Fr Z H H') (hz:∀b o,ncl E g b o→¬(b=g.p∧o=1)→¬Z b o) (hc:cl H' g.p 1=some (.int .i64 (n:Int))):NodeM E H' { g with cnt:=n } X kp where
 c0:=hf.keep hN.c0 (hz _ _ (.inl ⟨rfl,by decide⟩) (by omega))
 c1:=hc
 c2:=hf.keep hN.c2 (hz _ _ (.inl ⟨rfl,by decide⟩) (by omega))
 c3:=hf.keep hN.c3 (hz _ _ (.inl ⟨rfl,by decide⟩) (by omega))
 wr:=hf.wr hN.wr
 sl:=hN.sl.fr hf fun j h1 h2=>hz _ _ (.inr ⟨rfl,h1,h2⟩) (fun e=>hN.ne e.1.symm)
 ic:=hN.ic
 ne:=hN.ne
theorem Inn.recount {Z:Nat→Nat→Prop} {H H':Mem} {P:Ps} {h:Nat} {g:Ng} {X:List α} {os:List (Option Nat)} {K:List (Gt E h)} {n:Nat} (hI:Inn H P h g X os K) (hf:Fr Z H H') (hz:∀b o,innc h g K b o→¬(b=g.p∧o=1)→¬Z b o) (hc:cl H' g.p 1=some (.int .i64 (n:Int))):Inn H' P h { g with cnt:=n } X os K where
 n:=NodeM.recount hI.n hf (fun b o hb=>hz b o (.inl hb)) hc
 k:=by
  have:=hI.k.fr hf fun b o hb=>hz b o (.inr (.inl hb)) (fun e=>by
   rcases hb with hb|hb
   · exact hI.k.n2 (e.1.symm.trans hb.1)
   · exact hI.k.n3 (e.1.symm.trans hb.1))
  exact ⟨this.c,this.wr,this.sl,this.kc,this.n1,this.n2,this.n3,this.n4,this.n5⟩
 c:=⟨fun k hk=>⟨(hI.c.1 k hk).1.fr hf fun b o hb=>hz b o (.inr (.inr ⟨k,hk,hb⟩)) (fun e=>((hI.c.1 k hk).2.2 b o hb).1 (.inl ⟨e.1,by omega⟩)),(hI.c.1 k hk).2⟩,hI.c.2⟩
 iso:=hI.iso
section
variable {P:Program} {B:World} {f:FuncId} {Q:Value→Mem→Prop} {n:Nat} {r:Env} {k:List Item} {H:Mem} {σ:Type} {i1 i2 i3 i4:Item}
theorem Go'.cut2 (J:σ→Mem→Prop) (q:σ→Env) (ht:∀s H',J s H'→Go' P B f Q n (q s) k H') (h:(∀s H',J s H'→Go' P B f Q n (q s) k H')→Go' P B f Q n r (i1::i2::k) H):Go' P B f Q n r (i1::i2::k) H:=h ht
end
section
variable {α:Type} {E:Elt α} {H0 H H':Mem} {it tr:Nat} {mt sk as ae:Bool} {Z0 Z:Nat→Prop} {fr:List (Nat×Int)} {kv:α}
theorem Itr.away (h:Itr E H0 H it tr mt Z0 sk as ae Z fr kv) {X:Nat→Nat→Prop} (hf:Fr X H H') (hx:∀b o,b=it∨Z b→¬X b o):Itr E H' H' it tr mt Z sk as ae Z fr kv where
 c0:=hf.keep h.c0 (hx _ _ (.inl rfl))
 c1:=hf.keep h.c1 (hx _ _ (.inl rfl))
 c2:=hf.keep h.c2 (hx _ _ (.inl rfl))
 c3:=hf.keep h.c3 (hx _ _ (.inl rfl))
 c4:=hf.keep h.c4 (hx _ _ (.inl rfl))
 st:=have ⟨sv,h1,h2⟩:=h.st;⟨sv,hf.keep h1 (hx _ _ (.inl rfl)),h2.fr hf fun b o _ hz=>hx b o (.inr hz)⟩
 kv:=hf.rd h.kv fun _ _=>hx _ _ (.inl rfl)
 wr:=hf.wr h.wr
 nz:=h.nz
 f:=Fr.refl _ _
 zz:=fun _ hb=>.inl hb
theorem Itr.low (h:Itr E H0 H it tr mt Z0 sk as ae Z fr kv):Itr E H H it tr mt (fun b=>Z b∧b<H.size) sk as ae (fun b=>Z b∧b<H.size) fr kv where
 c0:=h.c0
 c1:=h.c1
 c2:=h.c2
 c3:=h.c3
 c4:=h.c4
 st:=have ⟨sv,h1,h2⟩:=h.st;⟨sv,h1,h2.mono fun b hb hz=>⟨hz,hb⟩⟩
 kv:=h.kv
 wr:=h.wr
 nz:=fun hz=>h.nz hz.1
 f:=Fr.refl _ _
 zz:=fun _ hb=>.inl hb
end
inductive Kd where
 | int (k:IntKind)
 | bool
 | str
def Kd.ok:Kd→Value→Prop
 | .int k,v=>∃n,v=.int k n∧(Lit.int k n).wf=true
 | .bool,v=>∃b,v=.bool b
 | .str,v=>∃s:ByteArray,v=.string s∧s.size≤maxLen
def AllOk:List Kd→List Value→Prop
 | [],[]=>True
 | k::ks,v::vs=>k.ok v∧AllOk ks vs
 | _,_=>False
theorem AllOk.app:∀{ks:List Kd} {vs:List Value} {ks':List Kd} {vs':List Value},AllOk ks vs→AllOk ks' vs'→AllOk (ks++ks') (vs++vs')
 | [],[],_,_,_,h=>h
 | _::_,_::_,_,_,h,h'=>⟨h.1,h.2.app h'⟩
 | [],_::_,_,_,h,_=>h.elim
 | _::_,[],_,_,h,_=>h.elim
theorem AllOk.len:∀{ks:List Kd} {vs:List Value},AllOk ks vs→vs.length=ks.length
 | [],[],_=>rfl
 | _::_,_::_,h=>by rw [List.length_cons,List.length_cons,h.2.len]
 | [],_::_,h=>h.elim
 | _::_,[],h=>h.elim
def kindsF (P:Program) (g:TypeId→Option (List Kd)):Nat→List Field→Option (List Kd)
 | _,[]=>some []
 | off,f::fs=>
  match g f.type with
  | none=>none
  | some a=>if f.offset=off∧P.cellsOf f.type=a.length then (kindsF P g (off+a.length) fs).map (a++·) else none
def kinds (P:Program):Nat→TypeId→Option (List Kd)
 | 0,_=>none
 | n+1,t=>
  match P.underlying t with
  | some .bool=>some [.bool]
  | some (.int k)=>some [.int k]
  | some .string=>some [.str]
  | some (.struct fs)=>
   match kindsF P (kinds P n) 0 fs.toList with
   | some ks=>if P.cellsOf t=ks.length then some ks else none
   | none=>none
  | _=>none
section
variable {H:Type} {enc:TypeId×Value→H} {P:Program} {w:World} {base:Nat} {spare:Nat→Bool} {held:Bool}
end
theorem AllOk.get1 {k:Kd} {ks:List Kd} {vs:List Value} (h:AllOk (k::ks) vs):∃v vs',vs=v::vs'∧k.ok v∧AllOk ks vs':=by
 cases vs with
 | nil=>exact h.elim
 | cons v vs=>exact ⟨v,vs,rfl,h.1,h.2⟩
theorem AllOk.nil' {vs:List Value} (h:AllOk [] vs):vs=[]:=by
 cases vs with
 | nil=>rfl
 | cons v vs=>exact h.elim
section
variable {P:Program} {l:List Oper} {K:Act→World→Prop}
def rmv (j:Nat) (p:List (Nat×Nat)):List (Nat×Nat):=p.filter fun y=>!Nat.beq y.1 j
theorem mem_rmv {j:Nat} {p:List (Nat×Nat)} {y:Nat×Nat}:y∈rmv j p↔y∈p∧y.1≠j:=by
 unfold rmv
 rw [List.mem_filter,Bool.not_eq_true']
 refine and_congr_right fun _=>⟨fun h e=>?_,fun h=>?_⟩
 · rw [e] at h;simp at h
 ·
  cases hb:Nat.beq y.1 j with
  | false=>rfl
  | true=>exact absurd (Nat.eq_of_beq_eq_true hb) h
theorem rmv_none {j:Nat} {p:List (Nat×Nat)} (h:∀x∈p,x.1≠j):rmv j p=p:=by
 unfold rmv
 rw [List.filter_eq_self]
 intro x hx
 cases hb:Nat.beq x.1 j with
 | false=>rfl
 | true=>exact absurd (Nat.eq_of_beq_eq_true hb) (h x hx)
theorem rmv_split {j k:Nat} {p1 p2:List (Nat×Nat)} (h1:∀x∈p1,x.1≠j) (h2:∀x∈p2,x.1≠j):rmv j (p1++(j,k)::p2)=p1++p2:=by
 have e:rmv j (p1++(j,k)::p2)=rmv j p1++rmv j p2:=by
  unfold rmv;rw [List.filter_append,List.filter_cons];simp
 rw [e,rmv_none h1,rmv_none h2]
theorem rmv_comm (i j:Nat) (p:List (Nat×Nat)):rmv i (rmv j p)=rmv j (rmv i p):=by
 unfold rmv;rw [List.filter_filter,List.filter_filter];congr 1;funext y;rw [Bool.and_comm]
theorem rmv_app (j:Nat) (p q:List (Nat×Nat)):rmv j (p++q)=rmv j p++rmv j q:=by unfold rmv;rw [List.filter_append]
theorem pairsOk_rmv {m:List Nat} (j:Nat):∀{p:List (Nat×Nat)},pairsOk l m p=true→pairsOk l m (rmv j p)=true
 | [],_=>rfl
 | x::p,h=>by
  simp only [pairsOk,Bool.and_eq_true,List.all_eq_true] at h
  have ih:=pairsOk_rmv j h.2
  unfold rmv
  rw [List.filter_cons]
  split
  ·
   simp only [pairsOk,Bool.and_eq_true,List.all_eq_true]
   exact ⟨fun y hy=>h.1 y (mem_rmv.1 hy).1,ih⟩
  · exact ih
theorem pairsOkX_rmv {m:List Nat} {a b:Nat} (j:Nat):∀{p:List (Nat×Nat)},pairsOkX l m a b p=true→pairsOkX l m a b (rmv j p)=true
 | [],_=>rfl
 | x::p,h=>by
  simp only [pairsOkX,Bool.and_eq_true,List.all_eq_true] at h
  have ih:=pairsOkX_rmv j h.2
  unfold rmv
  rw [List.filter_cons]
  split
  ·
   simp only [pairsOkX,Bool.and_eq_true,List.all_eq_true]
   exact ⟨fun y hy=>h.1 y (mem_rmv.1 hy).1,ih⟩
  · exact ih
theorem topoOk_rmv (j:Nat):∀{p:List (Nat×Nat)},topoOk l p=true→topoOk l (rmv j p)=true
 | [],_=>rfl
 | x::p,h=>by
  simp only [topoOk,Bool.and_eq_true] at h
  have ih:=topoOk_rmv j h.2
  unfold rmv
  rw [List.filter_cons]
  split
  ·
   simp only [topoOk,Bool.and_eq_true]
   refine ⟨?_,ih⟩
   have h1:=h.1
   split at h1
   ·
    rename_i o ho
    rw [List.all_eq_true] at h1 ⊢
    intro e he
    have h2:=h1 e he
    simp only [Bool.or_eq_true,Bool.not_eq_true'] at h2 ⊢
    refine h2.imp id fun h3=>?_
    rw [List.any_eq_false] at h3 ⊢
    intro z hz
    rcases List.mem_cons.1 hz with rfl|hz
    · exact h3 z List.mem_cons_self
    · exact h3 z (List.mem_cons_of_mem _ (mem_rmv.1 hz).1)
   · cases h1
  · exact ih
theorem pairsOk_nodup {m:List Nat}:∀{p:List (Nat×Nat)},pairsOk l m p=true→(p.map (·.1)).Nodup
 | [],_=>List.Pairwise.nil
 | x::p,h=>by
  simp only [pairsOk,Bool.and_eq_true,List.all_eq_true] at h
  rw [List.map_cons,List.nodup_cons]
  refine ⟨fun hx=>?_,pairsOk_nodup h.2⟩
  obtain ⟨y,hy,he⟩:=List.mem_map.1 hx
  have:=(h.1 y hy).2
  rw [he] at this
  simp at this
theorem pairsOkX_nodup {m:List Nat} {a b:Nat}:∀{p:List (Nat×Nat)},pairsOkX l m a b p=true→(p.map (·.1)).Nodup
 | [],_=>List.Pairwise.nil
 | x::p,h=>by
  simp only [pairsOkX,Bool.and_eq_true,List.all_eq_true] at h
  rw [List.map_cons,List.nodup_cons]
  refine ⟨fun hx=>?_,pairsOkX_nodup h.2⟩
  obtain ⟨y,hy,he⟩:=List.mem_map.1 hx
  have:=(h.1 y hy).2
  rw [he] at this
  simp at this
inductive PT where
 | leaf (p:List (Nat×Nat))
 | node (p u:List (Nat×Nat)) (t:PT)
def PT.top:PT→List (Nat×Nat)
 | .leaf p=>p
 | .node p _ _=>p
def PT.pre (v:List (Nat×Nat)):PT→PT
 | .leaf p=>.leaf (v++p)
 | .node p u t=>.node (v++p) (v++u) t
def PT.del (j:Nat):PT→PT
 | .leaf p=>.leaf (rmv j p)
 | .node p u t=>.node (rmv j p) (rmv j u) (t.del j)
def PT.hasnt (j:Nat):PT→Bool
 | .leaf p=>p.all fun y=>!Nat.beq y.1 j
 | .node p u t=>(p.all fun y=>!Nat.beq y.1 j)&&(u.all fun y=>!Nat.beq y.1 j)&&t.hasnt j
def PT.run (P:Program) (l:List Oper) (C:World→Prop) (K:Act→World→Prop):PT→Act→World→Prop
 | .leaf p=>planRun P l C K p
 | .node p u t=>fun a w=>planRun P l C K p a w∧planRun P l C (t.run P l C K) u a w
theorem bne_of {a b:Nat} (h:(!Nat.beq a b)=true):a≠b:=fun e=>by rw [e] at h;simp at h
theorem bne_to {a b:Nat} (h:a≠b):(!Nat.beq a b)=true:=by
 cases hb:Nat.beq a b with
 | false=>rfl
 | true=>exact absurd (Nat.eq_of_beq_eq_true hb) h
theorem PT.del_hasnt {j:Nat}:∀{t:PT},t.hasnt j=true→t.del j=t
 | .leaf p,h=>by
  simp only [PT.hasnt,List.all_eq_true] at h
  simp only [PT.del];rw [rmv_none fun x hx=>bne_of (h x hx)]
 | .node p u t,h=>by
  simp only [PT.hasnt,Bool.and_eq_true,List.all_eq_true] at h
  simp only [PT.del];rw [rmv_none fun x hx=>bne_of (h.1.1 x hx),rmv_none fun x hx=>bne_of (h.1.2 x hx),PT.del_hasnt h.2]
theorem PT.hasnt_del {i j:Nat}:∀{t:PT},t.hasnt i=true→(t.del j).hasnt i=true
 | .leaf p,h=>by
  simp only [PT.hasnt,PT.del,List.all_eq_true] at h ⊢
  exact fun x hx=>h x (mem_rmv.1 hx).1
 | .node p u t,h=>by
  simp only [PT.hasnt,PT.del,Bool.and_eq_true,List.all_eq_true] at h ⊢
  exact ⟨⟨fun x hx=>h.1.1 x (mem_rmv.1 hx).1,fun x hx=>h.1.2 x (mem_rmv.1 hx).1⟩,PT.hasnt_del h.2⟩
theorem PT.del_pre (j:Nat) (v:List (Nat×Nat)):∀t:PT,(t.pre v).del j=(t.del j).pre (rmv j v)
 | .leaf p=>by simp only [PT.pre,PT.del,rmv_app]
 | .node p u t=>by simp only [PT.pre,PT.del,rmv_app]
theorem PT.top_del (j:Nat):∀t:PT,(t.del j).top=rmv j t.top
 | .leaf p=>rfl
 | .node p u t=>rfl
theorem planRun.mono {C:World→Prop} {K':Act→World→Prop} (h:∀a w,K a w→K' a w):∀{p:List (Nat×Nat)} {a:Act} {w:World},planRun P l C K p a w→planRun P l C K' p a w
 | [],_,_,hr=>h _ _ hr
 | x::p,a,w,hr=>hr.imp (fun ⟨h1,o,v,h2,h3,h4⟩=>⟨h1,o,v,h2,h3,planRun.mono h h4⟩) (fun ⟨h1,o,h2,h3⟩=>⟨h1,o,h2,h3.mono fun _ _ h4=>⟨h4.1,planRun.mono h h4.2⟩⟩)
theorem planRun.app {C:World→Prop} {q:List (Nat×Nat)}:∀{p:List (Nat×Nat)} {a:Act} {w:World},planRun P l C (planRun P l C K q) p a w→planRun P l C K (p++q) a w
 | [],_,_,hr=>hr
 | x::p,a,w,hr=>hr.imp (fun ⟨h1,o,v,h2,h3,h4⟩=>⟨h1,o,v,h2,h3,planRun.app h4⟩) (fun ⟨h1,o,h2,h3⟩=>⟨h1,o,h2,h3.mono fun _ _ h4=>⟨h4.1,planRun.app h4.2⟩⟩)
theorem PT.run_pre {C:World→Prop} {v:List (Nat×Nat)}:∀{t:PT} {a:Act} {w:World},planRun P l C (t.run P l C K) v a w→(t.pre v).run P l C K a w
 | .leaf p,_,_,h=>planRun.app h
 | .node p u t,_,_,h=>⟨planRun.app (planRun.mono (fun _ _ h=>h.1) h),planRun.app (planRun.mono (fun _ _ h=>h.2) h)⟩
def PT.ok (l:List Oper) (m:List Nat) (f:Nat):List Nat→PT→Bool
 | [],.leaf p=>pairsOk l m p&&topoOk l p&&(p.all fun y=>Nat.blt y.1 l.length)
 | e::es,.node p u t=>(p.all fun y=>Nat.blt y.1 l.length)&&(pairsOkX l m f e p&&(topoOk l p&&(pairsOk l m u&&
   ((p.all fun y=>bif Nat.beq y.1 f||Nat.beq y.1 e then Nat.beq y.2 2 else (Nat.blt y.2 2||((m.getD y.1 0).testBit f||(m.getD y.1 0).testBit e)))&&
   ((p.any fun y=>Nat.beq y.1 f)&&((u.any fun y=>Nat.beq y.1 e)&&((u.all fun y=>!Nat.beq y.1 f)&&((u.all fun y=>bif Nat.beq y.1 e then Nat.beq y.2 2 else Nat.blt y.2 2)&&
   ((p.all fun y=>Nat.beq y.1 f||((u.any fun z=>Nat.beq z.1 y.1)||(m.getD y.1 0).testBit e))&&((u.all fun z=>p.any fun y=>Nat.beq y.1 z.1)&&
   ((u.all fun z=>t.hasnt z.1)&&(((t.pre (rmv e u)).top.all fun y=>p.any fun z=>Nat.beq z.1 y.1)&&((p.all fun y=>Nat.beq y.1 e||(t.pre (rmv e u)).top.any fun z=>Nat.beq z.1 y.1)&&
   (((t.pre (rmv e u)).top.all fun y=>!Nat.beq y.1 e)&&(!Nat.beq f e&&((u.all fun z=>es.all fun x=>!Nat.beq z.1 x)&&PT.ok l m f es (t.pre (rmv e u))))))))))))))))))
 | _,_=>false
structure PT.Okn (l:List Oper) (m:List Nat) (f e:Nat) (es:List Nat) (p u:List (Nat×Nat)) (t:PT):Prop where
 lt:∀y∈p,y.1<l.length
 pr:pairsOkX l m f e p=true
 tp:topoOk l p=true
 pu:pairsOk l m u=true
 kd:∀y∈p,((y.1=f∨y.1=e)→y.2=2)∧(y.1≠f→y.1≠e→y.2<2∨(m.getD y.1 0).testBit f=true∨(m.getD y.1 0).testBit e=true)
 hf:∃y∈p,y.1=f
 he:∃y∈u,y.1=e
 nf:∀y∈u,y.1≠f
 ku:∀y∈u,(y.1=e→y.2=2)∧(y.1≠e→y.2<2)
 cv:∀y∈p,y.1=f∨(∃z∈u,z.1=y.1)∨(m.getD y.1 0).testBit e=true
 sb:∀z∈u,∃y∈p,y.1=z.1
 fr:∀z∈u,t.hasnt z.1=true
 s1:∀y∈(t.pre (rmv e u)).top,∃z∈p,z.1=y.1
 s2:∀y∈p,y.1=e∨∃z∈(t.pre (rmv e u)).top,z.1=y.1
 s3:∀y∈(t.pre (rmv e u)).top,y.1≠e
 ne:f≠e
 ns:∀z∈u,z.1 ∉ es
 nx:PT.ok l m f es (t.pre (rmv e u))=true
theorem beq_ex {p:List (Nat×Nat)} {j:Nat}:(p.any fun y=>Nat.beq y.1 j)=true↔∃y∈p,y.1=j:=by
 rw [List.any_eq_true]
 exact ⟨fun ⟨y,h,e⟩=>⟨y,h,Nat.eq_of_beq_eq_true e⟩,fun ⟨y,h,e⟩=>⟨y,h,by rw [e];exact Nat.beq_refl _⟩⟩
theorem PT.ok_iff {m:List Nat} {f e:Nat} {es:List Nat} {p u:List (Nat×Nat)} {t:PT}:PT.ok l m f (e::es) (.node p u t)=true↔PT.Okn l m f e es p u t:=by
 simp only [PT.ok,Bool.and_eq_true,List.all_eq_true,beq_ex,Bool.or_eq_true]
 constructor
 ·
  rintro ⟨h1,h2,h3,h4,h5,h6,h7,h8,h9,h10,h11,h12,h13,h14,h15,h16,h18,h17⟩
  refine ⟨fun y hy=>by simpa using h1 y hy,h2,h3,h4,fun y hy=>?_,h6,h7,fun y hy=>bne_of (h8 y hy),fun y hy=>?_,fun y hy=>(h10 y hy).imp Nat.eq_of_beq_eq_true id,h11,h12,h13,fun y hy=>(h14 y hy).imp Nat.eq_of_beq_eq_true id,fun y hy=>bne_of (h15 y hy),bne_of h16,fun z hz hin=>bne_of (h18 z hz z.1 hin) rfl,h17⟩
  ·
   have:=h5 y hy
   constructor
   ·
    intro hh
    have hb:(Nat.beq y.1 f||Nat.beq y.1 e)=true:=by rcases hh with hh|hh<;>simp [hh]
    rw [hb] at this
    exact Nat.eq_of_beq_eq_true (by simpa using this)
   ·
    intro n1 n2
    have hb:(Nat.beq y.1 f||Nat.beq y.1 e)=false:=by
     have a:=bne_to n1;have b:=bne_to n2
     simp only [Bool.not_eq_true'] at a b
     rw [a,b];rfl
    rw [hb] at this
    simpa using this
  ·
   have:=h9 y hy
   constructor
   · intro hh;rw [hh] at this;simpa using this
   ·
    intro n1
    have a:=bne_to n1
    simp only [Bool.not_eq_true'] at a
    rw [a] at this
    simpa using this
 ·
  intro h
  refine ⟨fun y hy=>by simpa using h.lt y hy,h.pr,h.tp,h.pu,fun y hy=>?_,h.hf,h.he,fun y hy=>bne_to (h.nf y hy),fun y hy=>?_,fun y hy=>(h.cv y hy).imp (fun e=>by rw [e];exact Nat.beq_refl _) id,h.sb,h.fr,h.s1,fun y hy=>(h.s2 y hy).imp (fun e=>by rw [e];exact Nat.beq_refl _) id,fun y hy=>bne_to (h.s3 y hy),bne_to h.ne,fun z hz x hx=>bne_to fun e=>h.ns z hz (e▸hx),h.nx⟩
  ·
   obtain ⟨k1,k2⟩:=h.kd y hy
   by_cases n1:y.1=f
   · rw [k1 (.inl n1),n1];simp
   ·
    by_cases n2:y.1=e
    · rw [k1 (.inr n2),n2];simp
    ·
     have a:=bne_to n1;have b:=bne_to n2
     simp only [Bool.not_eq_true'] at a b
     rw [a,b]
     simpa using k2 n1 n2
  ·
   obtain ⟨k1,k2⟩:=h.ku y hy
   by_cases n1:y.1=e
   · rw [k1 n1,n1];simp
   ·
    have a:=bne_to n1
    simp only [Bool.not_eq_true'] at a
    rw [a]
    simpa using k2 n1
theorem PT.ok_del {m:List Nat} {f j:Nat} (hjf:j≠f):∀(es:List Nat) {t:PT},j ∉ es→PT.ok l m f es t=true→PT.ok l m f es (t.del j)=true
 | [],.leaf p,_,h=>by
  simp only [PT.ok,PT.del,Bool.and_eq_true,List.all_eq_true] at h ⊢
  exact ⟨⟨pairsOk_rmv j h.1.1,topoOk_rmv j h.1.2⟩,fun y hy=>h.2 y (mem_rmv.1 hy).1⟩
 | [],.node p u t,_,h=>by simp [PT.ok] at h
 | e::es,.leaf p,_,h=>by simp [PT.ok] at h
 | e::es,.node p u t,hj,h=>by
  have h:=PT.ok_iff.1 h
  have hje:j≠e:=fun e=>hj (by rw [e];exact List.mem_cons_self)
  have hjs:j ∉ es:=fun h=>hj (List.mem_cons_of_mem _ h)
  have etop:((t.del j).pre (rmv e (rmv j u))).top=rmv j (t.pre (rmv e u)).top:=by rw [rmv_comm,←PT.del_pre,PT.top_del]
  rw [PT.del]
  refine PT.ok_iff.2 ⟨fun y hy=>h.lt y (mem_rmv.1 hy).1,pairsOkX_rmv j h.pr,topoOk_rmv j h.tp,pairsOk_rmv j h.pu,fun y hy=>h.kd y (mem_rmv.1 hy).1,?_,?_,fun y hy=>h.nf y (mem_rmv.1 hy).1,fun y hy=>h.ku y (mem_rmv.1 hy).1,fun y hy=>?_,fun z hz=>?_,fun z hz=>PT.hasnt_del (h.fr z (mem_rmv.1 hz).1),fun y hy=>?_,fun y hy=>?_,fun y hy=>?_,h.ne,fun z hz=>h.ns z (mem_rmv.1 hz).1,?_⟩
  · obtain ⟨y,hy,e⟩:=h.hf;exact ⟨y,mem_rmv.2 ⟨hy,by rw [e];exact hjf.symm⟩,e⟩
  · obtain ⟨y,hy,e⟩:=h.he;exact ⟨y,mem_rmv.2 ⟨hy,by rw [e];exact hje.symm⟩,e⟩
  ·
   obtain ⟨h1,h2⟩:=mem_rmv.1 hy
   exact (h.cv y h1).imp id (fun h3=>h3.imp (fun ⟨z,hz,e⟩=>⟨z,mem_rmv.2 ⟨hz,by rw [e];exact h2⟩,e⟩) id)
  ·
   obtain ⟨h1,h2⟩:=mem_rmv.1 hz
   obtain ⟨y,hy,e⟩:=h.sb z h1
   exact ⟨y,mem_rmv.2 ⟨hy,by rw [e];exact h2⟩,e⟩
  ·
   rw [etop] at hy
   obtain ⟨h1,h2⟩:=mem_rmv.1 hy
   obtain ⟨z,hz,e⟩:=h.s1 y h1
   exact ⟨z,mem_rmv.2 ⟨hz,by rw [e];exact h2⟩,e⟩
  ·
   obtain ⟨h1,h2⟩:=mem_rmv.1 hy
   rw [etop]
   exact (h.s2 y h1).imp id (fun ⟨z,hz,e⟩=>⟨z,mem_rmv.2 ⟨hz,by rw [e];exact h2⟩,e⟩)
  ·
   rw [etop] at hy
   exact h.s3 y (mem_rmv.1 hy).1
  ·
   rw [rmv_comm,←PT.del_pre]
   exact PT.ok_del hjf es hjs h.nx
theorem PT.ok_nodup {m:List Nat} {f:Nat}:∀{es:List Nat} {t:PT},PT.ok l m f es t=true→(t.top.map (·.1)).Nodup
 | [],.leaf p,h=>by simp only [PT.ok,Bool.and_eq_true] at h;exact pairsOk_nodup h.1.1
 | [],.node p u t,h=>by simp [PT.ok] at h
 | e::es,.leaf p,h=>by simp [PT.ok] at h
 | e::es,.node p u t,h=>pairsOkX_nodup (PT.ok_iff.1 h).pr
theorem planRun.wpTree {Q:Exit→Act→World→Prop} {C:World→Prop} {m:List Nat} {f:Nat} (hQ:∀a w,K a w→Q .normal a w) (hm:waitsOk l m=true) (hd:edgesDown l=true)
  (hs:∀(j:Nat) (o:Oper) cs b,l[j]?=some o→o.op≠.select cs b):∀(fuel:Nat) (es:List Nat) (t:PT) (listed:Array Bool) (a:Act) (w:World),t.top.length=fuel→PT.ok l m f es t=true→
   Fits l t.top listed→Closed l listed→C w→t.run P l C K a w→Go.wpAny P .any l.toArray Q fuel listed a w
 | fuel,[],.node p u t,_,_,_,_,h,_,_,_,_=>by simp [PT.ok] at h
 | fuel,e::es,.leaf p,_,_,_,_,h,_,_,_,_=>by simp [PT.ok] at h
 | fuel,[],.leaf p,listed,a,w,hlen,h,hf,hc,hC,hr=>by
  simp only [PT.ok,Bool.and_eq_true,List.all_eq_true] at h
  exact planRun.wpAny hQ hm hd hs fuel p listed a w hlen (fun y hy=>by simpa using h.2 y hy) h.1.1 h.1.2 hf hc (.inl hC) hr
 | 0,e::es,.node p u t,listed,a,w,hlen,h,hf,hc,hC,hr=>by
  obtain ⟨y,hy,_⟩:=(PT.ok_iff.1 h).hf
  rw [List.eq_nil_of_length_eq_zero (show p.length=0 from hlen)] at hy
  cases hy
 | fuel+1,e::es,.node p u t,listed,a,w,hlen,hok,hf,hc,hC,⟨hrp,hru⟩=>by
  have h:=PT.ok_iff.1 hok
  replace hf:Fits l p listed:=hf
  replace hlen:p.length=fuel+1:=hlen
  refine ⟨fun hnil=>?_,fun j hj=>?_⟩
  ·
   exfalso
   match p,hlen,h,hf with
   | y::p,_,h,hf=>
    have hm:=plan_ready hd h.lt h.tp hf
    rw [hnil] at hm
    cases hm
  ·
   obtain ⟨hun,oj,hoj,hall⟩:=mem_ready.1 hj
   have hoj':l[j]?=some oj:=by simpa using hoj
   have hjl:j<l.length:=(List.getElem?_eq_some_iff.1 hoj').1
   obtain ⟨⟨j',k⟩,hy,hyj⟩:=(hf.2 j hjl).1 hun
   simp only at hyj
   subst hyj
   have hyp:=hy
   obtain ⟨p1,p2,rfl⟩:=List.append_of_mem hy
   have hx1:=pairsOkX_mem h.pr
   obtain ⟨hpr',hq'⟩:=pairsOkX_drop h.pr
   have hun1:∀x∈p1,listed.getD x.1 true=false:=fun x hx=>(hf.2 x.1 (h.lt x (List.mem_append_left _ hx))).2 ⟨x,List.mem_append_left _ hx,rfl⟩
   have hltp:∀y∈p1++p2,y.1<l.length:=fun y hy=>h.lt y (by
    rcases List.mem_append.1 hy with hy|hy
    · exact List.mem_append_left _ hy
    · exact List.mem_append_right _ (List.mem_cons_of_mem _ hy))
   have hlenp:(p1++p2).length=fuel:=by simp at hlen ⊢;omega
   have hfp:=hf.next (fun x hx=>(hx1 x hx).2) hq' hjl
   have hc':=hc.next hoj' hall
   have hfu:listed.getD f true=false:=by
    obtain ⟨z,hz,e⟩:=h.hf
    exact (hf.2 f (by rw [←e];exact h.lt z hz)).2 ⟨z,hz,e⟩
   have hfl:f<l.length:=by obtain ⟨z,hz,e⟩:=h.hf;rw [←e];exact h.lt z hz
   obtain ⟨z0,hz0,ez0⟩:=h.he
   obtain ⟨z1,hz1,ez1⟩:=h.sb z0 hz0
   have hel:e<l.length:=by rw [←ez0,←ez1];exact h.lt z1 hz1
   have heu:listed.getD e true=false:=(hf.2 e hel).2 ⟨z1,hz1,ez1.trans ez0⟩
   have nwf:(m.getD j' 0).testBit f=false:=by
    cases hb:(m.getD j' 0).testBit f with
    | false=>rfl
    | true=>
     have:=waits_listed hm hd hc j' f oj hoj' hfl hb hall
     rw [getD_false_of hfu] at this;cases this
   have nwe:(m.getD j' 0).testBit e=false:=by
    cases hb:(m.getD j' 0).testBit e with
    | false=>rfl
    | true=>
     have:=waits_listed hm hd hc j' e oj hoj' hel hb hall
     rw [getD_false_of heu] at this;cases this
   have hunu:∀x∈u,x.1<l.length∧listed.getD x.1 true=false:=fun x hx=>by
    obtain ⟨y,hy,e⟩:=h.sb x hx
    have hl:x.1<l.length:=by rw [←e];exact h.lt y hy
    exact ⟨hl,(hf.2 x.1 hl).2 ⟨y,hy,e⟩⟩
   by_cases h1:j'=f
   ·
    subst h1
    have hk2:k=2:=(h.kd _ hyp).1 (.inl rfl)
    have hp1:∀x∈p1,pairOk l m x (j',k)=true:=fun x hx=>by
     have h3:=(hx1 x hx).1
     have h4:=bne_to (hx1 x hx).2
     simp only [Bool.not_eq_true'] at h4
     simpa only [pairOkX,h4,Bool.false_and,Bool.or_false] using h3
    have hah:=ahead hm hd hc hoj' hall (fun x hx=>h.lt x (List.mem_append_left _ hx)) hun1 hp1
    obtain ⟨o,hi,hg⟩:=planRun.loud_first hk2 hs p1 a (fun x hx=>⟨(hah x hx).1.2 (by omega),(hah x hx).2⟩) hrp
    have hpo:pairsOk l m (p1++p2)=true:=pairsOkX_off hpr' fun x hx=>by
     rcases List.mem_append.1 hx with hx|hx
     · exact (hx1 x hx).2
     · exact hq' x hx
    exact (hg.mono fun a' w' h'=>planRun.wpAny hQ hm hd hs fuel (p1++p2) _ a' w' hlenp hltp hpo (topoOk_drop h.tp) hfp hc' (.inl h'.1) h'.2).wpOp hi
   ·
    obtain ⟨⟨ju,ku⟩,hyu,hju⟩:∃z∈u,z.1=j':=by
     rcases h.cv _ hyp with h2|h2|h2
     · exact absurd h2 h1
     · exact h2
     · simp only at h2;rw [nwe] at h2;cases h2
    simp only at hju
    subst hju
    have hyu':=hyu
    obtain ⟨u1,u2,rfl⟩:=List.append_of_mem hyu
    have hu1:=pairsOk_mem h.pu
    obtain ⟨_,hu2⟩:=pairsOk_drop h.pu
    have hahu:=ahead hm hd hc (k:=ku) hoj' hall (fun x hx=>(hunu x (List.mem_append_left _ hx)).1) (fun x hx=>(hunu x (List.mem_append_left _ hx)).2) (fun x hx=>(hu1 x hx).1)
    have erp:rmv ju (p1++(ju,k)::p2)=p1++p2:=rmv_split (fun x hx=>(hx1 x hx).2) hq'
    have eru:rmv ju (u1++(ju,ku)::u2)=u1++u2:=rmv_split (fun x hx=>(hu1 x hx).2) hu2
    by_cases h2:ju=e
    ·
     subst h2
     have hk2:ku=2:=(h.ku _ hyu').1 rfl
     obtain ⟨o,hi,hg⟩:=planRun.loud_first hk2 hs u1 a (fun x hx=>⟨(hahu x hx).1.2 (by omega),(hahu x hx).2⟩) hru
     have hnx:=h.nx
     have s1:=h.s1;have s2:=h.s2;have s3:=h.s3
     rw [eru] at hnx s1 s2 s3
     have hmem:∀i,(∃y∈p1++p2,y.1=i)↔∃y∈(t.pre (u1++u2)).top,y.1=i:=fun i=>by
      rw [←erp]
      constructor
      ·
       rintro ⟨y,hy,rfl⟩
       obtain ⟨h5,h6⟩:=mem_rmv.1 hy
       rcases s2 y h5 with h7|h7
       · exact absurd h7 h6
       · exact h7
      ·
       rintro ⟨y,hy,rfl⟩
       obtain ⟨z,hz,e⟩:=s1 y hy
       exact ⟨z,mem_rmv.2 ⟨hz,by rw [e];exact s3 y hy⟩,e⟩
     have hfit:Fits l (t.pre (u1++u2)).top (listed.setIfInBounds ju true):=⟨hfp.1,fun i hi=>(hfp.2 i hi).trans (hmem i)⟩
     have hlen2:(t.pre (u1++u2)).top.length=fuel:=by
      have hn1:((p1++p2).map (·.1)).Nodup:=by
       have:=pairsOkX_nodup h.pr
       rw [List.map_append,List.map_cons] at this
       rw [List.map_append]
       exact this.sublist (List.Sublist.append (List.Sublist.refl _) (List.sublist_cons_self _ _))
      have hp:=(List.perm_ext_iff_of_nodup hn1 (PT.ok_nodup hnx)).2 fun i=>by
       rw [List.mem_map,List.mem_map]
       exact hmem i
      have:=hp.length_eq
      simp only [List.length_map] at this
      omega
     exact (hg.mono fun a' w' h'=>planRun.wpTree hQ hm hd hs fuel es (t.pre (u1++u2)) _ a' w' hlen2 hnx hfit hc' h'.1 (PT.run_pre h'.2)).wpOp hi
    ·
     have hk:k<2:=((h.kd _ hyp).2 h1 h2).elim id (fun h=>by simp only at h;rw [nwf,nwe] at h;simp at h)
     have hk':ku<2:=(h.ku _ hyu').2 h2
     have n2:=bne_to h2
     simp only [Bool.not_eq_true'] at n2
     have hah:=ahead hm hd hc (k:=k) hoj' hall (fun x hx=>h.lt x (List.mem_append_left _ hx)) hun1 (fun x hx=>by simpa only [pairOkX,n2,nwe,Bool.or_self,Bool.and_false,Bool.or_false] using (hx1 x hx).1)
     obtain ⟨o,v,hi,hqa,hr⟩:=planRun.quiet_first hk hs hC p1 a (fun x hx=>⟨(hah x hx).1.1,(hah x hx).2⟩) hrp
     obtain ⟨o',v',hi',hqa',hr'⟩:=planRun.quiet_first hk' hs hC u1 a (fun x hx=>⟨(hahu x hx).1.1,(hahu x hx).2⟩) hru
     obtain rfl:o'=o:=Option.some.inj (hi'.symm.trans hi)
     obtain rfl:=hqa.inj hqa'
     have hok2:PT.ok l m f (e::es) (.node (p1++p2) (u1++u2) t)=true:=by
      have:=PT.ok_del h1 (e::es) (j:=ju) (fun h9=>(List.mem_cons.1 h9).elim h2 (h.ns _ hyu')) hok
      rw [PT.del,erp,eru,PT.del_hasnt (h.fr _ hyu')] at this
      exact this
     exact (hqa.good (K:=Go.wpAny P .any l.toArray Q fuel _) (planRun.wpTree hQ hm hd hs fuel (e::es) (.node (p1++p2) (u1++u2) t) _ _ _ hlenp hok2 hfp hc' hC ⟨hr,hr'⟩)).wpOp hi
end
end Go.Bt
