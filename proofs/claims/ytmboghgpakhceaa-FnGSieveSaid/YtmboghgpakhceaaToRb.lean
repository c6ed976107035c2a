/- What the moves of an iterator tell. Conditions: none. -/
import Derived.ChangeArms
import Derived.Deep.Strs
import Derived.ChangeSame
import Derived.Test.YtmboghgpakhceaaToKi
import Derived.Test.YtmboghgpakhceaaToLgC
import Derived.Test.YtmboghgpakhceaaToBt
import Derived.Test.YtmboghgpakhceaaToCb
set_option linter.unusedVariables false
namespace Go.Bt
open Go
def EMv:Elt (Int×Int×Int):={ enc:=fun m=>[.int .i64 m.1,.int .i64 m.2.1,.int .i64 m.2.2],s:=3,len:=fun _=>rfl,one:=fun _=>rfl,pos:=by decide }
theorem EMv.of (vs:List Value) (h:AllOk [.int .i64,.int .i64,.int .i64] vs):∃y,EMv.enc y=vs:=by
 obtain ⟨x1,v1,e1,⟨a,e2,_⟩,h1⟩:=h.get1
 obtain ⟨x2,v2,e3,⟨b,e4,_⟩,h2⟩:=h1.get1
 obtain ⟨x3,v3,e5,⟨c,e6,_⟩,h3⟩:=h2.get1
 rw [e1,e3,e5,e2,e4,e6,h3.nil']
 exact ⟨(a,b,c),rfl⟩
def EB:Elt Bool:={ enc:=fun b=>[.bool b],s:=1,len:=fun _=>rfl,one:=fun _=>rfl,pos:=by decide }
namespace Pl
def cut (n:Nat) (z:Int):Option Nat:=if 0≤z∧z<(n:Int) then some z.toNat else none
theorem cut_nat (n q:Nat):cut n (q:Int)=if q<n then some q else none:=by
 unfold cut
 by_cases h:q<n
 · rw [if_pos ⟨by omega,by omega⟩,if_pos h];rfl
 · rw [if_neg (by omega),if_neg h]
theorem cut_last (n:Nat):cut n ((n:Int)-1)=if 0<n then some (n-1) else none:=by
 by_cases h:0<n
 · rw [show (n:Int)-1=((n-1:Nat):Int) by omega,cut_nat,if_pos (by omega),if_pos h]
 · rw [if_neg h,cut,if_neg (by omega)]
theorem cut_first (n:Nat):cut n 0=if 0<n then some 0 else none:=cut_nat n 0
theorem cut_next (n q:Nat):cut n ((q:Int)+1)=if q+1<n then some (q+1) else none:=cut_nat n (q+1)
theorem cut_prev (n q:Nat) (hq:q<n):cut n ((q:Int)-1)=if 0<q then some (q-1) else none:=by
 by_cases h:0<q
 · rw [show (q:Int)-1=((q-1:Nat):Int) by omega,cut_nat,if_pos (by omega),if_pos h]
 · rw [if_neg h,cut,if_neg (by omega)]
theorem cut_neg (n:Nat):cut n (-1)=none:=by rw [cut,if_neg (by omega)]
theorem cut_lt {n:Nat} {z:Int} {q:Nat} (h:cut n z=some q):q<n:=by
 unfold cut at h
 split at h
 · simp only [Option.some.injEq] at h;omega
 · cases h
section
variable {α:Type} (O:Swo α) (l:List α)
def mvTo (m:Int×α) (st:Option Nat):Int:=
 if m.1=2∨m.1=3 then (match st with|none=>-1|some q=>if m.1=2 then (q:Int)+1 else (q:Int)-1)
 else if m.1=1 then (l.length:Int)-1
 else if m.1=4∨m.1=5 then (pos O m.2 l:Int)
 else 0
def mvTold (m:Int×α) (st:Option Nat):Bool:=if m.1=2∨m.1=3 then st.isSome||l.isEmpty else true
def itStep (s:Option Nat×List (Option α)×List Bool) (m:Int×α):Option Nat×List (Option α)×List Bool:=
 (cut l.length (mvTo O l m s.1),s.2.1++[(cut l.length (mvTo O l m s.1)).bind (l[·]?)],s.2.2++[mvTold l m s.1])
def itRun (ms:List (Int×α)):Option Nat×List (Option α)×List Bool:=ms.foldl (itStep O l) (none,[],[])
theorem itRun_snoc (ms:List (Int×α)) (m:Int×α):itRun O l (ms++[m])=itStep O l (itRun O l ms) m:=by simp [itRun]
theorem itRun_lt (ms:List (Int×α)) {q:Nat} (h:(itRun O l ms).1=some q):q<l.length:=by
 rcases List.eq_nil_or_concat ms with rfl|⟨ms',m,rfl⟩
 · cases h
 · rw [List.concat_eq_append,itRun_snoc] at h;exact cut_lt h
theorem itRun_len (ms:List (Int×α)):(itRun O l ms).2.1.length=ms.length∧(itRun O l ms).2.2.length=ms.length:=by
 have:∀(ms:List (Int×α)) s,(ms.foldl (itStep O l) s).2.1.length=s.2.1.length+ms.length∧(ms.foldl (itStep O l) s).2.2.length=s.2.2.length+ms.length:=by
  intro ms
  induction ms with
  | nil=>exact fun s=>⟨rfl,rfl⟩
  | cons m ms ih=>intro s;rw [List.foldl_cons];obtain ⟨h1,h2⟩:=ih (itStep O l s m);rw [h1,h2];simp [itStep];omega
 have:=this ms (none,[],[])
 simpa [itRun] using this
end
def Agree {γ:Type} (a b:List γ) (t:List Bool):Prop:=a.length=b.length∧t.length=b.length∧∀j:Nat,t[j]?=some true→a[j]?=b[j]?
theorem Agree.nil {γ:Type}:Agree ([]:List γ) [] []:=⟨rfl,rfl,fun _ _=>rfl⟩
theorem Agree.snoc {γ:Type} {a b:List γ} {t:List Bool} {x y:γ} {k:Bool} (h:Agree a b t) (hk:k=true→x=y):Agree (a++[x]) (b++[y]) (t++[k]):=by
 obtain ⟨h1,h2,h3⟩:=h
 refine ⟨by simp [h1],by simp [h2],fun j hj=>?_⟩
 rcases Nat.lt_trichotomy j b.length with hlt|rfl|hgt
 ·
  rw [List.getElem?_append_left (by omega)] at hj
  rw [List.getElem?_append_left (by omega),List.getElem?_append_left hlt]
  exact h3 j hj
 ·
  rw [←h2,List.getElem?_append_right (Nat.le_refl _),Nat.sub_self] at hj
  simp only [List.getElem?_cons_zero,Option.some.injEq] at hj
  rw [List.getElem?_append_right (Nat.le_of_eq h1),h1,Nat.sub_self,List.getElem?_append_right (Nat.le_refl _),Nat.sub_self,hk hj]
 ·
  rw [List.getElem?_eq_none_iff.2 (by simp;omega)] at hj
  cases hj
end Pl
namespace Pl
section
variable {α:Type} (O:Swo α) (l:List α)
structure Res (m:Int×α) (s0:Option Nat) (b:Bool) (st:Option Nat):Prop where
 told:mvTold l m s0=true→b=st.isSome∧st=cut l.length (mvTo O l m s0)
 not:mvTold l m s0=false→cut l.length (mvTo O l m s0)=none
variable {O l}
theorem Res.sim {m:Int×α} {s0 st:Option Nat} {b:Bool} (h:Res O l m s0 b st):∀q,cut l.length (mvTo O l m s0)=some q→st=some q:=fun q hq=>by
 cases ht:mvTold l m s0 with
 | true=>rw [(h.told ht).2];exact hq
 | false=>rw [h.not ht] at hq;cases hq
theorem Res.out {m:Int×α} {s0 st:Option Nat} {b:Bool} (h:Res O l m s0 b st) {kv:α} (hkv:∀q,st=some q→l[q]?=some kv) (ht:mvTold l m s0=true):(if b=true then some kv else none)=(cut l.length (mvTo O l m s0)).bind (l[·]?):=by
 obtain ⟨h1,h2⟩:=h.told ht
 rw [←h2,h1]
 cases st with
 | none=>rfl
 | some q=>exact (hkv q rfl).symm
theorem Res.first {m:Int×α} {s0:Option Nat} (h1:m.1≠1) (h2:m.1≠2) (h3:m.1≠3) (h4:m.1≠4) (h5:m.1≠5):Res O l m s0 (decide (0<l.length)) (if 0<l.length then some 0 else none):=by
 have e:mvTo O l m s0=0:=by unfold mvTo;rw [if_neg (by omega),if_neg h1,if_neg (by omega)]
 refine ⟨fun _=>⟨?_,by rw [e,cut_first]⟩,fun h=>?_⟩
 · by_cases h:0<l.length<;>simp [h]
 · unfold mvTold at h;rw [if_neg (by omega)] at h;cases h
theorem Res.last {m:Int×α} {s0:Option Nat} (h1:m.1=1):Res O l m s0 (decide (0<l.length)) (if 0<l.length then some (l.length-1) else none):=by
 have e:mvTo O l m s0=(l.length:Int)-1:=by unfold mvTo;rw [if_neg (by omega),if_pos h1]
 refine ⟨fun _=>⟨?_,by rw [e,cut_last]⟩,fun h=>?_⟩
 · by_cases h:0<l.length<;>simp [h]
 · unfold mvTold at h;rw [if_neg (by omega)] at h;cases h
theorem Res.seek {m:Int×α} {s0:Option Nat} (h1:m.1=4∨m.1=5):Res O l m s0 (decide (pos O m.2 l<l.length)) (if pos O m.2 l<l.length then some (pos O m.2 l) else none):=by
 have e:mvTo O l m s0=(pos O m.2 l:Int):=by unfold mvTo;rw [if_neg (by omega),if_neg (by omega),if_pos h1]
 refine ⟨fun _=>⟨?_,by rw [e,cut_nat]⟩,fun h=>?_⟩
 · by_cases h:pos O m.2 l<l.length<;>simp [h]
 · unfold mvTold at h;rw [if_neg (by omega)] at h;cases h
theorem Res.next {m:Int×α} {s0 st st':Option Nat} {b:Bool} (h1:m.1=2) (hs:∀q,s0=some q→st=some q) (h:∀q,st=some q→b=decide (q+1<l.length)∧st'=if q+1<l.length then some (q+1) else none) (hn:l=[]→b=false∧st'=none):Res O l m s0 b st':=by
 cases s0 with
 | some q=>
  have e:mvTo O l m (some q)=(q:Int)+1:=by unfold mvTo;rw [if_pos (.inl h1)];simp only;rw [if_pos h1]
  obtain ⟨h2,h3⟩:=h q (hs q rfl)
  refine ⟨fun _=>⟨?_,by rw [e,cut_next];exact h3⟩,fun h=>?_⟩
  · rw [h2,h3];by_cases h:q+1<l.length<;>simp [h]
  · unfold mvTold at h;rw [if_pos (.inl h1)] at h;cases h
 | none=>
  have e:mvTo O l m none=-1:=by unfold mvTo;rw [if_pos (.inl h1)]
  refine ⟨fun h=>?_,fun _=>by rw [e,cut_neg]⟩
  unfold mvTold at h
  rw [if_pos (.inl h1)] at h
  obtain ⟨h2,h3⟩:=hn (by simpa using h)
  rw [e,cut_neg,h2,h3];exact ⟨rfl,rfl⟩
theorem Res.prev {m:Int×α} {s0 st st':Option Nat} {b:Bool} (h1:m.1=3) (hlt:∀q,s0=some q→q<l.length) (hs:∀q,s0=some q→st=some q) (h:∀q,st=some q→b=decide (0<q)∧st'=if 0<q then some (q-1) else none) (hn:l=[]→b=false∧st'=none):Res O l m s0 b st':=by
 cases s0 with
 | some q=>
  have e:mvTo O l m (some q)=(q:Int)-1:=by unfold mvTo;rw [if_pos (.inr h1)];simp only;rw [if_neg (by omega)]
  obtain ⟨h2,h3⟩:=h q (hs q rfl)
  refine ⟨fun _=>⟨?_,by rw [e,cut_prev _ _ (hlt q rfl)];exact h3⟩,fun h=>?_⟩
  · rw [h2,h3];by_cases h:0<q<;>simp [h]
  · unfold mvTold at h;rw [if_pos (.inr h1)] at h;cases h
 | none=>
  have e:mvTo O l m none=-1:=by unfold mvTo;rw [if_pos (.inr h1)]
  refine ⟨fun h=>?_,fun _=>by rw [e,cut_neg]⟩
  unfold mvTold at h
  rw [if_pos (.inr h1)] at h
  obtain ⟨h2,h3⟩:=hn (by simpa using h)
  rw [e,cut_neg,h2,h3];exact ⟨rfl,rfl⟩
def atz:Option Nat→Int
 | none=>-1
 | some q=>(q:Int)
end
end Pl
namespace Pl
section
variable {α:Type} (O:Swo α) (T:List α)
def wlk (fw:Bool) (x:α) (n:Nat):List (Int×α):=(if fw then (0:Int) else 1,x)::List.replicate n (if fw then (2:Int) else 3,x)
def wdue (fw:Bool):List α:=if fw then T else T.reverse
def wpos (fw:Bool) (j:Nat):Nat:=if fw then j else T.length-1-j
theorem wdue_get (fw:Bool) {j:Nat} (hj:j<T.length):T[wpos T fw j]?=(wdue T fw)[j]?:=by
 cases fw
 ·
  show T[T.length-1-j]?=T.reverse[j]?
  rw [List.getElem?_reverse hj]
 · rfl
theorem wdue_len (fw:Bool):(wdue T fw).length=T.length:=by cases fw<;>simp [wdue]
theorem wlk_run (fw:Bool) (x:α):∀n,n≤T.length→(itRun O T (wlk fw x n)).1=(if n<T.length then some (wpos T fw n) else none)∧∀i,i≤n→(itRun O T (wlk fw x n)).2.1[i]?=some ((wdue T fw)[i]?)∧(itRun O T (wlk fw x n)).2.2[i]?=some true
 | 0,_=>by
  have e:itRun O T (wlk fw x 0)=itStep O T (none,[],[]) (if fw then (0:Int) else 1,x):=rfl
  have hz:cut T.length (mvTo O T (if fw then (0:Int) else 1,x) none)=if 0<T.length then some (wpos T fw 0) else none:=by
   cases fw
   ·
    show cut T.length (mvTo O T ((1:Int),x) none)=_
    have:mvTo O T ((1:Int),x) none=(T.length:Int)-1:=by simp [mvTo]
    rw [this,cut_last];rfl
   ·
    show cut T.length (mvTo O T ((0:Int),x) none)=_
    have:mvTo O T ((0:Int),x) none=0:=by simp [mvTo]
    rw [this,cut_first];rfl
  have ht:mvTold T (if fw then (0:Int) else 1,x) none=true:=by cases fw<;>simp [mvTold]
  rw [e]
  refine ⟨hz,fun i hi=>?_⟩
  obtain rfl:i=0:=by omega
  unfold itStep
  simp only [List.nil_append,List.getElem?_cons_zero,ht,and_true]
  rw [hz]
  by_cases h0:0<T.length
  ·
   rw [if_pos h0]
   show some (T[wpos T fw 0]?)=_
   rw [wdue_get T fw h0]
  · rw [if_neg h0,List.getElem?_eq_none (by rw [wdue_len];omega)];rfl
 | n+1,hn=>by
  obtain ⟨h1,h2⟩:=wlk_run fw x n (by omega)
  have hl:=itRun_len O T (wlk fw x n)
  have hwl:(wlk fw x n).length=n+1:=by simp [wlk]
  rw [hwl] at hl
  have e:itRun O T (wlk fw x (n+1))=itStep O T (itRun O T (wlk fw x n)) (if fw then (2:Int) else 3,x):=by
   rw [←itRun_snoc]
   congr 1
   unfold wlk
   rw [List.replicate_succ',List.cons_append]
  rw [if_pos (by omega)] at h1
  have hz:cut T.length (mvTo O T (if fw then (2:Int) else 3,x) (itRun O T (wlk fw x n)).1)=if n+1<T.length then some (wpos T fw (n+1)) else none:=by
   rw [h1]
   cases fw
   ·
    have:mvTo O T ((3:Int),x) (some (wpos T false n))=((wpos T false n:Nat):Int)-1:=by simp [mvTo]
    show cut T.length (mvTo O T ((3:Int),x) (some (wpos T false n)))=_
    rw [this,cut_prev _ _ (by show T.length-1-n<T.length;omega)]
    show (if 0<T.length-1-n then some (T.length-1-n-1) else none)=if n+1<T.length then some (T.length-1-(n+1)) else none
    by_cases h:n+1<T.length
    · rw [if_pos h,if_pos (by omega)];congr 1
    · rw [if_neg h,if_neg (by omega)]
   ·
    have:mvTo O T ((2:Int),x) (some (wpos T true n))=((wpos T true n:Nat):Int)+1:=by simp [mvTo]
    show cut T.length (mvTo O T ((2:Int),x) (some (wpos T true n)))=_
    rw [this,cut_next];rfl
  have ht:mvTold T (if fw then (2:Int) else 3,x) (itRun O T (wlk fw x n)).1=true:=by rw [h1];cases fw<;>simp [mvTold]
  rw [e]
  refine ⟨hz,fun i hi=>?_⟩
  unfold itStep
  simp only [hz,ht]
  rcases Nat.lt_or_ge i (n+1) with hlt|hge
  ·
   obtain ⟨h3,h4⟩:=h2 i (by omega)
   rw [List.getElem?_append_left (by omega),List.getElem?_append_left (by omega)]
   exact ⟨h3,h4⟩
  ·
   obtain rfl:i=n+1:=by omega
   rw [List.getElem?_append_right (by omega),List.getElem?_append_right (by omega),hl.1,hl.2,Nat.sub_self,List.getElem?_cons_zero,List.getElem?_cons_zero]
   refine ⟨?_,rfl⟩
   by_cases h0:n+1<T.length
   ·
    rw [if_pos h0]
    show some (T[wpos T fw (n+1)]?)=_
    rw [wdue_get T fw h0]
   · rw [if_neg h0,List.getElem?_eq_none (by rw [wdue_len];omega)];rfl
end
end Pl
theorem slice_inG {α:Type} (E:Elt α) {Hh:Type} {enc:TypeId×Value→Hh} {P:Program} {w:World} {fuel:Nat} {t e:TypeId} {a:Option Addr} {len cap:Nat} {x:DataW Hh×List MemPlace} (ht:P.underlying t=some (.slice e))
  (hce:P.cellsOf e=E.s) (hE:∀(n:Nat) (cs:List Value) (y:DataW Hh×List MemPlace),DataW.trod enc P w 0 (fun _=>true) true n e cs=some y→∃y,E.enc y=cs) (h:DataW.trod enc P w 0 (fun _=>true) true fuel t [.slice a len cap]=some x):∃l,InS E w.heap (.slice a len cap) l:=by
 rcases Go.Deep.open_slice ht h with ⟨hcs,_⟩|⟨a',len',cap',m',n,D,Pl,hcs,_,hl,_,hm,_,hx⟩
 ·
  simp at hcs
  obtain ⟨rfl,rfl,rfl⟩:=hcs
  exact ⟨[],.inr ⟨rfl,_,_,rfl⟩⟩
 ·
  simp at hcs
  obtain ⟨rfl,rfl,rfl⟩:=hcs
  simp only [if_true] at hm
  subst hm
  rcases Nat.eq_zero_or_pos m' with rfl|hc
  ·
   obtain rfl:len=0:=by omega
   exact ⟨[],.inr ⟨rfl,_,_,rfl⟩⟩
  ·
   have hex:∀i,i<m'→∃y:α,w.cells? 0 (a'.add (i*E.s)) E.s=some (E.enc y):=fun i hi=>by
    obtain ⟨cs',h1,h2⟩:=hx i hi
    obtain ⟨y,hy⟩:=hE _ _ _ h2
    rw [hce] at h1
    exact ⟨y,by rw [hy];exact h1⟩
   have hx':∀i,∃y:α,i<m'→w.cells? 0 (a'.add (i*E.s)) E.s=some (E.enc y):=fun i=>by
    by_cases hi:i<m'
    ·
     obtain ⟨y,hy⟩:=hex i hi
     exact ⟨y,fun _=>hy⟩
    ·
     obtain ⟨y,_⟩:=hex 0 hc
     exact ⟨y,fun hh=>absurd hh hi⟩
   obtain ⟨f,hf⟩:∃f:Nat→α,∀i,i<m'→w.cells? 0 (a'.add (i*E.s)) E.s=some (E.enc (f i)):=⟨fun i=>Classical.choose (hx' i),fun i=>Classical.choose_spec (hx' i)⟩
   obtain ⟨b,o,s⟩:=a'
   have cell:∀i j,i<m'→j<E.s→w.cell? ((Addr.add ⟨b,o,s⟩ (i*E.s)).add j)=(E.enc (f i))[j]?:=fun i j hi hj=>(World.cells?_some (hf i hi)).2.2 j hj
   have hs:s=none:=by
    have h0:=cell 0 0 hc E.pos
    cases s with
    | none=>rfl
    | some k=>
     have hne:(E.enc (f 0))[0]?≠none:=by
      intro hh
      have:=List.getElem?_eq_none_iff.1 hh
      rw [E.len] at this
      have:=E.pos
      omega
     rw [←h0] at hne
     simp only [Nat.zero_mul,Addr.add,if_true,World.cell?] at hne
     split at hne<;>simp at hne
   subst hs
   refine ⟨(List.range len).map f,.inl ⟨b,o,m',by simp,by simpa using hl,fun j v hv=>?_⟩⟩
   have hj:=(List.getElem?_eq_some_iff.1 hv).1
   rw [row_len,List.length_map,List.length_range] at hj
   have hi:j / E.s<len:=Nat.div_lt_of_lt_mul (by rw [Nat.mul_comm];exact hj)
   have hr:j % E.s<E.s:=Nat.mod_lt _ E.pos
   have hq:((List.range len).map f)[j / E.s]?=some (f (j / E.s)):=by simp [hi]
   have hjm:j / E.s*E.s+j % E.s=j:=by rw [Nat.mul_comm];exact Nat.div_add_mod j E.s
   have h1:=cell (j / E.s) (j % E.s) (by omega) hr
   have hlt:j % E.s<(E.enc (f (j / E.s))).length:=by rw [E.len];exact hr
   have hg:=row_get E hq (j % E.s) _ (List.getElem?_eq_getElem hlt)
   rw [hjm] at hg
   have hvv:=Option.some.inj (hv.symm.trans hg)
   have cc:∀n,World.cell? w ⟨b,n,none⟩=cl w.heap b n:=fun n=>by rw [←mk_self w];exact mk_cell _ _ _ _ _
   rw [Addr.add_lit,Addr.add_lit,cc] at h1
   rw [show o+j=o+j / E.s*E.s+j % E.s by omega,h1,hvv]
   exact List.getElem?_eq_getElem hlt
end Go.Bt
namespace Go.Bt
open Go Go.ChangeShapes
section
variable {Hh:Type} {enc:TypeId×Value→Hh} {P:Program} {w:World} {fuel:Nat} {t e:TypeId} {f0 f1 f2:Field} {cs:List Value} {x:DataW Hh×List MemPlace}
theorem len1 {α:Type} {l:List α} {c:α} (h:l=[c]):l=[c]:=h
theorem open_mk (ht:P.underlying t=some (.struct #[f0,f1,f2])) (o0:f0.offset=0) (o1:f1.offset=1) (o2:f2.offset=2) (h0:P.underlying f0.type=some (.slice e)) (hce:P.cellsOf e=1) (he:P.underlying e=some (.int .i64))
  (h1:P.underlying f1.type=some (.int .i64)) (h2:P.underlying f2.type=some .bool) (c0:P.cellsOf f0.type=1) (c1:P.cellsOf f1.type=1) (c2:P.cellsOf f2.type=1) (ct:P.cellsOf t=3)
  (h:DataW.trod enc P w 0 (fun _=>true) true fuel t cs=some x) (hsl:∀v n y,DataW.trod enc P w 0 (fun _=>true) true n f0.type [v]=some y→∃a m c,v=.slice a m c):
  ∃(v:Value) (l:List Int) (z:Int) (b:Bool),cs=[v,.int .i64 z,.bool b]∧InS EN w.heap v l:=by
 obtain ⟨y0,y1,y2,n,_,hl,t0,t1,t2⟩:=Go.Deep.trod_struct3 ht h
 rw [ct] at hl
 obtain ⟨a0,a1,a2,rfl⟩:∃a0 a1 a2,cs=[a0,a1,a2]:=by
  match cs,hl with
  | [a0,a1,a2],_=>exact ⟨a0,a1,a2,rfl⟩
 rw [o0,c0] at t0
 rw [o1,c1] at t1
 rw [o2,c2] at t2
 obtain ⟨z,hz,_⟩:=DataW.trod_int h1 t1
 obtain ⟨b,hb,_⟩:=DataW.trod_bool h2 t2
 obtain ⟨a,m,c,rfl⟩:=hsl a0 n y0 t0
 obtain ⟨l,hi⟩:=slice_inG EN (a:=a) (len:=m) (cap:=c) h0 hce (fun n cs y hy=>by obtain ⟨z,hz,_⟩:=DataW.trod_int he hy;exact ⟨z,hz.symm⟩) t0
 have ez:a1=.int .i64 z:=by simpa using hz
 have eb:a2=.bool b:=by simpa using hb
 exact ⟨_,l,z,b,by rw [ez,eb],hi⟩
theorem open_it (ht:P.underlying t=some (.struct #[f0,f1])) (o0:f0.offset=0) (o1:f1.offset=1) (h0:P.underlying f0.type=some (.int .i64)) (h1:P.underlying f1.type=some (.int .i64)) (c0:P.cellsOf f0.type=1) (c1:P.cellsOf f1.type=1) (ct:P.cellsOf t=2)
  (h:DataW.trod enc P w 0 (fun _=>true) true fuel t cs=some x):∃z0 z1:Int,cs=[.int .i64 z0,.int .i64 z1]:=by
 obtain ⟨y0,y1,n,_,hl,t0,t1⟩:=trod_struct2 ht h
 rw [ct] at hl
 obtain ⟨a0,a1,rfl⟩:∃a0 a1,cs=[a0,a1]:=by
  match cs,hl with
  | [a0,a1],_=>exact ⟨a0,a1,rfl⟩
 rw [o0,c0] at t0
 rw [o1,c1] at t1
 obtain ⟨z0,hz0,_⟩:=DataW.trod_int h0 t0
 obtain ⟨z1,hz1,_⟩:=DataW.trod_int h1 t1
 have e0:a0=.int .i64 z0:=by simpa using hz0
 have e1:a1=.int .i64 z1:=by simpa using hz1
 exact ⟨z0,z1,by rw [e0,e1]⟩
theorem trod_isl (ht:P.underlying t=some (.slice e)) {v:Value} {n:Nat} {y:DataW Hh×List MemPlace} (h:DataW.trod enc P w 0 (fun _=>true) true n t [v]=some y):∃a m c,v=.slice a m c:=by
 rcases Go.Deep.open_slice ht h with ⟨hcs,_⟩|⟨a',len',cap',m',n,D,Pl,hcs,_⟩
 · exact ⟨_,_,_,by simpa using hcs⟩
 · exact ⟨_,_,_,by simpa using hcs⟩
end
section
variable {P:Program} {l:List Oper} {K:Act→World→Prop}
def rmv (j:Nat) (p:List (Nat×Nat)):List (Nat×Nat):=p.filter fun y=>!Nat.beq y.1 j
theorem mem_rmv {j:Nat} {p:List (Nat×Nat)} {y:Nat×Nat}:y∈rmv j p↔y∈p∧y.1≠j:=by
 unfold rmv
 rw [List.mem_filter,Bool.not_eq_true']
 refine and_congr_right fun _=>⟨fun h e=>?_,fun h=>?_⟩
 · rw [e] at h;simp at h
 ·
  cases hb:Nat.beq y.1 j with
  | false=>rfl
  | true=>exact absurd (Nat.eq_of_beq_eq_true hb) h
theorem rmv_none {j:Nat} {p:List (Nat×Nat)} (h:∀x∈p,x.1≠j):rmv j p=p:=by
 unfold rmv
 rw [List.filter_eq_self]
 intro x hx
 cases hb:Nat.beq x.1 j with
 | false=>rfl
 | true=>exact absurd (Nat.eq_of_beq_eq_true hb) (h x hx)
theorem rmv_split {j k:Nat} {p1 p2:List (Nat×Nat)} (h1:∀x∈p1,x.1≠j) (h2:∀x∈p2,x.1≠j):rmv j (p1++(j,k)::p2)=p1++p2:=by
 have e:rmv j (p1++(j,k)::p2)=rmv j p1++rmv j p2:=by
  unfold rmv;rw [List.filter_append,List.filter_cons];simp
 rw [e,rmv_none h1,rmv_none h2]
theorem rmv_comm (i j:Nat) (p:List (Nat×Nat)):rmv i (rmv j p)=rmv j (rmv i p):=by
 unfold rmv;rw [List.filter_filter,List.filter_filter];congr 1;funext y;rw [Bool.and_comm]
theorem rmv_app (j:Nat) (p q:List (Nat×Nat)):rmv j (p++q)=rmv j p++rmv j q:=by unfold rmv;rw [List.filter_append]
theorem pairsOk_rmv {m:List Nat} (j:Nat):∀{p:List (Nat×Nat)},pairsOk l m p=true→pairsOk l m (rmv j p)=true
 | [],_=>rfl
 | x::p,h=>by
  simp only [pairsOk,Bool.and_eq_true,List.all_eq_true] at h
  have ih:=pairsOk_rmv j h.2
  unfold rmv
  rw [List.filter_cons]
  split
  ·
   simp only [pairsOk,Bool.and_eq_true,List.all_eq_true]
   exact ⟨fun y hy=>h.1 y (mem_rmv.1 hy).1,ih⟩
  · exact ih
theorem pairsOkX_rmv {m:List Nat} {a b:Nat} (j:Nat):∀{p:List (Nat×Nat)},pairsOkX l m a b p=true→pairsOkX l m a b (rmv j p)=true
 | [],_=>rfl
 | x::p,h=>by
  simp only [pairsOkX,Bool.and_eq_true,List.all_eq_true] at h
  have ih:=pairsOkX_rmv j h.2
  unfold rmv
  rw [List.filter_cons]
  split
  ·
   simp only [pairsOkX,Bool.and_eq_true,List.all_eq_true]
   exact ⟨fun y hy=>h.1 y (mem_rmv.1 hy).1,ih⟩
  · exact ih
theorem topoOk_rmv (j:Nat):∀{p:List (Nat×Nat)},topoOk l p=true→topoOk l (rmv j p)=true
 | [],_=>rfl
 | x::p,h=>by
  simp only [topoOk,Bool.and_eq_true] at h
  have ih:=topoOk_rmv j h.2
  unfold rmv
  rw [List.filter_cons]
  split
  ·
   simp only [topoOk,Bool.and_eq_true]
   refine ⟨?_,ih⟩
   have h1:=h.1
   split at h1
   ·
    rename_i o ho
    rw [List.all_eq_true] at h1 ⊢
    intro e he
    have h2:=h1 e he
    simp only [Bool.or_eq_true,Bool.not_eq_true'] at h2 ⊢
    refine h2.imp id fun h3=>?_
    rw [List.any_eq_false] at h3 ⊢
    intro z hz
    rcases List.mem_cons.1 hz with rfl|hz
    · exact h3 z List.mem_cons_self
    · exact h3 z (List.mem_cons_of_mem _ (mem_rmv.1 hz).1)
   · cases h1
  · exact ih
theorem pairsOk_nodup {m:List Nat}:∀{p:List (Nat×Nat)},pairsOk l m p=true→(p.map (·.1)).Nodup
 | [],_=>List.Pairwise.nil
 | x::p,h=>by
  simp only [pairsOk,Bool.and_eq_true,List.all_eq_true] at h
  rw [List.map_cons,List.nodup_cons]
  refine ⟨fun hx=>?_,pairsOk_nodup h.2⟩
  obtain ⟨y,hy,he⟩:=List.mem_map.1 hx
  have:=(h.1 y hy).2
  rw [he] at this
  simp at this
theorem pairsOkX_nodup {m:List Nat} {a b:Nat}:∀{p:List (Nat×Nat)},pairsOkX l m a b p=true→(p.map (·.1)).Nodup
 | [],_=>List.Pairwise.nil
 | x::p,h=>by
  simp only [pairsOkX,Bool.and_eq_true,List.all_eq_true] at h
  rw [List.map_cons,List.nodup_cons]
  refine ⟨fun hx=>?_,pairsOkX_nodup h.2⟩
  obtain ⟨y,hy,he⟩:=List.mem_map.1 hx
  have:=(h.1 y hy).2
  rw [he] at this
  simp at this
inductive PT where
 | leaf (p:List (Nat×Nat))
 | node (p u:List (Nat×Nat)) (t:PT)
def PT.top:PT→List (Nat×Nat)
 | .leaf p=>p
 | .node p _ _=>p
def PT.pre (v:List (Nat×Nat)):PT→PT
 | .leaf p=>.leaf (v++p)
 | .node p u t=>.node (v++p) (v++u) t
def PT.del (j:Nat):PT→PT
 | .leaf p=>.leaf (rmv j p)
 | .node p u t=>.node (rmv j p) (rmv j u) (t.del j)
def PT.hasnt (j:Nat):PT→Bool
 | .leaf p=>p.all fun y=>!Nat.beq y.1 j
 | .node p u t=>(p.all fun y=>!Nat.beq y.1 j)&&(u.all fun y=>!Nat.beq y.1 j)&&t.hasnt j
def PT.run (P:Program) (l:List Oper) (C:World→Prop) (K:Act→World→Prop):PT→Act→World→Prop
 | .leaf p=>planRun P l C K p
 | .node p u t=>fun a w=>planRun P l C K p a w∧planRun P l C (t.run P l C K) u a w
theorem bne_of {a b:Nat} (h:(!Nat.beq a b)=true):a≠b:=fun e=>by rw [e] at h;simp at h
theorem bne_to {a b:Nat} (h:a≠b):(!Nat.beq a b)=true:=by
 cases hb:Nat.beq a b with
 | false=>rfl
 | true=>exact absurd (Nat.eq_of_beq_eq_true hb) h
theorem PT.del_hasnt {j:Nat}:∀{t:PT},t.hasnt j=true→t.del j=t
 | .leaf p,h=>by
  simp only [PT.hasnt,List.all_eq_true] at h
  simp only [PT.del];rw [rmv_none fun x hx=>bne_of (h x hx)]
 | .node p u t,h=>by
  simp only [PT.hasnt,Bool.and_eq_true,List.all_eq_true] at h
  simp only [PT.del];rw [rmv_none fun x hx=>bne_of (h.1.1 x hx),rmv_none fun x hx=>bne_of (h.1.2 x hx),PT.del_hasnt h.2]
theorem PT.hasnt_del {i j:Nat}:∀{t:PT},t.hasnt i=true→(t.del j).hasnt i=true
 | .leaf p,h=>by
  simp only [PT.hasnt,PT.del,List.all_eq_true] at h ⊢
  exact fun x hx=>h x (mem_rmv.1 hx).1
 | .node p u t,h=>by
  simp only [PT.hasnt,PT.del,Bool.and_eq_true,List.all_eq_true] at h ⊢
  exact ⟨⟨fun x hx=>h.1.1 x (mem_rmv.1 hx).1,fun x hx=>h.1.2 x (mem_rmv.1 hx).1⟩,PT.hasnt_del h.2⟩
theorem PT.del_pre (j:Nat) (v:List (Nat×Nat)):∀t:PT,(t.pre v).del j=(t.del j).pre (rmv j v)
 | .leaf p=>by simp only [PT.pre,PT.del,rmv_app]
 | .node p u t=>by simp only [PT.pre,PT.del,rmv_app]
theorem PT.top_del (j:Nat):∀t:PT,(t.del j).top=rmv j t.top
 | .leaf p=>rfl
 | .node p u t=>rfl
theorem planRun.mono {C:World→Prop} {K':Act→World→Prop} (h:∀a w,K a w→K' a w):∀{p:List (Nat×Nat)} {a:Act} {w:World},planRun P l C K p a w→planRun P l C K' p a w
 | [],_,_,hr=>h _ _ hr
 | x::p,a,w,hr=>hr.imp (fun ⟨h1,o,v,h2,h3,h4⟩=>⟨h1,o,v,h2,h3,planRun.mono h h4⟩) (fun ⟨h1,o,h2,h3⟩=>⟨h1,o,h2,h3.mono fun _ _ h4=>⟨h4.1,planRun.mono h h4.2⟩⟩)
theorem planRun.app {C:World→Prop} {q:List (Nat×Nat)}:∀{p:List (Nat×Nat)} {a:Act} {w:World},planRun P l C (planRun P l C K q) p a w→planRun P l C K (p++q) a w
 | [],_,_,hr=>hr
 | x::p,a,w,hr=>hr.imp (fun ⟨h1,o,v,h2,h3,h4⟩=>⟨h1,o,v,h2,h3,planRun.app h4⟩) (fun ⟨h1,o,h2,h3⟩=>⟨h1,o,h2,h3.mono fun _ _ h4=>⟨h4.1,planRun.app h4.2⟩⟩)
theorem PT.run_pre {C:World→Prop} {v:List (Nat×Nat)}:∀{t:PT} {a:Act} {w:World},planRun P l C (t.run P l C K) v a w→(t.pre v).run P l C K a w
 | .leaf p,_,_,h=>planRun.app h
 | .node p u t,_,_,h=>⟨planRun.app (planRun.mono (fun _ _ h=>h.1) h),planRun.app (planRun.mono (fun _ _ h=>h.2) h)⟩
def PT.ok (l:List Oper) (m:List Nat) (f:Nat):List Nat→PT→Bool
 | [],.leaf p=>pairsOk l m p&&topoOk l p&&(p.all fun y=>Nat.blt y.1 l.length)
 | e::es,.node p u t=>(p.all fun y=>Nat.blt y.1 l.length)&&(pairsOkX l m f e p&&(topoOk l p&&(pairsOk l m u&&
   ((p.all fun y=>bif Nat.beq y.1 f||Nat.beq y.1 e then Nat.beq y.2 2 else (Nat.blt y.2 2||((m.getD y.1 0).testBit f||(m.getD y.1 0).testBit e)))&&
   ((p.any fun y=>Nat.beq y.1 f)&&((u.any fun y=>Nat.beq y.1 e)&&((u.all fun y=>!Nat.beq y.1 f)&&((u.all fun y=>bif Nat.beq y.1 e then Nat.beq y.2 2 else Nat.blt y.2 2)&&
   ((p.all fun y=>Nat.beq y.1 f||((u.any fun z=>Nat.beq z.1 y.1)||(m.getD y.1 0).testBit e))&&((u.all fun z=>p.any fun y=>Nat.beq y.1 z.1)&&
   ((u.all fun z=>t.hasnt z.1)&&(((t.pre (rmv e u)).top.all fun y=>p.any fun z=>Nat.beq z.1 y.1)&&((p.all fun y=>Nat.beq y.1 e||(t.pre (rmv e u)).top.any fun z=>Nat.beq z.1 y.1)&&
   (((t.pre (rmv e u)).top.all fun y=>!Nat.beq y.1 e)&&(!Nat.beq f e&&((u.all fun z=>es.all fun x=>!Nat.beq z.1 x)&&PT.ok l m f es (t.pre (rmv e u))))))))))))))))))
 | _,_=>false
structure PT.Okn (l:List Oper) (m:List Nat) (f e:Nat) (es:List Nat) (p u:List (Nat×Nat)) (t:PT):Prop where
 lt:∀y∈p,y.1<l.length
 pr:pairsOkX l m f e p=true
 tp:topoOk l p=true
 pu:pairsOk l m u=true
 kd:∀y∈p,((y.1=f∨y.1=e)→y.2=2)∧(y.1≠f→y.1≠e→y.2<2∨(m.getD y.1 0).testBit f=true∨(m.getD y.1 0).testBit e=true)
 hf:∃y∈p,y.1=f
 he:∃y∈u,y.1=e
 nf:∀y∈u,y.1≠f
 ku:∀y∈u,(y.1=e→y.2=2)∧(y.1≠e→y.2<2)
 cv:∀y∈p,y.1=f∨(∃z∈u,z.1=y.1)∨(m.getD y.1 0).testBit e=true
 sb:∀z∈u,∃y∈p,y.1=z.1
 fr:∀z∈u,t.hasnt z.1=true
 s1:∀y∈(t.pre (rmv e u)).top,∃z∈p,z.1=y.1
 s2:∀y∈p,y.1=e∨∃z∈(t.pre (rmv e u)).top,z.1=y.1
 s3:∀y∈(t.pre (rmv e u)).top,y.1≠e
 ne:f≠e
 ns:∀z∈u,z.1 ∉ es
 nx:PT.ok l m f es (t.pre (rmv e u))=true
theorem beq_ex {p:List (Nat×Nat)} {j:Nat}:(p.any fun y=>Nat.beq y.1 j)=true↔∃y∈p,y.1=j:=by
 rw [List.any_eq_true]
 exact ⟨fun ⟨y,h,e⟩=>⟨y,h,Nat.eq_of_beq_eq_true e⟩,fun ⟨y,h,e⟩=>⟨y,h,by rw [e];exact Nat.beq_refl _⟩⟩
theorem PT.ok_iff {m:List Nat} {f e:Nat} {es:List Nat} {p u:List (Nat×Nat)} {t:PT}:PT.ok l m f (e::es) (.node p u t)=true↔PT.Okn l m f e es p u t:=by
 simp only [PT.ok,Bool.and_eq_true,List.all_eq_true,beq_ex,Bool.or_eq_true]
 constructor
 ·
  rintro ⟨h1,h2,h3,h4,h5,h6,h7,h8,h9,h10,h11,h12,h13,h14,h15,h16,h18,h17⟩
  refine ⟨fun y hy=>by simpa using h1 y hy,h2,h3,h4,fun y hy=>?_,h6,h7,fun y hy=>bne_of (h8 y hy),fun y hy=>?_,fun y hy=>(h10 y hy).imp Nat.eq_of_beq_eq_true id,h11,h12,h13,fun y hy=>(h14 y hy).imp Nat.eq_of_beq_eq_true id,fun y hy=>bne_of (h15 y hy),bne_of h16,fun z hz hin=>bne_of (h18 z hz z.1 hin) rfl,h17⟩
  ·
   have:=h5 y hy
   constructor
   ·
    intro hh
    have hb:(Nat.beq y.1 f||Nat.beq y.1 e)=true:=by rcases hh with hh|hh<;>simp [hh]
    rw [hb] at this
    exact Nat.eq_of_beq_eq_true (by simpa using this)
   ·
    intro n1 n2
    have hb:(Nat.beq y.1 f||Nat.beq y.1 e)=false:=by
     have a:=bne_to n1;have b:=bne_to n2
     simp only [Bool.not_eq_true'] at a b
     rw [a,b];rfl
    rw [hb] at this
    simpa using this
  ·
   have:=h9 y hy
   constructor
   · intro hh;rw [hh] at this;simpa using this
   ·
    intro n1
    have a:=bne_to n1
    simp only [Bool.not_eq_true'] at a
    rw [a] at this
    simpa using this
 ·
  intro h
  refine ⟨fun y hy=>by simpa using h.lt y hy,h.pr,h.tp,h.pu,fun y hy=>?_,h.hf,h.he,fun y hy=>bne_to (h.nf y hy),fun y hy=>?_,fun y hy=>(h.cv y hy).imp (fun e=>by rw [e];exact Nat.beq_refl _) id,h.sb,h.fr,h.s1,fun y hy=>(h.s2 y hy).imp (fun e=>by rw [e];exact Nat.beq_refl _) id,fun y hy=>bne_to (h.s3 y hy),bne_to h.ne,fun z hz x hx=>bne_to fun e=>h.ns z hz (e▸hx),h.nx⟩
  ·
   obtain ⟨k1,k2⟩:=h.kd y hy
   by_cases n1:y.1=f
   · rw [k1 (.inl n1),n1];simp
   ·
    by_cases n2:y.1=e
    · rw [k1 (.inr n2),n2];simp
    ·
     have a:=bne_to n1;have b:=bne_to n2
     simp only [Bool.not_eq_true'] at a b
     rw [a,b]
     simpa using k2 n1 n2
  ·
   obtain ⟨k1,k2⟩:=h.ku y hy
   by_cases n1:y.1=e
   · rw [k1 n1,n1];simp
   ·
    have a:=bne_to n1
    simp only [Bool.not_eq_true'] at a
    rw [a]
    simpa using k2 n1
theorem PT.ok_del {m:List Nat} {f j:Nat} (hjf:j≠f):∀(es:List Nat) {t:PT},j ∉ es→PT.ok l m f es t=true→PT.ok l m f es (t.del j)=true
 | [],.leaf p,_,h=>by
  simp only [PT.ok,PT.del,Bool.and_eq_true,List.all_eq_true] at h ⊢
  exact ⟨⟨pairsOk_rmv j h.1.1,topoOk_rmv j h.1.2⟩,fun y hy=>h.2 y (mem_rmv.1 hy).1⟩
 | [],.node p u t,_,h=>by simp [PT.ok] at h
 | e::es,.leaf p,_,h=>by simp [PT.ok] at h
 | e::es,.node p u t,hj,h=>by
  have h:=PT.ok_iff.1 h
  have hje:j≠e:=fun e=>hj (by rw [e];exact List.mem_cons_self)
  have hjs:j ∉ es:=fun h=>hj (List.mem_cons_of_mem _ h)
  have etop:((t.del j).pre (rmv e (rmv j u))).top=rmv j (t.pre (rmv e u)).top:=by rw [rmv_comm,←PT.del_pre,PT.top_del]
  rw [PT.del]
  refine PT.ok_iff.2 ⟨fun y hy=>h.lt y (mem_rmv.1 hy).1,pairsOkX_rmv j h.pr,topoOk_rmv j h.tp,pairsOk_rmv j h.pu,fun y hy=>h.kd y (mem_rmv.1 hy).1,?_,?_,fun y hy=>h.nf y (mem_rmv.1 hy).1,fun y hy=>h.ku y (mem_rmv.1 hy).1,fun y hy=>?_,fun z hz=>?_,fun z hz=>PT.hasnt_del (h.fr z (mem_rmv.1 hz).1),fun y hy=>?_,fun y hy=>?_,fun y hy=>?_,h.ne,fun z hz=>h.ns z (mem_rmv.1 hz).1,?_⟩
  · obtain ⟨y,hy,e⟩:=h.hf;exact ⟨y,mem_rmv.2 ⟨hy,by rw [e];exact hjf.symm⟩,e⟩
  · obtain ⟨y,hy,e⟩:=h.he;exact ⟨y,mem_rmv.2 ⟨hy,by rw [e];exact hje.symm⟩,e⟩
  ·
   obtain ⟨h1,h2⟩:=mem_rmv.1 hy
   exact (h.cv y h1).imp id (fun h3=>h3.imp (fun ⟨z,hz,e⟩=>⟨z,mem_rmv.2 ⟨hz,by rw [e];exact h2⟩,e⟩) id)
  ·
   obtain ⟨h1,h2⟩:=mem_rmv.1 hz
   obtain ⟨y,hy,e⟩:=h.sb z h1
   exact ⟨y,mem_rmv.2 ⟨hy,by rw [e];exact h2⟩,e⟩
  ·
   rw [etop] at hy
   obtain ⟨h1,h2⟩:=mem_rmv.1 hy
   obtain ⟨z,hz,e⟩:=h.s1 y h1
   exact ⟨z,mem_rmv.2 ⟨hz,by rw [e];exact h2⟩,e⟩
  ·
   obtain ⟨h1,h2⟩:=mem_rmv.1 hy
   rw [etop]
   exact (h.s2 y h1).imp id (fun ⟨z,hz,e⟩=>⟨z,mem_rmv.2 ⟨hz,by rw [e];exact h2⟩,e⟩)
  ·
   rw [etop] at hy
   exact h.s3 y (mem_rmv.1 hy).1
  ·
   rw [rmv_comm,←PT.del_pre]
   exact PT.ok_del hjf es hjs h.nx
theorem PT.ok_nodup {m:List Nat} {f:Nat}:∀{es:List Nat} {t:PT},PT.ok l m f es t=true→(t.top.map (·.1)).Nodup
 | [],.leaf p,h=>by simp only [PT.ok,Bool.and_eq_true] at h;exact pairsOk_nodup h.1.1
 | [],.node p u t,h=>by simp [PT.ok] at h
 | e::es,.leaf p,h=>by simp [PT.ok] at h
 | e::es,.node p u t,h=>pairsOkX_nodup (PT.ok_iff.1 h).pr
theorem planRun.wpTree {Q:Exit→Act→World→Prop} {C:World→Prop} {m:List Nat} {f:Nat} (hQ:∀a w,K a w→Q .normal a w) (hm:waitsOk l m=true) (hd:edgesDown l=true)
  (hs:∀(j:Nat) (o:Oper) cs b,l[j]?=some o→o.op≠.select cs b):∀(fuel:Nat) (es:List Nat) (t:PT) (listed:Array Bool) (a:Act) (w:World),t.top.length=fuel→PT.ok l m f es t=true→
   Fits l t.top listed→Closed l listed→C w→t.run P l C K a w→Go.wpAny P .any l.toArray Q fuel listed a w
 | fuel,[],.node p u t,_,_,_,_,h,_,_,_,_=>by simp [PT.ok] at h
 | fuel,e::es,.leaf p,_,_,_,_,h,_,_,_,_=>by simp [PT.ok] at h
 | fuel,[],.leaf p,listed,a,w,hlen,h,hf,hc,hC,hr=>by
  simp only [PT.ok,Bool.and_eq_true,List.all_eq_true] at h
  exact planRun.wpAny hQ hm hd hs fuel p listed a w hlen (fun y hy=>by simpa using h.2 y hy) h.1.1 h.1.2 hf hc (.inl hC) hr
 | 0,e::es,.node p u t,listed,a,w,hlen,h,hf,hc,hC,hr=>by
  obtain ⟨y,hy,_⟩:=(PT.ok_iff.1 h).hf
  rw [List.eq_nil_of_length_eq_zero (show p.length=0 from hlen)] at hy
  cases hy
 | fuel+1,e::es,.node p u t,listed,a,w,hlen,hok,hf,hc,hC,⟨hrp,hru⟩=>by
  have h:=PT.ok_iff.1 hok
  replace hf:Fits l p listed:=hf
  replace hlen:p.length=fuel+1:=hlen
  refine ⟨fun hnil=>?_,fun j hj=>?_⟩
  ·
   exfalso
   match p,hlen,h,hf with
   | y::p,_,h,hf=>
    have hm:=plan_ready hd h.lt h.tp hf
    rw [hnil] at hm
    cases hm
  ·
   obtain ⟨hun,oj,hoj,hall⟩:=mem_ready.1 hj
   have hoj':l[j]?=some oj:=by simpa using hoj
   have hjl:j<l.length:=(List.getElem?_eq_some_iff.1 hoj').1
   obtain ⟨⟨j',k⟩,hy,hyj⟩:=(hf.2 j hjl).1 hun
   simp only at hyj
   subst hyj
   have hyp:=hy
   obtain ⟨p1,p2,rfl⟩:=List.append_of_mem hy
   have hx1:=pairsOkX_mem h.pr
   obtain ⟨hpr',hq'⟩:=pairsOkX_drop h.pr
   have hun1:∀x∈p1,listed.getD x.1 true=false:=fun x hx=>(hf.2 x.1 (h.lt x (List.mem_append_left _ hx))).2 ⟨x,List.mem_append_left _ hx,rfl⟩
   have hltp:∀y∈p1++p2,y.1<l.length:=fun y hy=>h.lt y (by
    rcases List.mem_append.1 hy with hy|hy
    · exact List.mem_append_left _ hy
    · exact List.mem_append_right _ (List.mem_cons_of_mem _ hy))
   have hlenp:(p1++p2).length=fuel:=by simp at hlen ⊢;omega
   have hfp:=hf.next (fun x hx=>(hx1 x hx).2) hq' hjl
   have hc':=hc.next hoj' hall
   have hfu:listed.getD f true=false:=by
    obtain ⟨z,hz,e⟩:=h.hf
    exact (hf.2 f (by rw [←e];exact h.lt z hz)).2 ⟨z,hz,e⟩
   have hfl:f<l.length:=by obtain ⟨z,hz,e⟩:=h.hf;rw [←e];exact h.lt z hz
   obtain ⟨z0,hz0,ez0⟩:=h.he
   obtain ⟨z1,hz1,ez1⟩:=h.sb z0 hz0
   have hel:e<l.length:=by rw [←ez0,←ez1];exact h.lt z1 hz1
   have heu:listed.getD e true=false:=(hf.2 e hel).2 ⟨z1,hz1,ez1.trans ez0⟩
   have nwf:(m.getD j' 0).testBit f=false:=by
    cases hb:(m.getD j' 0).testBit f with
    | false=>rfl
    | true=>
     have:=waits_listed hm hd hc j' f oj hoj' hfl hb hall
     rw [getD_false_of hfu] at this;cases this
   have nwe:(m.getD j' 0).testBit e=false:=by
    cases hb:(m.getD j' 0).testBit e with
    | false=>rfl
    | true=>
     have:=waits_listed hm hd hc j' e oj hoj' hel hb hall
     rw [getD_false_of heu] at this;cases this
   have hunu:∀x∈u,x.1<l.length∧listed.getD x.1 true=false:=fun x hx=>by
    obtain ⟨y,hy,e⟩:=h.sb x hx
    have hl:x.1<l.length:=by rw [←e];exact h.lt y hy
    exact ⟨hl,(hf.2 x.1 hl).2 ⟨y,hy,e⟩⟩
   by_cases h1:j'=f
   ·
    subst h1
    have hk2:k=2:=(h.kd _ hyp).1 (.inl rfl)
    have hp1:∀x∈p1,pairOk l m x (j',k)=true:=fun x hx=>by
     have h3:=(hx1 x hx).1
     have h4:=bne_to (hx1 x hx).2
     simp only [Bool.not_eq_true'] at h4
     simpa only [pairOkX,h4,Bool.false_and,Bool.or_false] using h3
    have hah:=ahead hm hd hc hoj' hall (fun x hx=>h.lt x (List.mem_append_left _ hx)) hun1 hp1
    obtain ⟨o,hi,hg⟩:=planRun.loud_first hk2 hs p1 a (fun x hx=>⟨(hah x hx).1.2 (by omega),(hah x hx).2⟩) hrp
    have hpo:pairsOk l m (p1++p2)=true:=pairsOkX_off hpr' fun x hx=>by
     rcases List.mem_append.1 hx with hx|hx
     · exact (hx1 x hx).2
     · exact hq' x hx
    exact (hg.mono fun a' w' h'=>planRun.wpAny hQ hm hd hs fuel (p1++p2) _ a' w' hlenp hltp hpo (topoOk_drop h.tp) hfp hc' (.inl h'.1) h'.2).wpOp hi
   ·
    obtain ⟨⟨ju,ku⟩,hyu,hju⟩:∃z∈u,z.1=j':=by
     rcases h.cv _ hyp with h2|h2|h2
     · exact absurd h2 h1
     · exact h2
     · simp only at h2;rw [nwe] at h2;cases h2
    simp only at hju
    subst hju
    have hyu':=hyu
    obtain ⟨u1,u2,rfl⟩:=List.append_of_mem hyu
    have hu1:=pairsOk_mem h.pu
    obtain ⟨_,hu2⟩:=pairsOk_drop h.pu
    have hahu:=ahead hm hd hc (k:=ku) hoj' hall (fun x hx=>(hunu x (List.mem_append_left _ hx)).1) (fun x hx=>(hunu x (List.mem_append_left _ hx)).2) (fun x hx=>(hu1 x hx).1)
    have erp:rmv ju (p1++(ju,k)::p2)=p1++p2:=rmv_split (fun x hx=>(hx1 x hx).2) hq'
    have eru:rmv ju (u1++(ju,ku)::u2)=u1++u2:=rmv_split (fun x hx=>(hu1 x hx).2) hu2
    by_cases h2:ju=e
    ·
     subst h2
     have hk2:ku=2:=(h.ku _ hyu').1 rfl
     obtain ⟨o,hi,hg⟩:=planRun.loud_first hk2 hs u1 a (fun x hx=>⟨(hahu x hx).1.2 (by omega),(hahu x hx).2⟩) hru
     have hnx:=h.nx
     have s1:=h.s1;have s2:=h.s2;have s3:=h.s3
     rw [eru] at hnx s1 s2 s3
     have hmem:∀i,(∃y∈p1++p2,y.1=i)↔∃y∈(t.pre (u1++u2)).top,y.1=i:=fun i=>by
      rw [←erp]
      constructor
      ·
       rintro ⟨y,hy,rfl⟩
       obtain ⟨h5,h6⟩:=mem_rmv.1 hy
       rcases s2 y h5 with h7|h7
       · exact absurd h7 h6
       · exact h7
      ·
       rintro ⟨y,hy,rfl⟩
       obtain ⟨z,hz,e⟩:=s1 y hy
       exact ⟨z,mem_rmv.2 ⟨hz,by rw [e];exact s3 y hy⟩,e⟩
     have hfit:Fits l (t.pre (u1++u2)).top (listed.setIfInBounds ju true):=⟨hfp.1,fun i hi=>(hfp.2 i hi).trans (hmem i)⟩
     have hlen2:(t.pre (u1++u2)).top.length=fuel:=by
      have hn1:((p1++p2).map (·.1)).Nodup:=by
       have:=pairsOkX_nodup h.pr
       rw [List.map_append,List.map_cons] at this
       rw [List.map_append]
       exact this.sublist (List.Sublist.append (List.Sublist.refl _) (List.sublist_cons_self _ _))
      have hp:=(List.perm_ext_iff_of_nodup hn1 (PT.ok_nodup hnx)).2 fun i=>by
       rw [List.mem_map,List.mem_map]
       exact hmem i
      have:=hp.length_eq
      simp only [List.length_map] at this
      omega
     exact (hg.mono fun a' w' h'=>planRun.wpTree hQ hm hd hs fuel es (t.pre (u1++u2)) _ a' w' hlen2 hnx hfit hc' h'.1 (PT.run_pre h'.2)).wpOp hi
    ·
     have hk:k<2:=((h.kd _ hyp).2 h1 h2).elim id (fun h=>by simp only at h;rw [nwf,nwe] at h;simp at h)
     have hk':ku<2:=(h.ku _ hyu').2 h2
     have n2:=bne_to h2
     simp only [Bool.not_eq_true'] at n2
     have hah:=ahead hm hd hc (k:=k) hoj' hall (fun x hx=>h.lt x (List.mem_append_left _ hx)) hun1 (fun x hx=>by simpa only [pairOkX,n2,nwe,Bool.or_self,Bool.and_false,Bool.or_false] using (hx1 x hx).1)
     obtain ⟨o,v,hi,hqa,hr⟩:=planRun.quiet_first hk hs hC p1 a (fun x hx=>⟨(hah x hx).1.1,(hah x hx).2⟩) hrp
     obtain ⟨o',v',hi',hqa',hr'⟩:=planRun.quiet_first hk' hs hC u1 a (fun x hx=>⟨(hahu x hx).1.1,(hahu x hx).2⟩) hru
     obtain rfl:o'=o:=Option.some.inj (hi'.symm.trans hi)
     obtain rfl:=hqa.inj hqa'
     have hok2:PT.ok l m f (e::es) (.node (p1++p2) (u1++u2) t)=true:=by
      have:=PT.ok_del h1 (e::es) (j:=ju) (fun h9=>(List.mem_cons.1 h9).elim h2 (h.ns _ hyu')) hok
      rw [PT.del,erp,eru,PT.del_hasnt (h.fr _ hyu')] at this
      exact this
     exact (hqa.good (K:=Go.wpAny P .any l.toArray Q fuel _) (planRun.wpTree hQ hm hd hs fuel (e::es) (.node (p1++p2) (u1++u2) t) _ _ _ hlenp hok2 hfp hc' hC ⟨hr,hr'⟩)).wpOp hi
end
def Pk (P:Program) (B:World) (n:Nat) (l:List Oper) (C:Mem→Prop) (K:Act→World→Prop) (p:List (Nat×Nat)) (r:Env) (H:Mem):Prop:=
 ∀d a,Sees n r a→planRun P l (fun w=>∃H d,w=mk B H d∧C H) K p a (mk B H d)
def Tk (P:Program) (B:World) (f:FuncId) (Q:Value→Mem→Prop) (n:Nat) (l:List Oper) (C:Mem→Prop) (k:List Item) (t:PT) (r:Env) (H:Mem):Prop:=
 ∀d a,Sees n r a→t.run P l (fun w=>∃H d,w=mk B H d∧C H) (Cont P f (Post' B Q) k) a (mk B H d)
def treeOk (l:List Oper) (f:Nat) (es:List Nat) (t:PT):Bool:=
 waitsOk l (waitsGo l [])&&edgesDown l&&Region.noSelect l.toArray&&PT.ok l (waitsGo l []) f es t&&((List.range l.length).all fun i=>t.top.any fun y=>Nat.beq y.1 i)&&t.top.all fun y=>Nat.blt y.1 l.length
section
variable {P:Program} {B:World} {f:FuncId} {Q:Value→Mem→Prop} {n:Nat} {r:Env} {k:List Item} {H:Mem} {l:List Oper} {C:Mem→Prop} {p:List (Nat×Nat)} {K:Act→World→Prop}
theorem Tk.leaf (h:Pl P B f Q n l C k p r H):Tk P B f Q n l C k (.leaf p) r H:=h
theorem Tk.node {u:List (Nat×Nat)} {t:PT} (h:Pl P B f Q n l C k p r H) (h':Pk P B n l C (t.run P l (fun w=>∃H d,w=mk B H d∧C H) (Cont P f (Post' B Q) k)) u r H):Tk P B f Q n l C k (.node p u t) r H:=fun d a ha=>⟨h d a ha,h' d a ha⟩
theorem Pk.fin {t:PT} (h:Tk P B f Q n l C k t r H):Pk P B n l C (t.run P l (fun w=>∃H d,w=mk B H d∧C H) (Cont P f (Post' B Q) k)) [] r H:=fun d a ha=>h d a ha
theorem wp_of_tree {Q:Exit→Act→World→Prop} {id:Nat} {a:Act} {w:World} {C:World→Prop} (e:Nat) (es:List Nat) (t:PT) (hmx:P.follows .mixedOrders=true) (hp:treeOk l e es t=true)
  (hQ:∀a w,K a w→Q .normal a w) (hC:C w.drew) (h:t.run P l C K a w.drew):(Code.region id l.toArray true).wp P Q a w:=by
 simp only [treeOk,Bool.and_eq_true] at hp
 obtain ⟨⟨⟨⟨⟨h1,h2⟩,h3⟩,h4⟩,h5⟩,h6⟩:=hp
 have hlt:∀y∈t.top,y.1<l.length:=fun y hy=>by simpa using List.all_eq_true.1 h6 y hy
 refine wp_region_any hmx ?_
 have hsel:∀(j:Nat) (o:Oper) (cs:Array SelectCase) (b:Bool),l[j]?=some o→o.op≠.select cs b:=fun j o cs b ho=>Region.noSelect_spec h3 j o cs b (by simpa using ho)
 have hfit:Fits l t.top (Array.replicate l.length false):=by
  refine ⟨by simp,fun i hi=>⟨fun _=>?_,fun _=>by simp [hi]⟩⟩
  obtain ⟨y,hy,he⟩:=List.any_eq_true.1 (List.all_eq_true.1 h5 i (List.mem_range.2 hi))
  exact ⟨y,hy,Nat.eq_of_beq_eq_true he⟩
 have hcl:Closed l (Array.replicate l.length false):=fun j o ho hl=>by
  have hjl:j<l.length:=(List.getElem?_eq_some_iff.1 ho).1
  simp [hjl] at hl
 have hlen:t.top.length=l.length:=by
  have hperm:(t.top.map (·.1)).Perm (List.range l.length):=by
   refine (List.perm_ext_iff_of_nodup (PT.ok_nodup h4) List.nodup_range).2 fun i=>?_
   rw [List.mem_map,List.mem_range]
   constructor
   · rintro ⟨y,hy,rfl⟩;exact hlt y hy
   ·
    intro hi
    obtain ⟨y,hy,he⟩:=List.any_eq_true.1 (List.all_eq_true.1 h5 i (List.mem_range.2 hi))
    exact ⟨y,hy,Nat.eq_of_beq_eq_true he⟩
  have:=hperm.length_eq
  simpa using this
 have:=planRun.wpTree hQ h1 h2 hsel l.length es t (Array.replicate l.length false) a w.drew hlen h4 hfit hcl hC h
 simpa using this
theorem Go'.drawT {id:Nat} {l:List Oper} {σ:Type} (C:Mem→Prop) (J:σ→Mem→Prop) (q:σ→Env) (e:Nat) (es:List Nat) (t:PT) (hm:P.follows .mixedOrders=true) (hp:treeOk l e es t=true) (hC:C H)
  (h:∀{f Q k},(∀x H',J x H'→Go' P B f Q n (q x) k H')→Tk P B f Q n l C k t r H) (hc:∀x H',J x H'→Go' P B f Q n (q x) k H'):
  Go' P B f Q n r (.code (.region id l.toArray true)::k) H:=fun d a ha=>
 Cont.of_wp (wp_of_tree e es t hm hp (fun _ _ h=>⟨rfl,h⟩) ⟨H,d+1,rfl,hC⟩ (h hc (d+1) a ha))
theorem Pk.quiet {i kd d:Nat} {op:Op} {ty:TypeId} {pos:String} {af:Array Edge} {gd:Option (Nat×Bool)} {v:Value} (hi:l[i]?=some ⟨some d,op,ty,pos,af,gd⟩) (hk:Nat.blt kd 2=true)
  (hg:guardOn l r gd=true) (hd:Nat.blt d n=true)
  (hrun:∀a H' d',Sees n r a→hIn C kd H H'→(execOp a.eval ⟨some d,op,ty,pos,af,gd⟩).run P (mk B H' d')=.ok (.value v) (mk B H' d'))
  (h:Pk P B n l C K p ((d,v)::r) H):Pk P B n l C K ((i,kd)::p) r H:=fun dd a ha=>by
 refine .inl ⟨by simpa using hk,_,v,hi,fun w' hw'=>.inl ⟨guardOn_wanted ha hg,?_⟩,h dd _ (ha.put hd)⟩
 rcases hw' with ⟨h0,H',d',rfl,hC⟩|⟨h1,rfl⟩
 · exact hrun a H' d' ha (.inl ⟨h0,hC⟩)
 · exact hrun a H dd ha (.inr ⟨h1,rfl⟩)
theorem Pk.pass {i kd d:Nat} {op:Op} {ty:TypeId} {pos:String} {af:Array Edge} {gd:Option (Nat×Bool)} (hi:l[i]?=some ⟨some d,op,ty,pos,af,gd⟩) (hk:Nat.blt kd 2=true)
  (hg:guardOff l r gd=true) (hd:Nat.blt d n=true) (h:Pk P B n l C K p ((d,undef)::r) H):Pk P B n l C K ((i,kd)::p) r H:=fun dd a ha=>
 .inl ⟨by simpa using hk,_,undef,hi,fun _ _=>.inr ⟨guardOff_wanted ha hg,rfl⟩,h dd _ (ha.put hd)⟩
theorem Pk.enter {i kd:Nat} {dst:Option Tmp} {op:Op} {ty:TypeId} {pos:String} {af:Array Edge} {gd:Option (Nat×Bool)} {g:FuncId} {args:List Value} {R:Value→Mem→Prop} (hi:l[i]?=some ⟨dst,op,ty,pos,af,gd⟩)
  (hk:Nat.blt 1 kd=true) (hg:guardOn l r gd=true) (hd:(match dst with|some d=>Nat.blt d n|none=>true)=true)
  (hrun:∀a d',Sees n r a→(execOp a.eval ⟨dst,op,ty,pos,af,gd⟩).run P (mk B H d')=.ok (.enter g args.toArray) (mk B H d'))
  (hc:Fn P B g args H R) (h:∀v H',R v H'→C H'∧Pk P B n l C K p (match dst with|some d=>(d,v)::r|none=>r) H'):Pk P B n l C K ((i,kd)::p) r H:=fun dd a ha=>by
 refine .inr ⟨Nat.succ_le_of_lt (by simpa using hk),_,hi,.inl ⟨guardOn_wanted ha hg,?_⟩⟩
 rw [hrun a dd ha]
 refine (hc dd).mono fun e w' he=>?_
 cases e with
 | returned v=>
  obtain ⟨H',d',rfl,hR⟩:=he
  obtain ⟨h1,h2⟩:=h v H' hR
  refine ⟨fun _=>⟨H',d',rfl,h1⟩,?_⟩
  cases dst with
  | none=>exact h2 d' a ha
  | some d=>exact h2 d' _ (ha.put hd)
 | panicked c=>exact he
 | outgrown=>exact he
variable {i kd d:Nat} {ty:TypeId} {pos:String} {af:Array Edge} {gd:Option (Nat×Bool)}
theorem Ok.mv {x:Operand} {v:Value} (hi:l[i]?=some ⟨some d,.move x,ty,pos,af,gd⟩) (hk:Nat.blt kd 2=true) (hg:guardOn l r gd=true) (hd:Nat.blt d n=true) (hx:ev r x=some v)
  (h:Pk P B n l C K p ((d,v)::r) H):Pk P B n l C K ((i,kd)::p) r H:=
 Pk.quiet hi hk hg hd (fun a H' d' ha _=>by simp [execOp,ha.eval hx]) h
theorem Ok.ld {t:TypeId} {x:Operand} {b o:Nat} {v:Value} (hi:l[i]?=some ⟨some d,.load t x,ty,pos,af,gd⟩) (hg:guardOn l r gd=true) (hd:Nat.blt d n=true) (ht:Flat P t)
  (hx:ev r x=some (.pointer (some ⟨b,o,none⟩))) (hc:cl H b o=some v) (h:Pk P B n l C K p ((d,v)::r) H):Pk P B n l C K ((i,1)::p) r H:=
 Pk.quiet hi rfl hg hd (fun a H' d' ha hH=>by
  obtain rfl:H'=H:=hH.elim (fun h=>absurd h.1 (by decide)) (fun h=>h.2)
  simp [execOp,ha.eval hx,Instr.loadAt,Instr.sureAddr,run_loadVar_flat ht hc]) h
theorem Ok.ldC {t:TypeId} {x:Operand} {b o:Nat} {v:Value} (hi:l[i]?=some ⟨some d,.load t x,ty,pos,af,gd⟩) (hg:guardOn l r gd=true) (hd:Nat.blt d n=true) (ht:Flat P t)
  (hx:ev r x=some (.pointer (some ⟨b,o,none⟩))) (hc:∀H',C H'→cl H' b o=some v) (h:Pk P B n l C K p ((d,v)::r) H):Pk P B n l C K ((i,0)::p) r H:=
 Pk.quiet hi rfl hg hd (fun a H' d' ha hH=>by
  have hC:C H':=hH.elim (fun h=>h.2) (fun h=>absurd h.1 (by decide))
  simp [execOp,ha.eval hx,Instr.loadAt,Instr.sureAddr,run_loadVar_flat ht (hc H' hC)]) h
theorem Ok.lds {t:TypeId} {x:Operand} {b o s:Nat} {vs:List Value} (hi:l[i]?=some ⟨some d,.load t x,ty,pos,af,gd⟩) (hg:guardOn l r gd=true) (hd:Nat.blt d n=true) (ht:AggT P t s)
  (hx:ev r x=some (.pointer (some ⟨b,o,none⟩))) (hl:vs.length=s) (hc:Rd H b o vs) (h:Pk P B n l C K p ((d,.agg vs.toArray)::r) H):Pk P B n l C K ((i,1)::p) r H:=
 Pk.quiet hi rfl hg hd (fun a H' d' ha hH=>by
  obtain rfl:H'=H:=hH.elim (fun h=>absurd h.1 (by decide)) (fun h=>h.2)
  simp [execOp,ha.eval hx,Instr.loadAt,Instr.sureAddr,run_loadVar_agg ht hl hc]) h
theorem Ok.ldsC {t:TypeId} {x:Operand} {b o s:Nat} {vs:List Value} (hi:l[i]?=some ⟨some d,.load t x,ty,pos,af,gd⟩) (hg:guardOn l r gd=true) (hd:Nat.blt d n=true) (ht:AggT P t s)
  (hx:ev r x=some (.pointer (some ⟨b,o,none⟩))) (hl:vs.length=s) (hc:∀H',C H'→Rd H' b o vs) (h:Pk P B n l C K p ((d,.agg vs.toArray)::r) H):Pk P B n l C K ((i,0)::p) r H:=
 Pk.quiet hi rfl hg hd (fun a H' d' ha hH=>by
  have hC:C H':=hH.elim (fun h=>h.2) (fun h=>absurd h.1 (by decide))
  simp [execOp,ha.eval hx,Instr.loadAt,Instr.sureAddr,run_loadVar_agg ht hl (hc H' hC)]) h
theorem Ok.call {g:FuncId} {as:List Operand} {ts:Array TypeId} {vs:List Value} {R:Value→Mem→Prop} (hi:l[i]?=some ⟨some d,.call ⟨.value (.func g),as.toArray,ts⟩,ty,pos,af,gd⟩)
  (hg:guardOn l r gd=true) (hd:Nat.blt d n=true) (hcall:∀(args:Array Value) (w:World),(callFunc g args).run P w=.ok (.enter g args) w) (ha:evs r as=some vs)
  (hc:Fn P B g vs H R) (h:∀v H',R v H'→C H'∧Pk P B n l C K p ((d,v)::r) H'):Pk P B n l C K ((i,2)::p) r H:=
 Pk.enter hi rfl hg (by exact hd) (fun a d' hs=>by
  have h1:=hs.evals ha
  have h2:a.eval (.func g)=.func (.func g) #[] #[]:=rfl
  simp only [execOp,resolve,h2,Deferred.ofValue,Sem.run_bind,Sem.run_pure,Result.andThen_ok,invoke,hcall]
  rw [←h1]
  simp) hc h
theorem Ok.callQ {g:FuncId} {as:List Operand} {ts:Array TypeId} {vs:List Value} {v:Value} (hi:l[i]?=some ⟨some d,.call ⟨.value (.func g),as.toArray,ts⟩,ty,pos,af,gd⟩)
  (hg:guardOn l r gd=true) (hd:Nat.blt d n=true) (hcall:∀(args:Array Value) (w:World),(callFunc g args).run P w=.ok (.enter g args) w) (ha:evs r as=some vs)
  (hc:Fn P B g vs H (fun u H'=>u=v∧H'=H)) (hC:C H) (h:Pk P B n l C K p ((d,v)::r) H):Pk P B n l C K ((i,2)::p) r H:=
 Ok.call hi hg hd hcall ha hc fun u H' hu=>by obtain ⟨rfl,rfl⟩:=hu;exact ⟨hC,h⟩
theorem Ok.fa {s:TypeId} {x:Operand} {b o fld off:Nat} (hi:l[i]?=some ⟨some d,.fieldAddr s x fld,ty,pos,af,gd⟩) (hk:Nat.blt kd 2=true) (hg:guardOn l r gd=true) (hd:Nat.blt d n=true) (hf:FieldAt P s fld off)
  (hx:ev r x=some (.pointer (some ⟨b,o,none⟩))) (h:Pk P B n l C K p ((d,.pointer (some ⟨b,o+off,none⟩))::r) H):Pk P B n l C K ((i,kd)::p) r H:=
 Pk.quiet hi hk hg hd (fun a H' d' ha _=>by simp [execOp,ha.eval hx,run_fieldAt hf]) h
theorem Ok.bin {op:BinOp} {t t':TypeId} {x y:Operand} {a b:Value} {v:Value} (hi:l[i]?=some ⟨some d,.binOp op t x y t',ty,pos,af,gd⟩) (hk:Nat.blt kd 2=true) (hg:guardOn l r gd=true) (hd:Nat.blt d n=true)
  (hx:ev r x=some a) (hy:ev r y=some b) (hr:∀w,(eqGuard op t x y a b).run P w=.ok () w∧(binOp op t a b).run P w=.ok v w) (h:Pk P B n l C K p ((d,v)::r) H):Pk P B n l C K ((i,kd)::p) r H:=
 Pk.quiet hi hk hg hd (fun a H' d' ha _=>by simp [execOp,ha.eval hx,ha.eval hy,hr]) h
theorem Ok.mki {t:TypeId} {x:Operand} {v:Value} {td:TypeDesc} (hi:l[i]?=some ⟨some d,.makeInterface t x,ty,pos,af,gd⟩) (hk:Nat.blt kd 2=true) (hg:guardOn l r gd=true) (hd:Nat.blt d n=true)
  (hu:P.underlying t=some td) (hn:(match td with|.interface _=>false|_=>true)=true) (hx:ev r x=some v) (h:Pk P B n l C K p ((d,.iface t v)::r) H):Pk P B n l C K ((i,kd)::p) r H:=
 Pk.quiet hi hk hg hd (fun a H' d' ha _=>by
  simp only [execOp,Instr.makeInterface,Sem.run_bind,run_und hu,Result.andThen_ok,ha.eval hx]
  cases td<;>simp_all) h
theorem Ok.mkf {fn:Go.Fn} {xs ys:List Operand} {us vs:List Value} (hi:l[i]?=some ⟨some d,.makeFunc fn xs.toArray ys.toArray,ty,pos,af,gd⟩) (hk:Nat.blt kd 2=true) (hg:guardOn l r gd=true) (hd:Nat.blt d n=true)
  (hx:evs r xs=some us) (hy:evs r ys=some vs) (h:Pk P B n l C K p ((d,.func fn us.toArray vs.toArray)::r) H):Pk P B n l C K ((i,kd)::p) r H:=
 Pk.quiet hi hk hg hd (fun a H' d' ha _=>by
  have h1:=ha.evals hx
  have h2:=ha.evals hy
  simp only [execOp,Sem.run_bind,Instr.makeFunc,Sem.run_pure,Result.andThen_ok]
  rw [←h1,←h2];simp) h
end
end Go.Bt
namespace Go.Bt.Pl
variable {α:Type} (O:Swo α)
def Dis (l:List α):Prop:=l.Pairwise fun x y=>O.lt x y=true∨O.lt y x=true
theorem Dis.perm {l m:List α} (h:Dis O l) (p:l.Perm m):Dis O m:=p.pairwise h fun h=>h.symm
theorem put_new {x:α} {l:List α} (h:fnd O x l=false) (y:α):y∈put O x l↔y∈l∨y=x:=by
 unfold put
 rw [h]
 have e:l=l.take (pos O x l)++l.drop (pos O x l):=(List.take_append_drop _ _).symm
 constructor
 ·
  intro hy
  rcases List.mem_append.1 hy with hy|hy
  · exact .inl (List.mem_of_mem_take hy)
  ·
   rcases List.mem_cons.1 hy with hy|hy
   · exact .inr hy
   · exact .inl (List.mem_of_mem_drop hy)
 ·
  rintro (hy|hy)
  ·
   rw [e] at hy
   rcases List.mem_append.1 hy with hy|hy
   · exact List.mem_append_left _ hy
   · exact List.mem_append_right _ (List.mem_cons_of_mem _ (by simpa using hy))
  · exact List.mem_append_right _ (hy▸List.mem_cons_self)
theorem fnd_no {x:α} {l:List α} (hs:Srt O l) (h:∀y∈l,O.lt y x=true∨O.lt x y=true):fnd O x l=false:=by
 cases hf:fnd O x l with
 | false=>rfl
 | true=>
  obtain ⟨y,hy,h1,h2⟩:=fnd_at O hs hf
  rcases h y (List.mem_of_getElem? hy) with h|h
  · rw [h1] at h;cases h
  · rw [h2] at h;cases h
theorem no_fnd {x:α} {l:List α} (hs:Srt O l) (hf:fnd O x l=false):∀y∈l,O.lt y x=true∨O.lt x y=true:=by
 intro y hy
 rw [←List.take_append_drop (pos O x l) l] at hy
 rcases List.mem_append.1 hy with hy|hy
 · exact .inl ((pos_split O x l).1 y hy)
 · exact .inr (after_pos O hs hf y hy)
theorem puts_dis:∀(l:List α),((puts O l).length=l.length→Dis O l)∧(Dis O l→((puts O l).length=l.length∧∀y,y∈puts O l↔y∈l)):=by
 intro l
 induction h:l.length generalizing l with
 | zero=>
  obtain rfl:=List.length_eq_zero_iff.1 h
  exact ⟨fun _=>List.Pairwise.nil,fun _=>⟨rfl,fun y=>Iff.rfl⟩⟩
 | succ n ih=>
  obtain ⟨m,x,rfl⟩:∃m x,l=m++[x]:=by
   refine ⟨l.dropLast,l.getLast (by intro e;rw [e] at h;simp at h),(List.dropLast_concat_getLast _).symm⟩
  rw [List.length_append,List.length_singleton] at h
  obtain ⟨ih1,ih2⟩:=ih m (by omega)
  have hs:=puts_srt O m
  have hl:=length_put O x (puts O m)
  have hle:=puts_length O m
  rw [puts_snoc]
  constructor
  ·
   intro hh
   cases hf:fnd O x (puts O m) with
   | true=>rw [hf] at hl;simp at hl;omega
   | false=>
    rw [hf] at hl
    have hd:=ih1 (by simp at hl;omega)
    refine List.pairwise_append.2 ⟨hd,List.pairwise_singleton _ _,fun y hy z hz=>?_⟩
    obtain rfl:=List.mem_singleton.1 hz
    exact no_fnd O hs hf y (((ih2 hd).2 y).2 hy)
  ·
   intro hd
   obtain ⟨hd1,_,hd2⟩:=List.pairwise_append.1 hd
   obtain ⟨e1,e2⟩:=ih2 hd1
   have hf:fnd O x (puts O m)=false:=fnd_no O hs fun y hy=>hd2 y ((e2 y).1 hy) x (List.mem_singleton.2 rfl)
   rw [hf] at hl
   refine ⟨by rw [hl];simp;omega,fun y=>?_⟩
   rw [put_new O hf,e2 y,List.mem_append,List.mem_singleton]
theorem puts_perm {l m:List α} (hl:(puts O l).length=l.length) (p:l.Perm m):puts O m=puts O l:=by
 have hd:=(puts_dis O l).1 hl
 exact srt_ext (puts_srt O m) (puts_srt O l) fun y=>by
  rw [((puts_dis O m).2 (hd.perm O p)).2 y,((puts_dis O l).2 hd).2 y,p.mem_iff]
end Go.Bt.Pl
namespace Go.Bt
open Go
section
variable {P:Program} {B:World} {f:FuncId} {Q:Value→Mem→Prop} {n:Nat} {r:Env} {c c2:Item} {k:List Item} {H:Mem} {σ:Type}
theorem Go'.join (J:σ→Mem→Prop) (q:σ→Env) (ht:∀s H',J s H'→Go' P B f Q n (q s) k H') (h:(∀s H',J s H'→Go' P B f Q n (q s) k H')→Go' P B f Q n r (c::k) H):Go' P B f Q n r (c::k) H:=h ht
theorem Go'.join2 (J:σ→Mem→Prop) (q:σ→Env) (ht:∀s H',J s H'→Go' P B f Q n (q s) k H') (h:(∀s H',J s H'→Go' P B f Q n (q s) k H')→Go' P B f Q n r (c::c2::k) H):Go' P B f Q n r (c::c2::k) H:=h ht
end
abbrev Rg:=Nat→Nat→Prop
def Off (A C:Rg):Prop:=∀b o,A b o→¬C b o
theorem Off.symm {A C:Rg} (h:Off A C):Off C A:=fun b o hc ha=>h b o ha hc
def Gro (H:Mem) (A A':Rg):Prop:=∀b o,A' b o→A b o∨H.size≤b
theorem Gro.refl (H:Mem) (A:Rg):Gro H A A:=fun _ _ h=>.inl h
theorem Gro.off {H:Mem} {A A' C:Rg} (g:Gro H A A') (d:Off C A) (l:∀b o,C b o→b<H.size):Off C A':=
 fun b o hc ha=>(g b o ha).elim (d b o hc) (fun h=>Nat.not_lt.2 h (l b o hc))
theorem Gro.tr {H H1:Mem} {A A' A'':Rg} (g:Gro H A A') (hs:H.size≤H1.size) (g':Gro H1 A' A''):Gro H A A'':=
 fun b o h=>(g' b o h).elim (g b o) (fun h=>.inr (Nat.le_trans hs h))
theorem Gro.not {H:Mem} {A A':Rg} (g:Gro H A A') {b o:Nat} (hb:b<H.size) (hn:¬A b o):¬A' b o:=fun h=>(g b o h).elim hn (fun h=>by omega)
theorem Fr.tot {Z A A0:Rg} {H0 H H':Mem} (hF:Fr Z H0 H) (f:Fr A H H') (s:Gro H0 A0 A) (hz:∀b o,A0 b o→Z b o):Fr Z H0 H':=
 hF.trans' f (fun _ _ _ h=>h) (fun b o hb h=>(s b o h).elim (hz b o) (fun h=>by omega))
variable {α:Type} {E:Elt α}
abbrev Rn (E:Elt α) (H:Mem) (P:Ps) (g:Ng) (X:List α) (os:List (Option Nat)):Prop:=Inn (E:=E) H P 0 g X os []
abbrev rn (E:Elt α) (g:Ng):Rg:=innc (E:=E) 0 g []
theorem rn_iff {g:Ng} {b o:Nat}:rn E g b o↔ncl E g b o∨kcl g b o:=by
 constructor
 ·
  rintro (h|h|⟨k,hk,_⟩)
  · exact .inl h
  · exact .inr h
  · cases hk
 ·
  rintro (h|h)
  · exact .inl h
  · exact .inr (.inl h)
section
variable {H H' H'':Mem} {P:Ps} {g:Ng} {X:List α} {os:List (Option Nat)} {kp:Value} {h:Nat} {K:List (Gt E h)}
theorem NodeM.fSet {i:Nat} {x:α} (hN:NodeM E H g X kp) (W:Wrote H H' g.ib (g.io+i*E.s) (E.enc x)) (hi:i<X.length):Fr (ncl E g) H H':=
 W.as_row.fr.mono fun b o _ hz=>.inr (W.as_row.in_items hN (by rw [List.length_singleton];omega) hz)
theorem NodeM.fCpy {i:Nat} {Y:List α} (hN:NodeM E H g X kp) (W:Wrote H H' g.ib (g.io+i*E.s) (row E Y)) (hi:i+Y.length≤X.length):Fr (ncl E g) H H':=
 W.fr.mono fun b o _ hz=>.inr (W.in_items hN hi hz)
theorem Wrote.fHdr {j:Nat} {v:Value} (W:Wrote H H' g.p j [v]) (hj:j<4):Fr (ncl E g) H H':=W.fr.mono fun b o _ hz=>.inl ⟨hz.1,by have:=hz.2.2;simp only [List.length_cons,List.length_nil] at this;omega⟩
theorem Fr.inN (hf:Fr (ncl E g) H H'):Fr (innc h g K) H H':=hf.mono fun _ _ _ hz=>.inl hz
theorem Inn.fKset {i:Nat} {u:List Value} (hI:Inn H P h g X os K) (W:Wrote H H' g.kb (g.ko+i*1) u) (hu:u.length=1) (hi:i<os.length):Fr (innc h g K) H H':=by
 have h1:=hI.k.sl.hle
 exact W.fr.mono fun b o _ hz=>.inr (.inl (.inr ⟨hz.1,by have:=hz.2.1;omega,by have:=hz.2.2;omega⟩))
theorem Inn.fKcpy {i:Nat} {Y:List (Option Nat)} (hI:Inn H P h g X os K) (W:Wrote H H' g.kb (g.ko+i*1) (row EP Y)) (hi:i+Y.length≤os.length):Fr (innc h g K) H H':=by
 have h1:=hI.k.sl.hle
 exact W.fr.mono fun b o _ hz=>.inr (.inl (.inr ⟨hz.1,by have:=hz.2.1;omega,by have:=hz.2.2;rw [row_len,show EP.s=1 from rfl] at this;omega⟩))
theorem Wrote.fKhdr {v:Value} (W:Wrote H H' g.cb 0 [v]):Fr (innc h g K) H H':=W.fr.mono fun b o _ hz=>.inr (.inl (.inl ⟨hz.1,by have:=hz.2.2;simpa using this⟩))
theorem Inn.fKapp {m b' o' c':Nat} {news:List Value} (hI:Inn H P h g X os K) (ha:App H H' g.kb g.ko os.length g.kc m 1 (row EP os) news b' o' c'):Fr (innc h g K) H H':=by
 have hle:=hI.k.sl.hle
 exact ha.fr.mono fun b o _ hz=>.inr (.inl (.inr ⟨hz.1,by have:=hz.2.1;omega,by have:=hz.2.2;omega⟩))
theorem App.gro {len m s:Nat} {xs news:List Value} {b' o' c':Nat} (ha:App H H' g.ib g.io len g.ic m s xs news b' o' c'):Gro H (Bt.ncl E g) (Bt.ncl E { g with ib:=b',io:=o',ic:=c' }):=
 fun b o hb=>(ha.ncl hb).imp id (fun h=>by omega)
theorem App.groI {len m s:Nat} {xs news:List Value} {b' o' c':Nat} (ha:App H H' g.ib g.io len g.ic m s xs news b' o' c'):Gro H (rn E g) (rn E { g with ib:=b',io:=o',ic:=c' }):=fun b o hb=>by
 rcases rn_iff.1 hb with hb|hb
 · exact (ha.gro b o hb).imp .inl id
 · exact .inl (rn_iff.2 (.inr hb))
theorem App.groK {len m s:Nat} {xs news:List Value} {b' o' c':Nat} (ha:App H H' g.kb g.ko len g.kc m s xs news b' o' c'):Gro H (rn E g) (rn E { g with kb:=b',ko:=o',kc:=c' }):=fun b o hb=>by
 rcases rn_iff.1 hb with hb|hb|hb
 · exact .inl (rn_iff.2 (.inl hb))
 · exact .inl (rn_iff.2 (.inr (.inl hb)))
 ·
  rcases ha.place with ⟨h1,h2,h3,_⟩|⟨h1,_⟩
  · subst h1 h2 h3;exact .inl (rn_iff.2 (.inr (.inr hb)))
  · right;have:=hb.1;simp only at this;omega
theorem NodeM.cut {k:Nat} (hN:NodeM E H g X kp) (W:Wrote H H' g.p 2 [.slice (some ⟨g.ib,g.io,none⟩) k g.ic]) (hk:k≤X.length):NodeM E H' g (X.take k) kp:=
 hN.hdr (X':=X.take k) (by rw [List.length_take,Nat.min_eq_left hk];exact W) (hN.sl.take k) hN.ic hN.ne
theorem Inn.cut {k:Nat} (hI:Inn H P h g X os K) (W:Wrote H H' g.p 2 [.slice (some ⟨g.ib,g.io,none⟩) k g.ic]) (hk:k≤X.length):Inn H' P h g (X.take k) os K:=
 hI.hdr (X':=X.take k) (by rw [List.length_take,Nat.min_eq_left hk];exact W) (hI.n.sl.take k) hI.n.ic (.inl ⟨rfl,rfl,rfl⟩)
theorem Inn.kcut {k:Nat} (hI:Inn H P h g X os K) (W:Wrote H H' g.cb 0 [.slice (some ⟨g.kb,g.ko,none⟩) k g.kc]) (hk:k≤os.length):Inn H' P h g X (os.take k) K:=
 hI.khdr (os':=os.take k) (by rw [List.length_take,Nat.min_eq_left hk];exact W) (hI.k.sl.take k) hI.k.kc (.inl ⟨rfl,rfl,rfl⟩)
theorem NodeM.pushs {m b' o' c':Nat} {Y:List α} (hN:NodeM E H g X kp) (ha:App H H' g.ib g.io X.length g.ic m E.s (row E X) (row E Y) b' o' c') (hm:m=Y.length) (h0:0<X.length)
  (W:Wrote H' H'' g.p 2 [.slice (some ⟨b',o',none⟩) (X.length+m) c']):NodeM E H'' { g with ib:=b',io:=o',ic:=c' } (X++Y) kp:=by
 subst hm
 exact (hN.appd ha).hdr (by rw [List.length_append];exact W) (SlE.apps ha) (by have:=ha.sl.hle;omega) (ha.ne hN.ne (cl_lt hN.c0))
theorem Inn.pushs {m b' o' c':Nat} {Y:List α} (hI:Inn H P h g X os K) (ha:App H H' g.ib g.io X.length g.ic m E.s (row E X) (row E Y) b' o' c') (hm:m=Y.length) (h0:0<X.length)
  (W:Wrote H' H'' g.p 2 [.slice (some ⟨b',o',none⟩) (X.length+m) c']):Inn H'' P h { g with ib:=b',io:=o',ic:=c' } (X++Y) os K:=by
 subst hm
 exact (hI.app ha).hdr (by rw [List.length_append];exact W) (SlE.apps ha) (by have:=ha.sl.hle;omega) (ha.fresh hI)
theorem Inn.kpushs {m b' o' c':Nat} {Y:List (Option Nat)} (hI:Inn H P h g X os K) (ha:App H H' g.kb g.ko os.length g.kc m 1 (row EP os) (row EP Y) b' o' c') (hm:m=Y.length) (h0:0<os.length)
  (W:Wrote H' H'' g.cb 0 [.slice (some ⟨b',o',none⟩) (os.length+m) c']):Inn H'' P h { g with kb:=b',ko:=o',kc:=c' } X (os++Y) K:=by
 subst hm
 exact (hI.kapp ha).khdr (by rw [List.length_append];exact W) (SlE.apps ha) (by have:=ha.sl.hle;omega) (ha.freshk hI)
theorem Inn.lt' (hI:Inn H P h g X os K):∀b o,innc h g K b o→b<H.size:=fun b o hb=>hI.lt hb
theorem NodeM.lt' (hN:NodeM E H g X kp):∀b o,ncl E g b o→b<H.size:=fun b o hb=>NodeM.lt hN hb
end
namespace Pl
theorem cut_at {α:Type} (X:List α) (e:α) (i:Nat) (hi:i<X.length):
  ((X.take i++X.drop (i+1)++X.drop (i+(X.drop (i+1)).length)).take (X.length-1)++e::(X.take i++X.drop (i+1)++X.drop (i+(X.drop (i+1)).length)).drop (X.length-1+1)).take (X.length-1)=X.take i++X.drop (i+1):=by
 have h1:(X.take i++X.drop (i+1)).length=X.length-1:=by simp;omega
 have h2:(X.take i++X.drop (i+1)++X.drop (i+(X.drop (i+1)).length)).take (X.length-1)=X.take i++X.drop (i+1):=by rw [←h1,List.take_left]
 rw [h2,←h1,List.take_left]
theorem cutoff_last {α:Type} (X:List α) (e:α) (hi:0<X.length):(X.take (X.length-1)++e::X.drop (X.length-1+1)).take (X.length-1)=X.take (X.length-1):=by
 have h1:(X.take (X.length-1)).length=X.length-1:=by simp
 rw [List.take_append_of_le_length (by omega),List.take_take,Nat.min_self]
theorem last_split {α:Type} {X:List α} {y:α} (h:X[X.length-1]?=some y):X=X.take (X.length-1)++[y]:=by
 obtain ⟨h1,h2⟩:=List.getElem?_eq_some_iff.1 h
 have:=List.take_append_drop (X.length-1) X
 rw [←List.getElem_cons_drop (h:=h1),h2,List.drop_of_length_le (by omega)] at this
 exact this.symm
theorem head_split {α:Type} {X:List α} {y:α} (h:X[0]?=some y):X=y::X.drop (0+1):=by
 cases X with
 | nil=>simp at h
 | cons z X=>simp at h;subst h;rfl
end Pl
theorem Gro.offD {H:Mem} {A A':Rg} {D:Nat→Prop} (g:Gro H A A') (t:∀b o,A b o→¬D b) (l:∀b,D b→b<H.size):∀b o,A' b o→¬D b:=
 fun b o h hd=>(g b o h).elim (fun h=>t b o h hd) (fun h=>Nat.not_lt.2 h (l b hd))
variable {α:Type} {E:Elt α}
theorem SlE.rdDrop {H:Mem} {b o c:Nat} {X:List α} (h:SlE E H b o c X) {i o2:Nat} (ho:i<c→o2=o+i*E.s) (hi:i≤X.length):Rd H b o2 (row E (X.drop i)):=by
 rcases Nat.lt_or_ge i c with hc|hc
 ·
  rw [ho hc]
  have:=h.sub i (X.length-i) hi
  rwa [List.take_of_length_le (by rw [List.length_drop];omega)] at this
 ·
  rw [List.drop_of_length_le (Nat.le_trans h.hle hc)]
  exact Rd.nil _ _ _
theorem sum_mem {β:Type} (f:β→Nat) {l:List β} {z:β} (h:z∈l):f z≤(l.map f).sum:=by
 induction l with
 | nil=>cases h
 | cons a l ih=>
  rw [List.map_cons,List.sum_cons]
  rcases List.mem_cons.1 h with rfl|h
  · omega
  · have:=ih h;omega
def Rw (E:Elt α) (H:Mem) (P:Ps) (lf:Bool) (g:Ng) (X:List α) (os:List (Option Nat)):Prop:=match lf with
 | true=>NodeM E H g X (.pointer none)∧g.iso=P.iso∧os=[]
 | false=>Rn E H P g X os
def rwc (E:Elt α) (lf:Bool) (g:Ng):Rg:=match lf with
 | true=>ncl E g
 | false=>rn E g
def cnO (cn:Nat→Nat):Option Nat→Nat
 | some q=>cn q
 | none=>0
structure RebIn (E:Elt α) (H:Mem) (P:Ps) (D:Nat→Prop) (lf:Bool) (cn:Nat→Nat) (i:Nat) (g gl gr:Ng) (X Xl Xr:List α) (os osl osr:List (Option Nat)) (x:α):Prop where
 n:Rn E H P g X os
 l:Rw E H P lf gl Xl osl
 r:Rw E H P lf gr Xr osr
 dln:Off (rwc E lf gl) (rn E g)
 drn:Off (rwc E lf gr) (rn E g)
 dlr:Off (rwc E lf gl) (rwc E lf gr)
 tn:∀b o,rn E g b o→¬D b
 tl:∀b o,rwc E lf gl b o→¬D b
 tr:∀b o,rwc E lf gr b o→¬D b
 dD:∀b,D b→b<H.size
 x:X[i]?=some x
 pl:os[i]?=some (some gl.p)
 pr:os[i+1]?=some (some gr.p)
 len:os.length=X.length+1
 xm:X.length≤P.mx
 lm:Xl.length≤P.mx
 rm:Xr.length≤P.mx
 kl:lf=false→osl.length=Xl.length+1
 kr:lf=false→osr.length=Xr.length+1
 cl:gl.cnt=Xl.length+(osl.map (cnO cn)).sum
 cr:gr.cnt=Xr.length+(osr.map (cnO cn)).sum
 cq:∀z∈osl++osr,∃q,z=some q∧Bt.cl H q 1=some (.int .i64 (cn q:Int))∧¬rn E g q 1∧¬rwc E lf gl q 1∧¬rwc E lf gr q 1
 b:gl.cnt+gr.cnt<4611686018427387904
 sh:Xl.length<P.mn∨Xr.length<P.mn
 ml:P.mn≤Xl.length+1
 mr:P.mn≤Xr.length+1
def RebOut (E:Elt α) (H H':Mem) (P:Ps) (lf:Bool) (cn:Nat→Nat) (i:Nat) (g gl gr:Ng) (X Xl Xr:List α) (os osl osr:List (Option Nat)) (x:α):Prop:=
 Fr (fun b o=>rn E g b o∨rwc E lf gl b o∨rwc E lf gr b o) H H'∧
 ∃g' gl',g'.p=g.p∧g'.cnt=g.cnt∧gl'.p=gl.p∧Gro H (rn E g) (rn E g')∧Gro H (rwc E lf gl) (rwc E lf gl')∧Off (rwc E lf gl') (rn E g')∧
 ((Xl.length+Xr.length<P.mx∧Rn E H' P g' (X.take i++X.drop (i+1)) (os.take (i+1)++os.drop (i+1+1))∧Rw E H' P lf gl' (Xl++x::Xr) (osl++osr)∧gl'.cnt=gl.cnt+(gr.cnt+1))∨
 ∃gr' Xl' Xr' osl' osr' y,gr'.p=gr.p∧Gro H (rwc E lf gr) (rwc E lf gr')∧Off (rwc E lf gr') (rn E g')∧Off (rwc E lf gl') (rwc E lf gr')∧
   Rn E H' P g' (X.take i++y::X.drop (i+1)) os∧Rw E H' P lf gl' Xl' osl'∧Rw E H' P lf gr' Xr' osr'∧gl'.cnt=Xl'.length+(osl'.map (cnO cn)).sum∧gr'.cnt=Xr'.length+(osr'.map (cnO cn)).sum∧
   Xl'++y::Xr'=Xl++x::Xr∧osl'++osr'=osl++osr∧P.mn≤Xl'.length∧P.mn≤Xr'.length∧Xl'.length≤P.mx∧Xr'.length≤P.mx∧(lf=false→osl'.length=Xl'.length+1))
end Go.Bt
