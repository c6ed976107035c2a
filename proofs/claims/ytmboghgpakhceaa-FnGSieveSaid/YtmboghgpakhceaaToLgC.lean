/- The heap: cells, what a step changes and what it leaves, how cells are loaded and stored. Conditions: none. -/
import Derived.Laws.Append
import Derived.Laws.Entries
import Derived.Laws.Slices
import Derived.IntWalk
import Derived.Test.YtmboghgpakhceaaToLgB
set_option linter.unusedVariables false
namespace Go.Bt
open Go
abbrev Mem:=Array Obj
def cl (H:Mem) (b o:Nat):Option Value:=match H[b]? with
 | some (.cells c _ _)=>c[o]?
 | _=>none
def fz (H:Mem) (b o:Nat):Bool:=match H[b]? with
 | some (.cells _ _ (lo,hi))=>lo≤o&&o<hi
 | _=>false
def shp (H:Mem) (b:Nat):Option (TypeId×Nat):=match H[b]? with
 | some (.cells c e _)=>some (e,c.size)
 | _=>none
def mk (B:World) (H:Mem) (d:Nat):World:={ heap:=H,tape:=B.tape,drawn:=d,os:=B.os,output:=B.output }
theorem mk_self (w:World):mk w w.heap w.drawn=w:=rfl
theorem mk_cell (B:World) (H:Mem) (d b o:Nat):(mk B H d).cell? ⟨b,o,none⟩=cl H b o:=by
 unfold World.cell? cl mk
 simp only
 split<;>simp_all
theorem mk_frozen (B:World) (H:Mem) (d b o:Nat):(mk B H d).frozen? ⟨b,o,none⟩=fz H b o:=rfl
theorem cl_lt {H:Mem} {b o:Nat} {v:Value} (h:cl H b o=some v):b<H.size:=by
 unfold cl at h
 split at h
 · rename_i hb;exact (Array.getElem?_eq_some_iff.1 hb).1
 · cases h
theorem cl_of_blk {H H':Mem} {b:Nat} (h:H'[b]?=H[b]?) (o:Nat):cl H' b o=cl H b o:=by unfold cl;rw [h]
theorem fz_of_blk {H H':Mem} {b:Nat} (h:H'[b]?=H[b]?) (o:Nat):fz H' b o=fz H b o:=by unfold fz;rw [h]
theorem shp_of_blk {H H':Mem} {b:Nat} (h:H'[b]?=H[b]?):shp H' b=shp H b:=by unfold shp;rw [h]
def Rd (H:Mem) (b o:Nat) (vs:List Value):Prop:=∀i v,vs[i]?=some v→cl H b (o+i)=some v
def Wr (H:Mem) (b o n:Nat):Prop:=∀i,i<n→(∃v,cl H b (o+i)=some v)∧fz H b (o+i)=false∧∃e m,shp H b=some (e,m)∧e<1000
structure Fr (X:Nat→Nat→Prop) (H H':Mem):Prop where
 size:H.size≤H'.size
 cell:∀b o,b<H.size→¬X b o→cl H' b o=cl H b o
 frz:∀b o,b<H.size→fz H' b o=fz H b o
 shape:∀b,b<H.size→shp H' b=shp H b
 blk:∀b,b<H.size→(∀o,¬X b o)→H'[b]?=H[b]?
def nowhere:Nat→Nat→Prop:=fun _ _=>False
theorem nw {b o:Nat}:¬nowhere b o:=fun h=>h
def rng (b o n:Nat):Nat→Nat→Prop:=fun b' o'=>b'=b∧o≤o'∧o'<o+n
theorem Fr.refl (X:Nat→Nat→Prop) (H:Mem):Fr X H H:=⟨Nat.le_refl _,fun _ _ _ _=>rfl,fun _ _ _=>rfl,fun _ _=>rfl,fun _ _ _=>rfl⟩
theorem Fr.mono {X Y:Nat→Nat→Prop} {H H':Mem} (h:Fr X H H') (hXY:∀b o,b<H.size→X b o→Y b o):Fr Y H H':=
 ⟨h.size,fun b o hb hn=>h.cell b o hb fun hx=>hn (hXY b o hb hx),h.frz,h.shape,fun b hb hn=>h.blk b hb fun o hx=>hn o (hXY b o hb hx)⟩
theorem Fr.trans {X:Nat→Nat→Prop} {H H' H'':Mem} (h:Fr X H H') (k:Fr X H' H''):Fr X H H'':=
 ⟨Nat.le_trans h.size k.size,fun b o hb hn=>(k.cell b o (Nat.lt_of_lt_of_le hb h.size) hn).trans (h.cell b o hb hn),
  fun b o hb=>(k.frz b o (Nat.lt_of_lt_of_le hb h.size)).trans (h.frz b o hb),
  fun b hb=>(k.shape b (Nat.lt_of_lt_of_le hb h.size)).trans (h.shape b hb),
  fun b hb hn=>(k.blk b (Nat.lt_of_lt_of_le hb h.size) hn).trans (h.blk b hb hn)⟩
theorem Fr.trans' {X Y Z:Nat→Nat→Prop} {H H' H'':Mem} (h:Fr X H H') (k:Fr Y H' H'') (hX:∀b o,b<H.size→X b o→Z b o) (hY:∀b o,b<H.size→Y b o→Z b o):Fr Z H H'':=
 ⟨Nat.le_trans h.size k.size,fun b o hb hn=>(k.cell b o (Nat.lt_of_lt_of_le hb h.size) (fun hy=>hn (hY b o hb hy))).trans (h.cell b o hb (fun hx=>hn (hX b o hb hx))),
  fun b o hb=>(k.frz b o (Nat.lt_of_lt_of_le hb h.size)).trans (h.frz b o hb),
  fun b hb=>(k.shape b (Nat.lt_of_lt_of_le hb h.size)).trans (h.shape b hb),
  fun b hb hn=>(k.blk b (Nat.lt_of_lt_of_le hb h.size) (fun o hy=>hn o (hY b o hb hy))).trans (h.blk b hb (fun o hx=>hn o (hX b o hb hx)))⟩
theorem Fr.keep {X:Nat→Nat→Prop} {H H':Mem} (h:Fr X H H') {b o:Nat} {v:Value} (hc:cl H b o=some v) (hn:¬X b o):cl H' b o=some v:=
 (h.cell b o (cl_lt hc) hn).trans hc
theorem Fr.rd {X:Nat→Nat→Prop} {H H':Mem} (h:Fr X H H') {b o:Nat} {vs:List Value} (hr:Rd H b o vs) (hn:∀i,i<vs.length→¬X b (o+i)):Rd H' b o vs:=
 fun i v hv=>h.keep (hr i v hv) (hn i (List.getElem?_eq_some_iff.1 hv).1)
theorem cl_shape {H:Mem} {b o:Nat} {v:Value} (h:cl H b o=some v):∃e n,shp H b=some (e,n)∧o<n:=by
 unfold cl at h
 split at h
 ·
  rename_i c e f hb
  exact ⟨e,c.size,by unfold shp;rw [hb],(Array.getElem?_eq_some_iff.1 h).1⟩
 · cases h
theorem cl_of_shape {H:Mem} {b o n:Nat} {e:TypeId} (h:shp H b=some (e,n)) (ho:o<n):∃v,cl H b o=some v:=by
 unfold shp at h
 split at h
 ·
  rename_i c e' f hb
  simp only [Option.some.injEq,Prod.mk.injEq] at h
  obtain ⟨rfl,rfl⟩:=h
  exact ⟨c[o],by unfold cl;rw [hb];simp [ho]⟩
 · cases h
theorem Fr.wr {X:Nat→Nat→Prop} {H H':Mem} (h:Fr X H H') {b o n:Nat} (hw:Wr H b o n):Wr H' b o n:=fun i hi=>by
 obtain ⟨⟨v,hv⟩,hf,e1,m1,hs1,h1⟩:=hw i hi
 obtain ⟨e,m,hs,hm⟩:=cl_shape hv
 have hlt:=cl_lt hv
 exact ⟨cl_of_shape ((h.shape b hlt).trans hs) hm,(h.frz b _ hlt).trans hf,e1,m1,(h.shape b hlt).trans hs1,h1⟩
/-! ### Storing -/
def setc (H:Mem) (b o:Nat) (v:Value):Mem:=H.modify b fun
 | .cells c e f=>.cells (c.setIfInBounds o v) e f
 | x=>x
theorem mk_setCell (B:World) (H:Mem) (d b o:Nat) (v:Value):(mk B H d).setCell ⟨b,o,none⟩ v=mk B (setc H b o v) d:=by
 unfold World.setCell mk setc
 congr 1
structure Wrote (H H':Mem) (b o:Nat) (vs:List Value):Prop where
 fr:Fr (rng b o vs.length) H H'
 size:H'.size=H.size
 rd:Rd H' b o vs
theorem setc_blk (H:Mem) (b o:Nat) (v:Value) (b':Nat) (h:b'≠b):(setc H b o v)[b']?=H[b']?:=by
 unfold setc
 rw [Array.getElem?_modify,if_neg (fun e=>h e.symm)]
theorem setc_same {H:Mem} {b o:Nat} {u v:Value} (h:cl H b o=some u):cl (setc H b o v) b o=some v:=by
 unfold cl at h
 split at h
 ·
  rename_i c e f hb
  have ho:o<c.size:=(Array.getElem?_eq_some_iff.1 h).1
  unfold cl setc
  rw [Array.getElem?_modify,if_pos rfl,hb]
  simp [ho]
 · cases h
theorem setc_other {H:Mem} {b o:Nat} {v:Value} (b' o':Nat) (h:b'≠b∨o'≠o):cl (setc H b o v) b' o'=cl H b' o':=by
 by_cases hb:b'=b
 ·
  subst hb
  have ho:o'≠o:=by rcases h with h|h;exact absurd rfl h;exact h
  unfold cl setc
  rw [Array.getElem?_modify,if_pos rfl]
  cases hx:H[b']? with
  | none=>rfl
  | some x=>cases x<;>simp [Array.getElem?_setIfInBounds_ne (Ne.symm ho)]
 · exact cl_of_blk (setc_blk H b o v b' hb) o'
theorem setc_fz (H:Mem) (b o:Nat) (v:Value) (b' o':Nat):fz (setc H b o v) b' o'=fz H b' o':=by
 by_cases hb:b'=b
 ·
  subst hb
  unfold fz setc
  rw [Array.getElem?_modify,if_pos rfl]
  cases hx:H[b']? with
  | none=>rfl
  | some x=>cases x<;>simp
 · exact fz_of_blk (setc_blk H b o v b' hb) o'
theorem setc_shp (H:Mem) (b o:Nat) (v:Value) (b':Nat):shp (setc H b o v) b'=shp H b':=by
 by_cases hb:b'=b
 ·
  subst hb
  unfold shp setc
  rw [Array.getElem?_modify,if_pos rfl]
  cases hx:H[b']? with
  | none=>rfl
  | some x=>cases x<;>simp
 · exact shp_of_blk (setc_blk H b o v b' hb)
theorem setc_size (H:Mem) (b o:Nat) (v:Value):(setc H b o v).size=H.size:=by simp [setc]
theorem setc_wrote {H:Mem} {b o:Nat} {u v:Value} (h:cl H b o=some u):Wrote H (setc H b o v) b o [v] where
 fr:=⟨Nat.le_of_eq (setc_size H b o v).symm,fun b' o' _ hn=>setc_other b' o' (by simp only [rng,List.length_cons,List.length_nil] at hn;omega),fun b' o' _=>setc_fz H b o v b' o',fun b' _=>setc_shp H b o v b',
  fun b' _ hn=>setc_blk H b o v b' (fun e=>hn o ⟨e,Nat.le_refl _,by simp⟩)⟩
 size:=setc_size H b o v
 rd:=fun i x hx=>by
  match i,hx with
  | 0,hx=>simp only [List.getElem?_cons_zero,Option.some.injEq] at hx;subst hx;exact setc_same h
  | i+1,hx=>simp at hx
def setcs (H:Mem) (b o:Nat):List Value→Mem
 | []=>H
 | v::vs=>setcs (setc H b o v) b (o+1) vs
theorem setcs_wrote:∀(vs:List Value) (H:Mem) (b o:Nat),Wr H b o vs.length→Wrote H (setcs H b o vs) b o vs
 | [],H,b,o,_=>⟨Fr.refl _ H,rfl,fun i v h=>by simp at h⟩
 | v::vs,H,b,o,hw=>by
  obtain ⟨⟨u,hu⟩,_⟩:=hw 0 (by simp)
  have h1:=setc_wrote (v:=v) hu
  have hw':Wr (setc H b o v) b (o+1) vs.length:=fun i hi=>by
   have:=h1.fr.wr (n:=(v::vs).length) hw (i+1) (by simp;omega)
   rw [show o+1+i=o+(i+1) by omega]
   exact this
  have h2:=setcs_wrote vs (setc H b o v) b (o+1) hw'
  refine ⟨h1.fr.trans' h2.fr ?_ ?_,h2.size.trans h1.size,fun i x hx=>?_⟩
  · intro b' o' _ hx;simp only [rng,List.length_cons,List.length_nil] at hx ⊢;omega
  · intro b' o' _ hx;simp only [rng,List.length_cons] at hx ⊢;omega
  ·
   match i,hx with
   | 0,hx=>
    simp only [List.getElem?_cons_zero,Option.some.injEq] at hx
    subst hx
    exact h2.fr.keep (by simpa using setc_same (v:=v) hu) (by simp only [rng];omega)
   | i+1,hx=>
    have:=h2.rd i x (by simpa using hx)
    rw [show o+(i+1)=o+1+i by omega]
    exact this
theorem Wrote.at {H H':Mem} {b o:Nat} {v:Value} {vs:List Value} (h:Wrote H H' b o (v::vs)):cl H' b o=some v:=h.rd 0 v rfl
theorem Wrote.keep1 {H H':Mem} {b o b' o':Nat} {v u:Value} (h:Wrote H H' b o [v]) (hc:cl H b' o'=some u) (hn:b'≠b∨o'≠o):cl H' b' o'=some u:=
 h.fr.keep hc (by simp only [rng,List.length_cons,List.length_nil];omega)
theorem Wrote.fr' {H H':Mem} {b o:Nat} {vs:List Value} (n:Nat) (h:Wrote H H' b o vs) (hl:vs.length=n):Fr (rng b o n) H H':=hl▸h.fr
theorem Wrote.all {H H':Mem} {b o:Nat} {vs:List Value} (h:Wrote H H' b o vs):Rd H' b o vs:=h.rd
theorem nr {b o n b' o':Nat} (h:b'≠b∨o'<o∨o+n≤o'):¬rng b o n b' o':=by simp only [rng];omega
theorem Wr.part {H:Mem} {b o n:Nat} (h:Wr H b o n) (i m:Nat) (hi:i+m≤n):Wr H b (o+i) m:=fun j hj=>by rw [Nat.add_assoc];exact h (i+j) (by omega)
theorem Wr.at0 {H:Mem} {b n:Nat} (h:Wr H b 0 n) (i m:Nat) (hi:i+m≤n):Wr H b i m:=by have:=h.part i m hi;rwa [Nat.zero_add] at this
def ones (vs:List Value):Bool:=vs.all fun v=>v.oneCell'
theorem run_stores (P:Program) (B:World) (d b:Nat):∀(vs:List Value) (H:Mem) (o i:Nat),Wr H b (o+i) vs.length→ones vs=true→
  (storeCells ⟨b,o,none⟩ vs i).run P (mk B H d)=.ok () (mk B (setcs H b (o+i) vs) d)
 | [],H,o,i,_,_=>rfl
 | v::vs,H,o,i,hw,h1=>by
  obtain ⟨⟨u,hu⟩,hf,_⟩:=hw 0 (by simp)
  simp only [Nat.add_zero] at hu hf
  simp only [ones,List.all_cons,Bool.and_eq_true] at h1
  have hw':Wr (setc H b (o+i) v) b (o+(i+1)) vs.length:=fun j hj=>by
   have:=(setc_wrote (v:=v) hu).fr.wr (n:=(v::vs).length) hw (j+1) (by simp;omega)
   rw [show o+(i+1)+j=o+i+(j+1) by omega]
   exact this
  have ih:=run_stores P B d b vs (setc H b (o+i) v) o (i+1) hw' h1.2
  simp only [storeCells,Sem.run_bind,Addr.add_lit]
  rw [run_store _ _ _ _ _ h1.1,mk_cell,hu]
  simp only [mk_frozen,hf,mk_setCell]
  simpa [setcs,Nat.add_assoc] using ih
theorem run_loads (P:Program) (B:World) (H:Mem) (d b o:Nat) (vs:List Value) (h:Rd H b o vs):(loadCells ⟨b,o,none⟩ vs.length).run P (mk B H d)=.ok vs.toArray (mk B H d):=
 run_loadCells_list _ _ _ fun j v hj=>by rw [Addr.add_lit,mk_cell];exact h j v hj
/-! ### New blocks -/
structure Made (H H':Mem) (c:Array Value) (e:TypeId):Prop where
 size:H'.size=H.size+1
 old:∀b,b<H.size→H'[b]?=H[b]?
 new:H'[H.size]?=some (.cells c e (0,0))
theorem made_push (H:Mem) (c:Array Value) (e:TypeId):Made H (H.push (.cells c e)) c e:=
 ⟨by simp,fun b hb=>by rw [Array.getElem?_push,if_neg (by omega)],by simp⟩
theorem Made.fr {H H':Mem} {c:Array Value} {e:TypeId} (h:Made H H' c e) (X:Nat→Nat→Prop):Fr X H H':=
 ⟨by rw [h.size];omega,fun b o hb _=>cl_of_blk (h.old b hb) o,fun b o hb=>fz_of_blk (h.old b hb) o,fun b hb=>shp_of_blk (h.old b hb),fun b hb _=>h.old b hb⟩
theorem Made.cl {H H':Mem} {c:Array Value} {e:TypeId} (h:Made H H' c e) (o:Nat):cl H' H.size o=c[o]?:=by unfold Bt.cl;rw [h.new]
theorem Made.fz {H H':Mem} {c:Array Value} {e:TypeId} (h:Made H H' c e) (o:Nat):fz H' H.size o=false:=by unfold Bt.fz;rw [h.new];simp
theorem Made.shp {H H':Mem} {c:Array Value} {e:TypeId} (h:Made H H' c e):shp H' H.size=some (e,c.size):=by unfold Bt.shp;rw [h.new]
theorem Made.rd {H H':Mem} {c:Array Value} {e:TypeId} (h:Made H H' c e) (vs rest:List Value) (hv:c.toList=vs++rest):Rd H' H.size 0 vs:=fun i v hi=>by
 rw [Nat.zero_add,h.cl,←Array.getElem?_toList,hv,List.getElem?_append_left (List.getElem?_eq_some_iff.1 hi).1];exact hi
theorem Made.wr {H H':Mem} {c:Array Value} {e:TypeId} (h:Made H H' c e) (n:Nat) (hn:n≤c.size) (he:e<1000:=by decide):Wr H' H.size 0 n:=fun i hi=>by
 rw [Nat.zero_add]
 exact ⟨⟨c[i],by rw [h.cl];simp [show i<c.size by omega]⟩,h.fz i,e,c.size,h.shp,he⟩
theorem Made.keep {H H':Mem} {c:Array Value} {e:TypeId} (h:Made H H' c e) {b o:Nat} {v:Value} (hc:Bt.cl H b o=some v):Bt.cl H' b o=some v:=(h.fr nowhere).keep hc id
/-! ### A contract: from the heap H,whatever has been drawn so far,the call returns,and Q holds of what it hands back and of the heap then -/
def Fn (P:Program) (B:World) (f:FuncId) (args:List Value) (H:Mem) (Q:Value→Mem→Prop):Prop:=
 ∀d,Calls P f args.toArray (mk B H d) (Ret fun v w'=>∃H' d',w'=mk B H' d'∧Q v H')
theorem Fn.mono {P:Program} {B:World} {f:FuncId} {args:List Value} {H:Mem} {Q Q':Value→Mem→Prop} (h:Fn P B f args H Q) (hq:∀v H',Q v H'→Q' v H'):Fn P B f args H Q':=
 fun d=>(h d).mono fun e w' he=>by
  cases e with
  | returned v=>obtain ⟨H',d',h1,h2⟩:=he;exact ⟨H',d',h1,hq _ _ h2⟩
  | panicked c=>exact he
  | outgrown=>exact he
def Post' (B:World) (Q:Value→Mem→Prop):Post:=fun v w'=>∃H' d',w'=mk B H' d'∧Q v H'
def Go' (P:Program) (B:World) (f:FuncId) (Q:Value→Mem→Prop) (n:Nat) (r:Env) (k:List Item) (H:Mem):Prop:=
 ∀d,Run P f (Post' B Q) n r k (mk B H d)
def Pl (P:Program) (B:World) (f:FuncId) (Q:Value→Mem→Prop) (n:Nat) (l:List Oper) (C:Mem→Prop) (k:List Item) (p:List (Nat×Nat)) (r:Env) (H:Mem):Prop:=
 ∀d a,Sees n r a→planRun P l (fun w=>∃H d,w=mk B H d∧C H) (Cont P f (Post' B Q) k) p a (mk B H d)
section
variable {P:Program} {B:World} {f:FuncId} {Q:Value→Mem→Prop} {n:Nat} {r:Env} {k:List Item} {H:Mem}
theorem fn_of {fn:Func} {c:Code} {vs:List Value} {m:Nat} (hf:P.funcs[f]?=some fn) (hb:fn.body=some c) (hn:fn.ntmps=m)
  (h:Go' P B f Q (vs.length+(m-vs.length)) (argEnv 0 vs) [.code c] H):Fn P B f vs H Q:=fun d=>calls_of_run hf hb hn (h d)
theorem Go'.seq {x y:Code} (h:Go' P B f Q n r (.code x::.code y::k) H):Go' P B f Q n r (.code (.seq x y)::k) H:=fun d=>Run.seq (h d)
theorem Go'.skip (h:Go' P B f Q n r k H):Go' P B f Q n r (.code .skip::k) H:=fun d=>Run.skip (h d)
theorem Go'.label {l:Nat} (h:Go' P B f Q n r k H):Go' P B f Q n r (.code (.label l)::k) H:=fun d=>Run.label (h d)
theorem Go'.block {id:Nat} {c:Code} (h:Go' P B f Q n r (.code c::.inBlock id::k) H):Go' P B f Q n r (.code (.block id c)::k) H:=fun d=>Run.block (h d)
theorem Go'.inBlock {id:Nat} (h:Go' P B f Q n r k H):Go' P B f Q n r (.inBlock id::k) H:=fun d=>Run.inBlock (h d)
theorem Go'.loop {c:Code} (h:Go' P B f Q n r (.code c::.inLoop c::k) H):Go' P B f Q n r (.code (.loop c)::k) H:=fun d=>Run.loop (h d)
theorem Go'.inLoop {c:Code} (h:Go' P B f Q n r (.code c::.inLoop c::k) H):Go' P B f Q n r (.inLoop c::k) H:=fun d=>Run.inLoop (h d)
theorem Go'.scope {c:Code} (h:Go' P B f Q n r (.code c::.inScope c::k) H):Go' P B f Q n r (.code (.scope c)::k) H:=fun d=>Run.scope (h d)
theorem Go'.inScope {c:Code} (h:Go' P B f Q n r k H):Go' P B f Q n r (.inScope c::k) H:=fun d=>Run.inScope (h d)
theorem Go'.exit {id:Nat} {k':List Item} (hx:exitTo id k=some k') (h:Go' P B f Q n r k' H):Go' P B f Q n r (.code (.exit id)::k) H:=fun d=>Run.exit hx (h d)
theorem Go'.goto {l:Nat} {k':List Item} (hx:gotoIn l k=some k') (h:Go' P B f Q n r k' H):Go' P B f Q n r (.code (.goto l)::k) H:=fun d=>Run.goto hx (h d)
theorem Go'.condT {c:Operand} {x y:Code} (hc:ev r c=some (.bool true)) (h:Go' P B f Q n r (.code x::k) H):Go' P B f Q n r (.code (.cond c x y)::k) H:=fun d=>Run.condT hc (h d)
theorem Go'.condF {c:Operand} {x y:Code} (hc:ev r c=some (.bool false)) (h:Go' P B f Q n r (.code y::k) H):Go' P B f Q n r (.code (.cond c x y)::k) H:=fun d=>Run.condF hc (h d)
theorem Go'.keep (q:Env) (hs:Env.Sub q r) (h:Go' P B f Q n q k H):Go' P B f Q n r k H:=fun d=>Run.keep q hs (h d)
def resAt (P:Program) (H:Mem) (r:Env):List ResultVar→List Value→Prop
 | [],[]=>True
 | .tmp t::rs,v::vs=>r.get t=some v∧resAt P H r rs vs
 | .cell t ty::rs,v::vs=>(∃b o,r.get t=some (.pointer (some ⟨b,o,none⟩))∧∀B d,(loadVar ty ⟨b,o,none⟩).run P (mk B H d)=.ok v (mk B H d))∧resAt P H r rs vs
 | _,_=>False
theorem resAt.of (d:Nat):∀(rs:List ResultVar) (vs:List Value),resAt P H r rs vs→resOf P r (mk B H d) rs vs
 | [],[],_=>trivial
 | [],_::_,h=>by simp [resAt] at h
 | .tmp t::rs,[],h=>by simp [resAt] at h
 | .cell t ty::rs,[],h=>by simp [resAt] at h
 | .tmp t::rs,v::vs,h=>⟨h.1,resAt.of d rs vs h.2⟩
 | .cell t ty::rs,v::vs,h=>by
  obtain ⟨⟨b,o,h1,h2⟩,h3⟩:=h
  exact ⟨⟨⟨b,o,none⟩,h1,h2 B d⟩,resAt.of d rs vs h3⟩
theorem Go'.ret {fn:Func} {rs:List ResultVar} {vs:List Value} (hf:P.funcs[f]?=some fn) (hr:fn.results=rs.toArray) (h:resAt P H r rs vs) (hQ:Q (resVal vs) H):
  Go' P B f Q n r (.code .ret::k) H:=fun d=>Run.ret hf hr (h.of d rs vs) ⟨H,d,rfl,hQ⟩
theorem Go'.fall {fn:Func} {rs:List ResultVar} {vs:List Value} (hf:P.funcs[f]?=some fn) (hr:fn.results=rs.toArray) (h:resAt P H r rs vs) (hQ:Q (resVal vs) H):
  Go' P B f Q n r [] H:=fun d=>Run.fall hf hr (h.of d rs vs) ⟨H,d,rfl,hQ⟩
/-! Regions. -/
theorem Cont.of_wp {R:Post} {c:Code} {a:Act} {w:World} (h:c.wp P (fun e a' w'=>e=.normal∧Cont P f R k a' w') a w):Cont P f R (.code c::k) a w:=fun b cs hb hk=>by
 obtain ⟨e,a',w',⟨rfl,hc⟩,harr⟩:=h b k cs
 obtain ⟨v,w'',fr,h1,h2,h3,h4⟩:=hc b cs hb hk
 exact ⟨v,w'',fr,h1,Steps.trans harr h2,h3,h4⟩
theorem Go'.region {id:Nat} {l:List Oper} (p:List (Nat×Nat)) (hp:(p.map (·.1),p.all fun y=>Nat.blt y.2 3)=(List.range l.length,true)) (h:Pl P B f Q n l (fun _=>True) k p r H):
  Go' P B f Q n r (.code (.region id l.toArray false)::k) H:=fun d a ha=>
 Cont.of_wp (wp_of_text p hp (fun _ _ h=>⟨rfl,h⟩) ⟨H,d,rfl,trivial⟩ (h d a ha))
theorem Go'.draw {id:Nat} {l:List Oper} (C:Mem→Prop) (p:List (Nat×Nat)) (hm:P.follows .mixedOrders=true) (hp:planOk l p=true) (hC:C H) (h:Pl P B f Q n l C k p r H):
  Go' P B f Q n r (.code (.region id l.toArray true)::k) H:=fun d a ha=>
 Cont.of_wp (wp_of_plan p hm hp (fun _ _ h=>⟨rfl,h⟩) ⟨H,d+1,rfl,hC⟩ (h (d+1) a ha))
theorem Go'.draw2 {id:Nat} {l:List Oper} (C:Mem→Prop) (J:Mem→Prop) (q:Env) (e1 e2:Nat) (p p':List (Nat×Nat)) (hm:P.follows .mixedOrders=true) (hp:plan2Ok l e1 e2 p p'=true) (hC:C H)
  (h:∀{f Q k},(∀H',J H'→Go' P B f Q n q k H')→Pl P B f Q n l C k p r H) (h':∀{f Q k},(∀H',J H'→Go' P B f Q n q k H')→Pl P B f Q n l C k p' r H) (hc:∀H',J H'→Go' P B f Q n q k H'):
  Go' P B f Q n r (.code (.region id l.toArray true)::k) H:=fun d a ha=>
 Cont.of_wp (wp_of_plan2 e1 e2 p p' hm hp (fun _ _ h=>⟨rfl,h⟩) ⟨H,d+1,rfl,hC⟩ (h hc (d+1) a ha) (h' hc (d+1) a ha))
theorem Go'.draw2s {id:Nat} {l:List Oper} {σ:Type} (C:Mem→Prop) (J:σ→Mem→Prop) (q:σ→Env) (e1 e2:Nat) (p p':List (Nat×Nat)) (hm:P.follows .mixedOrders=true) (hp:plan2Ok l e1 e2 p p'=true) (hC:C H)
  (h:∀{f Q k},(∀x H',J x H'→Go' P B f Q n (q x) k H')→Pl P B f Q n l C k p r H) (h':∀{f Q k},(∀x H',J x H'→Go' P B f Q n (q x) k H')→Pl P B f Q n l C k p' r H) (hc:∀x H',J x H'→Go' P B f Q n (q x) k H'):
  Go' P B f Q n r (.code (.region id l.toArray true)::k) H:=fun d a ha=>
 Cont.of_wp (wp_of_plan2 e1 e2 p p' hm hp (fun _ _ h=>⟨rfl,h⟩) ⟨H,d+1,rfl,hC⟩ (h hc (d+1) a ha) (h' hc (d+1) a ha))
variable {l:List Oper} {C:Mem→Prop} {p:List (Nat×Nat)}
theorem Pl.fin (q:Env) (hs:Env.Sub q r) (h:Go' P B f Q n q k H):Pl P B f Q n l C k [] r H:=fun d a ha=>h d a (ha.sub hs)
/-! Whether an operation is wanted. -/
def guardOn (l:List Oper) (r:Env):Option (Nat×Bool)→Bool
 | none=>true
 | some (j,want)=>match (l[j]?).bind (·.dst) with
  | some t=>match r.get t with
   | some (.bool b)=>match b,want with
    | true,true=>true
    | false,false=>true
    | _,_=>false
   | _=>false
  | none=>false
def guardOff (l:List Oper) (r:Env):Option (Nat×Bool)→Bool
 | none=>false
 | some (j,want)=>match (l[j]?).bind (·.dst) with
  | some t=>match r.get t with
   | some (.bool b)=>match b,want with
    | true,false=>true
    | false,true=>true
    | _,_=>false
   | some (.tuple _)=>true
   | _=>false
  | none=>false
theorem guardOn_wanted {o:Oper} {a:Act} (ha:Sees n r a) (h:guardOn l r o.guard=true):Region.wanted o (yielded l.toArray a.tmps)=true:=by
 unfold Region.wanted
 cases hg:o.guard with
 | none=>rfl
 | some jw=>
  obtain ⟨j,want⟩:=jw
  rw [hg] at h
  simp only [guardOn] at h
  split at h
  ·
   rename_i t ht
   split at h
   ·
    rename_i b hb
    have h3:=ha.2.2 t _ hb
    have:yielded l.toArray a.tmps j=some b:=by
     unfold yielded
     have ht':(l.toArray[j]?).bind (·.dst)=some t:=by simpa using ht
     rw [ht']
     simp only [Option.bind_some,h3]
    simp only [this]
    cases b<;>cases want<;>simp_all
   · cases h
  · cases h
theorem guardOff_wanted {o:Oper} {a:Act} (ha:Sees n r a) (h:guardOff l r o.guard=true):Region.wanted o (yielded l.toArray a.tmps)=false:=by
 unfold Region.wanted
 cases hg:o.guard with
 | none=>rw [hg] at h;cases h
 | some jw=>
  obtain ⟨j,want⟩:=jw
  rw [hg] at h
  simp only [guardOff] at h
  split at h
  ·
   rename_i t ht
   have ht':(l.toArray[j]?).bind (·.dst)=some t:=by simpa using ht
   split at h
   ·
    rename_i b hb
    have h3:=ha.2.2 t _ hb
    have:yielded l.toArray a.tmps j=some b:=by
     unfold yielded
     rw [ht']
     simp only [Option.bind_some,h3]
    simp only [this]
    cases b<;>cases want<;>simp_all
   ·
    rename_i b hb
    have h3:=ha.2.2 t _ hb
    have:yielded l.toArray a.tmps j=none:=by
     unfold yielded
     rw [ht']
     simp only [Option.bind_some,h3]
    simp only [this]
    rfl
   · cases h
  · cases h
def hIn (C:Mem→Prop) (kd:Nat) (H H':Mem):Prop:=(kd=0∧C H')∨(kd=1∧H'=H)
theorem Pl.quiet {i kd d:Nat} {op:Op} {ty:TypeId} {pos:String} {af:Array Edge} {gd:Option (Nat×Bool)} {v:Value} (hi:l[i]?=some ⟨some d,op,ty,pos,af,gd⟩) (hk:Nat.blt kd 2=true)
  (hg:guardOn l r gd=true) (hd:Nat.blt d n=true)
  (hrun:∀a H' d',Sees n r a→hIn C kd H H'→(execOp a.eval ⟨some d,op,ty,pos,af,gd⟩).run P (mk B H' d')=.ok (.value v) (mk B H' d'))
  (h:Pl P B f Q n l C k p ((d,v)::r) H):Pl P B f Q n l C k ((i,kd)::p) r H:=fun dd a ha=>by
 refine .inl ⟨by simpa using hk,_,v,hi,fun w' hw'=>.inl ⟨guardOn_wanted ha hg,?_⟩,h dd _ (ha.put hd)⟩
 rcases hw' with ⟨h0,H',d',rfl,hC⟩|⟨h1,rfl⟩
 · exact hrun a H' d' ha (.inl ⟨h0,hC⟩)
 · exact hrun a H dd ha (.inr ⟨h1,rfl⟩)
theorem Pl.pass {i kd d:Nat} {op:Op} {ty:TypeId} {pos:String} {af:Array Edge} {gd:Option (Nat×Bool)} (hi:l[i]?=some ⟨some d,op,ty,pos,af,gd⟩) (hk:Nat.blt kd 2=true)
  (hg:guardOff l r gd=true) (hd:Nat.blt d n=true) (h:Pl P B f Q n l C k p ((d,undef)::r) H):Pl P B f Q n l C k ((i,kd)::p) r H:=fun dd a ha=>
 .inl ⟨by simpa using hk,_,undef,hi,fun _ _=>.inr ⟨guardOff_wanted ha hg,rfl⟩,h dd _ (ha.put hd)⟩
theorem Pl.pass2 {i kd:Nat} {dst:Option Tmp} {op:Op} {ty:TypeId} {pos:String} {af:Array Edge} {gd:Option (Nat×Bool)} (hi:l[i]?=some ⟨dst,op,ty,pos,af,gd⟩) (hk:Nat.blt 1 kd=true)
  (hg:guardOff l r gd=true) (hd:(match dst with|some d=>Nat.blt d n|none=>true)=true) (hC:C H) (h:Pl P B f Q n l C k p (match dst with|some d=>(d,undef)::r|none=>r) H):
  Pl P B f Q n l C k ((i,kd)::p) r H:=fun dd a ha=>by
 refine .inr ⟨Nat.succ_le_of_lt (by simpa using hk),_,hi,.inr ⟨guardOff_wanted ha hg,fun _=>⟨H,dd,rfl,hC⟩,?_⟩⟩
 cases dst with
 | none=>exact h dd a ha
 | some d=>exact h dd _ (ha.put hd)
theorem Pl.loudV {i kd d:Nat} {op:Op} {ty:TypeId} {pos:String} {af:Array Edge} {gd:Option (Nat×Bool)} (hi:l[i]?=some ⟨some d,op,ty,pos,af,gd⟩) (hk:Nat.blt 1 kd=true)
  (hg:guardOn l r gd=true) (hd:Nat.blt d n=true) (R:Value→Mem→Prop)
  (hrun:∀a d',Sees n r a→∃v H' d'',(execOp a.eval ⟨some d,op,ty,pos,af,gd⟩).run P (mk B H d')=.ok (.value v) (mk B H' d'')∧R v H')
  (h:∀v H',R v H'→C H'∧Pl P B f Q n l C k p ((d,v)::r) H'):Pl P B f Q n l C k ((i,kd)::p) r H:=fun dd a ha=>by
 obtain ⟨v,H',d'',h1,h2⟩:=hrun a dd ha
 obtain ⟨h3,h4⟩:=h v H' h2
 refine .inr ⟨Nat.succ_le_of_lt (by simpa using hk),_,hi,.inl ⟨guardOn_wanted ha hg,?_⟩⟩
 rw [h1]
 exact ⟨fun _=>⟨H',d'',rfl,h3⟩,h4 d'' _ (ha.put hd)⟩
theorem Pl.loudN {i kd:Nat} {op:Op} {ty:TypeId} {pos:String} {af:Array Edge} {gd:Option (Nat×Bool)} (hi:l[i]?=some ⟨none,op,ty,pos,af,gd⟩) (hk:Nat.blt 1 kd=true)
  (hg:guardOn l r gd=true) (R:Mem→Prop)
  (hrun:∀a d',Sees n r a→∃H' d'',(execOp a.eval ⟨none,op,ty,pos,af,gd⟩).run P (mk B H d')=.ok .skip (mk B H' d'')∧R H')
  (h:∀H',R H'→C H'∧Pl P B f Q n l C k p r H'):Pl P B f Q n l C k ((i,kd)::p) r H:=fun dd a ha=>by
 obtain ⟨H',d'',h1,h2⟩:=hrun a dd ha
 obtain ⟨h3,h4⟩:=h H' h2
 refine .inr ⟨Nat.succ_le_of_lt (by simpa using hk),_,hi,.inl ⟨guardOn_wanted ha hg,?_⟩⟩
 rw [h1]
 exact ⟨fun _=>⟨H',d'',rfl,h3⟩,h4 d'' _ ha⟩
theorem Pl.lastN {i kd:Nat} {op:Op} {ty:TypeId} {pos:String} {af:Array Edge} {gd:Option (Nat×Bool)} (hi:l[i]?=some ⟨none,op,ty,pos,af,gd⟩) (hk:Nat.blt 2 kd=true)
  (hg:guardOn l r gd=true) (R:Mem→Prop)
  (hrun:∀a d',Sees n r a→∃H' d'',(execOp a.eval ⟨none,op,ty,pos,af,gd⟩).run P (mk B H d')=.ok .skip (mk B H' d'')∧R H')
  (h:∀H',R H'→Pl P B f Q n l C k p r H'):Pl P B f Q n l C k ((i,kd)::p) r H:=fun dd a ha=>by
 obtain ⟨H',d'',h1,h2⟩:=hrun a dd ha
 have h4:=h H' h2
 have hk':2<kd:=by simpa using hk
 refine .inr ⟨Nat.le_of_lt hk',_,hi,.inl ⟨guardOn_wanted ha hg,?_⟩⟩
 rw [h1]
 exact ⟨fun e=>absurd (show kd=2 from e) (by omega),h4 d'' _ ha⟩
theorem Pl.enter {i kd:Nat} {dst:Option Tmp} {op:Op} {ty:TypeId} {pos:String} {af:Array Edge} {gd:Option (Nat×Bool)} {g:FuncId} {args:List Value} {R:Value→Mem→Prop} (hi:l[i]?=some ⟨dst,op,ty,pos,af,gd⟩)
  (hk:Nat.blt 1 kd=true) (hg:guardOn l r gd=true) (hd:(match dst with|some d=>Nat.blt d n|none=>true)=true)
  (hrun:∀a d',Sees n r a→(execOp a.eval ⟨dst,op,ty,pos,af,gd⟩).run P (mk B H d')=.ok (.enter g args.toArray) (mk B H d'))
  (hc:Fn P B g args H R) (h:∀v H',R v H'→C H'∧Pl P B f Q n l C k p (match dst with|some d=>(d,v)::r|none=>r) H'):Pl P B f Q n l C k ((i,kd)::p) r H:=fun dd a ha=>by
 refine .inr ⟨Nat.succ_le_of_lt (by simpa using hk),_,hi,.inl ⟨guardOn_wanted ha hg,?_⟩⟩
 rw [hrun a dd ha]
 refine (hc dd).mono fun e w' he=>?_
 cases e with
 | returned v=>
  obtain ⟨H',d',rfl,hR⟩:=he
  obtain ⟨h1,h2⟩:=h v H' hR
  refine ⟨fun _=>⟨H',d',rfl,h1⟩,?_⟩
  cases dst with
  | none=>exact h2 d' a ha
  | some d=>exact h2 d' _ (ha.put hd)
 | panicked c=>exact he
 | outgrown=>exact he
end
/-! What is to be known of a type. -/
def Flat (P:Program) (t:TypeId):Prop:=∀w,(isAgg t).run P w=.ok false w∧(sizeOf t).run P w=.ok 1 w
def AggT (P:Program) (t:TypeId) (s:Nat):Prop:=∀w,(isAgg t).run P w=.ok true w∧(sizeOf t).run P w=.ok s w
def Sz (P:Program) (t:TypeId) (s:Nat):Prop:=∀w,(sizeOf t).run P w=.ok s w
def Zero (P:Program) (t:TypeId) (v:Value):Prop:=∀w,(zeroValue t).run P w=.ok v w
def FieldAt (P:Program) (s:TypeId) (f off:Nat):Prop:=∃fs fd sz,P.underlying s=some (.struct fs)∧fs[f]?=some fd∧fd.offset=off∧Sz P fd.type (sz+1)
theorem wrap_id {z:Int} (h:-9223372036854775808≤z∧z<9223372036854775808):IntKind.i64.wrap z=z:=IntWalk.i64_in z (by omega)
/-! ### The runs -/
section
variable {P:Program} {B:World} {H:Mem} {d:Nat}
theorem run_und {t:TypeId} {x:TypeDesc} (h:P.underlying t=some x) (w:World):(underlying t).run P w=.ok x w:=run_underlying h w
theorem run_loadVar_flat {t:TypeId} {b o:Nat} {v:Value} (ht:Flat P t) (hc:cl H b o=some v):(loadVar t ⟨b,o,none⟩).run P (mk B H d)=.ok v (mk B H d):=by
 simp only [loadVar,Sem.run_bind,(ht _).1,Result.andThen_ok,Bool.false_eq_true,if_false,run_load,mk_cell,hc]
theorem run_loadVar_agg {t:TypeId} {b o s:Nat} {vs:List Value} (ht:AggT P t s) (hl:vs.length=s) (hc:Rd H b o vs):(loadVar t ⟨b,o,none⟩).run P (mk B H d)=.ok (.agg vs.toArray) (mk B H d):=by
 subst hl
 simp only [loadVar,Sem.run_bind,(ht _).1,(ht _).2,Result.andThen_ok,if_true,run_loads P B H d b o vs hc,Sem.run_pure]
theorem run_storeVar {t:TypeId} {b o s:Nat} {v:Value} {vs:List Value} (ht:Sz P t s) (hv:v.cells=vs.toArray) (hl:vs.length=s) (h1:ones vs=true) (hw:Wr H b o s):
  (storeVar t ⟨b,o,none⟩ v).run P (mk B H d)=.ok () (mk B (setcs H b o vs) d):=by
 subst hl
 have:=run_stores P B d b vs H o 0 (by simpa using hw) h1
 simp only [Nat.add_zero] at this
 simp [storeVar,ht _,hv,this]
theorem run_fieldAt {s:TypeId} {f off b o:Nat} (h:FieldAt P s f off) (w:World):(Instr.fieldAt s (.pointer (some ⟨b,o,none⟩)) f).run P w=.ok (.pointer (some ⟨b,o+off,none⟩)) w:=by
 obtain ⟨fs,fd,sz,h1,h2,h3,h4⟩:=h
 subst h3
 simp [Instr.fieldAt,run_und h1,h2,Instr.sureAddr,fieldPlace,h4 _,Addr.add_lit]
theorem run_indexAt {t e:TypeId} {s b o len cap i:Nat} {kk:IntKind} (hu:P.underlying t=some (.slice e)) (hs:Sz P e s) (hi:i<len) (w:World):
  (Instr.indexAt t (.slice (some ⟨b,o,none⟩) len cap) (.int kk (i:Int))).run P w=.ok (.pointer (some ⟨b,o+i*s,none⟩)) w:=by
 have h:(0:Int)≤(i:Int)∧(i:Int)<(len:Int):=by omega
 simp only [Instr.indexAt,asIntOf,Sem.run_bind,Sem.run_pure,Result.andThen_ok,run_und hu,if_pos h,hs _,Int.toNat_natCast,Addr.add_lit]
end
section
variable {P:Program} {B:World} {f:FuncId} {Q:Value→Mem→Prop} {n:Nat} {r:Env} {k:List Item} {H:Mem} {l:List Oper} {C:Mem→Prop} {p:List (Nat×Nat)}
variable {i kd d:Nat} {ty:TypeId} {pos:String} {af:Array Edge} {gd:Option (Nat×Bool)}
theorem O.mv {x:Operand} {v:Value} (hi:l[i]?=some ⟨some d,.move x,ty,pos,af,gd⟩) (hk:Nat.blt kd 2=true) (hg:guardOn l r gd=true) (hd:Nat.blt d n=true) (hx:ev r x=some v)
  (h:Pl P B f Q n l C k p ((d,v)::r) H):Pl P B f Q n l C k ((i,kd)::p) r H:=
 Pl.quiet hi hk hg hd (fun a H' d' ha _=>by simp [execOp,ha.eval hx]) h
theorem O.pick {c x y:Operand} {t:Bool} {v:Value} (hi:l[i]?=some ⟨some d,.pick c x y,ty,pos,af,gd⟩) (hk:Nat.blt kd 2=true) (hg:guardOn l r gd=true) (hd:Nat.blt d n=true) (hc:ev r c=some (.bool t))
  (hx:ev r (bif t then x else y)=some v) (h:Pl P B f Q n l C k p ((d,v)::r) H):Pl P B f Q n l C k ((i,kd)::p) r H:=
 Pl.quiet hi hk hg hd (fun a H' d' ha _=>by
  have:=ha.eval hx
  cases t<;>simp_all [execOp,ha.eval hc,asBool]) h
theorem O.ld {t:TypeId} {x:Operand} {b o:Nat} {v:Value} (hi:l[i]?=some ⟨some d,.load t x,ty,pos,af,gd⟩) (hg:guardOn l r gd=true) (hd:Nat.blt d n=true) (ht:Flat P t)
  (hx:ev r x=some (.pointer (some ⟨b,o,none⟩))) (hc:cl H b o=some v) (h:Pl P B f Q n l C k p ((d,v)::r) H):Pl P B f Q n l C k ((i,1)::p) r H:=
 Pl.quiet hi rfl hg hd (fun a H' d' ha hH=>by
  obtain rfl:H'=H:=hH.elim (fun h=>absurd h.1 (by decide)) (fun h=>h.2)
  simp [execOp,ha.eval hx,Instr.loadAt,Instr.sureAddr,run_loadVar_flat ht hc]) h
theorem O.ldC {t:TypeId} {x:Operand} {b o:Nat} {v:Value} (hi:l[i]?=some ⟨some d,.load t x,ty,pos,af,gd⟩) (hg:guardOn l r gd=true) (hd:Nat.blt d n=true) (ht:Flat P t)
  (hx:ev r x=some (.pointer (some ⟨b,o,none⟩))) (hc:∀H',C H'→cl H' b o=some v) (h:Pl P B f Q n l C k p ((d,v)::r) H):Pl P B f Q n l C k ((i,0)::p) r H:=
 Pl.quiet hi rfl hg hd (fun a H' d' ha hH=>by
  have hC:C H':=hH.elim (fun h=>h.2) (fun h=>absurd h.1 (by decide))
  simp [execOp,ha.eval hx,Instr.loadAt,Instr.sureAddr,run_loadVar_flat ht (hc H' hC)]) h
theorem O.lds {t:TypeId} {x:Operand} {b o s:Nat} {vs:List Value} (hi:l[i]?=some ⟨some d,.load t x,ty,pos,af,gd⟩) (hg:guardOn l r gd=true) (hd:Nat.blt d n=true) (ht:AggT P t s)
  (hx:ev r x=some (.pointer (some ⟨b,o,none⟩))) (hl:vs.length=s) (hc:Rd H b o vs) (h:Pl P B f Q n l C k p ((d,.agg vs.toArray)::r) H):Pl P B f Q n l C k ((i,1)::p) r H:=
 Pl.quiet hi rfl hg hd (fun a H' d' ha hH=>by
  obtain rfl:H'=H:=hH.elim (fun h=>absurd h.1 (by decide)) (fun h=>h.2)
  simp [execOp,ha.eval hx,Instr.loadAt,Instr.sureAddr,run_loadVar_agg ht hl hc]) h
theorem O.ldsC {t:TypeId} {x:Operand} {b o s:Nat} {vs:List Value} (hi:l[i]?=some ⟨some d,.load t x,ty,pos,af,gd⟩) (hg:guardOn l r gd=true) (hd:Nat.blt d n=true) (ht:AggT P t s)
  (hx:ev r x=some (.pointer (some ⟨b,o,none⟩))) (hl:vs.length=s) (hc:∀H',C H'→Rd H' b o vs) (h:Pl P B f Q n l C k p ((d,.agg vs.toArray)::r) H):Pl P B f Q n l C k ((i,0)::p) r H:=
 Pl.quiet hi rfl hg hd (fun a H' d' ha hH=>by
  have hC:C H':=hH.elim (fun h=>h.2) (fun h=>absurd h.1 (by decide))
  simp [execOp,ha.eval hx,Instr.loadAt,Instr.sureAddr,run_loadVar_agg ht hl (hc H' hC)]) h
theorem O.fa {s:TypeId} {x:Operand} {b o fld off:Nat} (hi:l[i]?=some ⟨some d,.fieldAddr s x fld,ty,pos,af,gd⟩) (hk:Nat.blt kd 2=true) (hg:guardOn l r gd=true) (hd:Nat.blt d n=true) (hf:FieldAt P s fld off)
  (hx:ev r x=some (.pointer (some ⟨b,o,none⟩))) (h:Pl P B f Q n l C k p ((d,.pointer (some ⟨b,o+off,none⟩))::r) H):Pl P B f Q n l C k ((i,kd)::p) r H:=
 Pl.quiet hi hk hg hd (fun a H' d' ha _=>by simp [execOp,ha.eval hx,run_fieldAt hf]) h
theorem O.ix {t e:TypeId} {x ix:Operand} {b o s len cap j:Nat} {kk:IntKind} {z:Int} (hi:l[i]?=some ⟨some d,.indexAddr t x ix,ty,pos,af,gd⟩) (hk:Nat.blt kd 2=true) (hg:guardOn l r gd=true) (hd:Nat.blt d n=true)
  (hu:P.underlying t=some (.slice e)) (hs:Sz P e s) (hx:ev r x=some (.slice (some ⟨b,o,none⟩) len cap)) (hix:ev r ix=some (.int kk z)) (hz:z=(j:Int)) (hj:j<len)
  (h:Pl P B f Q n l C k p ((d,.pointer (some ⟨b,o+j*s,none⟩))::r) H):Pl P B f Q n l C k ((i,kd)::p) r H:=
 Pl.quiet hi hk hg hd (fun a H' d' ha _=>by subst hz;simp [execOp,ha.eval hx,ha.eval hix,run_indexAt hu hs hj]) h
theorem O.not {t:TypeId} {x:Operand} {v:Bool} (hi:l[i]?=some ⟨some d,.unOp .not t x,ty,pos,af,gd⟩) (hk:Nat.blt kd 2=true) (hg:guardOn l r gd=true) (hd:Nat.blt d n=true) (hx:ev r x=some (.bool v))
  (h:Pl P B f Q n l C k p ((d,.bool (!v))::r) H):Pl P B f Q n l C k ((i,kd)::p) r H:=
 Pl.quiet hi hk hg hd (fun a H' d' ha _=>by simp [execOp,ha.eval hx,Op.unary]) h
/-! Integers. -/
theorem O.bin {op:BinOp} {t t':TypeId} {x y:Operand} {a b:Value} {v:Value} (hi:l[i]?=some ⟨some d,.binOp op t x y t',ty,pos,af,gd⟩) (hk:Nat.blt kd 2=true) (hg:guardOn l r gd=true) (hd:Nat.blt d n=true)
  (hx:ev r x=some a) (hy:ev r y=some b) (hr:∀w,(eqGuard op t x y a b).run P w=.ok () w∧(binOp op t a b).run P w=.ok v w) (h:Pl P B f Q n l C k p ((d,v)::r) H):Pl P B f Q n l C k ((i,kd)::p) r H:=
 Pl.quiet hi hk hg hd (fun a H' d' ha _=>by simp [execOp,ha.eval hx,ha.eval hy,hr]) h
theorem run_eqGuard_int (op:BinOp) (t:TypeId) (x y:Operand) (kk kl:IntKind) (a b:Int) (w:World):(eqGuard op t x y (.int kk a) (.int kl b)).run P w=.ok () w:=by
 unfold eqGuard
 split<;>simp
theorem O.add {t t':TypeId} {x y:Operand} {a b:Int} (z:Int) (hi:l[i]?=some ⟨some d,.binOp .add t x y t',ty,pos,af,gd⟩) (hk:Nat.blt kd 2=true) (hg:guardOn l r gd=true) (hd:Nat.blt d n=true)
  (hx:ev r x=some (.int .i64 a)) (hy:ev r y=some (.int .i64 b)) (hz:a+b=z) (hb:-9223372036854775808≤z∧z<9223372036854775808) (h:Pl P B f Q n l C k p ((d,.int .i64 z)::r) H):Pl P B f Q n l C k ((i,kd)::p) r H:=
 O.bin hi hk hg hd hx hy (fun w=>⟨run_eqGuard_int _ _ _ _ _ _ _ _ w,by simp only [binOp,Op.intArith,if_neg (not_not_intro rfl),hz,wrap_id hb,Sem.run_pure]⟩) h
theorem O.sub {t t':TypeId} {x y:Operand} {a b:Int} (z:Int) (hi:l[i]?=some ⟨some d,.binOp .sub t x y t',ty,pos,af,gd⟩) (hk:Nat.blt kd 2=true) (hg:guardOn l r gd=true) (hd:Nat.blt d n=true)
  (hx:ev r x=some (.int .i64 a)) (hy:ev r y=some (.int .i64 b)) (hz:a-b=z) (hb:-9223372036854775808≤z∧z<9223372036854775808) (h:Pl P B f Q n l C k p ((d,.int .i64 z)::r) H):Pl P B f Q n l C k ((i,kd)::p) r H:=
 O.bin hi hk hg hd hx hy (fun w=>⟨run_eqGuard_int _ _ _ _ _ _ _ _ w,by simp only [binOp,Op.intArith,if_neg (not_not_intro rfl),hz,wrap_id hb,Sem.run_pure]⟩) h
theorem O.mul {t t':TypeId} {x y:Operand} {a b:Int} (z:Int) (hi:l[i]?=some ⟨some d,.binOp .mul t x y t',ty,pos,af,gd⟩) (hk:Nat.blt kd 2=true) (hg:guardOn l r gd=true) (hd:Nat.blt d n=true)
  (hx:ev r x=some (.int .i64 a)) (hy:ev r y=some (.int .i64 b)) (hz:a*b=z) (hb:-9223372036854775808≤z∧z<9223372036854775808) (h:Pl P B f Q n l C k p ((d,.int .i64 z)::r) H):Pl P B f Q n l C k ((i,kd)::p) r H:=
 O.bin hi hk hg hd hx hy (fun w=>⟨run_eqGuard_int _ _ _ _ _ _ _ _ w,by simp only [binOp,Op.intArith,if_neg (not_not_intro rfl),hz,wrap_id hb,Sem.run_pure]⟩) h
theorem O.quo {t t':TypeId} {x y:Operand} {a b:Int} (z:Int) (hi:l[i]?=some ⟨some d,.binOp .quo t x y t',ty,pos,af,gd⟩) (hk:Nat.blt kd 2=true) (hg:guardOn l r gd=true) (hd:Nat.blt d n=true)
  (hx:ev r x=some (.int .i64 a)) (hy:ev r y=some (.int .i64 b)) (h0:b≠0) (hz:a.tdiv b=z) (hb:-9223372036854775808≤z∧z<9223372036854775808) (h:Pl P B f Q n l C k p ((d,.int .i64 z)::r) H):Pl P B f Q n l C k ((i,kd)::p) r H:=
 O.bin hi hk hg hd hx hy (fun w=>⟨run_eqGuard_int _ _ _ _ _ _ _ _ w,by simp only [binOp,Op.intDiv,if_neg (not_not_intro rfl),if_neg h0,hz,wrap_id hb,Sem.run_pure]⟩) h
theorem O.rem {t t':TypeId} {x y:Operand} {kk:IntKind} {a b:Int} (z:Int) (hi:l[i]?=some ⟨some d,.binOp .rem t x y t',ty,pos,af,gd⟩) (hk:Nat.blt kd 2=true) (hg:guardOn l r gd=true) (hd:Nat.blt d n=true)
  (hx:ev r x=some (.int kk a)) (hy:ev r y=some (.int kk b)) (h0:b≠0) (hz:a.tmod b=z) (h:Pl P B f Q n l C k p ((d,.int kk z)::r) H):Pl P B f Q n l C k ((i,kd)::p) r H:=
 O.bin hi hk hg hd hx hy (fun w=>⟨run_eqGuard_int _ _ _ _ _ _ _ _ w,by simp only [binOp,Op.intDiv,if_neg (not_not_intro rfl),if_neg h0,hz,Sem.run_pure]⟩) h
def cmpOf:BinOp→Int→Int→Option Bool
 | .eql,a,b=>some (decide (a=b))
 | .neq,a,b=>some (!decide (a=b))
 | .lss,a,b=>some (decide (a<b))
 | .leq,a,b=>some (decide (a≤b))
 | .gtr,a,b=>some (decide (b<a))
 | .geq,a,b=>some (decide (b≤a))
 | _,_,_=>none
theorem O.cmp {op:BinOp} {t t':TypeId} {x y:Operand} {kk:IntKind} {a b:Int} {v:Bool} (hi:l[i]?=some ⟨some d,.binOp op t x y t',ty,pos,af,gd⟩) (hk:Nat.blt kd 2=true) (hg:guardOn l r gd=true) (hd:Nat.blt d n=true)
  (hx:ev r x=some (.int kk a)) (hy:ev r y=some (.int kk b)) (hv:cmpOf op a b=some v) (h:Pl P B f Q n l C k p ((d,.bool v)::r) H):Pl P B f Q n l C k ((i,kd)::p) r H:=
 O.bin hi hk hg hd hx hy (fun w=>⟨run_eqGuard_int _ _ _ _ _ _ _ _ w,by
  cases op<;>simp only [cmpOf,Option.some.injEq,reduceCtorEq] at hv
  all_goals
   subst hv
   simp only [binOp,if_neg (not_not_intro rfl),Op.intCmp,Sem.run_pure]
   first|done|rfl|(congr 2;by_cases h:a=b<;>simp [h])⟩) h
theorem lssT {a b:Int} (h:a<b):cmpOf .lss a b=some true:=by simp [cmpOf,h]
theorem lssF {a b:Int} (h:b≤a):cmpOf .lss a b=some false:=by simp [cmpOf,h]
theorem leqT {a b:Int} (h:a≤b):cmpOf .leq a b=some true:=by simp [cmpOf,h]
theorem leqF {a b:Int} (h:b<a):cmpOf .leq a b=some false:=by simp [cmpOf,h]
theorem gtrT {a b:Int} (h:b<a):cmpOf .gtr a b=some true:=by simp [cmpOf,h]
theorem gtrF {a b:Int} (h:a≤b):cmpOf .gtr a b=some false:=by simp [cmpOf,h]
theorem geqT {a b:Int} (h:b≤a):cmpOf .geq a b=some true:=by simp [cmpOf,h]
theorem geqF {a b:Int} (h:a<b):cmpOf .geq a b=some false:=by simp [cmpOf,h]
theorem eqlT {a b:Int} (h:a=b):cmpOf .eql a b=some true:=by simp [cmpOf,h]
theorem eqlF {a b:Int} (h:a≠b):cmpOf .eql a b=some false:=by simp [cmpOf,h]
theorem neqT {a b:Int} (h:a≠b):cmpOf .neq a b=some true:=by simp [cmpOf,h]
theorem neqF {a b:Int} (h:a=b):cmpOf .neq a b=some false:=by simp [cmpOf,h]
/-! A pointer against nil. -/
theorem run_equalIn_nil {t e:TypeId} (hu:P.underlying t=some (.pointer e)) (m:Nat) (v:Option Addr) (w:World):(Op.equalIn (m+1) t (.pointer v) (.pointer none)).run P w=.ok v.isNone w:=by
 cases v<;>simp [Op.equalIn,run_und hu]
theorem run_nil_eql {t e:TypeId} {x y:Operand} (hu:P.underlying t=some (.pointer e)) (v:Option Addr) (w:World):
  (eqGuard .eql t x y (.pointer v) (.pointer none)).run P w=.ok () w∧(binOp .eql t (.pointer v) (.pointer none)).run P w=.ok (.bool v.isNone) w:=by
 refine ⟨by unfold eqGuard;simp,?_⟩
 have h:=run_equalIn_nil hu 9999 v w
 have h2:binOp .eql t (.pointer v) (.pointer none)=(do pure (.bool (←Op.equal t (.pointer v) (.pointer none)))):=by cases v<;>rfl
 rw [h2]
 simp only [Op.equal,Op.maxDepth,Sem.run_bind,h,Result.andThen_ok,Sem.run_pure]
theorem O.isNil {t t' e:TypeId} {x y:Operand} {v:Option Addr} (hi:l[i]?=some ⟨some d,.binOp .eql t x y t',ty,pos,af,gd⟩) (hk:Nat.blt kd 2=true) (hg:guardOn l r gd=true) (hd:Nat.blt d n=true)
  (hu:P.underlying t=some (.pointer e)) (hx:ev r x=some (.pointer v)) (hy:ev r y=some (.pointer none)) (h:Pl P B f Q n l C k p ((d,.bool v.isNone)::r) H):Pl P B f Q n l C k ((i,kd)::p) r H:=
 O.bin hi hk hg hd hx hy (run_nil_eql hu v) h
theorem run_nil_neq {t e:TypeId} {x y:Operand} (hu:P.underlying t=some (.pointer e)) (v:Option Addr) (w:World):
  (eqGuard .neq t x y (.pointer v) (.pointer none)).run P w=.ok () w∧(binOp .neq t (.pointer v) (.pointer none)).run P w=.ok (.bool (!v.isNone)) w:=by
 refine ⟨by unfold eqGuard;simp,?_⟩
 have h:=run_equalIn_nil hu 9999 v w
 have h2:binOp .neq t (.pointer v) (.pointer none)=(do pure (.bool (!(←Op.equal t (.pointer v) (.pointer none))))):=by cases v<;>rfl
 rw [h2]
 simp only [Op.equal,Op.maxDepth,Sem.run_bind,h,Result.andThen_ok,Sem.run_pure]
theorem O.notNil {t t' e:TypeId} {x y:Operand} {v:Option Addr} (hi:l[i]?=some ⟨some d,.binOp .neq t x y t',ty,pos,af,gd⟩) (hk:Nat.blt kd 2=true) (hg:guardOn l r gd=true) (hd:Nat.blt d n=true)
  (hu:P.underlying t=some (.pointer e)) (hx:ev r x=some (.pointer v)) (hy:ev r y=some (.pointer none)) (h:Pl P B f Q n l C k p ((d,.bool (!v.isNone))::r) H):Pl P B f Q n l C k ((i,kd)::p) r H:=
 O.bin hi hk hg hd hx hy (run_nil_neq hu v) h
/-! A loop,by a measure: what holds of the state,and which slots it is in,at each round's head. -/
theorem Go'.ind {σ:Type} (μ:σ→Nat) (I:σ→Mem→Prop) (e:σ→Env) (s0:σ) (h0:I s0 H) (hr:r=e s0)
  (step:∀s H,I s H→(∀s' H',I s' H'→μ s'<μ s→Go' P B f Q n (e s') k H')→Go' P B f Q n (e s) k H):Go' P B f Q n r k H:=by
 subst hr
 have key:∀m s H,μ s=m→I s H→Go' P B f Q n (e s) k H:=by
  intro m
  induction m using Nat.strongRecOn with
  | _ m ih=>exact fun s H hm hI=>step s H hI fun s' H' hI' hlt=>ih (μ s') (hm▸hlt) s' H' rfl hI'
 exact key _ s0 H rfl h0
/-! Slices. -/
theorem O.len {t e:TypeId} {x:Operand} {ad:Option Addr} {len cap:Nat} (hi:l[i]?=some ⟨some d,.call ⟨.builtin .len,#[x],#[t]⟩,ty,pos,af,gd⟩) (hk:Nat.blt kd 2=true) (hg:guardOn l r gd=true) (hd:Nat.blt d n=true)
  (hu:P.underlying t=some (.slice e)) (hx:ev r x=some (.slice ad len cap)) (h:Pl P B f Q n l C k p ((d,.int .i64 (len:Int))::r) H):Pl P B f Q n l C k ((i,kd)::p) r H:=
 Pl.quiet hi hk hg hd (fun a H' d' ha _=>by simp [execOp,resolve,invoke,builtin,Builtin.len_,ha.eval hx,run_und hu,goInt]) h
theorem O.cap {t e:TypeId} {x:Operand} {ad:Option Addr} {len cap:Nat} (hi:l[i]?=some ⟨some d,.call ⟨.builtin .cap,#[x],#[t]⟩,ty,pos,af,gd⟩) (hk:Nat.blt kd 2=true) (hg:guardOn l r gd=true) (hd:Nat.blt d n=true)
  (hu:P.underlying t=some (.slice e)) (hx:ev r x=some (.slice ad len cap)) (h:Pl P B f Q n l C k p ((d,.int .i64 (cap:Int))::r) H):Pl P B f Q n l C k ((i,kd)::p) r H:=
 Pl.quiet hi hk hg hd (fun a H' d' ha _=>by simp [execOp,resolve,invoke,builtin,Builtin.cap_,ha.eval hx,run_und hu,goInt]) h
def bnd (r:Env) (dflt:Nat):Option Operand→Nat→Prop
 | none,j=>j=dflt
 | some x,j=>∃kk,ev r x=some (.int kk (j:Int))
theorem run_sliceBound (w:World) (kk:IntKind) (j m:Nat) (c:BoundsCode) (h:j≤m):(Instr.sliceBound (.int kk (j:Int)) m c).run P w=.ok j w:=by
 have h':(0:Int)≤(j:Int)∧(j:Int)≤(m:Int):=by omega
 simp only [Instr.sliceBound,asIntOf,Sem.run_bind,Sem.run_pure,Result.andThen_ok,Sem.run_ite,if_pos h',Int.toNat_natCast]
theorem O.slc {t e:TypeId} {x:Operand} {lo hi' mx:Option Operand} {b o s len cap jl jh jm:Nat} (hi:l[i]?=some ⟨some d,.slice t x lo hi' mx,ty,pos,af,gd⟩) (hk:Nat.blt kd 2=true) (hg:guardOn l r gd=true) (hd:Nat.blt d n=true)
  (hu:P.underlying t=some (.slice e)) (hs:Sz P e s) (hx:ev r x=some (.slice (some ⟨b,o,none⟩) len cap)) (hm:bnd r cap mx jm) (hh:bnd r len hi' jh) (hl:bnd r 0 lo jl)
  (h1:jl≤jh) (h2:jh≤jm) (h3:jm≤cap) (hmh:mx.isSome=true→hi'.isSome=true)
  (h:∀o',(jl<jm→o'=o+jl*s)→Pl P B f Q n l C k p ((d,.slice (some ⟨b,o',none⟩) (jh-jl) (jm-jl))::r) H):Pl P B f Q n l C k ((i,kd)::p) r H:=by
 refine Pl.quiet hi hk hg hd (fun a H' d' ha _=>?_) (h (if jm=jl then o else o+jl*s) (fun hlt=>if_neg (by omega)))
 have hb:(Instr.sliceBounds true len cap (lo.map a.eval) (hi'.map a.eval) (mx.map a.eval)).run P (mk B H' d')=.ok (jl,jh,jm) (mk B H' d'):=by
  unfold Instr.sliceBounds
  cases mx with
  | none=>
   simp only [bnd] at hm
   subst hm
   cases hi' with
   | none=>
    simp only [bnd] at hh
    subst hh
    cases lo with
    | none=>simp only [bnd] at hl;subst hl;simp
    | some y=>obtain ⟨kk,hy⟩:=hl;simp [ha.eval hy,run_sliceBound _ kk jl jh _ h1]
   | some z=>
    obtain ⟨kz,hz⟩:=hh
    cases lo with
    | none=>simp only [bnd] at hl;subst hl;simp [ha.eval hz,run_sliceBound _ kz jh jm _ h2]
    | some y=>obtain ⟨kk,hy⟩:=hl;simp [ha.eval hy,ha.eval hz,run_sliceBound _ kk jl jh _ h1,run_sliceBound _ kz jh jm _ h2]
  | some u=>
   obtain ⟨ku,hu'⟩:=hm
   cases hi' with
   | none=>simp at hmh
   | some z=>
    obtain ⟨kz,hz⟩:=hh
    cases lo with
    | none=>simp only [bnd] at hl;subst hl;simp [ha.eval hz,ha.eval hu',run_sliceBound _ ku jm cap _ h3,run_sliceBound _ kz jh jm _ h2]
    | some y=>obtain ⟨kk,hy⟩:=hl;simp [ha.eval hy,ha.eval hz,ha.eval hu',run_sliceBound _ kk jl jh _ h1,run_sliceBound _ kz jh jm _ h2,run_sliceBound _ ku jm cap _ h3]
 simp only [execOp,ha.eval hx,Sem.run_bind,Sem.run_pure,Instr.sliceAt,run_und hu,Result.andThen_ok,Instr.slice,hb,hs _]
 congr 3
 by_cases he:jm=jl
 · simp [he]
 · simp [he,Addr.add_lit]
/-! ### Making -/
theorem O.alloc {t:TypeId} {z:Value} (hi:l[i]?=some ⟨some d,.alloc t,ty,pos,af,gd⟩) (hg:guardOn l r gd=true) (hd:Nat.blt d n=true) (hz:Zero P t z)
  (h:∀H',Made H H' z.cells t→C H'∧Pl P B f Q n l C k p ((d,.pointer (some ⟨H.size,0,none⟩))::r) H'):Pl P B f Q n l C k ((i,2)::p) r H:=
 Pl.loudV hi rfl hg hd (fun v H'=>v=.pointer (some ⟨H.size,0,none⟩)∧Made H H' z.cells t)
  (fun a d' _=>⟨_,H.push (.cells z.cells t),d',by simp [execOp,Instr.alloc,hz _,newVar,newRow];exact ⟨rfl,rfl⟩,rfl,made_push _ _ _⟩) (fun v H' hv=>by obtain ⟨rfl,hm⟩:=hv;exact h H' hm)
theorem O.box {t:TypeId} {x:Operand} {v:Value} (hi:l[i]?=some ⟨some d,.box t x,ty,pos,af,gd⟩) (hg:guardOn l r gd=true) (hd:Nat.blt d n=true) (hx:ev r x=some v)
  (h:∀H',Made H H' v.cells t→C H'∧Pl P B f Q n l C k p ((d,.pointer (some ⟨H.size,0,none⟩))::r) H'):Pl P B f Q n l C k ((i,2)::p) r H:=
 Pl.loudV hi rfl hg hd (fun u H'=>u=.pointer (some ⟨H.size,0,none⟩)∧Made H H' v.cells t)
  (fun a d' ha=>⟨_,H.push (.cells v.cells t),d',by simp [execOp,Instr.box,ha.eval hx,newVar,newRow];exact ⟨rfl,rfl⟩,rfl,made_push _ _ _⟩) (fun u H' hv=>by obtain ⟨rfl,hm⟩:=hv;exact h H' hm)
/-! ### Writing -/
theorem O.st {t:TypeId} {x y:Operand} {b o s:Nat} {v:Value} {vs:List Value} (hi:l[i]?=some ⟨none,.store t x y,ty,pos,af,gd⟩) (hg:guardOn l r gd=true) (ht:Sz P t s)
  (hx:ev r x=some (.pointer (some ⟨b,o,none⟩))) (hy:ev r y=some v) (hv:v.cells=vs.toArray) (hl:vs.length=s) (h1:ones vs=true) (hw:Wr H b o s)
  (h:∀H',Wrote H H' b o vs→C H'∧Pl P B f Q n l C k p r H'):Pl P B f Q n l C k ((i,2)::p) r H:=
 Pl.loudN hi rfl hg (fun H'=>Wrote H H' b o vs)
  (fun a d' ha=>⟨setcs H b o vs,d',by simp [execOp,ha.eval hx,ha.eval hy,Instr.storeAt,Instr.sureAddr,run_storeVar ht hv hl h1 hw],setcs_wrote vs H b o (hl▸hw)⟩) h
theorem O.st3 {t:TypeId} {x y:Operand} {b o s:Nat} {v:Value} {vs:List Value} (hi:l[i]?=some ⟨none,.store t x y,ty,pos,af,gd⟩) (hg:guardOn l r gd=true) (ht:Sz P t s)
  (hx:ev r x=some (.pointer (some ⟨b,o,none⟩))) (hy:ev r y=some v) (hv:v.cells=vs.toArray) (hl:vs.length=s) (h1:ones vs=true) (hw:Wr H b o s)
  (h:∀H',Wrote H H' b o vs→Pl P B f Q n l C k p r H'):Pl P B f Q n l C k ((i,3)::p) r H:=
 Pl.lastN hi rfl hg (fun H'=>Wrote H H' b o vs)
  (fun a d' ha=>⟨setcs H b o vs,d',by simp [execOp,ha.eval hx,ha.eval hy,Instr.storeAt,Instr.sureAddr,run_storeVar ht hv hl h1 hw],setcs_wrote vs H b o (hl▸hw)⟩) h
/-! ### Calls -/
theorem O.call {g:FuncId} {as:List Operand} {ts:Array TypeId} {vs:List Value} {R:Value→Mem→Prop} (hi:l[i]?=some ⟨some d,.call ⟨.value (.func g),as.toArray,ts⟩,ty,pos,af,gd⟩)
  (hg:guardOn l r gd=true) (hd:Nat.blt d n=true) (hcall:∀(args:Array Value) (w:World),(callFunc g args).run P w=.ok (.enter g args) w) (ha:evs r as=some vs)
  (hc:Fn P B g vs H R) (h:∀v H',R v H'→C H'∧Pl P B f Q n l C k p ((d,v)::r) H'):Pl P B f Q n l C k ((i,2)::p) r H:=
 Pl.enter hi rfl hg (by exact hd) (fun a d' hs=>by
  have h1:=hs.evals ha
  have h2:a.eval (.func g)=.func (.func g) #[] #[]:=rfl
  simp only [execOp,resolve,h2,Deferred.ofValue,Sem.run_bind,Sem.run_pure,Result.andThen_ok,invoke,hcall]
  rw [←h1]
  simp) hc h
theorem O.callQ {g:FuncId} {as:List Operand} {ts:Array TypeId} {vs:List Value} {v:Value} (hi:l[i]?=some ⟨some d,.call ⟨.value (.func g),as.toArray,ts⟩,ty,pos,af,gd⟩)
  (hg:guardOn l r gd=true) (hd:Nat.blt d n=true) (hcall:∀(args:Array Value) (w:World),(callFunc g args).run P w=.ok (.enter g args) w) (ha:evs r as=some vs)
  (hc:Fn P B g vs H (fun u H'=>u=v∧H'=H)) (hC:C H) (h:Pl P B f Q n l C k p ((d,v)::r) H):Pl P B f Q n l C k ((i,2)::p) r H:=
 O.call hi hg hd hcall ha hc fun u H' hu=>by obtain ⟨rfl,rfl⟩:=hu;exact ⟨hC,h⟩
theorem O.callC {x:Operand} {g:FuncId} {as:List Operand} {ts:Array TypeId} {vs us caps:List Value} {R:Value→Mem→Prop} (hi:l[i]?=some ⟨some d,.call ⟨.value x,as.toArray,ts⟩,ty,pos,af,gd⟩)
  (hg:guardOn l r gd=true) (hd:Nat.blt d n=true) (hx:ev r x=some (.func (.func g) us.toArray caps.toArray)) (hcall:∀(args:Array Value) (w:World),(callFunc g args).run P w=.ok (.enter g args) w) (ha:evs r as=some vs)
  (hc:Fn P B g (us++vs++caps) H R) (h:∀v H',R v H'→C H'∧Pl P B f Q n l C k p ((d,v)::r) H'):Pl P B f Q n l C k ((i,2)::p) r H:=
 Pl.enter hi rfl hg (by exact hd) (fun a d' hs=>by
  have h1:=hs.evals ha
  have h2:=hs.eval hx
  simp only [execOp,resolve,h2,Deferred.ofValue,Sem.run_bind,Sem.run_pure,Result.andThen_ok,invoke,hcall]
  rw [←h1]
  simp) hc h
end
end Go.Bt
