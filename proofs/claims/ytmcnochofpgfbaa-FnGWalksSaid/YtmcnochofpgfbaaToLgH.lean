/- The program logic: what it means that a frame, at a given list of things to do, runs on to a return; and its rules for code. Conditions: none. -/
import Derived.Orders
import Derived.Tactics
import Derived.Scope
import Derived.KernelRfl
import Derived.Laws.Append
import Derived.Laws.Entries
import Derived.Laws.Slices
set_option linter.unusedVariables false
namespace Go.Bt
open Go
/-! ### What is known of a frame's slots -/
abbrev Env:=List (Nat×Value)
def Env.get:Env→Nat→Option Value
 | [],_=>none
 | (k,v)::r,t=>match Nat.beq k t with
  | true=>some v
  | false=>Env.get r t
def Sees (n:Nat) (r:Env) (a:Act):Prop:=
 a.defers=[]∧a.tmps.size=n∧∀t v,r.get t=some v→a.tmps[t]?=some v
def ev (r:Env):Operand→Option Value
 | .tmp t=>r.get t
 | .const v=>some v
 | .global g=>some (.pointer (some ⟨g,0,none⟩))
 | .func f=>some (.func (.func f) #[] #[])
def evs (r:Env):List Operand→Option (List Value)
 | []=>some []
 | x::xs=>match ev r x,evs r xs with
  | some v,some vs=>some (v::vs)
  | _,_=>none
theorem Sees.eval {n:Nat} {r:Env} {a:Act} (h:Sees n r a) {x:Operand} {v:Value} (hx:ev r x=some v):a.eval x=v:=by
 cases x with
 | tmp t=>have:=h.2.2 t v hx;simp [Act.eval,this]
 | const u=>simpa [ev,Act.eval] using hx
 | global g=>simpa [ev,Act.eval] using hx
 | func f=>simpa [ev,Act.eval] using hx
theorem Sees.evals {n:Nat} {r:Env} {a:Act} (h:Sees n r a):∀{xs:List Operand} {vs:List Value},evs r xs=some vs→xs.map a.eval=vs
 | [],vs,hx=>by simp only [evs,Option.some.injEq] at hx;simpa using hx
 | x::xs,vs,hx=>by
  simp only [evs] at hx
  split at hx
  ·
   rename_i v ws h1 h2
   simp only [Option.some.injEq] at hx
   subst hx
   simp [h.eval h1,Sees.evals h h2]
  · cases hx
theorem Sees.put {n:Nat} {r:Env} {a:Act} (h:Sees n r a) {d:Nat} {v:Value} (hd:Nat.blt d n=true):Sees n ((d,v)::r) (a.put (some d) v):=by
 have hd':d<n:=by simpa using hd
 refine ⟨h.1,by simp [Act.put,h.2.1],fun t u hu=>?_⟩
 simp only [Env.get] at hu
 simp only [Act.put]
 by_cases hdt:d=t
 ·
  subst hdt
  simp only [Nat.beq_refl,Option.some.injEq] at hu
  subst hu
  simp [h.2.1,hd']
 ·
  have hb:Nat.beq d t=false:=by
   cases hb:Nat.beq d t with
   | false=>rfl
   | true=>exact absurd (Nat.eq_of_beq_eq_true hb) hdt
  rw [hb] at hu
  rw [Array.getElem?_setIfInBounds_ne hdt]
  exact h.2.2 t u hu
def Env.Sub:Env→Env→Prop
 | [],_=>True
 | (k,v)::q,r=>Env.get r k=some v∧Env.Sub q r
theorem Env.Sub.get {r:Env}:∀{q:Env},Env.Sub q r→∀t v,Env.get q t=some v→Env.get r t=some v
 | [],_,t,v,h=>by simp [Env.get] at h
 | (k,u)::q,hs,t,v,h=>by
  simp only [Env.get] at h
  split at h
  ·
   rename_i hb
   have:=Nat.eq_of_beq_eq_true hb
   subst this
   simp only [Option.some.injEq] at h
   subst h
   exact hs.1
  · exact Env.Sub.get hs.2 t v h
theorem Sees.sub {n:Nat} {r q:Env} {a:Act} (h:Sees n r a) (hs:Env.Sub q r):Sees n q a:=⟨h.1,h.2.1,fun t v hq=>h.2.2 t v (hs.get t v hq)⟩
/-! ### A frame that runs on to a return -/
abbrev Post:=Value→World→Prop
def Ret (R:Post):Ending→World→Prop
 | .returned v,w=>R v w
 | _,_=>False
def Cont (P:Program) (f:FuncId) (R:Post) (todo:List Item) (a:Act) (w:World):Prop:=
 ∀(b:Frame) (cs:List Frame),b.fn=f→b.kind=.normal→
  ∃v w' fr,R v w'∧Steps P (lone (b.at a todo) cs w) (lone fr cs w')∧fr.fn=f∧fr.leaving P w' (.returned v)
def Run (P:Program) (f:FuncId) (R:Post) (n:Nat) (r:Env) (todo:List Item) (w:World):Prop:=
 ∀a,Sees n r a→Cont P f R todo a w
theorem Cont.head {P:Program} {f:FuncId} {R:Post} {k k':List Item} {a:Act} {w w':World} (h:Cont P f R k' a w')
  (hs:∀(b:Frame) (cs:List Frame),step P (lone (b.at a k) cs w)=.next (lone (b.at a k') cs w')):Cont P f R k a w:=fun b cs hb hk=>
 let ⟨v,w'',fr,h1,h2,h3,h4⟩:=h b cs hb hk
 ⟨v,w'',fr,h1,.head (hs b cs) h2,h3,h4⟩
section rules
variable {P:Program} {f:FuncId} {R:Post} {n:Nat} {r:Env} {k:List Item} {w:World}
theorem Run.keep (q:Env) (hs:Env.Sub q r) (h:Run P f R n q k w):Run P f R n r k w:=fun a ha=>h a (ha.sub hs)
theorem Run.skip (h:Run P f R n r k w):Run P f R n r (.code .skip::k) w:=fun a ha=>(h a ha).head fun _ _=>step_skip
theorem Run.label {l:Nat} (h:Run P f R n r k w):Run P f R n r (.code (.label l)::k) w:=fun a ha=>(h a ha).head fun _ _=>step_label
theorem Run.inBlock {id:Nat} (h:Run P f R n r k w):Run P f R n r (.inBlock id::k) w:=fun a ha=>(h a ha).head fun _ _=>step_inBlock
theorem Run.seq {x y:Code} (h:Run P f R n r (.code x::.code y::k) w):Run P f R n r (.code (.seq x y)::k) w:=fun a ha=>(h a ha).head fun _ _=>step_seq
theorem Run.block {id:Nat} {c:Code} (h:Run P f R n r (.code c::.inBlock id::k) w):Run P f R n r (.code (.block id c)::k) w:=fun a ha=>(h a ha).head fun _ _=>step_block
theorem Run.loop {c:Code} (h:Run P f R n r (.code c::.inLoop c::k) w):Run P f R n r (.code (.loop c)::k) w:=fun a ha=>(h a ha).head fun _ _=>step_loop
theorem Run.inLoop {c:Code} (h:Run P f R n r (.code c::.inLoop c::k) w):Run P f R n r (.inLoop c::k) w:=fun a ha=>(h a ha).head fun _ _=>step_inLoop
theorem Run.scope {c:Code} (h:Run P f R n r (.code c::.inScope c::k) w):Run P f R n r (.code (.scope c)::k) w:=fun a ha=>(h a ha).head fun _ _=>step_scope
theorem Run.inScope {c:Code} (h:Run P f R n r k w):Run P f R n r (.inScope c::k) w:=fun a ha=>(h a ha).head fun _ _=>step_inScope
theorem Run.exit {id:Nat} {k':List Item} (hx:exitTo id k=some k') (h:Run P f R n r k' w):Run P f R n r (.code (.exit id)::k) w:=
 fun a ha=>(h a ha).head fun _ _=>step_exit hx
theorem Run.goto {l:Nat} {k':List Item} (hx:gotoIn l k=some k') (h:Run P f R n r k' w):Run P f R n r (.code (.goto l)::k) w:=
 fun a ha=>(h a ha).head fun _ _=>step_goto hx
theorem Run.cond {c:Operand} {x y:Code} {t:Bool} (hc:ev r c=some (.bool t)) (h:Run P f R n r (.code (bif t then x else y)::k) w):Run P f R n r (.code (.cond c x y)::k) w:=
 fun a ha=>(h a ha).head fun _ _=>by rw [step_cond (ha.eval hc)];cases t<;>rfl
theorem Run.condT {c:Operand} {x y:Code} (hc:ev r c=some (.bool true)) (h:Run P f R n r (.code x::k) w):Run P f R n r (.code (.cond c x y)::k) w:=Run.cond hc h
theorem Run.condF {c:Operand} {x y:Code} (hc:ev r c=some (.bool false)) (h:Run P f R n r (.code y::k) w):Run P f R n r (.code (.cond c x y)::k) w:=Run.cond hc h
/-! The end of a call. -/
def resOf (P:Program) (r:Env) (w:World):List ResultVar→List Value→Prop
 | [],[]=>True
 | .tmp t::rs,v::vs=>r.get t=some v∧resOf P r w rs vs
 | .cell t ty::rs,v::vs=>(∃p,r.get t=some (.pointer (some p))∧(loadVar ty p).run P w=.ok v w)∧resOf P r w rs vs
 | _,_=>False
def resOne (a:Act):ResultVar→Sem Value
 | .tmp t=>pure (a.tmps.getD t undef)
 | .cell c t=>do loadVar t (←asAddr (a.tmps.getD c undef))
theorem run_mapM_results {a:Act} (ha:Sees n r a):∀(rs:List ResultVar) (vs:List Value),resOf P r w rs vs→(rs.mapM (resOne a)).run P w=.ok vs w
 | [],[],_=>by simp
 | [],_::_,h=>by simp [resOf] at h
 | .tmp t::rs,[],h=>by simp [resOf] at h
 | .cell t ty::rs,[],h=>by simp [resOf] at h
 | .tmp t::rs,v::vs,h=>by
  obtain ⟨h1,h2⟩:=h
  have h3:=ha.2.2 t v h1
  have ih:=run_mapM_results ha rs vs h2
  have h4:(resOne a (.tmp t)).run P w=.ok v w:=by simp [resOne,h3]
  simp only [List.mapM_cons,Sem.run_bind,h4,Result.andThen_ok,ih,Sem.run_pure]
 | .cell t ty::rs,v::vs,h=>by
  obtain ⟨⟨p,h1,hl⟩,h2⟩:=h
  have h3:=ha.2.2 t _ h1
  have ih:=run_mapM_results ha rs vs h2
  have h4:(resOne a (.cell t ty)).run P w=.ok v w:=by simp [resOne,h3,asAddr,hl]
  simp only [List.mapM_cons,Sem.run_bind,h4,Result.andThen_ok,ih,Sem.run_pure]
def resVal:List Value→Value
 | [v]=>v
 | vs=>.tuple vs.toArray
theorem run_results {a:Act} {fn:Func} {rs:List ResultVar} {vs:List Value} (ha:Sees n r a) (hr:fn.results=rs.toArray) (h:resOf P r w rs vs):
  (results fn a.tmps).run P w=.ok (resVal vs) w:=by
 have h1:=run_mapM_results ha rs vs h
 have h2:results fn a.tmps=(do
   let us ←fn.results.mapM (resOne a)
   pure (if h:us.size=1 then us[0] else .tuple us)):=rfl
 rw [h2,hr,List.mapM_toArray]
 simp only [Sem.run_bind,Sem.run_map,h1,Result.andThen_ok,Sem.run_pure]
 rcases vs with _|⟨v,_|⟨u,vs⟩⟩<;>simp [resVal]
theorem Cont.leave {a:Act} {fn:Func} {v:Value} {x:List Item} (hf:P.funcs[f]?=some fn) (hd:a.defers=[]) (hv:(results fn a.tmps).run P w=.ok v w) (hR:R v w)
  (hs:∀(b:Frame) (cs:List Frame),step P (lone (b.at a x) cs w)=.next (lone { b.at a x with mode:=.returning } cs w)):Cont P f R x a w:=fun b cs hb hk=>by
 refine ⟨v,w,{ b.at a x with mode:=.returning },hR,.one (hs b cs),hb,rfl,hd,hk,fn,?_,hv⟩
 show P.funcs[b.fn]?=some fn
 rw [hb];exact hf
theorem Run.ret {fn:Func} {rs:List ResultVar} {vs:List Value} (hf:P.funcs[f]?=some fn) (hr:fn.results=rs.toArray) (h:resOf P r w rs vs) (hR:R (resVal vs) w):
  Run P f R n r (.code .ret::k) w:=fun _ ha=>Cont.leave hf ha.1 (run_results ha hr h) hR fun _ _=>step_ret
theorem Run.fall {fn:Func} {rs:List ResultVar} {vs:List Value} (hf:P.funcs[f]?=some fn) (hr:fn.results=rs.toArray) (h:resOf P r w rs vs) (hR:R (resVal vs) w):
  Run P f R n r [] w:=fun _ ha=>Cont.leave hf ha.1 (run_results ha hr h) hR fun _ _=>step_end
/-! The beginning of a call. -/
def argEnv:Nat→List Value→Env
 | _,[]=>[]
 | i,v::vs=>(i,v)::argEnv (i+1) vs
theorem argEnv_get:∀(vs:List Value) (i t:Nat) (v:Value),(argEnv i vs).get t=some v→i≤t∧vs[t-i]?=some v
 | [],_,_,_,h=>by simp [argEnv,Env.get] at h
 | u::vs,i,t,v,h=>by
  simp only [argEnv,Env.get] at h
  split at h
  ·
   rename_i hb
   have:=Nat.eq_of_beq_eq_true hb
   subst this
   simp only [Option.some.injEq] at h
   subst h
   simp
  ·
   rename_i hb
   obtain ⟨h1,h2⟩:=argEnv_get vs (i+1) t v h
   refine ⟨by omega,?_⟩
   rw [show t-i=(t-(i+1))+1 by omega]
   simpa using h2
theorem calls_of_run {fn:Func} {c:Code} {vs:List Value} {m:Nat} (hf:P.funcs[f]?=some fn) (hb:fn.body=some c) (hn:fn.ntmps=m)
  (h:Run P f R (vs.length+(m-vs.length)) (argEnv 0 vs) [.code c] w):Calls P f vs.toArray w (Ret R):=by
 intro cs
 let b:Frame:={ (default:Frame) with fn:=f,kind:=.normal }
 have henter:Frame.enter P f vs.toArray .normal=
   b.at { tmps:=vs.toArray++Array.replicate (fn.ntmps-vs.toArray.size) undef,defers:=[] } [.code c]:=by
  simp [Frame.enter,Frame.at,hf,hb,b]
 have hs:Sees (vs.length+(m-vs.length)) (argEnv 0 vs) { tmps:=vs.toArray++Array.replicate (fn.ntmps-vs.toArray.size) undef,defers:=[] }:=by
  refine ⟨rfl,by simp [hn],fun t v ht=>?_⟩
  obtain ⟨_,h2⟩:=argEnv_get vs 0 t v ht
  have h3:vs[t]?=some v:=by simpa using h2
  have h4:t<vs.length:=(List.getElem?_eq_some_iff.1 h3).1
  rw [Array.getElem?_append_left (by simpa using h4)]
  simpa using h3
 obtain ⟨v,w',fr,h1,h2,h3,h4⟩:=h _ hs b cs rfl rfl
 rw [henter]
 exact ⟨.returned v,w',fr,h1,h2,h3,h4⟩
end rules
section
variable {P:Program} {l:List Oper} {K:Act→World→Prop}
def QuietAt (P:Program) (l:List Oper) (o:Oper) (a:Act) (w:World) (v:Value):Prop:=
 (Region.wanted o (yielded l.toArray a.tmps)=true∧(execOp a.eval o).run P w=.ok (.value v) w)∨
 (Region.wanted o (yielded l.toArray a.tmps)=false∧v=undef)
def goodUpon (P:Program) (o:Oper) (a:Act) (K:Act→World→Prop):Result Next→Prop
 | .ok (.value v) w=>K (a.put o.dst v) w
 | .ok .skip w=>K (a.put o.dst undef) w
 | .ok (.enter f args) w=>Calls P f args w (Ret fun v w'=>K (a.put o.dst v) w')
 | _=>False
def good (P:Program) (l:List Oper) (o:Oper) (a:Act) (w:World) (K:Act→World→Prop):Prop:=
 (Region.wanted o (yielded l.toArray a.tmps)=true∧goodUpon P o a K ((execOp a.eval o).run P w))∨
 (Region.wanted o (yielded l.toArray a.tmps)=false∧K (a.put o.dst undef) w)
theorem goodUpon.mono {o:Oper} {a:Act} {K K':Act→World→Prop} {x:Result Next} (h:∀a w,K a w→K' a w) (hg:goodUpon P o a K x):goodUpon P o a K' x:=by
 cases x with
 | ok nx w=>
  cases nx<;>simp only [goodUpon] at hg ⊢
  case enter f args=>exact hg.mono fun e w' he=>by cases e<;>first|exact h _ _ he|exact he
  all_goals first|exact h _ _ hg|exact hg
 | halt x w=>simp only [goodUpon] at hg
theorem good.mono {o:Oper} {a:Act} {w:World} {K K':Act→World→Prop} (h:∀a w,K a w→K' a w) (hg:good P l o a w K):good P l o a w K':=
 hg.imp (fun ⟨h1,h2⟩=>⟨h1,h2.mono h⟩) (fun ⟨h1,h2⟩=>⟨h1,h _ _ h2⟩)
theorem good.wpOp {Q:Exit→Act→World→Prop} {i:Nat} {o:Oper} {a:Act} {w:World} (hi:l[i]?=some o) (hg:good P l o a w K):wpOp P l.toArray Q i K a w:=by
 unfold Go.wpOp
 have hi':l.toArray[i]?=some o:=by simpa using hi
 simp only [hi']
 rcases hg with ⟨hw,hg⟩|⟨hw,hg⟩
 ·
  simp only [hw,if_true]
  left
  unfold Oper.wp
  generalize (execOp a.eval o).run P w=x at*
  cases x with
  | ok nx w'=>
   cases nx<;>simp only [goodUpon] at hg<;>simp only [Oper.upon]
   case enter f args=>exact hg.mono fun e w' he=>by cases e<;>first|exact he|exact he.elim
   all_goals exact hg
  | halt x w'=>simp only [goodUpon] at hg
 · simp only [hw,Bool.false_eq_true,if_false];exact hg
theorem QuietAt.good {o:Oper} {a:Act} {w:World} {v:Value} (h:QuietAt P l o a w v) (hk:K (a.put o.dst v) w):good P l o a w K:=by
 rcases h with ⟨h1,h2⟩|⟨h1,rfl⟩
 · exact .inl ⟨h1,by rw [h2];exact hk⟩
 · exact .inr ⟨h1,hk⟩
theorem QuietAt.apart {x y:Oper} {a:Act} {w:World} {v:Value} (h:QuietAt P l x a w v) (hap:y.apart l.toArray x=true) (hs:∀cs b,x.op≠.select cs b) (u:Value):
  QuietAt P l x (a.put y.dst u) w v:=by
 obtain ⟨h1,_,_⟩:=Oper.apart_spec hap
 unfold QuietAt at*
 rw [execOp_put x hs a y.dst u h1,wanted_put x a y.dst u h1]
 exact h
theorem QuietAt.unput {x y:Oper} {a:Act} {w:World} {v u:Value} (h:QuietAt P l x (a.put y.dst u) w v) (hap:y.apart l.toArray x=true) (hs:∀cs b,x.op≠.select cs b):
  QuietAt P l x a w v:=by
 obtain ⟨h1,_,_⟩:=Oper.apart_spec hap
 unfold QuietAt at*
 rw [execOp_put x hs a y.dst u h1,wanted_put x a y.dst u h1] at h
 exact h
/-! ### A plan: the operations in some order,each with its kind: 0: it hands on one value in every world of the class C;1: it hands on a value in the world in which it stands;2: whatever it does leaves a world of C -/
def quietIn (C:World→Prop) (k:Nat) (w w':World):Prop:=(k=0∧C w')∨(k=1∧w'=w)
def planStep (P:Program) (l:List Oper) (C:World→Prop) (x:Nat×Nat) (N:Act→World→Prop) (a:Act) (w:World):Prop:=
 (x.2<2∧∃o v,l[x.1]?=some o∧(∀w',quietIn C x.2 w w'→QuietAt P l o a w' v)∧N (a.put o.dst v) w)∨
 (2≤x.2∧∃o,l[x.1]?=some o∧good P l o a w fun a' w'=>(x.2=2→C w')∧N a' w')
def planRun (P:Program) (l:List Oper) (C:World→Prop) (K:Act→World→Prop):List (Nat×Nat)→Act→World→Prop
 | [],a,w=>K a w
 | x::p,a,w=>planStep P l C x (planRun P l C K p) a w
/-! The order of the text. -/
theorem planRun.wpOps {Q:Exit→Act→World→Prop} {C:World→Prop} (hQ:∀a w,K a w→Q .normal a w):∀(p:List (Nat×Nat)) (a:Act) (w:World),
  (p.all fun y=>Nat.blt y.2 3)=true→C w→planRun P l C K p a w→wpOps P l.toArray Q (p.map (·.1)) a w
 | [],_,_,_,_,h=>hQ _ _ h
 | (i,k)::p,a,w,hks,hC,h=>by
  simp only [List.all_cons,Bool.and_eq_true] at hks
  rw [List.map_cons,wpOps_cons]
  rcases h with ⟨hk,o,v,hi,hq,hr⟩|⟨_,o,hi,hg⟩
  ·
   have hk':k=0∨k=1:=by simp only at hk;omega
   exact ((hq w (hk'.imp (fun h=>⟨h,hC⟩) (fun h=>⟨h,rfl⟩))).good (planRun.wpOps hQ p _ _ hks.2 hC hr)).wpOp hi
  ·
   rename_i h2
   have hk2:k=2:=by
    have h3:k<3:=by simpa using hks.1
    simp only at h2;omega
   exact (hg.mono fun _ _ h=>planRun.wpOps hQ p _ _ hks.2 (h.1 hk2) h.2).wpOp hi
theorem wp_of_text {Q:Exit→Act→World→Prop} {C:World→Prop} {id:Nat} {a:Act} {w:World} (p:List (Nat×Nat)) (hp:(p.map (·.1),p.all fun y=>Nat.blt y.2 3)=(List.range l.length,true))
  (hQ:∀a w,K a w→Q .normal a w) (hC:C w) (h:planRun P l C K p a w):(Code.region id l.toArray false).wp P Q a w:=by
 refine wp_region ?_
 simp only [Prod.mk.injEq] at hp
 have:=planRun.wpOps hQ p a w hp.2 hC h
 rw [hp.1] at this
 simpa using this
/-! ### Whatever order the edges allow -/
def waitsGo:List Oper→List Nat→List Nat
 | [],acc=>acc
 | o::r,acc=>waitsGo r (acc++[o.after.toList.foldl (fun s e=>bif Region.binds .any e then s ||| 2 ^ e.on ||| acc.getD e.on 0 else s) 0])
def waitsOk (l:List Oper) (m:List Nat):Bool:=
 (List.range l.length).all fun j=>match l[j]? with
  | none=>true
  | some o=>(List.range l.length).all fun x=>!(m.getD j 0).testBit x||o.after.toList.any fun e=>Region.binds .any e&&(e.on == x||(m.getD e.on 0).testBit x)
theorem waitsOk_spec {m:List Nat} (h:waitsOk l m=true) {j x:Nat} {o:Oper} (hj:l[j]?=some o) (hx:x<l.length) (hb:(m.getD j 0).testBit x=true):
  ∃e∈o.after,Region.binds .any e=true∧(e.on=x∨(m.getD e.on 0).testBit x=true):=by
 have hjl:j<l.length:=(List.getElem?_eq_some_iff.1 hj).1
 have h1:=List.all_eq_true.1 h j (List.mem_range.2 hjl)
 simp only [hj] at h1
 have h2:=List.all_eq_true.1 h1 x (List.mem_range.2 hx)
 rw [hb] at h2
 simp only [Bool.not_true,Bool.false_or,List.any_eq_true,Bool.and_eq_true,Bool.or_eq_true,beq_iff_eq] at h2
 obtain ⟨e,he,h3,h4⟩:=h2
 exact ⟨e,by simpa using he,h3,h4⟩
def edgesDown (l:List Oper):Bool:=(List.range l.length).all fun j=>match l[j]? with
 | none=>true
 | some o=>o.after.toList.all fun e=>!Region.binds .any e||Nat.blt e.on j
def pairOk (l:List Oper) (m:List Nat) (x y:Nat×Nat):Bool:=
 !Nat.blt 2 x.2&&((m.getD y.1 0).testBit x.1||!Nat.blt 2 y.2&&(Nat.blt x.2 2&&!(Nat.beq x.2 1&&Nat.blt 1 y.2)&&match l[x.1]?,l[y.1]? with
  | some ox,some oy=>ox.apart l.toArray oy
  | _,_=>false))
def pairsOk (l:List Oper) (m:List Nat):List (Nat×Nat)→Bool
 | []=>true
 | x::p=>p.all (fun y=>pairOk l m x y&&!Nat.beq x.1 y.1)&&pairsOk l m p
def topoOk (l:List Oper):List (Nat×Nat)→Bool
 | []=>true
 | x::p=>(match l[x.1]? with
  | some o=>o.after.toList.all fun e=>!Region.binds .any e||!((x::p).any fun y=>Nat.beq y.1 e.on)
  | none=>false)&&topoOk l p
def planOk (l:List Oper) (p:List (Nat×Nat)):Bool:=
 waitsOk l (waitsGo l [])&&edgesDown l&&Region.noSelect l.toArray&&pairsOk l (waitsGo l []) p&&topoOk l p&&((List.range l.length).all fun i=>p.any fun y=>Nat.beq y.1 i)&&p.all fun y=>Nat.blt y.1 l.length
def Fits (l:List Oper) (p:List (Nat×Nat)) (listed:Array Bool):Prop:=
 listed.size=l.length∧∀i,i<l.length→(listed.getD i true=false↔∃y∈p,y.1=i)
def Closed (l:List Oper) (listed:Array Bool):Prop:=
 ∀j o,l[j]?=some o→listed.getD j false=true→∀e∈o.after,Region.binds .any e=true→listed.getD e.on false=true
theorem waits_listed {m:List Nat} {listed:Array Bool} (hm:waitsOk l m=true) (hd:edgesDown l=true) (hc:Closed l listed):
  ∀(j x:Nat) (o:Oper),l[j]?=some o→x<l.length→(m.getD j 0).testBit x=true→
   (∀e∈o.after,Region.binds .any e=true→listed.getD e.on false=true)→listed.getD x false=true:=by
 intro j
 induction j using Nat.strongRecOn with
 | _ j ih=>
  intro x o hj hx hb hall
  obtain ⟨e,he,h1,h2⟩:=waitsOk_spec hm hj hx hb
  have hl:=hall e he h1
  rcases h2 with h2|h2
  · rw [←h2];exact hl
  ·
   have hjl:j<l.length:=(List.getElem?_eq_some_iff.1 hj).1
   have h3:=List.all_eq_true.1 hd j (List.mem_range.2 hjl)
   simp only [hj] at h3
   have h4:=List.all_eq_true.1 h3 e (by simpa using he)
   rw [h1] at h4
   have h5:e.on<j:=by simpa using h4
   obtain ⟨o',ho'⟩:∃o',l[e.on]?=some o':=⟨l[e.on]'(by omega),by simp⟩
   exact ih e.on h5 x o' ho' hx h2 (fun e' he' hb'=>hc e.on o' ho' hl e' he' hb')
theorem getD_false_of {listed:Array Bool} {i:Nat} (h:listed.getD i true=false):listed.getD i false=false:=by
 rcases Nat.lt_or_ge i listed.size with h'|h'
 · simp [h'] at h ⊢;exact h
 · simp [Array.getElem?_eq_none h'] at h
theorem planRun.quiet_first {C:World→Prop} {j k:Nat} {q:List (Nat×Nat)} {w:World} (hk:k<2)
  (hs:∀(j:Nat) (o:Oper) (cs:Array SelectCase) (b:Bool),l[j]?=some o→o.op≠.select cs b) (hC:C w):∀(p:List (Nat×Nat)) (a:Act),
  (∀x∈p,x.2<2∧∃ox oj,l[x.1]?=some ox∧l[j]?=some oj∧ox.apart l.toArray oj=true)→planRun P l C K (p++(j,k)::q) a w→
   ∃o v,l[j]?=some o∧QuietAt P l o a w v∧planRun P l C K (p++q) (a.put o.dst v) w:=by
 intro p
 induction p with
 | nil=>
  intro a _ h
  rcases h with ⟨_,o,v,hi,hq,hr⟩|⟨h,_⟩
  ·
   have hk':k=0∨k=1:=by omega
   exact ⟨o,v,hi,hq w (hk'.imp (fun h=>⟨h,hC⟩) (fun h=>⟨h,rfl⟩)),hr⟩
  · simp only at h;omega
 | cons x p ih=>
  intro a hp h
  obtain ⟨hx2,ox',oj,hox,hoj,hap⟩:=hp x List.mem_cons_self
  rcases h with ⟨_,ox,vx,hi,hqx,hr⟩|⟨h,_⟩
  ·
   have:ox'=ox:=Option.some.inj (hox.symm.trans hi)
   subst this
   obtain ⟨o,v,hj,hq,hr'⟩:=ih (a.put ox'.dst vx) (fun x hx=>hp x (List.mem_cons_of_mem _ hx)) hr
   have:oj=o:=Option.some.inj (hoj.symm.trans hj)
   subst this
   obtain ⟨h1,h2,h3⟩:=Oper.apart_spec hap
   refine ⟨oj,v,hj,hq.unput hap (fun cs b=>hs j oj cs b hj),.inl ⟨hx2,ox',vx,hi,fun w' hw'=>?_,?_⟩⟩
   ·
    have:=hqx w' hw'
    unfold QuietAt at*
    rw [execOp_put ox' (fun cs b=>hs x.1 ox' cs b hi) a oj.dst v h3,wanted_put ox' a oj.dst v h3]
    exact this
   · rw [←Act.put_comm a vx v h2];exact hr'
  · omega
theorem planRun.loud_first {C:World→Prop} {j k:Nat} {q:List (Nat×Nat)} {w:World} (hk:k=2)
  (hs:∀(j:Nat) (o:Oper) (cs:Array SelectCase) (b:Bool),l[j]?=some o→o.op≠.select cs b):∀(p:List (Nat×Nat)) (a:Act),
  (∀x∈p,x.2=0∧∃ox oj,l[x.1]?=some ox∧l[j]?=some oj∧ox.apart l.toArray oj=true)→planRun P l C K (p++(j,k)::q) a w→
   ∃o,l[j]?=some o∧good P l o a w fun a' w'=>C w'∧planRun P l C K (p++q) a' w':=by
 intro p
 induction p with
 | nil=>
  intro a _ h
  rcases h with ⟨h,_⟩|⟨_,o,hi,hg⟩
  · simp only at h;omega
  · exact ⟨o,hi,hg.mono fun _ _ h=>⟨h.1 hk,h.2⟩⟩
 | cons x p ih=>
  intro a hp h
  obtain ⟨hx2,ox',oj,hox,hoj,hap⟩:=hp x List.mem_cons_self
  rcases h with ⟨_,ox,vx,hi,hqx,hr⟩|⟨h,_⟩
  ·
   have:ox'=ox:=Option.some.inj (hox.symm.trans hi)
   subst this
   obtain ⟨o,hj,hg⟩:=ih (a.put ox'.dst vx) (fun x hx=>hp x (List.mem_cons_of_mem _ hx)) hr
   have:oj=o:=Option.some.inj (hoj.symm.trans hj)
   subst this
   obtain ⟨h1,h2,h3⟩:=Oper.apart_spec hap
   refine ⟨oj,hj,?_⟩
   have back:∀(u:Value) (w':World),C w'→planRun P l C K (p++q) ((a.put ox'.dst vx).put oj.dst u) w'→
     C w'∧planRun P l C K (x::p++q) (a.put oj.dst u) w':=fun u w' hw' hr'=>by
    refine ⟨hw',.inl ⟨by omega,ox',vx,hi,fun w'' hw''=>?_,?_⟩⟩
    ·
     have:=hqx w'' (.inl ⟨hx2,hw''.elim (fun h=>h.2) (fun h=>absurd h.1 (by omega))⟩)
     unfold QuietAt at*
     rw [execOp_put ox' (fun cs b=>hs x.1 ox' cs b hi) a oj.dst u h3,wanted_put ox' a oj.dst u h3]
     exact this
    · rw [←Act.put_comm a vx u h2];exact hr'
   unfold good at*
   rw [execOp_put oj (fun cs b=>hs j oj cs b hj) a ox'.dst vx h1,wanted_put oj a ox'.dst vx h1] at hg
   rcases hg with ⟨hw,hg⟩|⟨hw,hg⟩
   ·
    refine .inl ⟨hw,?_⟩
    generalize (execOp a.eval oj).run P w=x at*
    cases x with
    | ok nx w'=>
     cases nx<;>simp only [goodUpon] at hg ⊢
     case enter f args=>exact hg.mono fun e w' he=>by cases e<;>first|exact back _ _ he.1 he.2|exact he
     all_goals first|exact back _ _ hg.1 hg.2|exact hg
    | halt x w'=>simp only [goodUpon] at hg
   · exact .inr ⟨hw,back _ _ hg.1 hg.2⟩
  · omega
theorem pairsOk_mem {m:List Nat}:∀{p:List (Nat×Nat)} {y:Nat×Nat} {q:List (Nat×Nat)},pairsOk l m (p++y::q)=true→∀x∈p,pairOk l m x y=true∧x.1≠y.1
 | [],_,_,_,_,hx=>by cases hx
 | z::p,y,q,h,x,hx=>by
  simp only [List.cons_append,pairsOk,Bool.and_eq_true,List.all_eq_true] at h
  rcases List.mem_cons.1 hx with rfl|hx
  ·
   have:=h.1 y (by simp)
   simp only [Bool.not_eq_true'] at this
   exact ⟨this.1,fun he=>by rw [he] at this;simp at this⟩
  · exact pairsOk_mem h.2 x hx
theorem pairsOk_drop {m:List Nat}:∀{p:List (Nat×Nat)} {y:Nat×Nat} {q:List (Nat×Nat)},pairsOk l m (p++y::q)=true→pairsOk l m (p++q)=true∧∀x∈q,x.1≠y.1
 | [],y,q,h=>by
  simp only [List.nil_append,pairsOk,Bool.and_eq_true,List.all_eq_true] at h
  refine ⟨by simpa using h.2,fun x hx he=>?_⟩
  have:=(h.1 x hx).2
  rw [he] at this
  simp at this
 | z::p,y,q,h=>by
  simp only [List.cons_append,pairsOk,Bool.and_eq_true,List.all_eq_true] at h ⊢
  obtain ⟨h1,h2⟩:=pairsOk_drop h.2
  refine ⟨⟨fun x hx=>h.1 x ?_,h1⟩,h2⟩
  rcases List.mem_append.1 hx with hx|hx
  · exact List.mem_append_left _ hx
  · exact List.mem_append_right _ (List.mem_cons_of_mem _ hx)
theorem topoOk_drop:∀{p:List (Nat×Nat)} {y:Nat×Nat} {q:List (Nat×Nat)},topoOk l (p++y::q)=true→topoOk l (p++q)=true
 | [],y,q,h=>by
  simp only [List.nil_append,topoOk,Bool.and_eq_true] at h
  simpa using h.2
 | z::p,y,q,h=>by
  simp only [List.cons_append,topoOk,Bool.and_eq_true] at h ⊢
  refine ⟨?_,topoOk_drop h.2⟩
  have h1:=h.1
  split at h1
  ·
   rename_i o ho
   rw [List.all_eq_true] at h1 ⊢
   intro e he
   have h2:=h1 e he
   simp only [Bool.or_eq_true,Bool.not_eq_true'] at h2 ⊢
   refine h2.imp id fun h3=>?_
   rw [List.any_eq_false] at h3 ⊢
   intro x hx
   refine h3 x ?_
   rcases List.mem_cons.1 hx with rfl|hx
   · exact List.mem_cons_self
   ·
    rcases List.mem_append.1 hx with hx|hx
    · exact List.mem_cons_of_mem _ (List.mem_append_left _ hx)
    · exact List.mem_cons_of_mem _ (List.mem_append_right _ (List.mem_cons_of_mem _ hx))
  · cases h1
theorem planRun.wpAny {Q:Exit→Act→World→Prop} {C:World→Prop} {m:List Nat} (hQ:∀a w,K a w→Q .normal a w) (hm:waitsOk l m=true) (hd:edgesDown l=true)
  (hs:∀(j:Nat) (o:Oper) cs b,l[j]?=some o→o.op≠.select cs b):∀(fuel:Nat) (p:List (Nat×Nat)) (listed:Array Bool) (a:Act) (w:World),p.length=fuel→
   (∀y∈p,y.1<l.length)→pairsOk l m p=true→topoOk l p=true→Fits l p listed→Closed l listed→(C w∨p=[])→planRun P l C K p a w→wpAny P .any l.toArray Q fuel listed a w
 | 0,p,listed,a,w,hlen,hlt,hpr,htp,hf,hc,hC,h=>by
  have:p=[]:=List.eq_nil_of_length_eq_zero hlen
  subst this
  refine ⟨?_,hQ _ _ h⟩
  rw [List.eq_nil_iff_forall_not_mem]
  intro j hj
  obtain ⟨h1,o,ho,_⟩:=mem_ready.1 hj
  have hjl:j<l.length:=(List.getElem?_eq_some_iff.1 (by simpa using ho:l[j]?=some o)).1
  obtain ⟨y,hy,_⟩:=(hf.2 j hjl).1 h1
  cases hy
 | fuel+1,p,listed,a,w,hlen,hlt,hpr,htp,hf,hc,hC,h=>by
  refine ⟨fun hnil=>?_,fun j hj=>?_⟩
  ·
   exfalso
   match p,hlen with
   | y::p,_=>
    have hyl:=hlt y List.mem_cons_self
    have hm:y.1∈Region.ready .any l.toArray listed:=by
     rw [mem_ready]
     refine ⟨(hf.2 y.1 hyl).2 ⟨y,List.mem_cons_self,rfl⟩,l[y.1],by simp [hyl],fun e he hb=>?_⟩
     simp only [topoOk,Bool.and_eq_true,List.getElem?_eq_getElem hyl,List.all_eq_true] at htp
     have h1:=htp.1 e (by simpa using he)
     rw [hb] at h1
     simp only [Bool.not_true,Bool.false_or,Bool.not_eq_true',List.any_eq_false] at h1
     have hel:e.on<l.length:=by
      have h3:=List.all_eq_true.1 hd y.1 (List.mem_range.2 hyl)
      simp only [List.getElem?_eq_getElem hyl] at h3
      have h4:=List.all_eq_true.1 h3 e (by simpa using he)
      rw [hb] at h4
      have h5:e.on<y.1:=by simpa using h4
      omega
     cases hl:listed.getD e.on true with
     | false=>
      obtain ⟨z,hz,hze⟩:=(hf.2 e.on hel).1 hl
      exact absurd (by rw [hze];exact Nat.beq_refl _) (h1 z hz)
     | true=>
      have:e.on<listed.size:=by rw [hf.1];exact hel
      simpa [this] using hl
    rw [hnil] at hm
    cases hm
  ·
   obtain ⟨hun,oj,hoj,hall⟩:=mem_ready.1 hj
   have hoj':l[j]?=some oj:=by simpa using hoj
   have hjl:j<l.length:=(List.getElem?_eq_some_iff.1 hoj').1
   obtain ⟨⟨j',k⟩,hy,hyj⟩:=(hf.2 j hjl).1 hun
   simp only at hyj
   subst hyj
   obtain ⟨p1,p2,rfl⟩:=List.append_of_mem hy
   have hah:∀x∈p1,(x.2<2∧(1<k→x.2=0))∧∃ox oj,l[x.1]?=some ox∧l[j']?=some oj∧ox.apart l.toArray oj=true:=fun x hx=>by
    obtain ⟨h1,h2⟩:=pairsOk_mem hpr x hx
    have hxl:=hlt x (List.mem_append_left _ hx)
    have hxun:listed.getD x.1 true=false:=(hf.2 x.1 hxl).2 ⟨x,List.mem_append_left _ hx,rfl⟩
    simp only [pairOk,Bool.or_eq_true,Bool.and_eq_true,Bool.not_eq_true'] at h1
    rcases h1.2 with h1|⟨_,⟨h1,h3⟩,h4⟩
    ·
     have:=waits_listed hm hd hc j' x.1 oj hoj' hxl h1 hall
     rw [getD_false_of hxun] at this
     cases this
    ·
     have h1':x.2<2:=by simpa using h1
     refine ⟨⟨h1',fun hk=>?_⟩,?_⟩
     ·
      rcases Nat.lt_or_ge x.2 1 with h5|h5
      · omega
      ·
       have h6:x.2=1:=by omega
       rw [h6] at h3
       have h7:Nat.blt 1 k=true:=by simpa using hk
       simp [h7] at h3
     ·
      split at h4
      ·
       rename_i ox oy hx' hy'
       exact ⟨ox,oy,hx',hy',h4⟩
      · cases h4
   obtain ⟨hpr',hq'⟩:=pairsOk_drop hpr
   have htp':=topoOk_drop htp
   have hlt':∀y∈p1++p2,y.1<l.length:=fun y hy=>hlt y (by
    rcases List.mem_append.1 hy with hy|hy
    · exact List.mem_append_left _ hy
    · exact List.mem_append_right _ (List.mem_cons_of_mem _ hy))
   have hlen':(p1++p2).length=fuel:=by simp at hlen ⊢;omega
   have hf':Fits l (p1++p2) (listed.setIfInBounds j' true):=by
    refine ⟨by simp [hf.1],fun i hi=>?_⟩
    by_cases hij:j'=i
    ·
     subst hij
     have:j'<listed.size:=by rw [hf.1];exact hjl
     constructor
     · intro h;simp [this] at h
     ·
      rintro ⟨y,hy,he⟩
      rcases List.mem_append.1 hy with hy|hy
      · exact absurd he (pairsOk_mem hpr y hy).2
      · exact absurd he (hq' y hy)
    ·
     rw [getD_set_ne true hij,hf.2 i hi]
     constructor
     ·
      rintro ⟨y,hy,he⟩
      refine ⟨y,?_,he⟩
      rcases List.mem_append.1 hy with hy|hy
      · exact List.mem_append_left _ hy
      ·
       rcases List.mem_cons.1 hy with rfl|hy
       · exact absurd he hij
       · exact List.mem_append_right _ hy
     ·
      rintro ⟨y,hy,he⟩
      refine ⟨y,?_,he⟩
      rcases List.mem_append.1 hy with hy|hy
      · exact List.mem_append_left _ hy
      · exact List.mem_append_right _ (List.mem_cons_of_mem _ hy)
   have hc':Closed l (listed.setIfInBounds j' true):=by
    intro i o ho hl e he hb
    by_cases hij:j'=i
    ·
     subst hij
     have:o=oj:=Option.some.inj (ho.symm.trans hoj')
     subst this
     exact getD_set_true (hall e he hb)
    ·
     rw [getD_set_ne false hij] at hl
     exact getD_set_true (hc i o ho hl e he hb)
   have hC:C w:=hC.elim (fun h=>h) (fun e=>by simp at e)
   rcases Nat.lt_or_ge k 2 with hk|hk
   ·
    obtain ⟨o,v,hi,hq,hr⟩:=planRun.quiet_first hk hs hC p1 a (fun x hx=>⟨(hah x hx).1.1,(hah x hx).2⟩) h
    exact (hq.good (K:=Go.wpAny P .any l.toArray Q fuel _) (planRun.wpAny hQ hm hd hs fuel (p1++p2) _ _ _ hlen' hlt' hpr' htp' hf' hc' (.inl hC) hr)).wpOp hi
   ·
    rcases Nat.lt_or_ge 2 k with hk3|hk3
    ·
     have e1:p1=[]:=by
      cases p1 with
      | nil=>rfl
      | cons x p1=>
       exfalso
       obtain ⟨h1,_⟩:=pairsOk_mem hpr x List.mem_cons_self
       have hxl:=hlt x (List.mem_append_left _ List.mem_cons_self)
       have hxun:listed.getD x.1 true=false:=(hf.2 x.1 hxl).2 ⟨x,List.mem_append_left _ List.mem_cons_self,rfl⟩
       have h9:Nat.blt 2 k=true:=by simpa using hk3
       simp only [pairOk,h9,Bool.not_true,Bool.false_and,Bool.or_false,Bool.and_eq_true] at h1
       have:=waits_listed hm hd hc j' x.1 oj hoj' hxl h1.2 hall
       rw [getD_false_of hxun] at this
       cases this
     subst e1
     have e2:p2=[]:=by
      cases p2 with
      | nil=>rfl
      | cons x p2=>
       exfalso
       simp only [List.nil_append,pairsOk,Bool.and_eq_true,List.all_eq_true] at hpr
       have h1:=hpr.1 x List.mem_cons_self
       have h9:Nat.blt 2 k=true:=by simpa using hk3
       simp [pairOk,h9] at h1
     subst e2
     rcases h with ⟨h,_⟩|⟨_,o,hi,hg⟩
     · simp only at h;omega
     · exact (hg.mono fun a' w' h'=>planRun.wpAny hQ hm hd hs fuel ([]++[]) _ a' w' hlen' hlt' hpr' htp' hf' hc' (.inr rfl) h'.2).wpOp hi
    ·
     obtain ⟨o,hi,hg⟩:=planRun.loud_first (by omega) hs p1 a (fun x hx=>⟨(hah x hx).1.2 (by omega),(hah x hx).2⟩) h
     exact (hg.mono fun a' w' h'=>planRun.wpAny hQ hm hd hs fuel (p1++p2) _ a' w' hlen' hlt' hpr' htp' hf' hc' (.inl h'.1) h'.2).wpOp hi
theorem wp_of_plan {Q:Exit→Act→World→Prop} {id:Nat} {a:Act} {w:World} {C:World→Prop} (p:List (Nat×Nat)) (hmx:P.follows .mixedOrders=true) (hp:planOk l p=true)
  (hQ:∀a w,K a w→Q .normal a w) (hC:C w.drew) (h:planRun P l C K p a w.drew):(Code.region id l.toArray true).wp P Q a w:=by
 simp only [planOk,Bool.and_eq_true] at hp
 obtain ⟨⟨⟨⟨⟨⟨h1,h2⟩,h3⟩,h4⟩,h5⟩,h6⟩,h7⟩:=hp
 have hlt:∀y∈p,y.1<l.length:=fun y hy=>by simpa using List.all_eq_true.1 h7 y hy
 refine wp_region_any hmx ?_
 have hsel:∀(j:Nat) (o:Oper) (cs:Array SelectCase) (b:Bool),l[j]?=some o→o.op≠.select cs b:=fun j o cs b ho=>Region.noSelect_spec h3 j o cs b (by simpa using ho)
 have hfit:Fits l p (Array.replicate l.length false):=by
  refine ⟨by simp,fun i hi=>⟨fun _=>?_,fun _=>by simp [hi]⟩⟩
  obtain ⟨y,hy,he⟩:=List.any_eq_true.1 (List.all_eq_true.1 h6 i (List.mem_range.2 hi))
  exact ⟨y,hy,Nat.eq_of_beq_eq_true he⟩
 have hcl:Closed l (Array.replicate l.length false):=fun j o ho hl=>by
  have hjl:j<l.length:=(List.getElem?_eq_some_iff.1 ho).1
  simp [hjl] at hl
 have hlen:p.length=l.length:=by
  have hnd:(p.map (·.1)).Nodup:=by
   rw [List.nodup_iff_pairwise_ne,List.pairwise_map]
   clear h5 h6 h7 hlt hfit h
   induction p with
   | nil=>exact List.Pairwise.nil
   | cons x p ih=>
    simp only [pairsOk,Bool.and_eq_true,List.all_eq_true] at h4
    refine List.Pairwise.cons (fun y hy he=>?_) (ih h4.2)
    have:=(h4.1 y hy).2
    rw [he] at this
    simp at this
  have hperm:(p.map (·.1)).Perm (List.range l.length):=by
   refine (List.perm_ext_iff_of_nodup hnd List.nodup_range).2 fun i=>?_
   rw [List.mem_map,List.mem_range]
   constructor
   · rintro ⟨y,hy,rfl⟩;exact hlt y hy
   ·
    intro hi
    obtain ⟨y,hy,he⟩:=List.any_eq_true.1 (List.all_eq_true.1 h6 i (List.mem_range.2 hi))
    exact ⟨y,hy,Nat.eq_of_beq_eq_true he⟩
  have:=hperm.length_eq
  simpa using this
 have:=planRun.wpAny hQ h1 h2 hsel l.length p (Array.replicate l.length false) a w.drew hlen hlt h4 h5 hfit hcl (.inl hC) h
 simpa using this
/-! ### Two operations that may come in either order: a plan for each -/
def pairOkX (l:List Oper) (m:List Nat) (e1 e2:Nat) (x y:Nat×Nat):Bool:=pairOk l m x y||(Nat.beq x.1 e1&&(Nat.beq y.1 e2||(m.getD y.1 0).testBit e2))
def pairsOkX (l:List Oper) (m:List Nat) (e1 e2:Nat):List (Nat×Nat)→Bool
 | []=>true
 | x::p=>p.all (fun y=>pairOkX l m e1 e2 x y&&!Nat.beq x.1 y.1)&&pairsOkX l m e1 e2 p
def soleOk (m:List Nat) (e1 e2:Nat) (p:List (Nat×Nat)):Bool:=
 p.all (fun y=>bif Nat.beq y.1 e1||Nat.beq y.1 e2 then Nat.beq y.2 2 else (Nat.blt y.2 2||(m.getD y.1 0).testBit e1))&&(p.any fun y=>Nat.beq y.1 e1)&&p.any fun y=>Nat.beq y.1 e2
def plan2Ok (l:List Oper) (e1 e2:Nat) (p q:List (Nat×Nat)):Bool:=
 waitsOk l (waitsGo l [])&&edgesDown l&&Region.noSelect l.toArray&&pairsOkX l (waitsGo l []) e1 e2 p&&pairsOkX l (waitsGo l []) e2 e1 q&&topoOk l p&&topoOk l q&&
  ((List.range l.length).all fun i=>p.any fun y=>Nat.beq y.1 i)&&((List.range l.length).all fun i=>q.any fun y=>Nat.beq y.1 i)&&(p.all fun y=>Nat.blt y.1 l.length)&&(q.all fun y=>Nat.blt y.1 l.length)&&
  soleOk (waitsGo l []) e1 e2 p&&soleOk (waitsGo l []) e1 e2 q&&!Nat.beq e1 e2
theorem pairsOkX_mem {m:List Nat} {e1 e2:Nat}:∀{p:List (Nat×Nat)} {y:Nat×Nat} {q:List (Nat×Nat)},pairsOkX l m e1 e2 (p++y::q)=true→∀x∈p,pairOkX l m e1 e2 x y=true∧x.1≠y.1
 | [],_,_,_,_,hx=>by cases hx
 | z::p,y,q,h,x,hx=>by
  simp only [List.cons_append,pairsOkX,Bool.and_eq_true,List.all_eq_true] at h
  rcases List.mem_cons.1 hx with rfl|hx
  ·
   have:=h.1 y (by simp)
   simp only [Bool.not_eq_true'] at this
   exact ⟨this.1,fun he=>by rw [he] at this;simp at this⟩
  · exact pairsOkX_mem h.2 x hx
theorem pairsOkX_drop {m:List Nat} {e1 e2:Nat}:∀{p:List (Nat×Nat)} {y:Nat×Nat} {q:List (Nat×Nat)},pairsOkX l m e1 e2 (p++y::q)=true→pairsOkX l m e1 e2 (p++q)=true∧∀x∈q,x.1≠y.1
 | [],y,q,h=>by
  simp only [List.nil_append,pairsOkX,Bool.and_eq_true,List.all_eq_true] at h
  refine ⟨by simpa using h.2,fun x hx he=>?_⟩
  have:=(h.1 x hx).2
  rw [he] at this
  simp at this
 | z::p,y,q,h=>by
  simp only [List.cons_append,pairsOkX,Bool.and_eq_true,List.all_eq_true] at h ⊢
  obtain ⟨h1,h2⟩:=pairsOkX_drop h.2
  refine ⟨⟨fun x hx=>h.1 x ?_,h1⟩,h2⟩
  rcases List.mem_append.1 hx with hx|hx
  · exact List.mem_append_left _ hx
  · exact List.mem_append_right _ (List.mem_cons_of_mem _ hx)
theorem pairsOkX_off {m:List Nat} {e1 e2:Nat}:∀{p:List (Nat×Nat)},pairsOkX l m e1 e2 p=true→(∀x∈p,x.1≠e1)→pairsOk l m p=true
 | [],_,_=>rfl
 | z::p,h,hn=>by
  simp only [pairsOkX,pairsOk,Bool.and_eq_true,List.all_eq_true] at h ⊢
  refine ⟨fun y hy=>⟨?_,(h.1 y hy).2⟩,pairsOkX_off h.2 fun x hx=>hn x (List.mem_cons_of_mem _ hx)⟩
  have h1:=(h.1 y hy).1
  have h2:Nat.beq z.1 e1=false:=by
   cases hb:Nat.beq z.1 e1 with
   | false=>rfl
   | true=>exact absurd (Nat.eq_of_beq_eq_true hb) (hn z List.mem_cons_self)
  simpa only [pairOkX,h2,Bool.false_and,Bool.or_false] using h1
theorem QuietAt.inj {o:Oper} {a:Act} {w:World} {v v':Value} (h:QuietAt P l o a w v) (h':QuietAt P l o a w v'):v=v':=by
 rcases h with ⟨h1,h2⟩|⟨h1,h2⟩<;>rcases h' with ⟨h3,h4⟩|⟨h3,h4⟩
 · rw [h2] at h4;cases h4;rfl
 · rw [h1] at h3;cases h3
 · rw [h1] at h3;cases h3
 · rw [h2,h4]
theorem plan_ready {listed:Array Bool} (hd:edgesDown l=true) {y:Nat×Nat} {p:List (Nat×Nat)} (hlt:∀z∈y::p,z.1<l.length) (htp:topoOk l (y::p)=true) (hf:Fits l (y::p) listed):y.1∈Region.ready .any l.toArray listed:=by
 have hyl:=hlt y List.mem_cons_self
 rw [mem_ready]
 refine ⟨(hf.2 y.1 hyl).2 ⟨y,List.mem_cons_self,rfl⟩,l[y.1],by simp [hyl],fun e he hb=>?_⟩
 simp only [topoOk,Bool.and_eq_true,List.getElem?_eq_getElem hyl,List.all_eq_true] at htp
 have h1:=htp.1 e (by simpa using he)
 rw [hb] at h1
 simp only [Bool.not_true,Bool.false_or,Bool.not_eq_true',List.any_eq_false] at h1
 have hel:e.on<l.length:=by
  have h3:=List.all_eq_true.1 hd y.1 (List.mem_range.2 hyl)
  simp only [List.getElem?_eq_getElem hyl] at h3
  have h4:=List.all_eq_true.1 h3 e (by simpa using he)
  rw [hb] at h4
  have h5:e.on<y.1:=by simpa using h4
  omega
 cases hl:listed.getD e.on true with
 | false=>
  obtain ⟨z,hz,hze⟩:=(hf.2 e.on hel).1 hl
  exact absurd (by rw [hze];exact Nat.beq_refl _) (h1 z hz)
 | true=>
  have:e.on<listed.size:=by rw [hf.1];exact hel
  simpa [this] using hl
theorem Fits.next {listed:Array Bool} {p1 p2:List (Nat×Nat)} {j k:Nat} (hf:Fits l (p1++(j,k)::p2) listed) (h1:∀x∈p1,x.1≠j) (h2:∀x∈p2,x.1≠j) (hjl:j<l.length):Fits l (p1++p2) (listed.setIfInBounds j true):=by
 refine ⟨by simp [hf.1],fun i hi=>?_⟩
 by_cases hij:j=i
 ·
  subst hij
  have:j<listed.size:=by rw [hf.1];exact hjl
  constructor
  · intro h;simp [this] at h
  ·
   rintro ⟨y,hy,he⟩
   rcases List.mem_append.1 hy with hy|hy
   · exact absurd he (h1 y hy)
   · exact absurd he (h2 y hy)
 ·
  rw [getD_set_ne true hij,hf.2 i hi]
  constructor
  ·
   rintro ⟨y,hy,he⟩
   refine ⟨y,?_,he⟩
   rcases List.mem_append.1 hy with hy|hy
   · exact List.mem_append_left _ hy
   ·
    rcases List.mem_cons.1 hy with rfl|hy
    · exact absurd he hij
    · exact List.mem_append_right _ hy
  ·
   rintro ⟨y,hy,he⟩
   refine ⟨y,?_,he⟩
   rcases List.mem_append.1 hy with hy|hy
   · exact List.mem_append_left _ hy
   · exact List.mem_append_right _ (List.mem_cons_of_mem _ hy)
theorem Closed.next {listed:Array Bool} {j:Nat} {oj:Oper} (hc:Closed l listed) (hoj:l[j]?=some oj) (hall:∀e∈oj.after,Region.binds .any e=true→listed.getD e.on false=true):Closed l (listed.setIfInBounds j true):=by
 intro i o ho hl e he hb
 by_cases hij:j=i
 ·
  subst hij
  have:o=oj:=Option.some.inj (ho.symm.trans hoj)
  subst this
  exact getD_set_true (hall e he hb)
 ·
  rw [getD_set_ne false hij] at hl
  exact getD_set_true (hc i o ho hl e he hb)
theorem ahead {m:List Nat} {listed:Array Bool} (hm:waitsOk l m=true) (hd:edgesDown l=true) (hc:Closed l listed) {p1:List (Nat×Nat)} {j k:Nat} {oj:Oper} (hoj:l[j]?=some oj)
  (hall:∀e∈oj.after,Region.binds .any e=true→listed.getD e.on false=true) (hlt:∀x∈p1,x.1<l.length) (hun:∀x∈p1,listed.getD x.1 true=false) (hpr:∀x∈p1,pairOk l m x (j,k)=true):
  ∀x∈p1,(x.2<2∧(1<k→x.2=0))∧∃ox oj',l[x.1]?=some ox∧l[j]?=some oj'∧ox.apart l.toArray oj'=true:=fun x hx=>by
 have h1:=hpr x hx
 simp only [pairOk,Bool.or_eq_true,Bool.and_eq_true,Bool.not_eq_true'] at h1
 rcases h1.2 with h1|⟨_,⟨h1,h3⟩,h4⟩
 ·
  have:=waits_listed hm hd hc j x.1 oj hoj (hlt x hx) h1 hall
  rw [getD_false_of (hun x hx)] at this
  cases this
 ·
  have h1':x.2<2:=by simpa using h1
  refine ⟨⟨h1',fun hk=>?_⟩,?_⟩
  ·
   rcases Nat.lt_or_ge x.2 1 with h5|h5
   · omega
   ·
    have h6:x.2=1:=by omega
    rw [h6] at h3
    have h7:Nat.blt 1 k=true:=by simpa using hk
    simp [h7] at h3
  ·
   split at h4
   ·
    rename_i ox oy hx' hy'
    exact ⟨ox,oy,hx',hy',h4⟩
   · cases h4
theorem soleOk_mem {m:List Nat} {e1 e2:Nat} {p:List (Nat×Nat)} (h:soleOk m e1 e2 p=true) {y:Nat×Nat} (hy:y∈p):((y.1=e1∨y.1=e2)→y.2=2)∧(y.1≠e1→y.1≠e2→y.2<2∨(m.getD y.1 0).testBit e1=true):=by
 simp only [soleOk,Bool.and_eq_true] at h
 have h1:=List.all_eq_true.1 h.1.1 y hy
 constructor
 ·
  intro he
  have:(Nat.beq y.1 e1||Nat.beq y.1 e2)=true:=by rcases he with he|he<;>simp [he]
  rw [this] at h1
  exact Nat.eq_of_beq_eq_true (by simpa using h1)
 ·
  intro n1 n2
  have:(Nat.beq y.1 e1||Nat.beq y.1 e2)=false:=by
   cases hb:Nat.beq y.1 e1 with
   | true=>exact absurd (Nat.eq_of_beq_eq_true hb) n1
   | false=>cases hb2:Nat.beq y.1 e2 with
    | true=>exact absurd (Nat.eq_of_beq_eq_true hb2) n2
    | false=>rfl
  rw [this] at h1
  simpa using h1
theorem soleOk_drop {m:List Nat} {e1 e2:Nat} {p q:List (Nat×Nat)} {y:Nat×Nat} (h:soleOk m e1 e2 (p++y::q)=true) (n1:y.1≠e1) (n2:y.1≠e2):soleOk m e1 e2 (p++q)=true:=by
 simp only [soleOk,Bool.and_eq_true,List.all_append,List.all_cons,List.any_append,List.any_cons] at h ⊢
 have b1:Nat.beq y.1 e1=false:=by
  cases hb:Nat.beq y.1 e1 with
  | false=>rfl
  | true=>exact absurd (Nat.eq_of_beq_eq_true hb) n1
 have b2:Nat.beq y.1 e2=false:=by
  cases hb:Nat.beq y.1 e2 with
  | false=>rfl
  | true=>exact absurd (Nat.eq_of_beq_eq_true hb) n2
 rw [b1,b2,Bool.false_or,Bool.false_or] at h
 exact ⟨⟨⟨h.1.1.1,h.1.1.2.2⟩,h.1.2⟩,h.2⟩
theorem planRun.wpAny2 {Q:Exit→Act→World→Prop} {C:World→Prop} {m:List Nat} {e1 e2:Nat} (hne:e1≠e2) (hQ:∀a w,K a w→Q .normal a w) (hm:waitsOk l m=true) (hd:edgesDown l=true)
  (hs:∀(j:Nat) (o:Oper) cs b,l[j]?=some o→o.op≠.select cs b):∀(fuel:Nat) (p q:List (Nat×Nat)) (listed:Array Bool) (a:Act) (w:World),p.length=fuel→q.length=fuel→
   (∀y∈p,y.1<l.length)→(∀y∈q,y.1<l.length)→pairsOkX l m e1 e2 p=true→pairsOkX l m e2 e1 q=true→topoOk l p=true→topoOk l q=true→soleOk m e1 e2 p=true→soleOk m e1 e2 q=true→
   Fits l p listed→Fits l q listed→Closed l listed→C w→planRun P l C K p a w→planRun P l C K q a w→Go.wpAny P .any l.toArray Q fuel listed a w
 | 0,p,q,listed,a,w,hlen,_,_,_,_,_,_,_,hso,_,_,_,_,_,_,_=>by
  have:p=[]:=List.eq_nil_of_length_eq_zero hlen
  subst this
  simp [soleOk] at hso
 | fuel+1,p,q,listed,a,w,hlen,hlenq,hlt,hltq,hpr,hprq,htp,htq,hso,hsq,hf,hfq,hc,hC,h,hq=>by
  refine ⟨fun hnil=>?_,fun j hj=>?_⟩
  ·
   exfalso
   match p,hlen with
   | y::p,_=>
    have hm:=plan_ready hd hlt htp hf
    rw [hnil] at hm
    cases hm
  ·
   obtain ⟨hun,oj,hoj,hall⟩:=mem_ready.1 hj
   have hoj':l[j]?=some oj:=by simpa using hoj
   have hjl:j<l.length:=(List.getElem?_eq_some_iff.1 hoj').1
   obtain ⟨⟨j',k⟩,hy,hyj⟩:=(hf.2 j hjl).1 hun
   simp only at hyj
   subst hyj
   obtain ⟨⟨j2,k2⟩,hy2,hyj2⟩:=(hfq.2 j' hjl).1 hun
   simp only at hyj2
   subst hyj2
   have hsp:=soleOk_mem hso hy
   have hsq':=soleOk_mem hsq hy2
   obtain ⟨p1,p2,rfl⟩:=List.append_of_mem hy
   obtain ⟨q1,q2,rfl⟩:=List.append_of_mem hy2
   have hx1:=pairsOkX_mem hpr
   have hx2:=pairsOkX_mem hprq
   obtain ⟨hpr',hq'⟩:=pairsOkX_drop hpr
   obtain ⟨hprq',hqq'⟩:=pairsOkX_drop hprq
   have unp:∀x∈p1,listed.getD x.1 true=false:=fun x hx=>(hf.2 x.1 (hlt x (List.mem_append_left _ hx))).2 ⟨x,List.mem_append_left _ hx,rfl⟩
   have unq:∀x∈q1,listed.getD x.1 true=false:=fun x hx=>(hfq.2 x.1 (hltq x (List.mem_append_left _ hx))).2 ⟨x,List.mem_append_left _ hx,rfl⟩
   have hltp:∀y∈p1++p2,y.1<l.length:=fun y hy=>hlt y (by
    rcases List.mem_append.1 hy with hy|hy
    · exact List.mem_append_left _ hy
    · exact List.mem_append_right _ (List.mem_cons_of_mem _ hy))
   have hltq2:∀y∈q1++q2,y.1<l.length:=fun y hy=>hltq y (by
    rcases List.mem_append.1 hy with hy|hy
    · exact List.mem_append_left _ hy
    · exact List.mem_append_right _ (List.mem_cons_of_mem _ hy))
   have hlenp:(p1++p2).length=fuel:=by simp at hlen ⊢;omega
   have hlenq2:(q1++q2).length=fuel:=by simp at hlenq ⊢;omega
   have hfp:=hf.next (fun x hx=>(hx1 x hx).2) hq' hjl
   have hfq2:=hfq.next (fun x hx=>(hx2 x hx).2) hqq' hjl
   have hc':=hc.next hoj' hall
   by_cases h1:j2=e1
   ·
    subst h1
    have hk2:k=2:=hsp.1 (.inl rfl)
    have hp1:∀x∈p1,pairOk l m x (j2,k)=true:=fun x hx=>by
     have h3:=(hx1 x hx).1
     have h4:Nat.beq x.1 j2=false:=by
      cases hb:Nat.beq x.1 j2 with
      | false=>rfl
      | true=>exact absurd (Nat.eq_of_beq_eq_true hb) (hx1 x hx).2
     simpa only [pairOkX,h4,Bool.false_and,Bool.or_false] using h3
    have hah:=ahead hm hd hc hoj' hall (fun x hx=>hlt x (List.mem_append_left _ hx)) unp hp1
    obtain ⟨o,hi,hg⟩:=planRun.loud_first hk2 hs p1 a (fun x hx=>⟨(hah x hx).1.2 (by omega),(hah x hx).2⟩) h
    have hpo:pairsOk l m (p1++p2)=true:=pairsOkX_off hpr' fun x hx=>by
     rcases List.mem_append.1 hx with hx|hx
     · exact (hx1 x hx).2
     · exact hq' x hx
    exact (hg.mono fun a' w' h'=>planRun.wpAny hQ hm hd hs fuel (p1++p2) _ a' w' hlenp hltp hpo (topoOk_drop htp) hfp hc' (.inl h'.1) h'.2).wpOp hi
   ·
    by_cases h2:j2=e2
    ·
     subst h2
     have hk2:k2=2:=hsq'.1 (.inr rfl)
     have hp1:∀x∈q1,pairOk l m x (j2,k2)=true:=fun x hx=>by
      have h3:=(hx2 x hx).1
      have h4:Nat.beq x.1 j2=false:=by
       cases hb:Nat.beq x.1 j2 with
       | false=>rfl
       | true=>exact absurd (Nat.eq_of_beq_eq_true hb) (hx2 x hx).2
      simpa only [pairOkX,h4,Bool.false_and,Bool.or_false] using h3
     have hah:=ahead hm hd hc hoj' hall (fun x hx=>hltq x (List.mem_append_left _ hx)) unq hp1
     obtain ⟨o,hi,hg⟩:=planRun.loud_first hk2 hs q1 a (fun x hx=>⟨(hah x hx).1.2 (by omega),(hah x hx).2⟩) hq
     have hpo:pairsOk l m (q1++q2)=true:=pairsOkX_off hprq' fun x hx=>by
      rcases List.mem_append.1 hx with hx|hx
      · exact (hx2 x hx).2
      · exact hqq' x hx
     exact (hg.mono fun a' w' h'=>planRun.wpAny hQ hm hd hs fuel (q1++q2) _ a' w' hlenq2 hltq2 hpo (topoOk_drop htq) hfq2 hc' (.inl h'.1) h'.2).wpOp hi
    ·
     obtain ⟨z,hz,hze⟩:∃z∈p1++(j2,k)::p2,z.1=e1:=by
      have hso':=hso
      simp only [soleOk,Bool.and_eq_true] at hso'
      obtain ⟨z,hz,he⟩:=List.any_eq_true.1 hso'.1.2
      exact ⟨z,hz,Nat.eq_of_beq_eq_true he⟩
     have hnw:(m.getD j2 0).testBit e1=false:=by
      cases hb:(m.getD j2 0).testBit e1 with
      | false=>rfl
      | true=>
       have hel:e1<l.length:=by rw [←hze];exact hlt z hz
       have:=waits_listed hm hd hc j2 e1 oj hoj' hel hb hall
       have hu:=(hf.2 e1 hel).2 ⟨z,hz,hze⟩
       rw [getD_false_of hu] at this
       cases this
     obtain ⟨z2,hz2,hze2⟩:∃z∈p1++(j2,k)::p2,z.1=e2:=by
      have hso':=hso
      simp only [soleOk,Bool.and_eq_true] at hso'
      obtain ⟨z,hz,he⟩:=List.any_eq_true.1 hso'.2
      exact ⟨z,hz,Nat.eq_of_beq_eq_true he⟩
     have hnw2:(m.getD j2 0).testBit e2=false:=by
      cases hb:(m.getD j2 0).testBit e2 with
      | false=>rfl
      | true=>
       have hel:e2<l.length:=by rw [←hze2];exact hlt z2 hz2
       have:=waits_listed hm hd hc j2 e2 oj hoj' hel hb hall
       have hu:=(hf.2 e2 hel).2 ⟨z2,hz2,hze2⟩
       rw [getD_false_of hu] at this
       cases this
     have hk:k<2:=(hsp.2 h1 h2).elim id (fun h=>by rw [hnw] at h;cases h)
     have hk':k2<2:=(hsq'.2 h1 h2).elim id (fun h=>by rw [hnw] at h;cases h)
     have n1:Nat.beq j2 e1=false:=by
      cases hb:Nat.beq j2 e1 with
      | false=>rfl
      | true=>exact absurd (Nat.eq_of_beq_eq_true hb) h1
     have n2:Nat.beq j2 e2=false:=by
      cases hb:Nat.beq j2 e2 with
      | false=>rfl
      | true=>exact absurd (Nat.eq_of_beq_eq_true hb) h2
     have hah:=ahead hm hd hc (k:=k) hoj' hall (fun x hx=>hlt x (List.mem_append_left _ hx)) unp (fun x hx=>by simpa only [pairOkX,n2,hnw2,Bool.or_self,Bool.and_false,Bool.or_false] using (hx1 x hx).1)
     have hah2:=ahead hm hd hc (k:=k2) hoj' hall (fun x hx=>hltq x (List.mem_append_left _ hx)) unq (fun x hx=>by simpa only [pairOkX,n1,hnw,Bool.or_self,Bool.and_false,Bool.or_false] using (hx2 x hx).1)
     obtain ⟨o,v,hi,hqa,hr⟩:=planRun.quiet_first hk hs hC p1 a (fun x hx=>⟨(hah x hx).1.1,(hah x hx).2⟩) h
     obtain ⟨o',v',hi',hqa',hr'⟩:=planRun.quiet_first hk' hs hC q1 a (fun x hx=>⟨(hah2 x hx).1.1,(hah2 x hx).2⟩) hq
     obtain rfl:o'=o:=Option.some.inj (hi'.symm.trans hi)
     obtain rfl:=hqa.inj hqa'
     exact (hqa.good (K:=Go.wpAny P .any l.toArray Q fuel _) (planRun.wpAny2 hne hQ hm hd hs fuel (p1++p2) (q1++q2) _ _ _ hlenp hlenq2 hltp hltq2 hpr' hprq' (topoOk_drop htp) (topoOk_drop htq) (soleOk_drop hso h1 h2) (soleOk_drop hsq h1 h2) hfp hfq2 hc' hC hr hr')).wpOp hi
theorem plan_length {m:List Nat} {e1 e2:Nat} {p:List (Nat×Nat)} (h4:pairsOkX l m e1 e2 p=true) (h6:((List.range l.length).all fun i=>p.any fun y=>Nat.beq y.1 i)=true) (hlt:∀y∈p,y.1<l.length):p.length=l.length:=by
 have hnd:(p.map (·.1)).Nodup:=by
  rw [List.nodup_iff_pairwise_ne,List.pairwise_map]
  clear h6 hlt
  induction p with
  | nil=>exact List.Pairwise.nil
  | cons x p ih=>
   simp only [pairsOkX,Bool.and_eq_true,List.all_eq_true] at h4
   refine List.Pairwise.cons (fun y hy he=>?_) (ih h4.2)
   have:=(h4.1 y hy).2
   rw [he] at this
   simp at this
 have hperm:(p.map (·.1)).Perm (List.range l.length):=by
  refine (List.perm_ext_iff_of_nodup hnd List.nodup_range).2 fun i=>?_
  rw [List.mem_map,List.mem_range]
  constructor
  · rintro ⟨y,hy,rfl⟩;exact hlt y hy
  ·
   intro hi
   obtain ⟨y,hy,he⟩:=List.any_eq_true.1 (List.all_eq_true.1 h6 i (List.mem_range.2 hi))
   exact ⟨y,hy,Nat.eq_of_beq_eq_true he⟩
 have:=hperm.length_eq
 simpa using this
theorem wp_of_plan2 {Q:Exit→Act→World→Prop} {id:Nat} {a:Act} {w:World} {C:World→Prop} (e1 e2:Nat) (p q:List (Nat×Nat)) (hmx:P.follows .mixedOrders=true) (hp:plan2Ok l e1 e2 p q=true)
  (hQ:∀a w,K a w→Q .normal a w) (hC:C w.drew) (h:planRun P l C K p a w.drew) (h':planRun P l C K q a w.drew):(Code.region id l.toArray true).wp P Q a w:=by
 simp only [plan2Ok,Bool.and_eq_true] at hp
 obtain ⟨⟨⟨⟨⟨⟨⟨⟨⟨⟨⟨⟨⟨h1,h2⟩,h3⟩,h4⟩,h5⟩,h6⟩,h7⟩,h8⟩,h9⟩,h10⟩,h11⟩,h12⟩,h13⟩,h14⟩:=hp
 have hlt:∀y∈p,y.1<l.length:=fun y hy=>by simpa using List.all_eq_true.1 h10 y hy
 have hltq:∀y∈q,y.1<l.length:=fun y hy=>by simpa using List.all_eq_true.1 h11 y hy
 refine wp_region_any hmx ?_
 have hsel:∀(j:Nat) (o:Oper) (cs:Array SelectCase) (b:Bool),l[j]?=some o→o.op≠.select cs b:=fun j o cs b ho=>Region.noSelect_spec h3 j o cs b (by simpa using ho)
 have fits:∀p:List (Nat×Nat),((List.range l.length).all fun i=>p.any fun y=>Nat.beq y.1 i)=true→Fits l p (Array.replicate l.length false):=fun p hh=>by
  refine ⟨by simp,fun i hi=>⟨fun _=>?_,fun _=>by simp [hi]⟩⟩
  obtain ⟨y,hy,he⟩:=List.any_eq_true.1 (List.all_eq_true.1 hh i (List.mem_range.2 hi))
  exact ⟨y,hy,Nat.eq_of_beq_eq_true he⟩
 have hcl:Closed l (Array.replicate l.length false):=fun j o ho hl=>by
  have hjl:j<l.length:=(List.getElem?_eq_some_iff.1 ho).1
  simp [hjl] at hl
 have hne:e1≠e2:=fun e=>by rw [e] at h14;simp at h14
 have:=planRun.wpAny2 hne hQ h1 h2 hsel l.length p q (Array.replicate l.length false) a w.drew (plan_length h4 h8 hlt) (plan_length h5 h9 hltq) hlt hltq h4 h5 h6 h7 h12 h13 (fits p h8) (fits q h9) hcl hC h h'
 simpa using this
end
abbrev Mem:=Array Obj
def cl (H:Mem) (b o:Nat):Option Value:=match H[b]? with
 | some (.cells c _ _)=>c[o]?
 | _=>none
def fz (H:Mem) (b o:Nat):Bool:=match H[b]? with
 | some (.cells _ _ (lo,hi))=>lo≤o&&o<hi
 | _=>false
def shp (H:Mem) (b:Nat):Option (TypeId×Nat):=match H[b]? with
 | some (.cells c e _)=>some (e,c.size)
 | _=>none
def mk (B:World) (H:Mem) (d:Nat):World:={ heap:=H,tape:=B.tape,drawn:=d,os:=B.os,output:=B.output }
theorem mk_self (w:World):mk w w.heap w.drawn=w:=rfl
theorem mk_cell (B:World) (H:Mem) (d b o:Nat):(mk B H d).cell? ⟨b,o,none⟩=cl H b o:=by
 unfold World.cell? cl mk
 simp only
 split<;>simp_all
theorem mk_frozen (B:World) (H:Mem) (d b o:Nat):(mk B H d).frozen? ⟨b,o,none⟩=fz H b o:=rfl
theorem cl_lt {H:Mem} {b o:Nat} {v:Value} (h:cl H b o=some v):b<H.size:=by
 unfold cl at h
 split at h
 · rename_i hb;exact (Array.getElem?_eq_some_iff.1 hb).1
 · cases h
theorem cl_of_blk {H H':Mem} {b:Nat} (h:H'[b]?=H[b]?) (o:Nat):cl H' b o=cl H b o:=by unfold cl;rw [h]
theorem fz_of_blk {H H':Mem} {b:Nat} (h:H'[b]?=H[b]?) (o:Nat):fz H' b o=fz H b o:=by unfold fz;rw [h]
theorem shp_of_blk {H H':Mem} {b:Nat} (h:H'[b]?=H[b]?):shp H' b=shp H b:=by unfold shp;rw [h]
def Rd (H:Mem) (b o:Nat) (vs:List Value):Prop:=∀i v,vs[i]?=some v→cl H b (o+i)=some v
def Wr (H:Mem) (b o n:Nat):Prop:=∀i,i<n→(∃v,cl H b (o+i)=some v)∧fz H b (o+i)=false∧∃e m,shp H b=some (e,m)∧e<1000
structure Fr (X:Nat→Nat→Prop) (H H':Mem):Prop where
 size:H.size≤H'.size
 cell:∀b o,b<H.size→¬X b o→cl H' b o=cl H b o
 frz:∀b o,b<H.size→fz H' b o=fz H b o
 shape:∀b,b<H.size→shp H' b=shp H b
 blk:∀b,b<H.size→(∀o,¬X b o)→H'[b]?=H[b]?
def nowhere:Nat→Nat→Prop:=fun _ _=>False
theorem nw {b o:Nat}:¬nowhere b o:=fun h=>h
def rng (b o n:Nat):Nat→Nat→Prop:=fun b' o'=>b'=b∧o≤o'∧o'<o+n
theorem Fr.refl (X:Nat→Nat→Prop) (H:Mem):Fr X H H:=⟨Nat.le_refl _,fun _ _ _ _=>rfl,fun _ _ _=>rfl,fun _ _=>rfl,fun _ _ _=>rfl⟩
theorem Fr.mono {X Y:Nat→Nat→Prop} {H H':Mem} (h:Fr X H H') (hXY:∀b o,b<H.size→X b o→Y b o):Fr Y H H':=
 ⟨h.size,fun b o hb hn=>h.cell b o hb fun hx=>hn (hXY b o hb hx),h.frz,h.shape,fun b hb hn=>h.blk b hb fun o hx=>hn o (hXY b o hb hx)⟩
theorem Fr.trans {X:Nat→Nat→Prop} {H H' H'':Mem} (h:Fr X H H') (k:Fr X H' H''):Fr X H H'':=
 ⟨Nat.le_trans h.size k.size,fun b o hb hn=>(k.cell b o (Nat.lt_of_lt_of_le hb h.size) hn).trans (h.cell b o hb hn),
  fun b o hb=>(k.frz b o (Nat.lt_of_lt_of_le hb h.size)).trans (h.frz b o hb),
  fun b hb=>(k.shape b (Nat.lt_of_lt_of_le hb h.size)).trans (h.shape b hb),
  fun b hb hn=>(k.blk b (Nat.lt_of_lt_of_le hb h.size) hn).trans (h.blk b hb hn)⟩
theorem Fr.trans' {X Y Z:Nat→Nat→Prop} {H H' H'':Mem} (h:Fr X H H') (k:Fr Y H' H'') (hX:∀b o,b<H.size→X b o→Z b o) (hY:∀b o,b<H.size→Y b o→Z b o):Fr Z H H'':=
 ⟨Nat.le_trans h.size k.size,fun b o hb hn=>(k.cell b o (Nat.lt_of_lt_of_le hb h.size) (fun hy=>hn (hY b o hb hy))).trans (h.cell b o hb (fun hx=>hn (hX b o hb hx))),
  fun b o hb=>(k.frz b o (Nat.lt_of_lt_of_le hb h.size)).trans (h.frz b o hb),
  fun b hb=>(k.shape b (Nat.lt_of_lt_of_le hb h.size)).trans (h.shape b hb),
  fun b hb hn=>(k.blk b (Nat.lt_of_lt_of_le hb h.size) (fun o hy=>hn o (hY b o hb hy))).trans (h.blk b hb (fun o hx=>hn o (hX b o hb hx)))⟩
theorem Fr.keep {X:Nat→Nat→Prop} {H H':Mem} (h:Fr X H H') {b o:Nat} {v:Value} (hc:cl H b o=some v) (hn:¬X b o):cl H' b o=some v:=
 (h.cell b o (cl_lt hc) hn).trans hc
theorem Fr.rd {X:Nat→Nat→Prop} {H H':Mem} (h:Fr X H H') {b o:Nat} {vs:List Value} (hr:Rd H b o vs) (hn:∀i,i<vs.length→¬X b (o+i)):Rd H' b o vs:=
 fun i v hv=>h.keep (hr i v hv) (hn i (List.getElem?_eq_some_iff.1 hv).1)
theorem cl_shape {H:Mem} {b o:Nat} {v:Value} (h:cl H b o=some v):∃e n,shp H b=some (e,n)∧o<n:=by
 unfold cl at h
 split at h
 ·
  rename_i c e f hb
  exact ⟨e,c.size,by unfold shp;rw [hb],(Array.getElem?_eq_some_iff.1 h).1⟩
 · cases h
theorem cl_of_shape {H:Mem} {b o n:Nat} {e:TypeId} (h:shp H b=some (e,n)) (ho:o<n):∃v,cl H b o=some v:=by
 unfold shp at h
 split at h
 ·
  rename_i c e' f hb
  simp only [Option.some.injEq,Prod.mk.injEq] at h
  obtain ⟨rfl,rfl⟩:=h
  exact ⟨c[o],by unfold cl;rw [hb];simp [ho]⟩
 · cases h
theorem Fr.wr {X:Nat→Nat→Prop} {H H':Mem} (h:Fr X H H') {b o n:Nat} (hw:Wr H b o n):Wr H' b o n:=fun i hi=>by
 obtain ⟨⟨v,hv⟩,hf,e1,m1,hs1,h1⟩:=hw i hi
 obtain ⟨e,m,hs,hm⟩:=cl_shape hv
 have hlt:=cl_lt hv
 exact ⟨cl_of_shape ((h.shape b hlt).trans hs) hm,(h.frz b _ hlt).trans hf,e1,m1,(h.shape b hlt).trans hs1,h1⟩
/-! ### Storing -/
def setc (H:Mem) (b o:Nat) (v:Value):Mem:=H.modify b fun
 | .cells c e f=>.cells (c.setIfInBounds o v) e f
 | x=>x
theorem mk_setCell (B:World) (H:Mem) (d b o:Nat) (v:Value):(mk B H d).setCell ⟨b,o,none⟩ v=mk B (setc H b o v) d:=by
 unfold World.setCell mk setc
 congr 1
structure Wrote (H H':Mem) (b o:Nat) (vs:List Value):Prop where
 fr:Fr (rng b o vs.length) H H'
 size:H'.size=H.size
 rd:Rd H' b o vs
theorem setc_blk (H:Mem) (b o:Nat) (v:Value) (b':Nat) (h:b'≠b):(setc H b o v)[b']?=H[b']?:=by
 unfold setc
 rw [Array.getElem?_modify,if_neg (fun e=>h e.symm)]
theorem setc_same {H:Mem} {b o:Nat} {u v:Value} (h:cl H b o=some u):cl (setc H b o v) b o=some v:=by
 unfold cl at h
 split at h
 ·
  rename_i c e f hb
  have ho:o<c.size:=(Array.getElem?_eq_some_iff.1 h).1
  unfold cl setc
  rw [Array.getElem?_modify,if_pos rfl,hb]
  simp [ho]
 · cases h
theorem setc_other {H:Mem} {b o:Nat} {v:Value} (b' o':Nat) (h:b'≠b∨o'≠o):cl (setc H b o v) b' o'=cl H b' o':=by
 by_cases hb:b'=b
 ·
  subst hb
  have ho:o'≠o:=by rcases h with h|h;exact absurd rfl h;exact h
  unfold cl setc
  rw [Array.getElem?_modify,if_pos rfl]
  cases hx:H[b']? with
  | none=>rfl
  | some x=>cases x<;>simp [Array.getElem?_setIfInBounds_ne (Ne.symm ho)]
 · exact cl_of_blk (setc_blk H b o v b' hb) o'
theorem setc_fz (H:Mem) (b o:Nat) (v:Value) (b' o':Nat):fz (setc H b o v) b' o'=fz H b' o':=by
 by_cases hb:b'=b
 ·
  subst hb
  unfold fz setc
  rw [Array.getElem?_modify,if_pos rfl]
  cases hx:H[b']? with
  | none=>rfl
  | some x=>cases x<;>simp
 · exact fz_of_blk (setc_blk H b o v b' hb) o'
theorem setc_shp (H:Mem) (b o:Nat) (v:Value) (b':Nat):shp (setc H b o v) b'=shp H b':=by
 by_cases hb:b'=b
 ·
  subst hb
  unfold shp setc
  rw [Array.getElem?_modify,if_pos rfl]
  cases hx:H[b']? with
  | none=>rfl
  | some x=>cases x<;>simp
 · exact shp_of_blk (setc_blk H b o v b' hb)
theorem setc_size (H:Mem) (b o:Nat) (v:Value):(setc H b o v).size=H.size:=by simp [setc]
theorem setc_wrote {H:Mem} {b o:Nat} {u v:Value} (h:cl H b o=some u):Wrote H (setc H b o v) b o [v] where
 fr:=⟨Nat.le_of_eq (setc_size H b o v).symm,fun b' o' _ hn=>setc_other b' o' (by simp only [rng,List.length_cons,List.length_nil] at hn;omega),fun b' o' _=>setc_fz H b o v b' o',fun b' _=>setc_shp H b o v b',
  fun b' _ hn=>setc_blk H b o v b' (fun e=>hn o ⟨e,Nat.le_refl _,by simp⟩)⟩
 size:=setc_size H b o v
 rd:=fun i x hx=>by
  match i,hx with
  | 0,hx=>simp only [List.getElem?_cons_zero,Option.some.injEq] at hx;subst hx;exact setc_same h
  | i+1,hx=>simp at hx
def setcs (H:Mem) (b o:Nat):List Value→Mem
 | []=>H
 | v::vs=>setcs (setc H b o v) b (o+1) vs
theorem setcs_wrote:∀(vs:List Value) (H:Mem) (b o:Nat),Wr H b o vs.length→Wrote H (setcs H b o vs) b o vs
 | [],H,b,o,_=>⟨Fr.refl _ H,rfl,fun i v h=>by simp at h⟩
 | v::vs,H,b,o,hw=>by
  obtain ⟨⟨u,hu⟩,_⟩:=hw 0 (by simp)
  have h1:=setc_wrote (v:=v) hu
  have hw':Wr (setc H b o v) b (o+1) vs.length:=fun i hi=>by
   have:=h1.fr.wr (n:=(v::vs).length) hw (i+1) (by simp;omega)
   rw [show o+1+i=o+(i+1) by omega]
   exact this
  have h2:=setcs_wrote vs (setc H b o v) b (o+1) hw'
  refine ⟨h1.fr.trans' h2.fr ?_ ?_,h2.size.trans h1.size,fun i x hx=>?_⟩
  · intro b' o' _ hx;simp only [rng,List.length_cons,List.length_nil] at hx ⊢;omega
  · intro b' o' _ hx;simp only [rng,List.length_cons] at hx ⊢;omega
  ·
   match i,hx with
   | 0,hx=>
    simp only [List.getElem?_cons_zero,Option.some.injEq] at hx
    subst hx
    exact h2.fr.keep (by simpa using setc_same (v:=v) hu) (by simp only [rng];omega)
   | i+1,hx=>
    have:=h2.rd i x (by simpa using hx)
    rw [show o+(i+1)=o+1+i by omega]
    exact this
theorem Wrote.at {H H':Mem} {b o:Nat} {v:Value} {vs:List Value} (h:Wrote H H' b o (v::vs)):cl H' b o=some v:=h.rd 0 v rfl
theorem Wrote.keep1 {H H':Mem} {b o b' o':Nat} {v u:Value} (h:Wrote H H' b o [v]) (hc:cl H b' o'=some u) (hn:b'≠b∨o'≠o):cl H' b' o'=some u:=
 h.fr.keep hc (by simp only [rng,List.length_cons,List.length_nil];omega)
theorem Wrote.fr' {H H':Mem} {b o:Nat} {vs:List Value} (n:Nat) (h:Wrote H H' b o vs) (hl:vs.length=n):Fr (rng b o n) H H':=hl▸h.fr
theorem Wrote.all {H H':Mem} {b o:Nat} {vs:List Value} (h:Wrote H H' b o vs):Rd H' b o vs:=h.rd
theorem nr {b o n b' o':Nat} (h:b'≠b∨o'<o∨o+n≤o'):¬rng b o n b' o':=by simp only [rng];omega
theorem Wr.part {H:Mem} {b o n:Nat} (h:Wr H b o n) (i m:Nat) (hi:i+m≤n):Wr H b (o+i) m:=fun j hj=>by rw [Nat.add_assoc];exact h (i+j) (by omega)
theorem Wr.at0 {H:Mem} {b n:Nat} (h:Wr H b 0 n) (i m:Nat) (hi:i+m≤n):Wr H b i m:=by have:=h.part i m hi;rwa [Nat.zero_add] at this
def ones (vs:List Value):Bool:=vs.all fun v=>v.oneCell'
theorem run_stores (P:Program) (B:World) (d b:Nat):∀(vs:List Value) (H:Mem) (o i:Nat),Wr H b (o+i) vs.length→ones vs=true→
  (storeCells ⟨b,o,none⟩ vs i).run P (mk B H d)=.ok () (mk B (setcs H b (o+i) vs) d)
 | [],H,o,i,_,_=>rfl
 | v::vs,H,o,i,hw,h1=>by
  obtain ⟨⟨u,hu⟩,hf,_⟩:=hw 0 (by simp)
  simp only [Nat.add_zero] at hu hf
  simp only [ones,List.all_cons,Bool.and_eq_true] at h1
  have hw':Wr (setc H b (o+i) v) b (o+(i+1)) vs.length:=fun j hj=>by
   have:=(setc_wrote (v:=v) hu).fr.wr (n:=(v::vs).length) hw (j+1) (by simp;omega)
   rw [show o+(i+1)+j=o+i+(j+1) by omega]
   exact this
  have ih:=run_stores P B d b vs (setc H b (o+i) v) o (i+1) hw' h1.2
  simp only [storeCells,Sem.run_bind,Addr.add_lit]
  rw [run_store _ _ _ _ _ h1.1,mk_cell,hu]
  simp only [mk_frozen,hf,mk_setCell]
  simpa [setcs,Nat.add_assoc] using ih
theorem run_loads (P:Program) (B:World) (H:Mem) (d b o:Nat) (vs:List Value) (h:Rd H b o vs):(loadCells ⟨b,o,none⟩ vs.length).run P (mk B H d)=.ok vs.toArray (mk B H d):=
 run_loadCells_list _ _ _ fun j v hj=>by rw [Addr.add_lit,mk_cell];exact h j v hj
/-! ### New blocks -/
structure Made (H H':Mem) (c:Array Value) (e:TypeId):Prop where
 size:H'.size=H.size+1
 old:∀b,b<H.size→H'[b]?=H[b]?
 new:H'[H.size]?=some (.cells c e (0,0))
theorem made_push (H:Mem) (c:Array Value) (e:TypeId):Made H (H.push (.cells c e)) c e:=
 ⟨by simp,fun b hb=>by rw [Array.getElem?_push,if_neg (by omega)],by simp⟩
theorem Made.fr {H H':Mem} {c:Array Value} {e:TypeId} (h:Made H H' c e) (X:Nat→Nat→Prop):Fr X H H':=
 ⟨by rw [h.size];omega,fun b o hb _=>cl_of_blk (h.old b hb) o,fun b o hb=>fz_of_blk (h.old b hb) o,fun b hb=>shp_of_blk (h.old b hb),fun b hb _=>h.old b hb⟩
theorem Made.cl {H H':Mem} {c:Array Value} {e:TypeId} (h:Made H H' c e) (o:Nat):cl H' H.size o=c[o]?:=by unfold Bt.cl;rw [h.new]
theorem Made.fz {H H':Mem} {c:Array Value} {e:TypeId} (h:Made H H' c e) (o:Nat):fz H' H.size o=false:=by unfold Bt.fz;rw [h.new];simp
theorem Made.shp {H H':Mem} {c:Array Value} {e:TypeId} (h:Made H H' c e):shp H' H.size=some (e,c.size):=by unfold Bt.shp;rw [h.new]
theorem Made.rd {H H':Mem} {c:Array Value} {e:TypeId} (h:Made H H' c e) (vs rest:List Value) (hv:c.toList=vs++rest):Rd H' H.size 0 vs:=fun i v hi=>by
 rw [Nat.zero_add,h.cl,←Array.getElem?_toList,hv,List.getElem?_append_left (List.getElem?_eq_some_iff.1 hi).1];exact hi
theorem Made.wr {H H':Mem} {c:Array Value} {e:TypeId} (h:Made H H' c e) (n:Nat) (hn:n≤c.size) (he:e<1000:=by decide):Wr H' H.size 0 n:=fun i hi=>by
 rw [Nat.zero_add]
 exact ⟨⟨c[i],by rw [h.cl];simp [show i<c.size by omega]⟩,h.fz i,e,c.size,h.shp,he⟩
theorem Made.keep {H H':Mem} {c:Array Value} {e:TypeId} (h:Made H H' c e) {b o:Nat} {v:Value} (hc:Bt.cl H b o=some v):Bt.cl H' b o=some v:=(h.fr nowhere).keep hc id
/-! ### A contract: from the heap H,whatever has been drawn so far,the call returns,and Q holds of what it hands back and of the heap then -/
def Fn (P:Program) (B:World) (f:FuncId) (args:List Value) (H:Mem) (Q:Value→Mem→Prop):Prop:=
 ∀d,Calls P f args.toArray (mk B H d) (Ret fun v w'=>∃H' d',w'=mk B H' d'∧Q v H')
theorem Fn.mono {P:Program} {B:World} {f:FuncId} {args:List Value} {H:Mem} {Q Q':Value→Mem→Prop} (h:Fn P B f args H Q) (hq:∀v H',Q v H'→Q' v H'):Fn P B f args H Q':=
 fun d=>(h d).mono fun e w' he=>by
  cases e with
  | returned v=>obtain ⟨H',d',h1,h2⟩:=he;exact ⟨H',d',h1,hq _ _ h2⟩
  | panicked c=>exact he
  | outgrown=>exact he
def Post' (B:World) (Q:Value→Mem→Prop):Post:=fun v w'=>∃H' d',w'=mk B H' d'∧Q v H'
def Go' (P:Program) (B:World) (f:FuncId) (Q:Value→Mem→Prop) (n:Nat) (r:Env) (k:List Item) (H:Mem):Prop:=
 ∀d,Run P f (Post' B Q) n r k (mk B H d)
def Pl (P:Program) (B:World) (f:FuncId) (Q:Value→Mem→Prop) (n:Nat) (l:List Oper) (C:Mem→Prop) (k:List Item) (p:List (Nat×Nat)) (r:Env) (H:Mem):Prop:=
 ∀d a,Sees n r a→planRun P l (fun w=>∃H d,w=mk B H d∧C H) (Cont P f (Post' B Q) k) p a (mk B H d)
section
variable {P:Program} {B:World} {f:FuncId} {Q:Value→Mem→Prop} {n:Nat} {r:Env} {k:List Item} {H:Mem}
theorem fn_of {fn:Func} {c:Code} {vs:List Value} {m:Nat} (hf:P.funcs[f]?=some fn) (hb:fn.body=some c) (hn:fn.ntmps=m)
  (h:Go' P B f Q (vs.length+(m-vs.length)) (argEnv 0 vs) [.code c] H):Fn P B f vs H Q:=fun d=>calls_of_run hf hb hn (h d)
theorem Go'.seq {x y:Code} (h:Go' P B f Q n r (.code x::.code y::k) H):Go' P B f Q n r (.code (.seq x y)::k) H:=fun d=>Run.seq (h d)
theorem Go'.skip (h:Go' P B f Q n r k H):Go' P B f Q n r (.code .skip::k) H:=fun d=>Run.skip (h d)
theorem Go'.label {l:Nat} (h:Go' P B f Q n r k H):Go' P B f Q n r (.code (.label l)::k) H:=fun d=>Run.label (h d)
theorem Go'.block {id:Nat} {c:Code} (h:Go' P B f Q n r (.code c::.inBlock id::k) H):Go' P B f Q n r (.code (.block id c)::k) H:=fun d=>Run.block (h d)
theorem Go'.inBlock {id:Nat} (h:Go' P B f Q n r k H):Go' P B f Q n r (.inBlock id::k) H:=fun d=>Run.inBlock (h d)
theorem Go'.loop {c:Code} (h:Go' P B f Q n r (.code c::.inLoop c::k) H):Go' P B f Q n r (.code (.loop c)::k) H:=fun d=>Run.loop (h d)
theorem Go'.inLoop {c:Code} (h:Go' P B f Q n r (.code c::.inLoop c::k) H):Go' P B f Q n r (.inLoop c::k) H:=fun d=>Run.inLoop (h d)
theorem Go'.scope {c:Code} (h:Go' P B f Q n r (.code c::.inScope c::k) H):Go' P B f Q n r (.code (.scope c)::k) H:=fun d=>Run.scope (h d)
theorem Go'.inScope {c:Code} (h:Go' P B f Q n r k H):Go' P B f Q n r (.inScope c::k) H:=fun d=>Run.inScope (h d)
theorem Go'.exit {id:Nat} {k':List Item} (hx:exitTo id k=some k') (h:Go' P B f Q n r k' H):Go' P B f Q n r (.code (.exit id)::k) H:=fun d=>Run.exit hx (h d)
theorem Go'.goto {l:Nat} {k':List Item} (hx:gotoIn l k=some k') (h:Go' P B f Q n r k' H):Go' P B f Q n r (.code (.goto l)::k) H:=fun d=>Run.goto hx (h d)
theorem Go'.condT {c:Operand} {x y:Code} (hc:ev r c=some (.bool true)) (h:Go' P B f Q n r (.code x::k) H):Go' P B f Q n r (.code (.cond c x y)::k) H:=fun d=>Run.condT hc (h d)
theorem Go'.condF {c:Operand} {x y:Code} (hc:ev r c=some (.bool false)) (h:Go' P B f Q n r (.code y::k) H):Go' P B f Q n r (.code (.cond c x y)::k) H:=fun d=>Run.condF hc (h d)
theorem Go'.keep (q:Env) (hs:Env.Sub q r) (h:Go' P B f Q n q k H):Go' P B f Q n r k H:=fun d=>Run.keep q hs (h d)
def resAt (P:Program) (H:Mem) (r:Env):List ResultVar→List Value→Prop
 | [],[]=>True
 | .tmp t::rs,v::vs=>r.get t=some v∧resAt P H r rs vs
 | .cell t ty::rs,v::vs=>(∃b o,r.get t=some (.pointer (some ⟨b,o,none⟩))∧∀B d,(loadVar ty ⟨b,o,none⟩).run P (mk B H d)=.ok v (mk B H d))∧resAt P H r rs vs
 | _,_=>False
theorem resAt.of (d:Nat):∀(rs:List ResultVar) (vs:List Value),resAt P H r rs vs→resOf P r (mk B H d) rs vs
 | [],[],_=>trivial
 | [],_::_,h=>by simp [resAt] at h
 | .tmp t::rs,[],h=>by simp [resAt] at h
 | .cell t ty::rs,[],h=>by simp [resAt] at h
 | .tmp t::rs,v::vs,h=>⟨h.1,resAt.of d rs vs h.2⟩
 | .cell t ty::rs,v::vs,h=>by
  obtain ⟨⟨b,o,h1,h2⟩,h3⟩:=h
  exact ⟨⟨⟨b,o,none⟩,h1,h2 B d⟩,resAt.of d rs vs h3⟩
theorem Go'.ret {fn:Func} {rs:List ResultVar} {vs:List Value} (hf:P.funcs[f]?=some fn) (hr:fn.results=rs.toArray) (h:resAt P H r rs vs) (hQ:Q (resVal vs) H):
  Go' P B f Q n r (.code .ret::k) H:=fun d=>Run.ret hf hr (h.of d rs vs) ⟨H,d,rfl,hQ⟩
theorem Go'.fall {fn:Func} {rs:List ResultVar} {vs:List Value} (hf:P.funcs[f]?=some fn) (hr:fn.results=rs.toArray) (h:resAt P H r rs vs) (hQ:Q (resVal vs) H):
  Go' P B f Q n r [] H:=fun d=>Run.fall hf hr (h.of d rs vs) ⟨H,d,rfl,hQ⟩
/-! Regions. -/
theorem Cont.of_wp {R:Post} {c:Code} {a:Act} {w:World} (h:c.wp P (fun e a' w'=>e=.normal∧Cont P f R k a' w') a w):Cont P f R (.code c::k) a w:=fun b cs hb hk=>by
 obtain ⟨e,a',w',⟨rfl,hc⟩,harr⟩:=h b k cs
 obtain ⟨v,w'',fr,h1,h2,h3,h4⟩:=hc b cs hb hk
 exact ⟨v,w'',fr,h1,Steps.trans harr h2,h3,h4⟩
theorem Go'.region {id:Nat} {l:List Oper} (p:List (Nat×Nat)) (hp:(p.map (·.1),p.all fun y=>Nat.blt y.2 3)=(List.range l.length,true)) (h:Pl P B f Q n l (fun _=>True) k p r H):
  Go' P B f Q n r (.code (.region id l.toArray false)::k) H:=fun d a ha=>
 Cont.of_wp (wp_of_text p hp (fun _ _ h=>⟨rfl,h⟩) ⟨H,d,rfl,trivial⟩ (h d a ha))
theorem Go'.draw {id:Nat} {l:List Oper} (C:Mem→Prop) (p:List (Nat×Nat)) (hm:P.follows .mixedOrders=true) (hp:planOk l p=true) (hC:C H) (h:Pl P B f Q n l C k p r H):
  Go' P B f Q n r (.code (.region id l.toArray true)::k) H:=fun d a ha=>
 Cont.of_wp (wp_of_plan p hm hp (fun _ _ h=>⟨rfl,h⟩) ⟨H,d+1,rfl,hC⟩ (h (d+1) a ha))
theorem Go'.draw2 {id:Nat} {l:List Oper} (C:Mem→Prop) (J:Mem→Prop) (q:Env) (e1 e2:Nat) (p p':List (Nat×Nat)) (hm:P.follows .mixedOrders=true) (hp:plan2Ok l e1 e2 p p'=true) (hC:C H)
  (h:∀{f Q k},(∀H',J H'→Go' P B f Q n q k H')→Pl P B f Q n l C k p r H) (h':∀{f Q k},(∀H',J H'→Go' P B f Q n q k H')→Pl P B f Q n l C k p' r H) (hc:∀H',J H'→Go' P B f Q n q k H'):
  Go' P B f Q n r (.code (.region id l.toArray true)::k) H:=fun d a ha=>
 Cont.of_wp (wp_of_plan2 e1 e2 p p' hm hp (fun _ _ h=>⟨rfl,h⟩) ⟨H,d+1,rfl,hC⟩ (h hc (d+1) a ha) (h' hc (d+1) a ha))
variable {l:List Oper} {C:Mem→Prop} {p:List (Nat×Nat)}
theorem Pl.fin (q:Env) (hs:Env.Sub q r) (h:Go' P B f Q n q k H):Pl P B f Q n l C k [] r H:=fun d a ha=>h d a (ha.sub hs)
/-! Whether an operation is wanted. -/
def guardOn (l:List Oper) (r:Env):Option (Nat×Bool)→Bool
 | none=>true
 | some (j,want)=>match (l[j]?).bind (·.dst) with
  | some t=>match r.get t with
   | some (.bool b)=>match b,want with
    | true,true=>true
    | false,false=>true
    | _,_=>false
   | _=>false
  | none=>false
def guardOff (l:List Oper) (r:Env):Option (Nat×Bool)→Bool
 | none=>false
 | some (j,want)=>match (l[j]?).bind (·.dst) with
  | some t=>match r.get t with
   | some (.bool b)=>match b,want with
    | true,false=>true
    | false,true=>true
    | _,_=>false
   | some (.tuple _)=>true
   | _=>false
  | none=>false
theorem guardOn_wanted {o:Oper} {a:Act} (ha:Sees n r a) (h:guardOn l r o.guard=true):Region.wanted o (yielded l.toArray a.tmps)=true:=by
 unfold Region.wanted
 cases hg:o.guard with
 | none=>rfl
 | some jw=>
  obtain ⟨j,want⟩:=jw
  rw [hg] at h
  simp only [guardOn] at h
  split at h
  ·
   rename_i t ht
   split at h
   ·
    rename_i b hb
    have h3:=ha.2.2 t _ hb
    have:yielded l.toArray a.tmps j=some b:=by
     unfold yielded
     have ht':(l.toArray[j]?).bind (·.dst)=some t:=by simpa using ht
     rw [ht']
     simp only [Option.bind_some,h3]
    simp only [this]
    cases b<;>cases want<;>simp_all
   · cases h
  · cases h
theorem guardOff_wanted {o:Oper} {a:Act} (ha:Sees n r a) (h:guardOff l r o.guard=true):Region.wanted o (yielded l.toArray a.tmps)=false:=by
 unfold Region.wanted
 cases hg:o.guard with
 | none=>rw [hg] at h;cases h
 | some jw=>
  obtain ⟨j,want⟩:=jw
  rw [hg] at h
  simp only [guardOff] at h
  split at h
  ·
   rename_i t ht
   have ht':(l.toArray[j]?).bind (·.dst)=some t:=by simpa using ht
   split at h
   ·
    rename_i b hb
    have h3:=ha.2.2 t _ hb
    have:yielded l.toArray a.tmps j=some b:=by
     unfold yielded
     rw [ht']
     simp only [Option.bind_some,h3]
    simp only [this]
    cases b<;>cases want<;>simp_all
   ·
    rename_i b hb
    have h3:=ha.2.2 t _ hb
    have:yielded l.toArray a.tmps j=none:=by
     unfold yielded
     rw [ht']
     simp only [Option.bind_some,h3]
    simp only [this]
    rfl
   · cases h
  · cases h
def hIn (C:Mem→Prop) (kd:Nat) (H H':Mem):Prop:=(kd=0∧C H')∨(kd=1∧H'=H)
theorem Pl.quiet {i kd d:Nat} {op:Op} {ty:TypeId} {pos:String} {af:Array Edge} {gd:Option (Nat×Bool)} {v:Value} (hi:l[i]?=some ⟨some d,op,ty,pos,af,gd⟩) (hk:Nat.blt kd 2=true)
  (hg:guardOn l r gd=true) (hd:Nat.blt d n=true)
  (hrun:∀a H' d',Sees n r a→hIn C kd H H'→(execOp a.eval ⟨some d,op,ty,pos,af,gd⟩).run P (mk B H' d')=.ok (.value v) (mk B H' d'))
  (h:Pl P B f Q n l C k p ((d,v)::r) H):Pl P B f Q n l C k ((i,kd)::p) r H:=fun dd a ha=>by
 refine .inl ⟨by simpa using hk,_,v,hi,fun w' hw'=>.inl ⟨guardOn_wanted ha hg,?_⟩,h dd _ (ha.put hd)⟩
 rcases hw' with ⟨h0,H',d',rfl,hC⟩|⟨h1,rfl⟩
 · exact hrun a H' d' ha (.inl ⟨h0,hC⟩)
 · exact hrun a H dd ha (.inr ⟨h1,rfl⟩)
theorem Pl.pass {i kd d:Nat} {op:Op} {ty:TypeId} {pos:String} {af:Array Edge} {gd:Option (Nat×Bool)} (hi:l[i]?=some ⟨some d,op,ty,pos,af,gd⟩) (hk:Nat.blt kd 2=true)
  (hg:guardOff l r gd=true) (hd:Nat.blt d n=true) (h:Pl P B f Q n l C k p ((d,undef)::r) H):Pl P B f Q n l C k ((i,kd)::p) r H:=fun dd a ha=>
 .inl ⟨by simpa using hk,_,undef,hi,fun _ _=>.inr ⟨guardOff_wanted ha hg,rfl⟩,h dd _ (ha.put hd)⟩
theorem Pl.pass2 {i kd:Nat} {dst:Option Tmp} {op:Op} {ty:TypeId} {pos:String} {af:Array Edge} {gd:Option (Nat×Bool)} (hi:l[i]?=some ⟨dst,op,ty,pos,af,gd⟩) (hk:Nat.blt 1 kd=true)
  (hg:guardOff l r gd=true) (hd:(match dst with|some d=>Nat.blt d n|none=>true)=true) (hC:C H) (h:Pl P B f Q n l C k p (match dst with|some d=>(d,undef)::r|none=>r) H):
  Pl P B f Q n l C k ((i,kd)::p) r H:=fun dd a ha=>by
 refine .inr ⟨Nat.succ_le_of_lt (by simpa using hk),_,hi,.inr ⟨guardOff_wanted ha hg,fun _=>⟨H,dd,rfl,hC⟩,?_⟩⟩
 cases dst with
 | none=>exact h dd a ha
 | some d=>exact h dd _ (ha.put hd)
theorem Pl.loudV {i kd d:Nat} {op:Op} {ty:TypeId} {pos:String} {af:Array Edge} {gd:Option (Nat×Bool)} (hi:l[i]?=some ⟨some d,op,ty,pos,af,gd⟩) (hk:Nat.blt 1 kd=true)
  (hg:guardOn l r gd=true) (hd:Nat.blt d n=true) (R:Value→Mem→Prop)
  (hrun:∀a d',Sees n r a→∃v H' d'',(execOp a.eval ⟨some d,op,ty,pos,af,gd⟩).run P (mk B H d')=.ok (.value v) (mk B H' d'')∧R v H')
  (h:∀v H',R v H'→C H'∧Pl P B f Q n l C k p ((d,v)::r) H'):Pl P B f Q n l C k ((i,kd)::p) r H:=fun dd a ha=>by
 obtain ⟨v,H',d'',h1,h2⟩:=hrun a dd ha
 obtain ⟨h3,h4⟩:=h v H' h2
 refine .inr ⟨Nat.succ_le_of_lt (by simpa using hk),_,hi,.inl ⟨guardOn_wanted ha hg,?_⟩⟩
 rw [h1]
 exact ⟨fun _=>⟨H',d'',rfl,h3⟩,h4 d'' _ (ha.put hd)⟩
theorem Pl.loudN {i kd:Nat} {op:Op} {ty:TypeId} {pos:String} {af:Array Edge} {gd:Option (Nat×Bool)} (hi:l[i]?=some ⟨none,op,ty,pos,af,gd⟩) (hk:Nat.blt 1 kd=true)
  (hg:guardOn l r gd=true) (R:Mem→Prop)
  (hrun:∀a d',Sees n r a→∃H' d'',(execOp a.eval ⟨none,op,ty,pos,af,gd⟩).run P (mk B H d')=.ok .skip (mk B H' d'')∧R H')
  (h:∀H',R H'→C H'∧Pl P B f Q n l C k p r H'):Pl P B f Q n l C k ((i,kd)::p) r H:=fun dd a ha=>by
 obtain ⟨H',d'',h1,h2⟩:=hrun a dd ha
 obtain ⟨h3,h4⟩:=h H' h2
 refine .inr ⟨Nat.succ_le_of_lt (by simpa using hk),_,hi,.inl ⟨guardOn_wanted ha hg,?_⟩⟩
 rw [h1]
 exact ⟨fun _=>⟨H',d'',rfl,h3⟩,h4 d'' _ ha⟩
theorem Pl.lastN {i kd:Nat} {op:Op} {ty:TypeId} {pos:String} {af:Array Edge} {gd:Option (Nat×Bool)} (hi:l[i]?=some ⟨none,op,ty,pos,af,gd⟩) (hk:Nat.blt 2 kd=true)
  (hg:guardOn l r gd=true) (R:Mem→Prop)
  (hrun:∀a d',Sees n r a→∃H' d'',(execOp a.eval ⟨none,op,ty,pos,af,gd⟩).run P (mk B H d')=.ok .skip (mk B H' d'')∧R H')
  (h:∀H',R H'→Pl P B f Q n l C k p r H'):Pl P B f Q n l C k ((i,kd)::p) r H:=fun dd a ha=>by
 obtain ⟨H',d'',h1,h2⟩:=hrun a dd ha
 have h4:=h H' h2
 have hk':2<kd:=by simpa using hk
 refine .inr ⟨Nat.le_of_lt hk',_,hi,.inl ⟨guardOn_wanted ha hg,?_⟩⟩
 rw [h1]
 exact ⟨fun e=>absurd (show kd=2 from e) (by omega),h4 d'' _ ha⟩
theorem Pl.enter {i kd:Nat} {dst:Option Tmp} {op:Op} {ty:TypeId} {pos:String} {af:Array Edge} {gd:Option (Nat×Bool)} {g:FuncId} {args:List Value} {R:Value→Mem→Prop} (hi:l[i]?=some ⟨dst,op,ty,pos,af,gd⟩)
  (hk:Nat.blt 1 kd=true) (hg:guardOn l r gd=true) (hd:(match dst with|some d=>Nat.blt d n|none=>true)=true)
  (hrun:∀a d',Sees n r a→(execOp a.eval ⟨dst,op,ty,pos,af,gd⟩).run P (mk B H d')=.ok (.enter g args.toArray) (mk B H d'))
  (hc:Fn P B g args H R) (h:∀v H',R v H'→C H'∧Pl P B f Q n l C k p (match dst with|some d=>(d,v)::r|none=>r) H'):Pl P B f Q n l C k ((i,kd)::p) r H:=fun dd a ha=>by
 refine .inr ⟨Nat.succ_le_of_lt (by simpa using hk),_,hi,.inl ⟨guardOn_wanted ha hg,?_⟩⟩
 rw [hrun a dd ha]
 refine (hc dd).mono fun e w' he=>?_
 cases e with
 | returned v=>
  obtain ⟨H',d',rfl,hR⟩:=he
  obtain ⟨h1,h2⟩:=h v H' hR
  refine ⟨fun _=>⟨H',d',rfl,h1⟩,?_⟩
  cases dst with
  | none=>exact h2 d' a ha
  | some d=>exact h2 d' _ (ha.put hd)
 | panicked c=>exact he
 | outgrown=>exact he
end
end Go.Bt
