/- Regions where one operation may come at any place between those of a chain: the judgement and the rules. Conditions: those that each rule names. -/
import Derived.ChangeArms
import Derived.Deep.Strs
import Derived.ChangeSame
import Derived.Test.YtmcnochofpgfbaaToLgT
import Derived.Test.YtmcnochofpgfbaaToAb
set_option linter.unusedVariables false
namespace Go.Bt
open Go
def Pk (P:Program) (B:World) (n:Nat) (l:List Oper) (C:Mem→Prop) (K:Act→World→Prop) (p:List (Nat×Nat)) (r:Env) (H:Mem):Prop:=
 ∀d a,Sees n r a→planRun P l (fun w=>∃H d,w=mk B H d∧C H) K p a (mk B H d)
def Tk (P:Program) (B:World) (f:FuncId) (Q:Value→Mem→Prop) (n:Nat) (l:List Oper) (C:Mem→Prop) (k:List Item) (t:PT) (r:Env) (H:Mem):Prop:=
 ∀d a,Sees n r a→t.run P l (fun w=>∃H d,w=mk B H d∧C H) (Cont P f (Post' B Q) k) a (mk B H d)
def treeOk (l:List Oper) (f:Nat) (es:List Nat) (t:PT):Bool:=
 waitsOk l (waitsGo l [])&&edgesDown l&&Region.noSelect l.toArray&&PT.ok l (waitsGo l []) f es t&&((List.range l.length).all fun i=>t.top.any fun y=>Nat.beq y.1 i)&&t.top.all fun y=>Nat.blt y.1 l.length
section
variable {P:Program} {B:World} {f:FuncId} {Q:Value→Mem→Prop} {n:Nat} {r:Env} {k:List Item} {H:Mem} {l:List Oper} {C:Mem→Prop} {p:List (Nat×Nat)} {K:Act→World→Prop}
theorem Tk.leaf (h:Pl P B f Q n l C k p r H):Tk P B f Q n l C k (.leaf p) r H:=h
theorem Tk.node {u:List (Nat×Nat)} {t:PT} (h:Pl P B f Q n l C k p r H) (h':Pk P B n l C (t.run P l (fun w=>∃H d,w=mk B H d∧C H) (Cont P f (Post' B Q) k)) u r H):Tk P B f Q n l C k (.node p u t) r H:=fun d a ha=>⟨h d a ha,h' d a ha⟩
theorem Pk.fin {t:PT} (h:Tk P B f Q n l C k t r H):Pk P B n l C (t.run P l (fun w=>∃H d,w=mk B H d∧C H) (Cont P f (Post' B Q) k)) [] r H:=fun d a ha=>h d a ha
theorem wp_of_tree {Q:Exit→Act→World→Prop} {id:Nat} {a:Act} {w:World} {C:World→Prop} (e:Nat) (es:List Nat) (t:PT) (hmx:P.follows .mixedOrders=true) (hp:treeOk l e es t=true)
  (hQ:∀a w,K a w→Q .normal a w) (hC:C w.drew) (h:t.run P l C K a w.drew):(Code.region id l.toArray true).wp P Q a w:=by
 simp only [treeOk,Bool.and_eq_true] at hp
 obtain ⟨⟨⟨⟨⟨h1,h2⟩,h3⟩,h4⟩,h5⟩,h6⟩:=hp
 have hlt:∀y∈t.top,y.1<l.length:=fun y hy=>by simpa using List.all_eq_true.1 h6 y hy
 refine wp_region_any hmx ?_
 have hsel:∀(j:Nat) (o:Oper) (cs:Array SelectCase) (b:Bool),l[j]?=some o→o.op≠.select cs b:=fun j o cs b ho=>Region.noSelect_spec h3 j o cs b (by simpa using ho)
 have hfit:Fits l t.top (Array.replicate l.length false):=by
  refine ⟨by simp,fun i hi=>⟨fun _=>?_,fun _=>by simp [hi]⟩⟩
  obtain ⟨y,hy,he⟩:=List.any_eq_true.1 (List.all_eq_true.1 h5 i (List.mem_range.2 hi))
  exact ⟨y,hy,Nat.eq_of_beq_eq_true he⟩
 have hcl:Closed l (Array.replicate l.length false):=fun j o ho hl=>by
  have hjl:j<l.length:=(List.getElem?_eq_some_iff.1 ho).1
  simp [hjl] at hl
 have hlen:t.top.length=l.length:=by
  have hperm:(t.top.map (·.1)).Perm (List.range l.length):=by
   refine (List.perm_ext_iff_of_nodup (PT.ok_nodup h4) List.nodup_range).2 fun i=>?_
   rw [List.mem_map,List.mem_range]
   constructor
   · rintro ⟨y,hy,rfl⟩;exact hlt y hy
   ·
    intro hi
    obtain ⟨y,hy,he⟩:=List.any_eq_true.1 (List.all_eq_true.1 h5 i (List.mem_range.2 hi))
    exact ⟨y,hy,Nat.eq_of_beq_eq_true he⟩
  have:=hperm.length_eq
  simpa using this
 have:=planRun.wpTree hQ h1 h2 hsel l.length es t (Array.replicate l.length false) a w.drew hlen h4 hfit hcl hC h
 simpa using this
theorem Go'.drawT {id:Nat} {l:List Oper} {σ:Type} (C:Mem→Prop) (J:σ→Mem→Prop) (q:σ→Env) (e:Nat) (es:List Nat) (t:PT) (hm:P.follows .mixedOrders=true) (hp:treeOk l e es t=true) (hC:C H)
  (h:∀{f Q k},(∀x H',J x H'→Go' P B f Q n (q x) k H')→Tk P B f Q n l C k t r H) (hc:∀x H',J x H'→Go' P B f Q n (q x) k H'):
  Go' P B f Q n r (.code (.region id l.toArray true)::k) H:=fun d a ha=>
 Cont.of_wp (wp_of_tree e es t hm hp (fun _ _ h=>⟨rfl,h⟩) ⟨H,d+1,rfl,hC⟩ (h hc (d+1) a ha))
theorem Pk.quiet {i kd d:Nat} {op:Op} {ty:TypeId} {pos:String} {af:Array Edge} {gd:Option (Nat×Bool)} {v:Value} (hi:l[i]?=some ⟨some d,op,ty,pos,af,gd⟩) (hk:Nat.blt kd 2=true)
  (hg:guardOn l r gd=true) (hd:Nat.blt d n=true)
  (hrun:∀a H' d',Sees n r a→hIn C kd H H'→(execOp a.eval ⟨some d,op,ty,pos,af,gd⟩).run P (mk B H' d')=.ok (.value v) (mk B H' d'))
  (h:Pk P B n l C K p ((d,v)::r) H):Pk P B n l C K ((i,kd)::p) r H:=fun dd a ha=>by
 refine .inl ⟨by simpa using hk,_,v,hi,fun w' hw'=>.inl ⟨guardOn_wanted ha hg,?_⟩,h dd _ (ha.put hd)⟩
 rcases hw' with ⟨h0,H',d',rfl,hC⟩|⟨h1,rfl⟩
 · exact hrun a H' d' ha (.inl ⟨h0,hC⟩)
 · exact hrun a H dd ha (.inr ⟨h1,rfl⟩)
theorem Pk.pass {i kd d:Nat} {op:Op} {ty:TypeId} {pos:String} {af:Array Edge} {gd:Option (Nat×Bool)} (hi:l[i]?=some ⟨some d,op,ty,pos,af,gd⟩) (hk:Nat.blt kd 2=true)
  (hg:guardOff l r gd=true) (hd:Nat.blt d n=true) (h:Pk P B n l C K p ((d,undef)::r) H):Pk P B n l C K ((i,kd)::p) r H:=fun dd a ha=>
 .inl ⟨by simpa using hk,_,undef,hi,fun _ _=>.inr ⟨guardOff_wanted ha hg,rfl⟩,h dd _ (ha.put hd)⟩
theorem Pk.enter {i kd:Nat} {dst:Option Tmp} {op:Op} {ty:TypeId} {pos:String} {af:Array Edge} {gd:Option (Nat×Bool)} {g:FuncId} {args:List Value} {R:Value→Mem→Prop} (hi:l[i]?=some ⟨dst,op,ty,pos,af,gd⟩)
  (hk:Nat.blt 1 kd=true) (hg:guardOn l r gd=true) (hd:(match dst with|some d=>Nat.blt d n|none=>true)=true)
  (hrun:∀a d',Sees n r a→(execOp a.eval ⟨dst,op,ty,pos,af,gd⟩).run P (mk B H d')=.ok (.enter g args.toArray) (mk B H d'))
  (hc:Fn P B g args H R) (h:∀v H',R v H'→C H'∧Pk P B n l C K p (match dst with|some d=>(d,v)::r|none=>r) H'):Pk P B n l C K ((i,kd)::p) r H:=fun dd a ha=>by
 refine .inr ⟨Nat.succ_le_of_lt (by simpa using hk),_,hi,.inl ⟨guardOn_wanted ha hg,?_⟩⟩
 rw [hrun a dd ha]
 refine (hc dd).mono fun e w' he=>?_
 cases e with
 | returned v=>
  obtain ⟨H',d',rfl,hR⟩:=he
  obtain ⟨h1,h2⟩:=h v H' hR
  refine ⟨fun _=>⟨H',d',rfl,h1⟩,?_⟩
  cases dst with
  | none=>exact h2 d' a ha
  | some d=>exact h2 d' _ (ha.put hd)
 | panicked c=>exact he
 | outgrown=>exact he
variable {i kd d:Nat} {ty:TypeId} {pos:String} {af:Array Edge} {gd:Option (Nat×Bool)}
theorem Ok.mv {x:Operand} {v:Value} (hi:l[i]?=some ⟨some d,.move x,ty,pos,af,gd⟩) (hk:Nat.blt kd 2=true) (hg:guardOn l r gd=true) (hd:Nat.blt d n=true) (hx:ev r x=some v)
  (h:Pk P B n l C K p ((d,v)::r) H):Pk P B n l C K ((i,kd)::p) r H:=
 Pk.quiet hi hk hg hd (fun a H' d' ha _=>by simp [execOp,ha.eval hx]) h
theorem Ok.ld {t:TypeId} {x:Operand} {b o:Nat} {v:Value} (hi:l[i]?=some ⟨some d,.load t x,ty,pos,af,gd⟩) (hg:guardOn l r gd=true) (hd:Nat.blt d n=true) (ht:Flat P t)
  (hx:ev r x=some (.pointer (some ⟨b,o,none⟩))) (hc:cl H b o=some v) (h:Pk P B n l C K p ((d,v)::r) H):Pk P B n l C K ((i,1)::p) r H:=
 Pk.quiet hi rfl hg hd (fun a H' d' ha hH=>by
  obtain rfl:H'=H:=hH.elim (fun h=>absurd h.1 (by decide)) (fun h=>h.2)
  simp [execOp,ha.eval hx,Instr.loadAt,Instr.sureAddr,run_loadVar_flat ht hc]) h
theorem Ok.ldC {t:TypeId} {x:Operand} {b o:Nat} {v:Value} (hi:l[i]?=some ⟨some d,.load t x,ty,pos,af,gd⟩) (hg:guardOn l r gd=true) (hd:Nat.blt d n=true) (ht:Flat P t)
  (hx:ev r x=some (.pointer (some ⟨b,o,none⟩))) (hc:∀H',C H'→cl H' b o=some v) (h:Pk P B n l C K p ((d,v)::r) H):Pk P B n l C K ((i,0)::p) r H:=
 Pk.quiet hi rfl hg hd (fun a H' d' ha hH=>by
  have hC:C H':=hH.elim (fun h=>h.2) (fun h=>absurd h.1 (by decide))
  simp [execOp,ha.eval hx,Instr.loadAt,Instr.sureAddr,run_loadVar_flat ht (hc H' hC)]) h
theorem Ok.lds {t:TypeId} {x:Operand} {b o s:Nat} {vs:List Value} (hi:l[i]?=some ⟨some d,.load t x,ty,pos,af,gd⟩) (hg:guardOn l r gd=true) (hd:Nat.blt d n=true) (ht:AggT P t s)
  (hx:ev r x=some (.pointer (some ⟨b,o,none⟩))) (hl:vs.length=s) (hc:Rd H b o vs) (h:Pk P B n l C K p ((d,.agg vs.toArray)::r) H):Pk P B n l C K ((i,1)::p) r H:=
 Pk.quiet hi rfl hg hd (fun a H' d' ha hH=>by
  obtain rfl:H'=H:=hH.elim (fun h=>absurd h.1 (by decide)) (fun h=>h.2)
  simp [execOp,ha.eval hx,Instr.loadAt,Instr.sureAddr,run_loadVar_agg ht hl hc]) h
theorem Ok.ldsC {t:TypeId} {x:Operand} {b o s:Nat} {vs:List Value} (hi:l[i]?=some ⟨some d,.load t x,ty,pos,af,gd⟩) (hg:guardOn l r gd=true) (hd:Nat.blt d n=true) (ht:AggT P t s)
  (hx:ev r x=some (.pointer (some ⟨b,o,none⟩))) (hl:vs.length=s) (hc:∀H',C H'→Rd H' b o vs) (h:Pk P B n l C K p ((d,.agg vs.toArray)::r) H):Pk P B n l C K ((i,0)::p) r H:=
 Pk.quiet hi rfl hg hd (fun a H' d' ha hH=>by
  have hC:C H':=hH.elim (fun h=>h.2) (fun h=>absurd h.1 (by decide))
  simp [execOp,ha.eval hx,Instr.loadAt,Instr.sureAddr,run_loadVar_agg ht hl (hc H' hC)]) h
theorem Ok.call {g:FuncId} {as:List Operand} {ts:Array TypeId} {vs:List Value} {R:Value→Mem→Prop} (hi:l[i]?=some ⟨some d,.call ⟨.value (.func g),as.toArray,ts⟩,ty,pos,af,gd⟩)
  (hg:guardOn l r gd=true) (hd:Nat.blt d n=true) (hcall:∀(args:Array Value) (w:World),(callFunc g args).run P w=.ok (.enter g args) w) (ha:evs r as=some vs)
  (hc:Fn P B g vs H R) (h:∀v H',R v H'→C H'∧Pk P B n l C K p ((d,v)::r) H'):Pk P B n l C K ((i,2)::p) r H:=
 Pk.enter hi rfl hg (by exact hd) (fun a d' hs=>by
  have h1:=hs.evals ha
  have h2:a.eval (.func g)=.func (.func g) #[] #[]:=rfl
  simp only [execOp,resolve,h2,Deferred.ofValue,Sem.run_bind,Sem.run_pure,Result.andThen_ok,invoke,hcall]
  rw [←h1]
  simp) hc h
theorem Ok.callQ {g:FuncId} {as:List Operand} {ts:Array TypeId} {vs:List Value} {v:Value} (hi:l[i]?=some ⟨some d,.call ⟨.value (.func g),as.toArray,ts⟩,ty,pos,af,gd⟩)
  (hg:guardOn l r gd=true) (hd:Nat.blt d n=true) (hcall:∀(args:Array Value) (w:World),(callFunc g args).run P w=.ok (.enter g args) w) (ha:evs r as=some vs)
  (hc:Fn P B g vs H (fun u H'=>u=v∧H'=H)) (hC:C H) (h:Pk P B n l C K p ((d,v)::r) H):Pk P B n l C K ((i,2)::p) r H:=
 Ok.call hi hg hd hcall ha hc fun u H' hu=>by obtain ⟨rfl,rfl⟩:=hu;exact ⟨hC,h⟩
theorem Ok.fa {s:TypeId} {x:Operand} {b o fld off:Nat} (hi:l[i]?=some ⟨some d,.fieldAddr s x fld,ty,pos,af,gd⟩) (hk:Nat.blt kd 2=true) (hg:guardOn l r gd=true) (hd:Nat.blt d n=true) (hf:FieldAt P s fld off)
  (hx:ev r x=some (.pointer (some ⟨b,o,none⟩))) (h:Pk P B n l C K p ((d,.pointer (some ⟨b,o+off,none⟩))::r) H):Pk P B n l C K ((i,kd)::p) r H:=
 Pk.quiet hi hk hg hd (fun a H' d' ha _=>by simp [execOp,ha.eval hx,run_fieldAt hf]) h
theorem Ok.bin {op:BinOp} {t t':TypeId} {x y:Operand} {a b:Value} {v:Value} (hi:l[i]?=some ⟨some d,.binOp op t x y t',ty,pos,af,gd⟩) (hk:Nat.blt kd 2=true) (hg:guardOn l r gd=true) (hd:Nat.blt d n=true)
  (hx:ev r x=some a) (hy:ev r y=some b) (hr:∀w,(eqGuard op t x y a b).run P w=.ok () w∧(binOp op t a b).run P w=.ok v w) (h:Pk P B n l C K p ((d,v)::r) H):Pk P B n l C K ((i,kd)::p) r H:=
 Pk.quiet hi hk hg hd (fun a H' d' ha _=>by simp [execOp,ha.eval hx,ha.eval hy,hr]) h
theorem Ok.mki {t:TypeId} {x:Operand} {v:Value} {td:TypeDesc} (hi:l[i]?=some ⟨some d,.makeInterface t x,ty,pos,af,gd⟩) (hk:Nat.blt kd 2=true) (hg:guardOn l r gd=true) (hd:Nat.blt d n=true)
  (hu:P.underlying t=some td) (hn:(match td with|.interface _=>false|_=>true)=true) (hx:ev r x=some v) (h:Pk P B n l C K p ((d,.iface t v)::r) H):Pk P B n l C K ((i,kd)::p) r H:=
 Pk.quiet hi hk hg hd (fun a H' d' ha _=>by
  simp only [execOp,Instr.makeInterface,Sem.run_bind,run_und hu,Result.andThen_ok,ha.eval hx]
  cases td<;>simp_all) h
theorem Ok.mkf {fn:Go.Fn} {xs ys:List Operand} {us vs:List Value} (hi:l[i]?=some ⟨some d,.makeFunc fn xs.toArray ys.toArray,ty,pos,af,gd⟩) (hk:Nat.blt kd 2=true) (hg:guardOn l r gd=true) (hd:Nat.blt d n=true)
  (hx:evs r xs=some us) (hy:evs r ys=some vs) (h:Pk P B n l C K p ((d,.func fn us.toArray vs.toArray)::r) H):Pk P B n l C K ((i,kd)::p) r H:=
 Pk.quiet hi hk hg hd (fun a H' d' ha _=>by
  have h1:=ha.evals hx
  have h2:=ha.evals hy
  simp only [execOp,Sem.run_bind,Instr.makeFunc,Sem.run_pure,Result.andThen_ok]
  rw [←h1,←h2];simp) h
end
def EMv:Elt (Int×Int×Int):={ enc:=fun m=>[.int .i64 m.1,.int .i64 m.2.1,.int .i64 m.2.2],s:=3,len:=fun _=>rfl,one:=fun _=>rfl,pos:=by decide }
theorem EMv.of (vs:List Value) (h:AllOk [.int .i64,.int .i64,.int .i64] vs):∃y,EMv.enc y=vs:=by
 obtain ⟨x1,v1,e1,⟨a,e2,_⟩,h1⟩:=h.get1
 obtain ⟨x2,v2,e3,⟨b,e4,_⟩,h2⟩:=h1.get1
 obtain ⟨x3,v3,e5,⟨c,e6,_⟩,h3⟩:=h2.get1
 rw [e1,e3,e5,e2,e4,e6,h3.nil']
 exact ⟨(a,b,c),rfl⟩
namespace Pl
def cut (n:Nat) (z:Int):Option Nat:=if 0≤z∧z<(n:Int) then some z.toNat else none
theorem cut_nat (n q:Nat):cut n (q:Int)=if q<n then some q else none:=by
 unfold cut
 by_cases h:q<n
 · rw [if_pos ⟨by omega,by omega⟩,if_pos h];rfl
 · rw [if_neg (by omega),if_neg h]
theorem cut_last (n:Nat):cut n ((n:Int)-1)=if 0<n then some (n-1) else none:=by
 by_cases h:0<n
 · rw [show (n:Int)-1=((n-1:Nat):Int) by omega,cut_nat,if_pos (by omega),if_pos h]
 · rw [if_neg h,cut,if_neg (by omega)]
theorem cut_first (n:Nat):cut n 0=if 0<n then some 0 else none:=cut_nat n 0
section
variable {α:Type} (O:Swo α) (l:List α)
def mvTo (m:Int×α) (st:Option Nat):Int:=
 if m.1=2∨m.1=3 then (match st with|none=>-1|some q=>if m.1=2 then (q:Int)+1 else (q:Int)-1)
 else if m.1=1 then (l.length:Int)-1
 else if m.1=4∨m.1=5 then (pos O m.2 l:Int)
 else 0
def mvTold (m:Int×α) (st:Option Nat):Bool:=if m.1=2∨m.1=3 then st.isSome||l.isEmpty else true
end
def Agree {γ:Type} (a b:List γ) (t:List Bool):Prop:=a.length=b.length∧t.length=b.length∧∀j:Nat,t[j]?=some true→a[j]?=b[j]?
theorem Agree.nil {γ:Type}:Agree ([]:List γ) [] []:=⟨rfl,rfl,fun _ _=>rfl⟩
end Pl
namespace Pl
section
variable {α:Type} (O:Swo α) (l:List α)
structure Res (m:Int×α) (s0:Option Nat) (b:Bool) (st:Option Nat):Prop where
 told:mvTold l m s0=true→b=st.isSome∧st=cut l.length (mvTo O l m s0)
 not:mvTold l m s0=false→cut l.length (mvTo O l m s0)=none
variable {O l}
theorem Res.out {m:Int×α} {s0 st:Option Nat} {b:Bool} (h:Res O l m s0 b st) {kv:α} (hkv:∀q,st=some q→l[q]?=some kv) (ht:mvTold l m s0=true):(if b=true then some kv else none)=(cut l.length (mvTo O l m s0)).bind (l[·]?):=by
 obtain ⟨h1,h2⟩:=h.told ht
 rw [←h2,h1]
 cases st with
 | none=>rfl
 | some q=>exact (hkv q rfl).symm
theorem Res.first {m:Int×α} {s0:Option Nat} (h1:m.1≠1) (h2:m.1≠2) (h3:m.1≠3) (h4:m.1≠4) (h5:m.1≠5):Res O l m s0 (decide (0<l.length)) (if 0<l.length then some 0 else none):=by
 have e:mvTo O l m s0=0:=by unfold mvTo;rw [if_neg (by omega),if_neg h1,if_neg (by omega)]
 refine ⟨fun _=>⟨?_,by rw [e,cut_first]⟩,fun h=>?_⟩
 · by_cases h:0<l.length<;>simp [h]
 · unfold mvTold at h;rw [if_neg (by omega)] at h;cases h
theorem Res.last {m:Int×α} {s0:Option Nat} (h1:m.1=1):Res O l m s0 (decide (0<l.length)) (if 0<l.length then some (l.length-1) else none):=by
 have e:mvTo O l m s0=(l.length:Int)-1:=by unfold mvTo;rw [if_neg (by omega),if_pos h1]
 refine ⟨fun _=>⟨?_,by rw [e,cut_last]⟩,fun h=>?_⟩
 · by_cases h:0<l.length<;>simp [h]
 · unfold mvTold at h;rw [if_neg (by omega)] at h;cases h
end
end Pl
namespace Pl
section
variable {α:Type} (O:Swo α) (T:List α)
end
end Pl
theorem slice_inG {α:Type} (E:Elt α) {Hh:Type} {enc:TypeId×Value→Hh} {P:Program} {w:World} {fuel:Nat} {t e:TypeId} {a:Option Addr} {len cap:Nat} {x:DataW Hh×List MemPlace} (ht:P.underlying t=some (.slice e))
  (hce:P.cellsOf e=E.s) (hE:∀(n:Nat) (cs:List Value) (y:DataW Hh×List MemPlace),DataW.trod enc P w 0 (fun _=>true) true n e cs=some y→∃y,E.enc y=cs) (h:DataW.trod enc P w 0 (fun _=>true) true fuel t [.slice a len cap]=some x):∃l,InS E w.heap (.slice a len cap) l:=by
 rcases Go.Deep.open_slice ht h with ⟨hcs,_⟩|⟨a',len',cap',m',n,D,Pl,hcs,_,hl,_,hm,_,hx⟩
 ·
  simp at hcs
  obtain ⟨rfl,rfl,rfl⟩:=hcs
  exact ⟨[],.inr ⟨rfl,_,_,rfl⟩⟩
 ·
  simp at hcs
  obtain ⟨rfl,rfl,rfl⟩:=hcs
  simp only [if_true] at hm
  subst hm
  rcases Nat.eq_zero_or_pos m' with rfl|hc
  ·
   obtain rfl:len=0:=by omega
   exact ⟨[],.inr ⟨rfl,_,_,rfl⟩⟩
  ·
   have hex:∀i,i<m'→∃y:α,w.cells? 0 (a'.add (i*E.s)) E.s=some (E.enc y):=fun i hi=>by
    obtain ⟨cs',h1,h2⟩:=hx i hi
    obtain ⟨y,hy⟩:=hE _ _ _ h2
    rw [hce] at h1
    exact ⟨y,by rw [hy];exact h1⟩
   have hx':∀i,∃y:α,i<m'→w.cells? 0 (a'.add (i*E.s)) E.s=some (E.enc y):=fun i=>by
    by_cases hi:i<m'
    ·
     obtain ⟨y,hy⟩:=hex i hi
     exact ⟨y,fun _=>hy⟩
    ·
     obtain ⟨y,_⟩:=hex 0 hc
     exact ⟨y,fun hh=>absurd hh hi⟩
   obtain ⟨f,hf⟩:∃f:Nat→α,∀i,i<m'→w.cells? 0 (a'.add (i*E.s)) E.s=some (E.enc (f i)):=⟨fun i=>Classical.choose (hx' i),fun i=>Classical.choose_spec (hx' i)⟩
   obtain ⟨b,o,s⟩:=a'
   have cell:∀i j,i<m'→j<E.s→w.cell? ((Addr.add ⟨b,o,s⟩ (i*E.s)).add j)=(E.enc (f i))[j]?:=fun i j hi hj=>(World.cells?_some (hf i hi)).2.2 j hj
   have hs:s=none:=by
    have h0:=cell 0 0 hc E.pos
    cases s with
    | none=>rfl
    | some k=>
     have hne:(E.enc (f 0))[0]?≠none:=by
      intro hh
      have:=List.getElem?_eq_none_iff.1 hh
      rw [E.len] at this
      have:=E.pos
      omega
     rw [←h0] at hne
     simp only [Nat.zero_mul,Addr.add,if_true,World.cell?] at hne
     split at hne<;>simp at hne
   subst hs
   refine ⟨(List.range len).map f,.inl ⟨b,o,m',by simp,by simpa using hl,fun j v hv=>?_⟩⟩
   have hj:=(List.getElem?_eq_some_iff.1 hv).1
   rw [row_len,List.length_map,List.length_range] at hj
   have hi:j / E.s<len:=Nat.div_lt_of_lt_mul (by rw [Nat.mul_comm];exact hj)
   have hr:j % E.s<E.s:=Nat.mod_lt _ E.pos
   have hq:((List.range len).map f)[j / E.s]?=some (f (j / E.s)):=by simp [hi]
   have hjm:j / E.s*E.s+j % E.s=j:=by rw [Nat.mul_comm];exact Nat.div_add_mod j E.s
   have h1:=cell (j / E.s) (j % E.s) (by omega) hr
   have hlt:j % E.s<(E.enc (f (j / E.s))).length:=by rw [E.len];exact hr
   have hg:=row_get E hq (j % E.s) _ (List.getElem?_eq_getElem hlt)
   rw [hjm] at hg
   have hvv:=Option.some.inj (hv.symm.trans hg)
   have cc:∀n,World.cell? w ⟨b,n,none⟩=cl w.heap b n:=fun n=>by rw [←mk_self w];exact mk_cell _ _ _ _ _
   rw [Addr.add_lit,Addr.add_lit,cc] at h1
   rw [show o+j=o+j / E.s*E.s+j % E.s by omega,h1,hvv]
   exact List.getElem?_eq_getElem hlt
end Go.Bt
namespace Go.Bt
open Go Go.ChangeShapes
section
variable {Hh:Type} {enc:TypeId×Value→Hh} {P:Program} {w:World} {fuel:Nat} {t e:TypeId} {f0 f1 f2:Field} {cs:List Value} {x:DataW Hh×List MemPlace}
theorem len1 {α:Type} {l:List α} {c:α} (h:l=[c]):l=[c]:=h
theorem open_mk (ht:P.underlying t=some (.struct #[f0,f1,f2])) (o0:f0.offset=0) (o1:f1.offset=1) (o2:f2.offset=2) (h0:P.underlying f0.type=some (.slice e)) (hce:P.cellsOf e=1) (he:P.underlying e=some (.int .i64))
  (h1:P.underlying f1.type=some (.int .i64)) (h2:P.underlying f2.type=some .bool) (c0:P.cellsOf f0.type=1) (c1:P.cellsOf f1.type=1) (c2:P.cellsOf f2.type=1) (ct:P.cellsOf t=3)
  (h:DataW.trod enc P w 0 (fun _=>true) true fuel t cs=some x) (hsl:∀v n y,DataW.trod enc P w 0 (fun _=>true) true n f0.type [v]=some y→∃a m c,v=.slice a m c):
  ∃(v:Value) (l:List Int) (z:Int) (b:Bool),cs=[v,.int .i64 z,.bool b]∧InS EN w.heap v l:=by
 obtain ⟨y0,y1,y2,n,_,hl,t0,t1,t2⟩:=Go.Deep.trod_struct3 ht h
 rw [ct] at hl
 obtain ⟨a0,a1,a2,rfl⟩:∃a0 a1 a2,cs=[a0,a1,a2]:=by
  match cs,hl with
  | [a0,a1,a2],_=>exact ⟨a0,a1,a2,rfl⟩
 rw [o0,c0] at t0
 rw [o1,c1] at t1
 rw [o2,c2] at t2
 obtain ⟨z,hz,_⟩:=DataW.trod_int h1 t1
 obtain ⟨b,hb,_⟩:=DataW.trod_bool h2 t2
 obtain ⟨a,m,c,rfl⟩:=hsl a0 n y0 t0
 obtain ⟨l,hi⟩:=slice_inG EN (a:=a) (len:=m) (cap:=c) h0 hce (fun n cs y hy=>by obtain ⟨z,hz,_⟩:=DataW.trod_int he hy;exact ⟨z,hz.symm⟩) t0
 have ez:a1=.int .i64 z:=by simpa using hz
 have eb:a2=.bool b:=by simpa using hb
 exact ⟨_,l,z,b,by rw [ez,eb],hi⟩
theorem open_it (ht:P.underlying t=some (.struct #[f0,f1])) (o0:f0.offset=0) (o1:f1.offset=1) (h0:P.underlying f0.type=some (.int .i64)) (h1:P.underlying f1.type=some (.int .i64)) (c0:P.cellsOf f0.type=1) (c1:P.cellsOf f1.type=1) (ct:P.cellsOf t=2)
  (h:DataW.trod enc P w 0 (fun _=>true) true fuel t cs=some x):∃z0 z1:Int,cs=[.int .i64 z0,.int .i64 z1]:=by
 obtain ⟨y0,y1,n,_,hl,t0,t1⟩:=trod_struct2 ht h
 rw [ct] at hl
 obtain ⟨a0,a1,rfl⟩:∃a0 a1,cs=[a0,a1]:=by
  match cs,hl with
  | [a0,a1],_=>exact ⟨a0,a1,rfl⟩
 rw [o0,c0] at t0
 rw [o1,c1] at t1
 obtain ⟨z0,hz0,_⟩:=DataW.trod_int h0 t0
 obtain ⟨z1,hz1,_⟩:=DataW.trod_int h1 t1
 have e0:a0=.int .i64 z0:=by simpa using hz0
 have e1:a1=.int .i64 z1:=by simpa using hz1
 exact ⟨z0,z1,by rw [e0,e1]⟩
theorem trod_isl (ht:P.underlying t=some (.slice e)) {v:Value} {n:Nat} {y:DataW Hh×List MemPlace} (h:DataW.trod enc P w 0 (fun _=>true) true n t [v]=some y):∃a m c,v=.slice a m c:=by
 rcases Go.Deep.open_slice ht h with ⟨hcs,_⟩|⟨a',len',cap',m',n,D,Pl,hcs,_⟩
 · exact ⟨_,_,_,by simpa using hcs⟩
 · exact ⟨_,_,_,by simpa using hcs⟩
end
end Go.Bt
