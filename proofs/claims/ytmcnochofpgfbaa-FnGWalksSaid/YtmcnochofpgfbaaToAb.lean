/- The program logic: one rule for each kind of operation. Conditions: those that each rule names. -/
import Derived.IntWalk
import Derived.Test.YtmcnochofpgfbaaToLgH
set_option linter.unusedVariables false
namespace Go.Bt
open Go
/-! What is to be known of a type. -/
def Flat (P:Program) (t:TypeId):Prop:=∀w,(isAgg t).run P w=.ok false w∧(sizeOf t).run P w=.ok 1 w
def AggT (P:Program) (t:TypeId) (s:Nat):Prop:=∀w,(isAgg t).run P w=.ok true w∧(sizeOf t).run P w=.ok s w
def Sz (P:Program) (t:TypeId) (s:Nat):Prop:=∀w,(sizeOf t).run P w=.ok s w
def Zero (P:Program) (t:TypeId) (v:Value):Prop:=∀w,(zeroValue t).run P w=.ok v w
def FieldAt (P:Program) (s:TypeId) (f off:Nat):Prop:=∃fs fd sz,P.underlying s=some (.struct fs)∧fs[f]?=some fd∧fd.offset=off∧Sz P fd.type (sz+1)
theorem wrap_id {z:Int} (h:-9223372036854775808≤z∧z<9223372036854775808):IntKind.i64.wrap z=z:=IntWalk.i64_in z (by omega)
/-! ### The runs -/
section
variable {P:Program} {B:World} {H:Mem} {d:Nat}
theorem run_und {t:TypeId} {x:TypeDesc} (h:P.underlying t=some x) (w:World):(underlying t).run P w=.ok x w:=run_underlying h w
theorem run_loadVar_flat {t:TypeId} {b o:Nat} {v:Value} (ht:Flat P t) (hc:cl H b o=some v):(loadVar t ⟨b,o,none⟩).run P (mk B H d)=.ok v (mk B H d):=by
 simp only [loadVar,Sem.run_bind,(ht _).1,Result.andThen_ok,Bool.false_eq_true,if_false,run_load,mk_cell,hc]
theorem run_loadVar_agg {t:TypeId} {b o s:Nat} {vs:List Value} (ht:AggT P t s) (hl:vs.length=s) (hc:Rd H b o vs):(loadVar t ⟨b,o,none⟩).run P (mk B H d)=.ok (.agg vs.toArray) (mk B H d):=by
 subst hl
 simp only [loadVar,Sem.run_bind,(ht _).1,(ht _).2,Result.andThen_ok,if_true,run_loads P B H d b o vs hc,Sem.run_pure]
theorem run_storeVar {t:TypeId} {b o s:Nat} {v:Value} {vs:List Value} (ht:Sz P t s) (hv:v.cells=vs.toArray) (hl:vs.length=s) (h1:ones vs=true) (hw:Wr H b o s):
  (storeVar t ⟨b,o,none⟩ v).run P (mk B H d)=.ok () (mk B (setcs H b o vs) d):=by
 subst hl
 have:=run_stores P B d b vs H o 0 (by simpa using hw) h1
 simp only [Nat.add_zero] at this
 simp [storeVar,ht _,hv,this]
theorem run_fieldAt {s:TypeId} {f off b o:Nat} (h:FieldAt P s f off) (w:World):(Instr.fieldAt s (.pointer (some ⟨b,o,none⟩)) f).run P w=.ok (.pointer (some ⟨b,o+off,none⟩)) w:=by
 obtain ⟨fs,fd,sz,h1,h2,h3,h4⟩:=h
 subst h3
 simp [Instr.fieldAt,run_und h1,h2,Instr.sureAddr,fieldPlace,h4 _,Addr.add_lit]
theorem run_indexAt {t e:TypeId} {s b o len cap i:Nat} {kk:IntKind} (hu:P.underlying t=some (.slice e)) (hs:Sz P e s) (hi:i<len) (w:World):
  (Instr.indexAt t (.slice (some ⟨b,o,none⟩) len cap) (.int kk (i:Int))).run P w=.ok (.pointer (some ⟨b,o+i*s,none⟩)) w:=by
 have h:(0:Int)≤(i:Int)∧(i:Int)<(len:Int):=by omega
 simp only [Instr.indexAt,asIntOf,Sem.run_bind,Sem.run_pure,Result.andThen_ok,run_und hu,if_pos h,hs _,Int.toNat_natCast,Addr.add_lit]
end
section
variable {P:Program} {B:World} {f:FuncId} {Q:Value→Mem→Prop} {n:Nat} {r:Env} {k:List Item} {H:Mem} {l:List Oper} {C:Mem→Prop} {p:List (Nat×Nat)}
variable {i kd d:Nat} {ty:TypeId} {pos:String} {af:Array Edge} {gd:Option (Nat×Bool)}
theorem O.mv {x:Operand} {v:Value} (hi:l[i]?=some ⟨some d,.move x,ty,pos,af,gd⟩) (hk:Nat.blt kd 2=true) (hg:guardOn l r gd=true) (hd:Nat.blt d n=true) (hx:ev r x=some v)
  (h:Pl P B f Q n l C k p ((d,v)::r) H):Pl P B f Q n l C k ((i,kd)::p) r H:=
 Pl.quiet hi hk hg hd (fun a H' d' ha _=>by simp [execOp,ha.eval hx]) h
theorem O.pick {c x y:Operand} {t:Bool} {v:Value} (hi:l[i]?=some ⟨some d,.pick c x y,ty,pos,af,gd⟩) (hk:Nat.blt kd 2=true) (hg:guardOn l r gd=true) (hd:Nat.blt d n=true) (hc:ev r c=some (.bool t))
  (hx:ev r (bif t then x else y)=some v) (h:Pl P B f Q n l C k p ((d,v)::r) H):Pl P B f Q n l C k ((i,kd)::p) r H:=
 Pl.quiet hi hk hg hd (fun a H' d' ha _=>by
  have:=ha.eval hx
  cases t<;>simp_all [execOp,ha.eval hc,asBool]) h
theorem O.ld {t:TypeId} {x:Operand} {b o:Nat} {v:Value} (hi:l[i]?=some ⟨some d,.load t x,ty,pos,af,gd⟩) (hg:guardOn l r gd=true) (hd:Nat.blt d n=true) (ht:Flat P t)
  (hx:ev r x=some (.pointer (some ⟨b,o,none⟩))) (hc:cl H b o=some v) (h:Pl P B f Q n l C k p ((d,v)::r) H):Pl P B f Q n l C k ((i,1)::p) r H:=
 Pl.quiet hi rfl hg hd (fun a H' d' ha hH=>by
  obtain rfl:H'=H:=hH.elim (fun h=>absurd h.1 (by decide)) (fun h=>h.2)
  simp [execOp,ha.eval hx,Instr.loadAt,Instr.sureAddr,run_loadVar_flat ht hc]) h
theorem O.ldC {t:TypeId} {x:Operand} {b o:Nat} {v:Value} (hi:l[i]?=some ⟨some d,.load t x,ty,pos,af,gd⟩) (hg:guardOn l r gd=true) (hd:Nat.blt d n=true) (ht:Flat P t)
  (hx:ev r x=some (.pointer (some ⟨b,o,none⟩))) (hc:∀H',C H'→cl H' b o=some v) (h:Pl P B f Q n l C k p ((d,v)::r) H):Pl P B f Q n l C k ((i,0)::p) r H:=
 Pl.quiet hi rfl hg hd (fun a H' d' ha hH=>by
  have hC:C H':=hH.elim (fun h=>h.2) (fun h=>absurd h.1 (by decide))
  simp [execOp,ha.eval hx,Instr.loadAt,Instr.sureAddr,run_loadVar_flat ht (hc H' hC)]) h
theorem O.lds {t:TypeId} {x:Operand} {b o s:Nat} {vs:List Value} (hi:l[i]?=some ⟨some d,.load t x,ty,pos,af,gd⟩) (hg:guardOn l r gd=true) (hd:Nat.blt d n=true) (ht:AggT P t s)
  (hx:ev r x=some (.pointer (some ⟨b,o,none⟩))) (hl:vs.length=s) (hc:Rd H b o vs) (h:Pl P B f Q n l C k p ((d,.agg vs.toArray)::r) H):Pl P B f Q n l C k ((i,1)::p) r H:=
 Pl.quiet hi rfl hg hd (fun a H' d' ha hH=>by
  obtain rfl:H'=H:=hH.elim (fun h=>absurd h.1 (by decide)) (fun h=>h.2)
  simp [execOp,ha.eval hx,Instr.loadAt,Instr.sureAddr,run_loadVar_agg ht hl hc]) h
theorem O.ldsC {t:TypeId} {x:Operand} {b o s:Nat} {vs:List Value} (hi:l[i]?=some ⟨some d,.load t x,ty,pos,af,gd⟩) (hg:guardOn l r gd=true) (hd:Nat.blt d n=true) (ht:AggT P t s)
  (hx:ev r x=some (.pointer (some ⟨b,o,none⟩))) (hl:vs.length=s) (hc:∀H',C H'→Rd H' b o vs) (h:Pl P B f Q n l C k p ((d,.agg vs.toArray)::r) H):Pl P B f Q n l C k ((i,0)::p) r H:=
 Pl.quiet hi rfl hg hd (fun a H' d' ha hH=>by
  have hC:C H':=hH.elim (fun h=>h.2) (fun h=>absurd h.1 (by decide))
  simp [execOp,ha.eval hx,Instr.loadAt,Instr.sureAddr,run_loadVar_agg ht hl (hc H' hC)]) h
theorem O.fa {s:TypeId} {x:Operand} {b o fld off:Nat} (hi:l[i]?=some ⟨some d,.fieldAddr s x fld,ty,pos,af,gd⟩) (hk:Nat.blt kd 2=true) (hg:guardOn l r gd=true) (hd:Nat.blt d n=true) (hf:FieldAt P s fld off)
  (hx:ev r x=some (.pointer (some ⟨b,o,none⟩))) (h:Pl P B f Q n l C k p ((d,.pointer (some ⟨b,o+off,none⟩))::r) H):Pl P B f Q n l C k ((i,kd)::p) r H:=
 Pl.quiet hi hk hg hd (fun a H' d' ha _=>by simp [execOp,ha.eval hx,run_fieldAt hf]) h
theorem O.ix {t e:TypeId} {x ix:Operand} {b o s len cap j:Nat} {kk:IntKind} {z:Int} (hi:l[i]?=some ⟨some d,.indexAddr t x ix,ty,pos,af,gd⟩) (hk:Nat.blt kd 2=true) (hg:guardOn l r gd=true) (hd:Nat.blt d n=true)
  (hu:P.underlying t=some (.slice e)) (hs:Sz P e s) (hx:ev r x=some (.slice (some ⟨b,o,none⟩) len cap)) (hix:ev r ix=some (.int kk z)) (hz:z=(j:Int)) (hj:j<len)
  (h:Pl P B f Q n l C k p ((d,.pointer (some ⟨b,o+j*s,none⟩))::r) H):Pl P B f Q n l C k ((i,kd)::p) r H:=
 Pl.quiet hi hk hg hd (fun a H' d' ha _=>by subst hz;simp [execOp,ha.eval hx,ha.eval hix,run_indexAt hu hs hj]) h
theorem O.not {t:TypeId} {x:Operand} {v:Bool} (hi:l[i]?=some ⟨some d,.unOp .not t x,ty,pos,af,gd⟩) (hk:Nat.blt kd 2=true) (hg:guardOn l r gd=true) (hd:Nat.blt d n=true) (hx:ev r x=some (.bool v))
  (h:Pl P B f Q n l C k p ((d,.bool (!v))::r) H):Pl P B f Q n l C k ((i,kd)::p) r H:=
 Pl.quiet hi hk hg hd (fun a H' d' ha _=>by simp [execOp,ha.eval hx,Op.unary]) h
/-! Integers. -/
theorem O.bin {op:BinOp} {t t':TypeId} {x y:Operand} {a b:Value} {v:Value} (hi:l[i]?=some ⟨some d,.binOp op t x y t',ty,pos,af,gd⟩) (hk:Nat.blt kd 2=true) (hg:guardOn l r gd=true) (hd:Nat.blt d n=true)
  (hx:ev r x=some a) (hy:ev r y=some b) (hr:∀w,(eqGuard op t x y a b).run P w=.ok () w∧(binOp op t a b).run P w=.ok v w) (h:Pl P B f Q n l C k p ((d,v)::r) H):Pl P B f Q n l C k ((i,kd)::p) r H:=
 Pl.quiet hi hk hg hd (fun a H' d' ha _=>by simp [execOp,ha.eval hx,ha.eval hy,hr]) h
theorem run_eqGuard_int (op:BinOp) (t:TypeId) (x y:Operand) (kk kl:IntKind) (a b:Int) (w:World):(eqGuard op t x y (.int kk a) (.int kl b)).run P w=.ok () w:=by
 unfold eqGuard
 split<;>simp
theorem O.add {t t':TypeId} {x y:Operand} {a b:Int} (z:Int) (hi:l[i]?=some ⟨some d,.binOp .add t x y t',ty,pos,af,gd⟩) (hk:Nat.blt kd 2=true) (hg:guardOn l r gd=true) (hd:Nat.blt d n=true)
  (hx:ev r x=some (.int .i64 a)) (hy:ev r y=some (.int .i64 b)) (hz:a+b=z) (hb:-9223372036854775808≤z∧z<9223372036854775808) (h:Pl P B f Q n l C k p ((d,.int .i64 z)::r) H):Pl P B f Q n l C k ((i,kd)::p) r H:=
 O.bin hi hk hg hd hx hy (fun w=>⟨run_eqGuard_int _ _ _ _ _ _ _ _ w,by simp only [binOp,Op.intArith,if_neg (not_not_intro rfl),hz,wrap_id hb,Sem.run_pure]⟩) h
theorem O.sub {t t':TypeId} {x y:Operand} {a b:Int} (z:Int) (hi:l[i]?=some ⟨some d,.binOp .sub t x y t',ty,pos,af,gd⟩) (hk:Nat.blt kd 2=true) (hg:guardOn l r gd=true) (hd:Nat.blt d n=true)
  (hx:ev r x=some (.int .i64 a)) (hy:ev r y=some (.int .i64 b)) (hz:a-b=z) (hb:-9223372036854775808≤z∧z<9223372036854775808) (h:Pl P B f Q n l C k p ((d,.int .i64 z)::r) H):Pl P B f Q n l C k ((i,kd)::p) r H:=
 O.bin hi hk hg hd hx hy (fun w=>⟨run_eqGuard_int _ _ _ _ _ _ _ _ w,by simp only [binOp,Op.intArith,if_neg (not_not_intro rfl),hz,wrap_id hb,Sem.run_pure]⟩) h
theorem O.mul {t t':TypeId} {x y:Operand} {a b:Int} (z:Int) (hi:l[i]?=some ⟨some d,.binOp .mul t x y t',ty,pos,af,gd⟩) (hk:Nat.blt kd 2=true) (hg:guardOn l r gd=true) (hd:Nat.blt d n=true)
  (hx:ev r x=some (.int .i64 a)) (hy:ev r y=some (.int .i64 b)) (hz:a*b=z) (hb:-9223372036854775808≤z∧z<9223372036854775808) (h:Pl P B f Q n l C k p ((d,.int .i64 z)::r) H):Pl P B f Q n l C k ((i,kd)::p) r H:=
 O.bin hi hk hg hd hx hy (fun w=>⟨run_eqGuard_int _ _ _ _ _ _ _ _ w,by simp only [binOp,Op.intArith,if_neg (not_not_intro rfl),hz,wrap_id hb,Sem.run_pure]⟩) h
theorem O.quo {t t':TypeId} {x y:Operand} {a b:Int} (z:Int) (hi:l[i]?=some ⟨some d,.binOp .quo t x y t',ty,pos,af,gd⟩) (hk:Nat.blt kd 2=true) (hg:guardOn l r gd=true) (hd:Nat.blt d n=true)
  (hx:ev r x=some (.int .i64 a)) (hy:ev r y=some (.int .i64 b)) (h0:b≠0) (hz:a.tdiv b=z) (hb:-9223372036854775808≤z∧z<9223372036854775808) (h:Pl P B f Q n l C k p ((d,.int .i64 z)::r) H):Pl P B f Q n l C k ((i,kd)::p) r H:=
 O.bin hi hk hg hd hx hy (fun w=>⟨run_eqGuard_int _ _ _ _ _ _ _ _ w,by simp only [binOp,Op.intDiv,if_neg (not_not_intro rfl),if_neg h0,hz,wrap_id hb,Sem.run_pure]⟩) h
theorem O.rem {t t':TypeId} {x y:Operand} {kk:IntKind} {a b:Int} (z:Int) (hi:l[i]?=some ⟨some d,.binOp .rem t x y t',ty,pos,af,gd⟩) (hk:Nat.blt kd 2=true) (hg:guardOn l r gd=true) (hd:Nat.blt d n=true)
  (hx:ev r x=some (.int kk a)) (hy:ev r y=some (.int kk b)) (h0:b≠0) (hz:a.tmod b=z) (h:Pl P B f Q n l C k p ((d,.int kk z)::r) H):Pl P B f Q n l C k ((i,kd)::p) r H:=
 O.bin hi hk hg hd hx hy (fun w=>⟨run_eqGuard_int _ _ _ _ _ _ _ _ w,by simp only [binOp,Op.intDiv,if_neg (not_not_intro rfl),if_neg h0,hz,Sem.run_pure]⟩) h
def cmpOf:BinOp→Int→Int→Option Bool
 | .eql,a,b=>some (decide (a=b))
 | .neq,a,b=>some (!decide (a=b))
 | .lss,a,b=>some (decide (a<b))
 | .leq,a,b=>some (decide (a≤b))
 | .gtr,a,b=>some (decide (b<a))
 | .geq,a,b=>some (decide (b≤a))
 | _,_,_=>none
theorem O.cmp {op:BinOp} {t t':TypeId} {x y:Operand} {kk:IntKind} {a b:Int} {v:Bool} (hi:l[i]?=some ⟨some d,.binOp op t x y t',ty,pos,af,gd⟩) (hk:Nat.blt kd 2=true) (hg:guardOn l r gd=true) (hd:Nat.blt d n=true)
  (hx:ev r x=some (.int kk a)) (hy:ev r y=some (.int kk b)) (hv:cmpOf op a b=some v) (h:Pl P B f Q n l C k p ((d,.bool v)::r) H):Pl P B f Q n l C k ((i,kd)::p) r H:=
 O.bin hi hk hg hd hx hy (fun w=>⟨run_eqGuard_int _ _ _ _ _ _ _ _ w,by
  cases op<;>simp only [cmpOf,Option.some.injEq,reduceCtorEq] at hv
  all_goals
   subst hv
   simp only [binOp,if_neg (not_not_intro rfl),Op.intCmp,Sem.run_pure]
   first|done|rfl|(congr 2;by_cases h:a=b<;>simp [h])⟩) h
theorem lssT {a b:Int} (h:a<b):cmpOf .lss a b=some true:=by simp [cmpOf,h]
theorem lssF {a b:Int} (h:b≤a):cmpOf .lss a b=some false:=by simp [cmpOf,h]
theorem leqT {a b:Int} (h:a≤b):cmpOf .leq a b=some true:=by simp [cmpOf,h]
theorem leqF {a b:Int} (h:b<a):cmpOf .leq a b=some false:=by simp [cmpOf,h]
theorem gtrT {a b:Int} (h:b<a):cmpOf .gtr a b=some true:=by simp [cmpOf,h]
theorem gtrF {a b:Int} (h:a≤b):cmpOf .gtr a b=some false:=by simp [cmpOf,h]
theorem geqT {a b:Int} (h:b≤a):cmpOf .geq a b=some true:=by simp [cmpOf,h]
theorem geqF {a b:Int} (h:a<b):cmpOf .geq a b=some false:=by simp [cmpOf,h]
theorem eqlT {a b:Int} (h:a=b):cmpOf .eql a b=some true:=by simp [cmpOf,h]
theorem eqlF {a b:Int} (h:a≠b):cmpOf .eql a b=some false:=by simp [cmpOf,h]
theorem neqT {a b:Int} (h:a≠b):cmpOf .neq a b=some true:=by simp [cmpOf,h]
theorem neqF {a b:Int} (h:a=b):cmpOf .neq a b=some false:=by simp [cmpOf,h]
/-! A pointer against nil. -/
theorem run_equalIn_nil {t e:TypeId} (hu:P.underlying t=some (.pointer e)) (m:Nat) (v:Option Addr) (w:World):(Op.equalIn (m+1) t (.pointer v) (.pointer none)).run P w=.ok v.isNone w:=by
 cases v<;>simp [Op.equalIn,run_und hu]
theorem run_nil_eql {t e:TypeId} {x y:Operand} (hu:P.underlying t=some (.pointer e)) (v:Option Addr) (w:World):
  (eqGuard .eql t x y (.pointer v) (.pointer none)).run P w=.ok () w∧(binOp .eql t (.pointer v) (.pointer none)).run P w=.ok (.bool v.isNone) w:=by
 refine ⟨by unfold eqGuard;simp,?_⟩
 have h:=run_equalIn_nil hu 9999 v w
 have h2:binOp .eql t (.pointer v) (.pointer none)=(do pure (.bool (←Op.equal t (.pointer v) (.pointer none)))):=by cases v<;>rfl
 rw [h2]
 simp only [Op.equal,Op.maxDepth,Sem.run_bind,h,Result.andThen_ok,Sem.run_pure]
theorem O.isNil {t t' e:TypeId} {x y:Operand} {v:Option Addr} (hi:l[i]?=some ⟨some d,.binOp .eql t x y t',ty,pos,af,gd⟩) (hk:Nat.blt kd 2=true) (hg:guardOn l r gd=true) (hd:Nat.blt d n=true)
  (hu:P.underlying t=some (.pointer e)) (hx:ev r x=some (.pointer v)) (hy:ev r y=some (.pointer none)) (h:Pl P B f Q n l C k p ((d,.bool v.isNone)::r) H):Pl P B f Q n l C k ((i,kd)::p) r H:=
 O.bin hi hk hg hd hx hy (run_nil_eql hu v) h
theorem run_nil_neq {t e:TypeId} {x y:Operand} (hu:P.underlying t=some (.pointer e)) (v:Option Addr) (w:World):
  (eqGuard .neq t x y (.pointer v) (.pointer none)).run P w=.ok () w∧(binOp .neq t (.pointer v) (.pointer none)).run P w=.ok (.bool (!v.isNone)) w:=by
 refine ⟨by unfold eqGuard;simp,?_⟩
 have h:=run_equalIn_nil hu 9999 v w
 have h2:binOp .neq t (.pointer v) (.pointer none)=(do pure (.bool (!(←Op.equal t (.pointer v) (.pointer none))))):=by cases v<;>rfl
 rw [h2]
 simp only [Op.equal,Op.maxDepth,Sem.run_bind,h,Result.andThen_ok,Sem.run_pure]
theorem O.notNil {t t' e:TypeId} {x y:Operand} {v:Option Addr} (hi:l[i]?=some ⟨some d,.binOp .neq t x y t',ty,pos,af,gd⟩) (hk:Nat.blt kd 2=true) (hg:guardOn l r gd=true) (hd:Nat.blt d n=true)
  (hu:P.underlying t=some (.pointer e)) (hx:ev r x=some (.pointer v)) (hy:ev r y=some (.pointer none)) (h:Pl P B f Q n l C k p ((d,.bool (!v.isNone))::r) H):Pl P B f Q n l C k ((i,kd)::p) r H:=
 O.bin hi hk hg hd hx hy (run_nil_neq hu v) h
/-! A loop,by a measure: what holds of the state,and which slots it is in,at each round's head. -/
theorem Go'.ind {σ:Type} (μ:σ→Nat) (I:σ→Mem→Prop) (e:σ→Env) (s0:σ) (h0:I s0 H) (hr:r=e s0)
  (step:∀s H,I s H→(∀s' H',I s' H'→μ s'<μ s→Go' P B f Q n (e s') k H')→Go' P B f Q n (e s) k H):Go' P B f Q n r k H:=by
 subst hr
 have key:∀m s H,μ s=m→I s H→Go' P B f Q n (e s) k H:=by
  intro m
  induction m using Nat.strongRecOn with
  | _ m ih=>exact fun s H hm hI=>step s H hI fun s' H' hI' hlt=>ih (μ s') (hm▸hlt) s' H' rfl hI'
 exact key _ s0 H rfl h0
/-! Slices. -/
theorem O.len {t e:TypeId} {x:Operand} {ad:Option Addr} {len cap:Nat} (hi:l[i]?=some ⟨some d,.call ⟨.builtin .len,#[x],#[t]⟩,ty,pos,af,gd⟩) (hk:Nat.blt kd 2=true) (hg:guardOn l r gd=true) (hd:Nat.blt d n=true)
  (hu:P.underlying t=some (.slice e)) (hx:ev r x=some (.slice ad len cap)) (h:Pl P B f Q n l C k p ((d,.int .i64 (len:Int))::r) H):Pl P B f Q n l C k ((i,kd)::p) r H:=
 Pl.quiet hi hk hg hd (fun a H' d' ha _=>by simp [execOp,resolve,invoke,builtin,Builtin.len_,ha.eval hx,run_und hu,goInt]) h
theorem O.cap {t e:TypeId} {x:Operand} {ad:Option Addr} {len cap:Nat} (hi:l[i]?=some ⟨some d,.call ⟨.builtin .cap,#[x],#[t]⟩,ty,pos,af,gd⟩) (hk:Nat.blt kd 2=true) (hg:guardOn l r gd=true) (hd:Nat.blt d n=true)
  (hu:P.underlying t=some (.slice e)) (hx:ev r x=some (.slice ad len cap)) (h:Pl P B f Q n l C k p ((d,.int .i64 (cap:Int))::r) H):Pl P B f Q n l C k ((i,kd)::p) r H:=
 Pl.quiet hi hk hg hd (fun a H' d' ha _=>by simp [execOp,resolve,invoke,builtin,Builtin.cap_,ha.eval hx,run_und hu,goInt]) h
def bnd (r:Env) (dflt:Nat):Option Operand→Nat→Prop
 | none,j=>j=dflt
 | some x,j=>∃kk,ev r x=some (.int kk (j:Int))
theorem run_sliceBound (w:World) (kk:IntKind) (j m:Nat) (c:BoundsCode) (h:j≤m):(Instr.sliceBound (.int kk (j:Int)) m c).run P w=.ok j w:=by
 have h':(0:Int)≤(j:Int)∧(j:Int)≤(m:Int):=by omega
 simp only [Instr.sliceBound,asIntOf,Sem.run_bind,Sem.run_pure,Result.andThen_ok,Sem.run_ite,if_pos h',Int.toNat_natCast]
theorem O.slc {t e:TypeId} {x:Operand} {lo hi' mx:Option Operand} {b o s len cap jl jh jm:Nat} (hi:l[i]?=some ⟨some d,.slice t x lo hi' mx,ty,pos,af,gd⟩) (hk:Nat.blt kd 2=true) (hg:guardOn l r gd=true) (hd:Nat.blt d n=true)
  (hu:P.underlying t=some (.slice e)) (hs:Sz P e s) (hx:ev r x=some (.slice (some ⟨b,o,none⟩) len cap)) (hm:bnd r cap mx jm) (hh:bnd r len hi' jh) (hl:bnd r 0 lo jl)
  (h1:jl≤jh) (h2:jh≤jm) (h3:jm≤cap) (hmh:mx.isSome=true→hi'.isSome=true)
  (h:∀o',(jl<jm→o'=o+jl*s)→Pl P B f Q n l C k p ((d,.slice (some ⟨b,o',none⟩) (jh-jl) (jm-jl))::r) H):Pl P B f Q n l C k ((i,kd)::p) r H:=by
 refine Pl.quiet hi hk hg hd (fun a H' d' ha _=>?_) (h (if jm=jl then o else o+jl*s) (fun hlt=>if_neg (by omega)))
 have hb:(Instr.sliceBounds true len cap (lo.map a.eval) (hi'.map a.eval) (mx.map a.eval)).run P (mk B H' d')=.ok (jl,jh,jm) (mk B H' d'):=by
  unfold Instr.sliceBounds
  cases mx with
  | none=>
   simp only [bnd] at hm
   subst hm
   cases hi' with
   | none=>
    simp only [bnd] at hh
    subst hh
    cases lo with
    | none=>simp only [bnd] at hl;subst hl;simp
    | some y=>obtain ⟨kk,hy⟩:=hl;simp [ha.eval hy,run_sliceBound _ kk jl jh _ h1]
   | some z=>
    obtain ⟨kz,hz⟩:=hh
    cases lo with
    | none=>simp only [bnd] at hl;subst hl;simp [ha.eval hz,run_sliceBound _ kz jh jm _ h2]
    | some y=>obtain ⟨kk,hy⟩:=hl;simp [ha.eval hy,ha.eval hz,run_sliceBound _ kk jl jh _ h1,run_sliceBound _ kz jh jm _ h2]
  | some u=>
   obtain ⟨ku,hu'⟩:=hm
   cases hi' with
   | none=>simp at hmh
   | some z=>
    obtain ⟨kz,hz⟩:=hh
    cases lo with
    | none=>simp only [bnd] at hl;subst hl;simp [ha.eval hz,ha.eval hu',run_sliceBound _ ku jm cap _ h3,run_sliceBound _ kz jh jm _ h2]
    | some y=>obtain ⟨kk,hy⟩:=hl;simp [ha.eval hy,ha.eval hz,ha.eval hu',run_sliceBound _ kk jl jh _ h1,run_sliceBound _ kz jh jm _ h2,run_sliceBound _ ku jm cap _ h3]
 simp only [execOp,ha.eval hx,Sem.run_bind,Sem.run_pure,Instr.sliceAt,run_und hu,Result.andThen_ok,Instr.slice,hb,hs _]
 congr 3
 by_cases he:jm=jl
 · simp [he]
 · simp [he,Addr.add_lit]
/-! ### Making -/
theorem O.alloc {t:TypeId} {z:Value} (hi:l[i]?=some ⟨some d,.alloc t,ty,pos,af,gd⟩) (hg:guardOn l r gd=true) (hd:Nat.blt d n=true) (hz:Zero P t z)
  (h:∀H',Made H H' z.cells t→C H'∧Pl P B f Q n l C k p ((d,.pointer (some ⟨H.size,0,none⟩))::r) H'):Pl P B f Q n l C k ((i,2)::p) r H:=
 Pl.loudV hi rfl hg hd (fun v H'=>v=.pointer (some ⟨H.size,0,none⟩)∧Made H H' z.cells t)
  (fun a d' _=>⟨_,H.push (.cells z.cells t),d',by simp [execOp,Instr.alloc,hz _,newVar,newRow];exact ⟨rfl,rfl⟩,rfl,made_push _ _ _⟩) (fun v H' hv=>by obtain ⟨rfl,hm⟩:=hv;exact h H' hm)
theorem O.box {t:TypeId} {x:Operand} {v:Value} (hi:l[i]?=some ⟨some d,.box t x,ty,pos,af,gd⟩) (hg:guardOn l r gd=true) (hd:Nat.blt d n=true) (hx:ev r x=some v)
  (h:∀H',Made H H' v.cells t→C H'∧Pl P B f Q n l C k p ((d,.pointer (some ⟨H.size,0,none⟩))::r) H'):Pl P B f Q n l C k ((i,2)::p) r H:=
 Pl.loudV hi rfl hg hd (fun u H'=>u=.pointer (some ⟨H.size,0,none⟩)∧Made H H' v.cells t)
  (fun a d' ha=>⟨_,H.push (.cells v.cells t),d',by simp [execOp,Instr.box,ha.eval hx,newVar,newRow];exact ⟨rfl,rfl⟩,rfl,made_push _ _ _⟩) (fun u H' hv=>by obtain ⟨rfl,hm⟩:=hv;exact h H' hm)
/-! ### Writing -/
theorem O.st {t:TypeId} {x y:Operand} {b o s:Nat} {v:Value} {vs:List Value} (hi:l[i]?=some ⟨none,.store t x y,ty,pos,af,gd⟩) (hg:guardOn l r gd=true) (ht:Sz P t s)
  (hx:ev r x=some (.pointer (some ⟨b,o,none⟩))) (hy:ev r y=some v) (hv:v.cells=vs.toArray) (hl:vs.length=s) (h1:ones vs=true) (hw:Wr H b o s)
  (h:∀H',Wrote H H' b o vs→C H'∧Pl P B f Q n l C k p r H'):Pl P B f Q n l C k ((i,2)::p) r H:=
 Pl.loudN hi rfl hg (fun H'=>Wrote H H' b o vs)
  (fun a d' ha=>⟨setcs H b o vs,d',by simp [execOp,ha.eval hx,ha.eval hy,Instr.storeAt,Instr.sureAddr,run_storeVar ht hv hl h1 hw],setcs_wrote vs H b o (hl▸hw)⟩) h
theorem O.st3 {t:TypeId} {x y:Operand} {b o s:Nat} {v:Value} {vs:List Value} (hi:l[i]?=some ⟨none,.store t x y,ty,pos,af,gd⟩) (hg:guardOn l r gd=true) (ht:Sz P t s)
  (hx:ev r x=some (.pointer (some ⟨b,o,none⟩))) (hy:ev r y=some v) (hv:v.cells=vs.toArray) (hl:vs.length=s) (h1:ones vs=true) (hw:Wr H b o s)
  (h:∀H',Wrote H H' b o vs→Pl P B f Q n l C k p r H'):Pl P B f Q n l C k ((i,3)::p) r H:=
 Pl.lastN hi rfl hg (fun H'=>Wrote H H' b o vs)
  (fun a d' ha=>⟨setcs H b o vs,d',by simp [execOp,ha.eval hx,ha.eval hy,Instr.storeAt,Instr.sureAddr,run_storeVar ht hv hl h1 hw],setcs_wrote vs H b o (hl▸hw)⟩) h
/-! ### Calls -/
theorem O.call {g:FuncId} {as:List Operand} {ts:Array TypeId} {vs:List Value} {R:Value→Mem→Prop} (hi:l[i]?=some ⟨some d,.call ⟨.value (.func g),as.toArray,ts⟩,ty,pos,af,gd⟩)
  (hg:guardOn l r gd=true) (hd:Nat.blt d n=true) (hcall:∀(args:Array Value) (w:World),(callFunc g args).run P w=.ok (.enter g args) w) (ha:evs r as=some vs)
  (hc:Fn P B g vs H R) (h:∀v H',R v H'→C H'∧Pl P B f Q n l C k p ((d,v)::r) H'):Pl P B f Q n l C k ((i,2)::p) r H:=
 Pl.enter hi rfl hg (by exact hd) (fun a d' hs=>by
  have h1:=hs.evals ha
  have h2:a.eval (.func g)=.func (.func g) #[] #[]:=rfl
  simp only [execOp,resolve,h2,Deferred.ofValue,Sem.run_bind,Sem.run_pure,Result.andThen_ok,invoke,hcall]
  rw [←h1]
  simp) hc h
theorem O.callQ {g:FuncId} {as:List Operand} {ts:Array TypeId} {vs:List Value} {v:Value} (hi:l[i]?=some ⟨some d,.call ⟨.value (.func g),as.toArray,ts⟩,ty,pos,af,gd⟩)
  (hg:guardOn l r gd=true) (hd:Nat.blt d n=true) (hcall:∀(args:Array Value) (w:World),(callFunc g args).run P w=.ok (.enter g args) w) (ha:evs r as=some vs)
  (hc:Fn P B g vs H (fun u H'=>u=v∧H'=H)) (hC:C H) (h:Pl P B f Q n l C k p ((d,v)::r) H):Pl P B f Q n l C k ((i,2)::p) r H:=
 O.call hi hg hd hcall ha hc fun u H' hu=>by obtain ⟨rfl,rfl⟩:=hu;exact ⟨hC,h⟩
theorem O.callC {x:Operand} {g:FuncId} {as:List Operand} {ts:Array TypeId} {vs us caps:List Value} {R:Value→Mem→Prop} (hi:l[i]?=some ⟨some d,.call ⟨.value x,as.toArray,ts⟩,ty,pos,af,gd⟩)
  (hg:guardOn l r gd=true) (hd:Nat.blt d n=true) (hx:ev r x=some (.func (.func g) us.toArray caps.toArray)) (hcall:∀(args:Array Value) (w:World),(callFunc g args).run P w=.ok (.enter g args) w) (ha:evs r as=some vs)
  (hc:Fn P B g (us++vs++caps) H R) (h:∀v H',R v H'→C H'∧Pl P B f Q n l C k p ((d,v)::r) H'):Pl P B f Q n l C k ((i,2)::p) r H:=
 Pl.enter hi rfl hg (by exact hd) (fun a d' hs=>by
  have h1:=hs.evals ha
  have h2:=hs.eval hx
  simp only [execOp,resolve,h2,Deferred.ofValue,Sem.run_bind,Sem.run_pure,Result.andThen_ok,invoke,hcall]
  rw [←h1]
  simp) hc h
end
structure Sl (H:Mem) (b o len cap s:Nat) (xs:List Value):Prop where
 hlen:xs.length=len*s
 hle:len≤cap
 rd:Rd H b o xs
 wr:Wr H b o (cap*s)
theorem Sl.fr {X:Nat→Nat→Prop} {H H':Mem} {b o len cap s:Nat} {xs:List Value} (h:Sl H b o len cap s xs) (hf:Fr X H H') (hn:∀i,i<len*s→¬X b (o+i)):Sl H' b o len cap s xs:=
 ⟨h.hlen,h.hle,hf.rd h.rd (by rw [h.hlen];exact hn),hf.wr h.wr⟩
theorem Sl.lt {H:Mem} {b o len cap s:Nat} {xs:List Value} (h:Sl H b o len cap s xs) (hp:0<cap*s):b<H.size:=by
 obtain ⟨⟨v,hv⟩,_⟩:=h.wr 0 hp
 exact cl_lt hv
structure SlT (P:Program) (t e:TypeId) (s by':Nat) (z:Value):Prop where
 und:P.underlying t=some (.slice e)
 sz:Sz P e s
 zero:Zero P e z
 bytes:∃i,(∀w,(typeInfo e).run P w=.ok i w)∧i.bytes=by'
 zs:z.cells.size=s
 pos:0<s
 lt:e<1000
structure App (H H':Mem) (b o len cap m s:Nat) (xs news:List Value) (b' o' cap':Nat):Prop where
 sl:Sl H' b' o' (len+m) cap' s (xs++news)
 fr:Fr (rng b (o+len*s) ((cap-len)*s)) H H'
 place:(b'=b∧o'=o∧cap'=cap∧H'.size=H.size)∨(b'=H.size∧o'=0∧H'.size=H.size+1)
section
variable {P:Program} {B:World} {H:Mem}
theorem run_firstCells (d s n:Nat) {b o len cap:Nat} {vs:List Value} (hl:vs.length=n*s) (h:Rd H b o vs):
  (Builtin.firstCells s n (.slice (some ⟨b,o,none⟩) len cap)).run P (mk B H d)=.ok vs.toArray (mk B H d):=by
 simp only [Builtin.firstCells,←hl]
 exact run_loads P B H d b o vs h
theorem run_firstCells_empty (s:Nat) (x:Option Addr) (len cap:Nat) (w:World):(Builtin.firstCells s 0 (.slice x len cap)).run P w=.ok #[] w:=by
 cases x<;>simp [Builtin.firstCells,loadCells,loadCellsFrom]
theorem zeroCells_size (z:Array Value) (n:Nat):(Builtin.zeroCells z n).size=n*z.size:=by simp [Builtin.zeroCells]
theorem run_append {t e ty:TypeId} {s by':Nat} {z:Value} (T:SlT P t e s by' z) {b o len cap:Nat} {xs:List Value} (hx:Sl H b o len cap s xs) {y:Value} {m:Nat} {news:List Value}
  (hy:(∃b2 o2 c2,y=.slice (some ⟨b2,o2,none⟩) m c2∧Rd H b2 o2 news)∨(∃a c2,y=.slice a 0 c2∧m=0)) (hl:news.length=m*s) (h1:ones news=true) (hb:(len+m)*by'≤140737488355328) (h63:len+m<9223372036854775808)
  (d:Nat):∃b' o' cap' H' d',(Builtin.append_ #[t,t] ty #[.slice (some ⟨b,o,none⟩) len cap,y]).run P (mk B H d)=.ok (.slice (some ⟨b',o',none⟩) (len+m) cap') (mk B H' d')∧App H H' b o len cap m s xs news b' o' cap':=by
 obtain ⟨inf,hinf,hby⟩:=T.bytes
 have hlen:∀w,(Builtin.lenOf y).run P w=.ok m w:=fun w=>by
  rcases hy with ⟨b2,o2,c2,rfl,_⟩|⟨a,c2,rfl,rfl⟩<;>simp [Builtin.lenOf]
 have hfirst:∀d,(Builtin.firstCells s m y).run P (mk B H d)=.ok news.toArray (mk B H d):=fun d=>by
  rcases hy with ⟨b2,o2,c2,rfl,hr⟩|⟨a,c2,rfl,rfl⟩
  · exact run_firstCells d s m hl hr
  ·
   have:news=[]:=List.eq_nil_of_length_eq_zero (by simpa using hl)
   subst this
   exact run_firstCells_empty s a 0 c2 _
 by_cases hroom:len+m≤cap
 ·
  have hw:Wr H b (o+len*s) news.length:=fun i hi=>by
   have:=hx.wr (len*s+i) (by
    have:(len+m)*s≤cap*s:=Nat.mul_le_mul_right s hroom
    rw [Nat.add_mul] at this
    omega)
   rw [show o+len*s+i=o+(len*s+i) by omega]
   exact this
  have hst:=run_stores P B d b news H (o+len*s) 0 (by simpa using hw) h1
  simp only [Nat.add_zero] at hst
  refine ⟨b,o,cap,setcs H b (o+len*s) news,d,?_,?_⟩
  · simp [Builtin.append_,run_und T.und,T.sz _,hlen,hroom,hfirst,Addr.add_lit,hst]
  ·
   have W:=setcs_wrote news H b (o+len*s) hw
   refine ⟨⟨by rw [List.length_append,hx.hlen,hl,Nat.add_mul],hroom,fun i v hv=>?_,W.fr.wr hx.wr⟩,W.fr.mono fun b' o' _ hr=>?_,.inl ⟨rfl,rfl,rfl,W.size⟩⟩
   ·
    rcases Nat.lt_or_ge i xs.length with h|h
    ·
     rw [List.getElem?_append_left h] at hv
     exact W.fr.keep (hx.rd i v hv) (by rw [hx.hlen] at h;simp only [rng];omega)
    ·
     rw [List.getElem?_append_right h] at hv
     have:=W.rd _ v hv
     rw [show o+i=o+len*s+(i-xs.length) by rw [hx.hlen] at h ⊢;omega]
     exact this
   ·
    simp only [rng] at hr ⊢
    have:(len+m)*s≤cap*s:=Nat.mul_le_mul_right s hroom
    rw [Nat.add_mul] at this
    rw [Nat.sub_mul]
    omega
 ·
  have hcap:((Question.appendCap (len+m) cap e).cut ((mk B H d).tape (mk B H d).drawn (.appendCap (len+m) cap e)))=grownCap (mk B H d) (len+m) cap e:=rfl
  generalize hG:grownCap (mk B H d) (len+m) cap e=G at*
  have hge:len+m≤G:=by rw [←hG];exact Nat.le_add_right _ _
  have hfit:¬(281474976710656<Builtin.nextslicecap (len+m) cap*inf.bytes):=by
   have:=growslice_fits (need:=len+m) (old:=cap) (bytes:=by') (by omega) hb
   rw [hby];omega
  have hold:=run_firstCells (P:=P) (B:=B) (d+1) s len (len:=len) (cap:=cap) hx.hlen hx.rd
  have hmade:=made_push H (xs.toArray++news.toArray++Builtin.zeroCells z.cells (G-(len+m))) e
  have hsize:(xs.toArray++news.toArray++Builtin.zeroCells z.cells (G-(len+m))).size=G*s:=by
   simp only [Array.size_append,List.size_toArray,zeroCells_size,T.zs,hx.hlen,hl,←Nat.add_mul]
   congr 1
   omega
  refine ⟨H.size,0,G,H.push (.cells (xs.toArray++news.toArray++Builtin.zeroCells z.cells (G-(len+m))) e),d+1,?_,?_⟩
  ·
   have h63':¬(9223372036854775807<((len+m:Nat):Int)):=by omega
   have hi:IntKind.i64.max=9223372036854775807:=rfl
   have hcc:¬(((len+m:Nat):Int) > IntKind.i64.max∧(false=true∨inf.bytes=0)):=fun h=>h63' (by rw [←hi];exact h.1)
   have hq:(choose (.appendCap (len+m) cap e)).run P (mk B H d)=.ok G (mk B H (d+1)):=by
    rw [run_choose]
    simp only [Question.forced,Bool.false_eq_true,if_false]
    rw [hcap];rfl
   have hz:=T.zero (mk B H (d+1))
   simp only [Builtin.append_,List.getElem?_toArray,List.getElem?_cons_zero,List.getElem?_cons_succ,Sem.run_bind,run_und T.und,Result.andThen_ok,Sem.run_pure,T.sz _,Sem.run_ite,Bool.false_eq_true,if_false,hlen,if_neg hroom,
    hinf,Bool.not_false]
   have hg2:¬((len:Int)+(m:Int) > IntKind.i64.max∧(inf.bytes=0)):=fun h=>h63' (by rw [←hi];push_cast;exact h.1)
   have hg3:¬(Builtin.nextslicecap (len+m) cap*inf.bytes > 2 ^ 48):=by simpa using hfit
   simp only [Int.natCast_add,false_or,if_neg hg2,Result.andThen_ok,if_neg hg3,hq,run_askRoom,hold,hfirst,hz,newRow,if_true]
   rfl
  ·
   have hr:=hmade.rd (xs++news) (Builtin.zeroCells z.cells (G-(len+m))).toList (by simp)
   exact ⟨⟨by rw [List.length_append,hx.hlen,hl,Nat.add_mul],hge,hr,hmade.wr _ (by rw [hsize];exact Nat.le_refl _) T.lt⟩,hmade.fr _,.inr ⟨rfl,rfl,hmade.size⟩⟩
theorem run_append_none {t e ty:TypeId} {s by':Nat} {z:Value} (T:SlT P t e s by' z) {y:Value} {m:Nat} {news:List Value}
  (hy:∃b2 o2 c2,y=.slice (some ⟨b2,o2,none⟩) m c2∧Rd H b2 o2 news) (hl:news.length=m*s) (hb:m*by'≤140737488355328) (h63:m<9223372036854775808) (hm:0<m)
  (d:Nat):∃cap' H' d',(Builtin.append_ #[t,t] ty #[.slice none 0 0,y]).run P (mk B H d)=.ok (.slice (some ⟨H.size,0,none⟩) m cap') (mk B H' d')∧Sl H' H.size 0 m cap' s news∧Fr nowhere H H'∧H'.size=H.size+1:=by
 obtain ⟨inf,hinf,hby⟩:=T.bytes
 obtain ⟨b2,o2,c2,rfl,hr⟩:=hy
 have hfirst:∀d,(Builtin.firstCells s m (.slice (some ⟨b2,o2,none⟩) m c2)).run P (mk B H d)=.ok news.toArray (mk B H d):=fun d=>run_firstCells d s m hl hr
 have hcap:((Question.appendCap m 0 e).cut ((mk B H d).tape (mk B H d).drawn (.appendCap m 0 e)))=grownCap (mk B H d) m 0 e:=rfl
 generalize hG:grownCap (mk B H d) m 0 e=G at*
 have hge:m≤G:=by rw [←hG];exact Nat.le_add_right _ _
 have hfit:¬(281474976710656<Builtin.nextslicecap m 0*inf.bytes):=by
  have:=growslice_fits (need:=m) (old:=0) (bytes:=by') (by omega) hb
  rw [hby];omega
 have hmade:=made_push H (news.toArray++Builtin.zeroCells z.cells (G-m)) e
 have hsize:(news.toArray++Builtin.zeroCells z.cells (G-m)).size=G*s:=by
  simp only [Array.size_append,List.size_toArray,zeroCells_size,T.zs,hl,←Nat.add_mul]
  congr 1
  omega
 refine ⟨G,H.push (.cells (news.toArray++Builtin.zeroCells z.cells (G-m)) e),d+1,?_,?_⟩
 ·
  have h63':¬(9223372036854775807<(m:Int)):=by omega
  have hi:IntKind.i64.max=9223372036854775807:=rfl
  have hq:(choose (.appendCap m 0 e)).run P (mk B H d)=.ok G (mk B H (d+1)):=by
   rw [run_choose]
   simp only [Question.forced,Bool.false_eq_true,if_false]
   rw [hcap];rfl
  have hz:=T.zero (mk B H (d+1))
  have hroom:¬(m≤0):=by omega
  have hg2:¬((m:Int) > IntKind.i64.max∧(inf.bytes=0)):=fun h=>h63' (by rw [←hi];exact h.1)
  have hg3:¬(Builtin.nextslicecap m 0*inf.bytes > 2 ^ 48):=by simpa using hfit
  simp only [Builtin.append_,List.getElem?_toArray,List.getElem?_cons_zero,List.getElem?_cons_succ,Sem.run_bind,run_und T.und,Result.andThen_ok,Sem.run_pure,T.sz _,Sem.run_ite,Bool.false_eq_true,if_false,Builtin.lenOf,Nat.zero_add,if_neg hroom,
   hinf,Bool.not_false,false_or,if_neg hg2,if_neg hg3,hq,run_askRoom,run_firstCells_empty,hfirst,hz,newRow,run_newObj,if_true,Sem.run_pure,Array.empty_append]
  rfl
 ·
  have h1:=hmade.rd news (Builtin.zeroCells z.cells (G-m)).toList (by simp)
  exact ⟨⟨hl,hge,h1,hmade.wr _ (by rw [hsize];exact Nat.le_refl _) T.lt⟩,hmade.fr _,hmade.size⟩
theorem run_copy {t e ty:TypeId} {s by':Nat} {z:Value} (T:SlT P t e s by' z) {xa:Option Addr} {b o lx cx:Nat} {y:Value} {m j:Nat} {cs:List Value}
  (hj:j=Nat.min m lx) (hx:(xa=some ⟨b,o,none⟩)∨j=0) (hy:(∃b2 o2 c2,y=.slice (some ⟨b2,o2,none⟩) m c2∧Rd H b2 o2 cs)∨(∃a c2,y=.slice a m c2∧j=0)) (hl:cs.length=j*s) (h1:ones cs=true) (hw:Wr H b o (j*s))
  (d:Nat):∃H',(Builtin.copy_ #[t,t] ty #[.slice xa lx cx,y]).run P (mk B H d)=.ok (.int .i64 (j:Int)) (mk B H' d)∧Wrote H H' b o cs:=by
 refine ⟨setcs H b o cs,?_,setcs_wrote cs H b o (by rw [hl];exact hw)⟩
 have hlen:(Builtin.lenOf y).run P (mk B H d)=.ok m (mk B H d):=by
  rcases hy with ⟨b2,o2,c2,rfl,_⟩|⟨a,c2,rfl,_⟩<;>simp [Builtin.lenOf]
 have hfirst:(Builtin.firstCells s j y).run P (mk B H d)=.ok cs.toArray (mk B H d):=by
  rcases hy with ⟨b2,o2,c2,rfl,hr⟩|⟨a,c2,rfl,h0⟩
  · exact run_firstCells d s j hl hr
  ·
   subst h0
   have:cs=[]:=List.eq_nil_of_length_eq_zero (by simpa using hl)
   subst this
   exact run_firstCells_empty s a m c2 _
 have hst:=run_stores P B d b cs H o 0 (by simpa [hl] using hw) h1
 simp only [Nat.add_zero] at hst
 rcases hx with rfl|h0
 · simp [Builtin.copy_,run_und T.und,hlen,←hj,T.sz _,hfirst,hst,goInt]
 ·
  subst h0
  have:cs=[]:=List.eq_nil_of_length_eq_zero (by simpa using hl)
  subst this
  cases xa with
  | none=>simp [Builtin.copy_,run_und T.und,hlen,←hj,T.sz _,hfirst,goInt,setcs]
  | some ad=>simp [Builtin.copy_,run_und T.und,hlen,←hj,T.sz _,hfirst,goInt,setcs,storeCells]
end
section
variable {P:Program} {B:World} {f:FuncId} {Q:Value→Mem→Prop} {n:Nat} {r:Env} {k:List Item} {H:Mem} {l:List Oper} {C:Mem→Prop} {p:List (Nat×Nat)}
variable {i kd d:Nat} {ty:TypeId} {pos:String} {af:Array Edge} {gd:Option (Nat×Bool)}
theorem O.app {t e:TypeId} {s by':Nat} {z:Value} {x y:Operand} {b o len cap:Nat} {xs:List Value} {v:Value} {m:Nat} {news:List Value} (hi:l[i]?=some ⟨some d,.call ⟨.builtin .append,#[x,y],#[t,t]⟩,ty,pos,af,gd⟩)
  (hg:guardOn l r gd=true) (hd:Nat.blt d n=true) (T:SlT P t e s by' z) (hx:ev r x=some (.slice (some ⟨b,o,none⟩) len cap)) (hs:Sl H b o len cap s xs) (hy:ev r y=some v)
  (hv:(∃b2 o2 c2,v=.slice (some ⟨b2,o2,none⟩) m c2∧Rd H b2 o2 news)∨(∃a c2,v=.slice a 0 c2∧m=0)) (hl:news.length=m*s) (h1:ones news=true) (hb:(len+m)*by'≤140737488355328) (h63:len+m<9223372036854775808)
  (h:∀b' o' cap' H',App H H' b o len cap m s xs news b' o' cap'→C H'∧Pl P B f Q n l C k p ((d,.slice (some ⟨b',o',none⟩) (len+m) cap')::r) H'):Pl P B f Q n l C k ((i,2)::p) r H:=
 Pl.loudV hi rfl hg hd (fun u H'=>∃b' o' cap',u=.slice (some ⟨b',o',none⟩) (len+m) cap'∧App H H' b o len cap m s xs news b' o' cap')
  (fun a d' ha=>by
   obtain ⟨b',o',cap',H',d'',h1,h2⟩:=run_append (ty:=ty) T hs hv hl h1 hb h63 d'
   refine ⟨_,H',d'',?_,b',o',cap',rfl,h2⟩
   simp only [execOp,resolve,List.map_toArray,List.map_cons,List.map_nil,ha.eval hx,ha.eval hy,Sem.run_bind,Sem.run_pure,Result.andThen_ok,invoke,builtin]
   rw [h1];rfl)
  (fun u H' hu=>by obtain ⟨b',o',cap',rfl,ha⟩:=hu;exact h b' o' cap' H' ha)
theorem O.appN {t e:TypeId} {s by':Nat} {z:Value} {x y:Operand} {v:Value} {m:Nat} {news:List Value} (hi:l[i]?=some ⟨some d,.call ⟨.builtin .append,#[x,y],#[t,t]⟩,ty,pos,af,gd⟩)
  (hg:guardOn l r gd=true) (hd:Nat.blt d n=true) (T:SlT P t e s by' z) (hx:ev r x=some (.slice none 0 0)) (hy:ev r y=some v)
  (hv:∃b2 o2 c2,v=.slice (some ⟨b2,o2,none⟩) m c2∧Rd H b2 o2 news) (hl:news.length=m*s) (hb:m*by'≤140737488355328) (h63:m<9223372036854775808) (hm:0<m)
  (h:∀cap' H',Sl H' H.size 0 m cap' s news→Fr nowhere H H'→H'.size=H.size+1→C H'∧Pl P B f Q n l C k p ((d,.slice (some ⟨H.size,0,none⟩) m cap')::r) H'):Pl P B f Q n l C k ((i,2)::p) r H:=
 Pl.loudV hi rfl hg hd (fun u H'=>∃cap',u=.slice (some ⟨H.size,0,none⟩) m cap'∧Sl H' H.size 0 m cap' s news∧Fr nowhere H H'∧H'.size=H.size+1)
  (fun a d' ha=>by
   obtain ⟨cap',H',d'',h1,h2⟩:=run_append_none (ty:=ty) T hv hl hb h63 hm d'
   refine ⟨_,H',d'',?_,cap',rfl,h2⟩
   simp only [execOp,resolve,List.map_toArray,List.map_cons,List.map_nil,ha.eval hx,ha.eval hy,Sem.run_bind,Sem.run_pure,Result.andThen_ok,invoke,builtin]
   rw [h1];rfl)
  (fun u H' hu=>by obtain ⟨cap',rfl,h1,h2,h3⟩:=hu;exact h cap' H' h1 h2 h3)
theorem O.copy {t e:TypeId} {s by':Nat} {z:Value} {x y:Operand} {xa:Option Addr} {b o lx cx:Nat} {v:Value} {m j:Nat} {cs:List Value} (hi:l[i]?=some ⟨some d,.call ⟨.builtin .copy,#[x,y],#[t,t]⟩,ty,pos,af,gd⟩)
  (hg:guardOn l r gd=true) (hd:Nat.blt d n=true) (T:SlT P t e s by' z) (hx:ev r x=some (.slice xa lx cx)) (hy:ev r y=some v)
  (hj:j=Nat.min m lx) (hxa:(xa=some ⟨b,o,none⟩)∨j=0) (hv:(∃b2 o2 c2,v=.slice (some ⟨b2,o2,none⟩) m c2∧Rd H b2 o2 cs)∨(∃a c2,v=.slice a m c2∧j=0)) (hl:cs.length=j*s) (h1:ones cs=true) (hw:Wr H b o (j*s))
  (h:∀H',Wrote H H' b o cs→C H'∧Pl P B f Q n l C k p ((d,.int .i64 (j:Int))::r) H'):Pl P B f Q n l C k ((i,2)::p) r H:=
 Pl.loudV hi rfl hg hd (fun u H'=>u=.int .i64 (j:Int)∧Wrote H H' b o cs)
  (fun a d' ha=>by
   obtain ⟨H',h1,h2⟩:=run_copy (ty:=ty) (b:=b) (o:=o) (cx:=cx) T hj hxa hv hl h1 hw d'
   refine ⟨_,H',d',?_,rfl,h2⟩
   simp only [execOp,resolve,List.map_toArray,List.map_cons,List.map_nil,ha.eval hx,ha.eval hy,Sem.run_bind,Sem.run_pure,Result.andThen_ok,invoke,builtin]
   rw [h1];rfl)
  (fun u H' hu=>by obtain ⟨rfl,hw⟩:=hu;exact h H' hw)
/-! ### Literals -/
def vals (r:Env):List (Nat×Operand)→Option (List (Nat×Value))
 | []=>some []
 | (j,x)::ps=>match ev r x,vals r ps with
  | some v,some vs=>some ((j,v)::vs)
  | _,_=>none
theorem Sees.vals {a:Act} (ha:Sees n r a):∀{ps:List (Nat×Operand)} {vs:List (Nat×Value)},vals r ps=some vs→ps.map (fun x=>(x.1,a.eval x.2))=vs
 | [],vs,h=>by simp only [Bt.vals,Option.some.injEq] at h;subst h;rfl
 | (j,x)::ps,vs,h=>by
  simp only [Bt.vals] at h
  split at h
  ·
   rename_i v us h1 h2
   simp only [Option.some.injEq] at h
   subst h
   simp [ha.eval h1,Sees.vals ha h2]
  · cases h
def zeroRow (z:Value) (m:Nat):Array Value:=(Array.range m).map (z.cells[· % z.cells.size]!)
theorem O.bsl {t e:TypeId} {s by':Nat} {z:Value} {len:Nat} {ps:List (Nat×Operand)} {vs:List (Nat×Value)} {cs:List Value} (hi:l[i]?=some ⟨some d,.buildSlice t len ps.toArray,ty,pos,af,gd⟩)
  (hg:guardOn l r gd=true) (hd:Nat.blt d n=true) (T:SlT P t e s by' z) (hv:vals r ps=some vs) (hlt:len*s≤1024)
  (hf:Instr.fill (fun i=>some (i*s,s)) (bif Nat.beq (len*s) 0 then #[] else zeroRow z (len*s)) vs=some cs.toArray)
  (h:∀H',Made H H' cs.toArray e→C H'∧Pl P B f Q n l C k p ((d,.slice (some ⟨H.size,0,none⟩) len len)::r) H'):Pl P B f Q n l C k ((i,2)::p) r H:=
 Pl.loudV hi rfl hg hd (fun u H'=>u=.slice (some ⟨H.size,0,none⟩) len len∧Made H H' cs.toArray e)
  (fun a d' ha=>by
   refine ⟨_,H.push (.cells cs.toArray e),d',?_,rfl,made_push _ _ _⟩
   have hvs:=ha.vals hv
   have h2:(ps.toArray.map fun x=>(x.1,a.eval x.2)).toList=vs:=by simpa using hvs
   have hlim:¬(len*s > 2 ^ 24):=by omega
   have hz:=T.zero
   simp only [execOp,Instr.buildSlice,Sem.run_bind,run_und T.und,Result.andThen_ok,T.sz _,Sem.run_ite,if_neg hlim,Sem.run_pure,hz _,h2]
   by_cases h0:len*s=0
   ·
    have hb:Nat.beq (len*s) 0=true:=by rw [h0];rfl
    rw [hb,cond_true] at hf
    simp only [if_pos h0]
    have he:(Array.range (len*s)).map (fun x=>(#[]:Array Value)[x % (#[]:Array Value).size]!)=#[]:=by rw [h0];simp
    rw [he,hf]
    rfl
   ·
    have hb:Nat.beq (len*s) 0=false:=by
     cases hb:Nat.beq (len*s) 0 with
     | false=>rfl
     | true=>exact absurd (Nat.eq_of_beq_eq_true hb) h0
    rw [hb,cond_false] at hf
    unfold zeroRow at hf
    simp only [if_neg h0,hf]
    rfl)
  (fun u H' hu=>by obtain ⟨rfl,hm⟩:=hu;exact h H' hm)
theorem O.mks {t e:TypeId} {s by':Nat} {z:Value} {x y:Operand} {j c:Nat} {kx ky:IntKind} {a b:Int} (hi:l[i]?=some ⟨some d,.makeSlice t x y,ty,pos,af,gd⟩)
  (hg:guardOn l r gd=true) (hd:Nat.blt d n=true) (T:SlT P t e s by' z) (hx:ev r x=some (.int kx a)) (hy:ev r y=some (.int ky b)) (hxj:a=(j:Int)) (hyc:b=(c:Int)) (hjc:j≤c) (hb:by'*c≤140737488355328) (h63:c<9223372036854775808)
  (h:∀H',Made H H' (zeroRow z (c*s)) e→C H'∧Pl P B f Q n l C k p ((d,.slice (some ⟨H.size,0,none⟩) j c)::r) H'):Pl P B f Q n l C k ((i,2)::p) r H:=
 Pl.loudV hi rfl hg hd (fun u H'=>u=.slice (some ⟨H.size,0,none⟩) j c∧Made H H' (zeroRow z (c*s)) e)
  (fun a' d' ha=>by
   subst hxj;subst hyc
   refine ⟨_,H.push (.cells (zeroRow z (c*s)) e),d',?_,rfl,made_push _ _ _⟩
   obtain ⟨inf,hinf,hby⟩:=T.bytes
   have w1:IntKind.i64.wrap (j:Int)=(j:Int):=wrap_id (by omega)
   have w2:IntKind.i64.wrap (c:Int)=(c:Int):=wrap_id (by omega)
   have t0:¬((inf.bytes:Int)*(c:Int) > 2 ^ 48):=by
    rw [hby,←Int.natCast_mul]
    have:(2:Int) ^ 48=281474976710656:=by decide
    rw [this]
    omega
   have t1:(decide ((c:Int)<0)||decide ((inf.bytes:Int)*(c:Int) > 2 ^ 48))=false:=by
    rw [decide_eq_false t0,decide_eq_false (by omega:¬((c:Int)<0))];rfl
   have t2:¬((j:Int)<0):=by omega
   have t3:¬((j:Int) > (c:Int)):=by omega
   have hg2:((decide ((c:Int)<0)||decide ((inf.bytes:Int)*(c:Int) > 2 ^ 48))||decide ((j:Int)<0)||decide ((j:Int) > (c:Int)))=false:=by
    rw [t1,decide_eq_false t2,decide_eq_false t3];rfl
   simp only [execOp,Instr.makeSlice,Sem.run_bind,run_und T.und,Result.andThen_ok,ha.eval hx,ha.eval hy,asInt,asIntOf,Sem.run_pure,hinf,w1,w2,Sem.run_ite]
   rw [hg2]
   simp only [Bool.false_eq_true,if_false,Result.andThen_ok,run_askRoom,T.sz _,Int.toNat_natCast]
   by_cases h0:c*s=0
   ·
    simp only [if_pos h0]
    have he:(Array.range (c*s)).map (fun x=>(#[]:Array Value)[x % (#[]:Array Value).size]!)=zeroRow z (c*s):=by rw [h0];simp [zeroRow]
    rw [he]
    rfl
   ·
    simp only [if_neg h0,Result.andThen_ok,T.zero _]
    rfl)
  (fun u H' hu=>by obtain ⟨rfl,hm⟩:=hu;exact h H' hm)
theorem zeroRow_size (z:Value) (m:Nat):(zeroRow z m).size=m:=by simp [zeroRow]
structure StT (P:Program) (t:TypeId) (pl:List (Nat×Nat)) (z:List Value):Prop where
 places:∃fs,P.underlying t=some (.struct fs)∧∀w,(fs.mapM (m:=Sem) fun f=>do pure (f.offset,←sizeOf f.type)).run P w=.ok pl.toArray w
 zero:Zero P t (.agg z.toArray)
theorem O.bld {t:TypeId} {pl:List (Nat×Nat)} {z cs:List Value} {ps:List (Nat×Operand)} {vs:List (Nat×Value)} (hi:l[i]?=some ⟨some d,.build t ps.toArray,ty,pos,af,gd⟩) (hk:Nat.blt kd 2=true)
  (hg:guardOn l r gd=true) (hd:Nat.blt d n=true) (T:StT P t pl z) (hv:vals r ps=some vs) (hf:Instr.fill (fun i=>pl.toArray[i]?) z.toArray vs=some cs.toArray)
  (h:Pl P B f Q n l C k p ((d,.agg cs.toArray)::r) H):Pl P B f Q n l C k ((i,kd)::p) r H:=
 Pl.quiet hi hk hg hd (fun a H' d' ha _=>by
  obtain ⟨⟨fs,hu,hm⟩,hz⟩:=T
  have hvs:=ha.vals hv
  have h2:(ps.toArray.map fun x=>(x.1,a.eval x.2)).toList=vs:=by simpa using hvs
  have hc:(Value.agg z.toArray).cells=z.toArray:=rfl
  simp only [execOp,Instr.build,Sem.run_bind,hz _,Result.andThen_ok,run_und hu,hm _,h2,hc,hf]
  rfl) h
theorem O.mki {t:TypeId} {x:Operand} {v:Value} {td:TypeDesc} (hi:l[i]?=some ⟨some d,.makeInterface t x,ty,pos,af,gd⟩) (hk:Nat.blt kd 2=true) (hg:guardOn l r gd=true) (hd:Nat.blt d n=true)
  (hu:P.underlying t=some td) (hn:(match td with|.interface _=>false|_=>true)=true) (hx:ev r x=some v) (h:Pl P B f Q n l C k p ((d,.iface t v)::r) H):Pl P B f Q n l C k ((i,kd)::p) r H:=
 Pl.quiet hi hk hg hd (fun a H' d' ha _=>by
  simp only [execOp,Instr.makeInterface,Sem.run_bind,run_und hu,Result.andThen_ok,ha.eval hx]
  cases td<;>simp_all) h
theorem O.tya {t u:TypeId} {x:Operand} {c:Bool} {v w:Value} (hi:l[i]?=some ⟨some d,.typeAssert x t u c,ty,pos,af,gd⟩) (hk:Nat.blt kd 2=true) (hg:guardOn l r gd=true) (hd:Nat.blt d n=true)
  (hx:ev r x=some v) (hr:∀W,(Instr.typeAssert v t u c).run P W=.ok w W) (h:Pl P B f Q n l C k p ((d,w)::r) H):Pl P B f Q n l C k ((i,kd)::p) r H:=
 Pl.quiet hi hk hg hd (fun a H' d' ha _=>by simp [execOp,ha.eval hx,hr]) h
theorem O.mkf {fn:Go.Fn} {xs ys:List Operand} {us vs:List Value} (hi:l[i]?=some ⟨some d,.makeFunc fn xs.toArray ys.toArray,ty,pos,af,gd⟩) (hk:Nat.blt kd 2=true) (hg:guardOn l r gd=true) (hd:Nat.blt d n=true)
  (hx:evs r xs=some us) (hy:evs r ys=some vs) (h:Pl P B f Q n l C k p ((d,.func fn us.toArray vs.toArray)::r) H):Pl P B f Q n l C k ((i,kd)::p) r H:=
 Pl.quiet hi hk hg hd (fun a H' d' ha _=>by
  have h1:=ha.evals hx
  have h2:=ha.evals hy
  simp only [execOp,Sem.run_bind,Instr.makeFunc,Sem.run_pure,Result.andThen_ok]
  rw [←h1,←h2];simp) h
theorem O.fld {s:TypeId} {x:Operand} {ix:Nat} {cs:Array Value} {v:Value} (hi:l[i]?=some ⟨some d,.field s x ix,ty,pos,af,gd⟩) (hk:Nat.blt kd 2=true) (hg:guardOn l r gd=true) (hd:Nat.blt d n=true)
  (hx:ev r x=some (.agg cs)) (hr:∀W,(Instr.field s (.agg cs) ix).run P W=.ok v W) (h:Pl P B f Q n l C k p ((d,v)::r) H):Pl P B f Q n l C k ((i,kd)::p) r H:=
 Pl.quiet hi hk hg hd (fun a H' d' ha _=>by simp [execOp,ha.eval hx,hr]) h
end
/-! ### An assertion that fails: the type has no methods -/
theorem missing_one (n:String) (sig:TypeId):∃m,Instr.missingMethod #[(n,sig)] #[]=some m:=by
 unfold Instr.missingMethod
 simp [List.partition,List.partition.loop,Instr.least]
 cases decide (Char.ofNat 46∈n.toList)<;>simp
theorem run_assert_no {P:Program} {t u a:TypeId} {v z:Value} {n:String} {sig:TypeId} {i:TypeInfo} (hu:P.underlying a=some (.interface #[(n,sig)])) (hi:∀w,(typeInfo t).run P w=.ok i w) (hm:i.methods=#[])
  (hz:Zero P a z) (w:World):(Instr.typeAssert (.iface t v) u a true).run P w=.ok (.tuple #[z,.bool false]) w:=by
 obtain ⟨m,hm'⟩:=missing_one n sig
 simp only [Instr.typeAssert,Sem.run_bind,run_und hu,Result.andThen_ok,hi,hm,hm',if_true,hz w,Sem.run_pure]
theorem run_assert_no' {P:Program} {t u a:TypeId} {v z:Value} {n:String} {sig:TypeId} {i:TypeInfo} (hu:P.underlying a=some (.interface #[(n,sig)])) (hi:∀w,(typeInfo t).run P w=.ok i w) (hm:i.methods=#[])
  (hz:Zero P a z):∀w:World,(Instr.typeAssert (.iface t v) u a true).run P w=.ok (.tuple #[z,.bool false]) w:=run_assert_no hu hi hm hz
structure Tab where
 off:List (Nat×Nat×Nat)
 one:List Nat
 agg:List (Nat×Nat)
 sl:List (Nat×Nat)
structure Tab.Ok (P:Program) (T:Tab):Prop where
 off:∀e∈T.off,FieldAt P e.1 e.2.1 e.2.2
 one:∀t∈T.one,Flat P t
 agg:∀e∈T.agg,AggT P e.1 e.2
 sl:∀e∈T.sl,∃u,P.underlying e.1=some (.slice u)∧Sz P u e.2
def offAt:List (Nat×Nat×Nat)→Nat→Nat→Option Nat
 | [],_,_=>none
 | (a,b,c)::es,s,f=>match Nat.beq a s with
  | true=>match Nat.beq b f with
   | true=>some c
   | false=>offAt es s f
  | false=>offAt es s f
def numAt:List (Nat×Nat)→Nat→Option Nat
 | [],_=>none
 | (a,b)::es,s=>match Nat.beq a s with
  | true=>some b
  | false=>numAt es s
def memN:List Nat→Nat→Bool
 | [],_=>false
 | a::es,s=>match Nat.beq a s with
  | true=>true
  | false=>memN es s
theorem offAt_mem:∀{l:List (Nat×Nat×Nat)} {s f o:Nat},offAt l s f=some o→(s,f,o)∈l
 | [],_,_,_,h=>by simp [offAt] at h
 | (a,b,c)::es,s,f,o,h=>by
  unfold offAt at h
  cases h1:Nat.beq a s with
  | false=>rw [h1] at h;exact List.mem_cons_of_mem _ (offAt_mem h)
  | true=>
   cases h2:Nat.beq b f with
   | false=>rw [h1,h2] at h;exact List.mem_cons_of_mem _ (offAt_mem h)
   | true=>
    rw [h1,h2] at h
    cases Nat.eq_of_beq_eq_true h1
    cases Nat.eq_of_beq_eq_true h2
    cases Option.some.inj h
    exact List.mem_cons_self
theorem numAt_mem:∀{l:List (Nat×Nat)} {s o:Nat},numAt l s=some o→(s,o)∈l
 | [],_,_,h=>by simp [numAt] at h
 | (a,b)::es,s,o,h=>by
  unfold numAt at h
  cases h1:Nat.beq a s with
  | false=>rw [h1] at h;exact List.mem_cons_of_mem _ (numAt_mem h)
  | true=>
   rw [h1] at h
   cases Nat.eq_of_beq_eq_true h1
   cases Option.some.inj h
   exact List.mem_cons_self
theorem memN_mem:∀{l:List Nat} {s:Nat},memN l s=true→s∈l
 | [],_,h=>by simp [memN] at h
 | a::es,s,h=>by
  unfold memN at h
  cases h1:Nat.beq a s with
  | false=>rw [h1] at h;exact List.mem_cons_of_mem _ (memN_mem h)
  | true=>
   cases Nat.eq_of_beq_eq_true h1
   exact List.mem_cons_self
def qval (T:Tab) (r:Env):Op→Option Value
 | .move x=>ev r x
 | .assign x=>ev r x
 | .nilCheck x=>match ev r x with
  | some (.pointer (some a))=>some (.pointer (some a))
  | _=>none
 | .fieldAddr s x f=>match ev r x with
  | some (.pointer (some ⟨b,o,none⟩))=>match offAt T.off s f with
   | some k=>match Nat.beq k 0 with
    | true=>some (.pointer (some ⟨b,o,none⟩))
    | false=>match Nat.beq o 0 with
     | true=>some (.pointer (some ⟨b,k,none⟩))
     | false=>none
   | none=>none
  | _=>none
 | .extract x ix=>match ev r x with
  | some (.tuple vs)=>vs[ix]?
  | _=>none
 | .unOp .not _ x=>match ev r x with
  | some (.bool b)=>some (.bool (!b))
  | _=>none
 | .pick c x y=>match ev r c with
  | some (.bool true)=>ev r x
  | some (.bool false)=>ev r y
  | _=>none
 | .call ⟨.builtin .len,⟨[x]⟩,⟨[t]⟩⟩=>match ev r x with
  | some (.slice a m c)=>match numAt T.sl t with
   | some _=>some (.int .i64 (m:Int))
   | none=>none
  | _=>none
 | _=>none
theorem qval_run {P:Program} {T:Tab} (hT:T.Ok P) {B:World} {n:Nat} {r:Env} {op:Op} {v:Value} (h:qval T r op=some v) {a:Act} (ha:Sees n r a) (d:Nat) (ty:TypeId) (pos:String) (af:Array Edge) (gd:Option (Nat×Bool)) (H:Mem) (d':Nat):
  (execOp a.eval ⟨some d,op,ty,pos,af,gd⟩).run P (mk B H d')=.ok (.value v) (mk B H d'):=by
 unfold qval at h
 split at h
 · simp [execOp,ha.eval h]
 · simp [execOp,ha.eval h]
 ·
  split at h
  ·
   rename_i hx
   cases h
   simp [execOp,ha.eval hx]
  · cases h
 ·
  split at h
  ·
   rename_i hx
   split at h
   ·
    rename_i k ho
    split at h
    ·
     rename_i hk
     cases h
     cases Nat.eq_of_beq_eq_true hk
     simp [execOp,ha.eval hx,run_fieldAt (hT.off _ (offAt_mem ho))]
    ·
     split at h
     ·
      rename_i hk
      cases h
      cases Nat.eq_of_beq_eq_true hk
      simp [execOp,ha.eval hx,run_fieldAt (hT.off _ (offAt_mem ho))]
     · cases h
   · cases h
  · cases h
 ·
  split at h
  ·
   rename_i hx
   simp [execOp,ha.eval hx,Instr.extract,h]
  · cases h
 ·
  split at h
  ·
   rename_i hx
   cases h
   simp [execOp,ha.eval hx,Op.unary]
  · cases h
 ·
  split at h
  ·
   rename_i hx
   simp [execOp,ha.eval hx,asBool,ha.eval h]
  ·
   rename_i hx
   simp [execOp,ha.eval hx,asBool,ha.eval h]
  · cases h
 ·
  split at h
  ·
   rename_i hx
   split at h
   ·
    rename_i ho
    cases h
    obtain ⟨u,hu,_⟩:=hT.sl _ (numAt_mem ho)
    have hu':P.underlying _=some (.slice u):=hu
    simp [execOp,resolve,ha.eval hx,invoke,builtin,Builtin.len_,run_und hu',goInt]
   · cases h
  · cases h
 · cases h
def qstep (T:Tab) (l:List Oper) (m:Nat) (r:Env) (i:Nat):Option Env:=
 match l[i]? with
 | some ⟨some d,op,_,_,_,gd⟩=>match Nat.blt d m with
  | true=>match guardOff l r gd with
   | true=>some ((d,undef)::r)
   | false=>match guardOn l r gd with
    | true=>match qval T r op with
     | some v=>some ((d,v)::r)
     | none=>none
    | false=>none
  | false=>none
 | _=>none
def qrun (T:Tab) (l:List Oper) (m:Nat):Nat→Env→List (Nat×Nat)→Option (Env×List (Nat×Nat))
 | 0,r,p=>some (r,p)
 | c+1,r,(i,kd)::p=>match Nat.blt kd 2 with
  | true=>match qstep T l m r i with
   | some r'=>qrun T l m c r' p
   | none=>none
  | false=>none
 | _+1,_,[]=>none
section
variable {P:Program} {B:World} {f:FuncId} {Q:Value→Mem→Prop} {n:Nat} {r r':Env} {k:List Item} {H:Mem} {l:List Oper} {C:Mem→Prop} {p p':List (Nat×Nat)} {T:Tab}
theorem Pl.q (hT:T.Ok P):∀(c:Nat) {r:Env} {p:List (Nat×Nat)},qrun T l n c r p=some (r',p')→Pl P B f Q n l C k p' r' H→Pl P B f Q n l C k p r H
 | 0,r,p,h,hk=>by
  cases h;exact hk
 | c+1,r,[],h,hk=>by simp [qrun] at h
 | c+1,r,(i,kd)::p,h,hk=>by
  unfold qrun at h
  cases h1:Nat.blt kd 2 with
  | false=>rw [h1] at h;cases h
  | true=>
   rw [h1] at h
   cases h2:qstep T l n r i with
   | none=>simp only [h2] at h;cases h
   | some r2=>
    simp only [h2] at h
    have ih:=Pl.q hT c h hk
    unfold qstep at h2
    split at h2
    ·
     rename_i d op ty pos af gd hi
     split at h2
     ·
      rename_i hd
      split at h2
      ·
       rename_i hg
       cases h2
       exact Pl.pass hi h1 hg hd ih
      ·
       split at h2
       ·
        rename_i hg
        split at h2
        ·
         rename_i v hv
         cases h2
         exact Pl.quiet hi h1 hg hd (fun a H' d' ha _=>qval_run hT hv ha d ty pos af gd H' d') ih
        · cases h2
       · cases h2
     · cases h2
    · cases h2
def qld (T:Tab) (l:List Oper) (m c:Nat) (kd:Nat) (r:Env) (p:List (Nat×Nat)):Option (Env×List (Nat×Nat)×Nat×Nat×Nat):=
 match qrun T l m c r p with
 | some (r',(i,kd')::p')=>match Nat.beq kd kd' with
  | true=>match l[i]? with
   | some ⟨some d,.load t x,_,_,_,gd⟩=>match Nat.blt d m with
    | true=>match guardOn l r' gd with
     | true=>match memN T.one t with
      | true=>match ev r' x with
       | some (.pointer (some ⟨b,o,none⟩))=>some (r',p',d,b,o)
       | _=>none
      | false=>none
     | false=>none
    | false=>none
   | _=>none
  | false=>none
 | _=>none
theorem qld_ok {T:Tab} {l:List Oper} {m c kd:Nat} {r r':Env} {p p':List (Nat×Nat)} {d b o:Nat} (h:qld T l m c kd r p=some (r',p',d,b,o)):
  ∃i t x ty pos af gd,qrun T l m c r p=some (r',(i,kd)::p')∧l[i]?=some ⟨some d,.load t x,ty,pos,af,gd⟩∧Nat.blt d m=true∧guardOn l r' gd=true∧t∈T.one∧ev r' x=some (.pointer (some ⟨b,o,none⟩)):=by
 unfold qld at h
 split at h
 ·
  rename_i r1 i kd' p1 hq
  split at h
  ·
   rename_i hk
   split at h
   ·
    rename_i d1 t x ty pos af gd hi
    split at h
    ·
     rename_i hd
     split at h
     ·
      rename_i hg
      split at h
      ·
       rename_i ht
       split at h
       ·
        rename_i b1 o1 hx
        cases h
        cases Nat.eq_of_beq_eq_true hk
        exact ⟨i,t,x,ty,pos,af,gd,hq,hi,hd,hg,memN_mem ht,hx⟩
       · cases h
      · cases h
     · cases h
    · cases h
   · cases h
  · cases h
 · cases h
theorem Pl.L1 (hT:T.Ok P) (c:Nat) {d b o:Nat} {v:Value} (h:qld T l n c 1 r p=some (r',p',d,b,o)) (hc:cl H b o=some v) (hk:Pl P B f Q n l C k p' ((d,v)::r') H):Pl P B f Q n l C k p r H:=by
 obtain ⟨i,t,x,ty,pos,af,gd,h1,h2,h3,h4,h5,h6⟩:=qld_ok h
 exact Pl.q hT c h1 (O.ld h2 h4 h3 (hT.one _ h5) h6 hc hk)
theorem Pl.L0 (hT:T.Ok P) (c:Nat) {d b o:Nat} {v:Value} (h:qld T l n c 0 r p=some (r',p',d,b,o)) (hc:∀H',C H'→cl H' b o=some v) (hk:Pl P B f Q n l C k p' ((d,v)::r') H):Pl P B f Q n l C k p r H:=by
 obtain ⟨i,t,x,ty,pos,af,gd,h1,h2,h3,h4,h5,h6⟩:=qld_ok h
 exact Pl.q hT c h1 (O.ldC h2 h4 h3 (hT.one _ h5) h6 hc hk)
def qlds (T:Tab) (l:List Oper) (m c:Nat) (kd:Nat) (r:Env) (p:List (Nat×Nat)):Option (Env×List (Nat×Nat)×Nat×Nat×Nat×Nat):=
 match qrun T l m c r p with
 | some (r',(i,kd')::p')=>match Nat.beq kd kd' with
  | true=>match l[i]? with
   | some ⟨some d,.load t x,_,_,_,gd⟩=>match Nat.blt d m with
    | true=>match guardOn l r' gd with
     | true=>match numAt T.agg t with
      | some s=>match ev r' x with
       | some (.pointer (some ⟨b,o,none⟩))=>some (r',p',d,b,o,s)
       | _=>none
      | none=>none
     | false=>none
    | false=>none
   | _=>none
  | false=>none
 | _=>none
theorem qlds_ok {T:Tab} {l:List Oper} {m c kd:Nat} {r r':Env} {p p':List (Nat×Nat)} {d b o s:Nat} (h:qlds T l m c kd r p=some (r',p',d,b,o,s)):
  ∃i t x ty pos af gd,qrun T l m c r p=some (r',(i,kd)::p')∧l[i]?=some ⟨some d,.load t x,ty,pos,af,gd⟩∧Nat.blt d m=true∧guardOn l r' gd=true∧(t,s)∈T.agg∧ev r' x=some (.pointer (some ⟨b,o,none⟩)):=by
 unfold qlds at h
 split at h
 ·
  rename_i r1 i kd' p1 hq
  split at h
  ·
   rename_i hk
   split at h
   ·
    rename_i d1 t x ty pos af gd hi
    split at h
    ·
     rename_i hd
     split at h
     ·
      rename_i hg
      split at h
      ·
       rename_i s1 ht
       split at h
       ·
        rename_i b1 o1 hx
        cases h
        cases Nat.eq_of_beq_eq_true hk
        exact ⟨i,t,x,ty,pos,af,gd,hq,hi,hd,hg,numAt_mem ht,hx⟩
       · cases h
      · cases h
     · cases h
    · cases h
   · cases h
  · cases h
 · cases h
theorem Pl.S1 (hT:T.Ok P) (c:Nat) {d b o s:Nat} {vs:List Value} (h:qlds T l n c 1 r p=some (r',p',d,b,o,s)) (hc:Rd H b o vs) (hl:vs.length=s) (hk:Pl P B f Q n l C k p' ((d,.agg vs.toArray)::r') H):Pl P B f Q n l C k p r H:=by
 obtain ⟨i,t,x,ty,pos,af,gd,h1,h2,h3,h4,h5,h6⟩:=qlds_ok h
 exact Pl.q hT c h1 (O.lds h2 h4 h3 (hT.agg _ h5) h6 hl hc hk)
theorem Pl.S0 (hT:T.Ok P) (c:Nat) {d b o s:Nat} {vs:List Value} (h:qlds T l n c 0 r p=some (r',p',d,b,o,s)) (hc:∀H',C H'→Rd H' b o vs) (hl:vs.length=s) (hk:Pl P B f Q n l C k p' ((d,.agg vs.toArray)::r') H):Pl P B f Q n l C k p r H:=by
 obtain ⟨i,t,x,ty,pos,af,gd,h1,h2,h3,h4,h5,h6⟩:=qlds_ok h
 exact Pl.q hT c h1 (O.ldsC h2 h4 h3 (hT.agg _ h5) h6 hl hc hk)
def qbin (T:Tab) (l:List Oper) (m c:Nat) (r:Env) (p:List (Nat×Nat)):Option (Env×List (Nat×Nat)×Nat×BinOp×Value×Value):=
 match qrun T l m c r p with
 | some (r',(i,kd)::p')=>match Nat.blt kd 2 with
  | true=>match l[i]? with
   | some ⟨some d,.binOp op t x y t',_,_,_,gd⟩=>match Nat.blt d m with
    | true=>match guardOn l r' gd with
     | true=>match ev r' x with
      | some a=>match ev r' y with
       | some b=>some (r',p',d,op,a,b)
       | none=>none
      | none=>none
     | false=>none
    | false=>none
   | _=>none
  | false=>none
 | _=>none
theorem qbin_ok {T:Tab} {l:List Oper} {m c:Nat} {r r':Env} {p p':List (Nat×Nat)} {d:Nat} {op:BinOp} {a b:Value} (h:qbin T l m c r p=some (r',p',d,op,a,b)):
  ∃i kd t t' x y ty pos af gd,qrun T l m c r p=some (r',(i,kd)::p')∧Nat.blt kd 2=true∧l[i]?=some ⟨some d,.binOp op t x y t',ty,pos,af,gd⟩∧Nat.blt d m=true∧guardOn l r' gd=true∧ev r' x=some a∧ev r' y=some b:=by
 unfold qbin at h
 split at h
 ·
  rename_i r1 i kd p1 hq
  split at h
  ·
   rename_i hk
   split at h
   ·
    rename_i d1 op1 t x y t' ty pos af gd hi
    split at h
    ·
     rename_i hd
     split at h
     ·
      rename_i hg
      split at h
      ·
       rename_i a1 hx
       split at h
       ·
        rename_i b1 hy
        cases h
        exact ⟨i,kd,t,t',x,y,ty,pos,af,gd,hq,hk,hi,hd,hg,hx,hy⟩
       · cases h
      · cases h
     · cases h
    · cases h
   · cases h
  · cases h
 · cases h
theorem Pl.add (hT:T.Ok P) (c:Nat) (z:Int) {d:Nat} {a b:Int} (h:qbin T l n c r p=some (r',p',d,.add,.int .i64 a,.int .i64 b)) (hz:a+b=z∧-9223372036854775808≤z∧z<9223372036854775808) (hk:Pl P B f Q n l C k p' ((d,.int .i64 z)::r') H):Pl P B f Q n l C k p r H:=by
 obtain ⟨i,kd,t,t',x,y,ty,pos,af,gd,h1,h2,h3,h4,h5,h6,h7⟩:=qbin_ok h
 exact Pl.q hT c h1 (O.add z h3 h2 h5 h4 h6 h7 hz.1 hz.2 hk)
theorem Pl.sub (hT:T.Ok P) (c:Nat) (z:Int) {d:Nat} {a b:Int} (h:qbin T l n c r p=some (r',p',d,.sub,.int .i64 a,.int .i64 b)) (hz:a-b=z∧-9223372036854775808≤z∧z<9223372036854775808) (hk:Pl P B f Q n l C k p' ((d,.int .i64 z)::r') H):Pl P B f Q n l C k p r H:=by
 obtain ⟨i,kd,t,t',x,y,ty,pos,af,gd,h1,h2,h3,h4,h5,h6,h7⟩:=qbin_ok h
 exact Pl.q hT c h1 (O.sub z h3 h2 h5 h4 h6 h7 hz.1 hz.2 hk)
theorem Pl.cmp (hT:T.Ok P) (c:Nat) {d:Nat} {op:BinOp} {kk:IntKind} {a b:Int} {v:Bool} (h:qbin T l n c r p=some (r',p',d,op,.int kk a,.int kk b)) (hv:cmpOf op a b=some v) (hk:Pl P B f Q n l C k p' ((d,.bool v)::r') H):Pl P B f Q n l C k p r H:=by
 obtain ⟨i,kd,t,t',x,y,ty,pos,af,gd,h1,h2,h3,h4,h5,h6,h7⟩:=qbin_ok h
 exact Pl.q hT c h1 (O.cmp h3 h2 h5 h4 h6 h7 hv hk)
def qix (T:Tab) (l:List Oper) (m c:Nat) (r:Env) (p:List (Nat×Nat)):Option (Env×List (Nat×Nat)×Nat×Nat×Nat×Nat×Nat×Int):=
 match qrun T l m c r p with
 | some (r',(i,kd)::p')=>match Nat.blt kd 2 with
  | true=>match l[i]? with
   | some ⟨some d,.indexAddr t x y,_,_,_,gd⟩=>match Nat.blt d m with
    | true=>match guardOn l r' gd with
     | true=>match numAt T.sl t with
      | some s=>match ev r' x with
       | some (.slice (some ⟨b,o,none⟩) len cap)=>match ev r' y with
        | some (.int kk z)=>some (r',p',d,b,o,s,len,z)
        | _=>none
       | _=>none
      | none=>none
     | false=>none
    | false=>none
   | _=>none
  | false=>none
 | _=>none
theorem Pl.X (hT:T.Ok P) (c j:Nat) {d b o s len:Nat} {z:Int} (h:qix T l n c r p=some (r',p',d,b,o,s,len,z)) (hz:z=(j:Int)) (hj:j<len) (hk:Pl P B f Q n l C k p' ((d,.pointer (some ⟨b,o+j*s,none⟩))::r') H):Pl P B f Q n l C k p r H:=by
 unfold qix at h
 split at h
 ·
  rename_i r1 i kd p1 hq
  split at h
  ·
   rename_i hk2
   split at h
   ·
    rename_i d1 t x y ty pos af gd hi
    split at h
    ·
     rename_i hd
     split at h
     ·
      rename_i hg
      split at h
      ·
       rename_i s1 hs
       split at h
       ·
        rename_i b1 o1 len1 cap1 hx
        split at h
        ·
         rename_i kk z1 hy
         cases h
         obtain ⟨u,hu,hsz⟩:=hT.sl _ (numAt_mem hs)
         exact Pl.q hT c hq (O.ix hi hk2 hg hd hu hsz hx hy hz hj hk)
        · cases h
       · cases h
      · cases h
     · cases h
    · cases h
   · cases h
  · cases h
 · cases h
def Env.pk (r:Env):List Nat→Option Env
 | []=>some []
 | t::ts=>match r.get t with
  | some v=>match Env.pk r ts with
   | some q=>some ((t,v)::q)
   | none=>none
  | none=>none
theorem Env.pk_sub {r:Env}:∀{ts:List Nat} {q:Env},Env.pk r ts=some q→Env.Sub q r
 | [],q,h=>by cases h;trivial
 | t::ts,q,h=>by
  unfold Env.pk at h
  split at h
  ·
   rename_i v hv
   split at h
   ·
    rename_i q1 hq
    cases h
    exact ⟨hv,Env.pk_sub hq⟩
   · cases h
  · cases h
def qfin (T:Tab) (l:List Oper) (m c:Nat) (ts:List Nat) (r:Env) (p:List (Nat×Nat)):Option Env:=
 match qrun T l m c r p with
 | some (r',[])=>Env.pk r' ts
 | _=>none
theorem Pl.F (hT:T.Ok P) (c:Nat) (ts:List Nat) {q:Env} (h:qfin T l n c ts r p=some q) (hk:Go' P B f Q n q k H):Pl P B f Q n l C k p r H:=by
 unfold qfin at h
 split at h
 ·
  rename_i r1 hq
  exact Pl.q hT c hq (Pl.fin q (Env.pk_sub h) hk)
 · cases h
theorem Go'.kp (ts:List Nat) {q:Env} (h:Env.pk r ts=some q) (hk:Go' P B f Q n q k H):Go' P B f Q n r k H:=Go'.keep q (Env.pk_sub h) hk
def tstep:List Item→Option (List Item)
 | .code (.seq x y)::k=>some (.code x::.code y::k)
 | .code .skip::k=>some k
 | .code (.label _)::k=>some k
 | .code (.block id c)::k=>some (.code c::.inBlock id::k)
 | .inBlock _::k=>some k
 | .code (.scope c)::k=>some (.code c::.inScope c::k)
 | .inScope _::k=>some k
 | .code (.exit id)::k=>exitTo id k
 | .code (.goto l)::k=>gotoIn l k
 | _=>none
def trun:Nat→List Item→Option (List Item)
 | 0,k=>some k
 | c+1,k=>match tstep k with
  | some k'=>trun c k'
  | none=>none
theorem Go'.t:∀(c:Nat) {k k':List Item},trun c k=some k'→Go' P B f Q n r k' H→Go' P B f Q n r k H
 | 0,k,k',h,hk=>by cases h;exact hk
 | c+1,k,k',h,hk=>by
  unfold trun at h
  split at h
  ·
   rename_i k1 h1
   have ih:=Go'.t c h hk
   unfold tstep at h1
   split at h1
   · cases h1;exact Go'.seq ih
   · cases h1;exact Go'.skip ih
   · cases h1;exact Go'.label ih
   · cases h1;exact Go'.block ih
   · cases h1;exact Go'.inBlock ih
   · cases h1;exact Go'.scope ih
   · cases h1;exact Go'.inScope ih
   · exact Go'.exit h1 ih
   · exact Go'.goto h1 ih
   · cases h1
  · cases h
def pln:Nat→Nat→Nat→List (Nat×Nat)
 | 0,_,_=>[]
 | m+1,K,i=>(i,K % 4)::pln m (K / 4) (i+1)
theorem Go'.dr {id:Nat} {l:List Oper} (m K:Nat) (hm:P.follows .mixedOrders=true) (hp:planOk l (pln m K 0)=true) (h:Pl P B f Q n l (fun _=>True) k (pln m K 0) r H):
  Go' P B f Q n r (.code (.region id l.toArray true)::k) H:=Go'.draw (fun _=>True) _ hm hp trivial h
theorem Go'.drC {id:Nat} {l:List Oper} (C:Mem→Prop) (m K:Nat) (hm:P.follows .mixedOrders=true) (hp:planOk l (pln m K 0)=true) (hC:C H) (h:Pl P B f Q n l C k (pln m K 0) r H):
  Go' P B f Q n r (.code (.region id l.toArray true)::k) H:=Go'.draw C _ hm hp hC h
theorem Go'.rg {id:Nat} {l:List Oper} (m K:Nat) (hp:((pln m K 0).map (·.1),(pln m K 0).all fun y=>Nat.blt y.2 3)=(List.range l.length,true)) (h:Pl P B f Q n l (fun _=>True) k (pln m K 0) r H):
  Go' P B f Q n r (.code (.region id l.toArray false)::k) H:=Go'.region _ hp h
end
end Go.Bt
namespace Go.Bt.Pl
structure Swo (α:Type) where
 lt:α→α→Bool
 irr:∀x,lt x x=false
 ntr:∀{x y z},lt x y=false→lt y z=false→lt x z=false
 asy:∀{x y},lt x y=true→lt y x=false
variable {α:Type} (O:Swo α)
theorem Swo.trans {x y z:α} (h:O.lt x y=true) (k:O.lt y z=true):O.lt x z=true:=by
 cases hx:O.lt x z with
 | true=>rfl
 | false=>have:=O.ntr hx (O.asy k);rw [h] at this;cases this
theorem Swo.lt_of_lt_of_le {x y z:α} (h:O.lt x y=true) (k:O.lt z y=false):O.lt x z=true:=by
 cases hx:O.lt x z with
 | true=>rfl
 | false=>have:=O.ntr hx k;rw [h] at this;cases this
theorem Swo.lt_of_le_of_lt {x y z:α} (h:O.lt y x=false) (k:O.lt y z=true):O.lt x z=true:=by
 cases hx:O.lt x z with
 | true=>rfl
 | false=>have:=O.ntr h hx;rw [k] at this;cases this
def Srt (l:List α):Prop:=l.Pairwise fun x y=>O.lt x y=true
def pos (x:α) (l:List α):Nat:=(l.takeWhile fun y=>O.lt y x).length
def fnd (x:α) (l:List α):Bool:=match l[pos O x l]? with
 | some y=>!O.lt x y
 | none=>false
def put (x:α) (l:List α):List α:=l.take (pos O x l)++x::l.drop (pos O x l+(fnd O x l).toNat)
def del (x:α) (l:List α):List α:=l.take (pos O x l)++l.drop (pos O x l+(fnd O x l).toNat)
theorem pos_le (x:α) (l:List α):pos O x l≤l.length:=(List.takeWhile_sublist _).length_le
theorem pos_eq {x:α} {a b:List α} (ha:∀y∈a,O.lt y x=true) (hb:∀y,b.head?=some y→O.lt y x=false):pos O x (a++b)=a.length:=by
 unfold pos
 rw [List.takeWhile_append_of_pos (fun y hy=>by simpa using ha y hy)]
 cases b with
 | nil=>simp
 | cons y b=>simp [hb y rfl]
theorem pos_split (x:α) (l:List α):(∀y∈l.take (pos O x l),O.lt y x=true)∧(∀y,(l.drop (pos O x l)).head?=some y→O.lt y x=false):=by
 induction l with
 | nil=>simp [pos]
 | cons z l ih=>
  by_cases hz:O.lt z x=true
  ·
   have:pos O x (z::l)=pos O x l+1:=by simp [pos,hz]
   rw [this,List.take_succ_cons,List.drop_succ_cons]
   exact ⟨fun y hy=>by rcases List.mem_cons.1 hy with rfl|hy;exact hz;exact ih.1 y hy,ih.2⟩
  ·
   have:pos O x (z::l)=0:=by simp [pos,hz]
   rw [this]
   refine ⟨by simp,fun y hy=>?_⟩
   simp only [List.drop_zero,List.head?_cons,Option.some.injEq] at hy
   subst hy
   simpa using hz
theorem Srt.append {a b:List α}:Srt O (a++b)↔Srt O a∧Srt O b∧∀x∈a,∀y∈b,O.lt x y=true:=List.pairwise_append
theorem Srt.cons {x:α} {b:List α}:Srt O (x::b)↔(∀y∈b,O.lt x y=true)∧Srt O b:=List.pairwise_cons
theorem Srt.drop_pos {x:α} {l:List α} (h:Srt O l):∀y∈l.drop (pos O x l),O.lt y x=false:=by
 intro y hy
 have h1:=(pos_split O x l).2
 have h2:Srt O (l.drop (pos O x l)):=h.sublist (List.drop_sublist _ _)
 cases hd:l.drop (pos O x l) with
 | nil=>rw [hd] at hy;cases hy
 | cons z t=>
  rw [hd] at hy h1 h2
  have hz:=h1 z rfl
  rcases List.mem_cons.1 hy with rfl|hy
  · exact hz
  ·
   cases hyx:O.lt y x with
   | false=>rfl
   | true=>have:=O.trans (((Srt.cons O).1 h2).1 y hy) hyx;rw [hz] at this;cases this
theorem pos_mid {x:α} {a m c:List α} (ha:∀y∈a,O.lt y x=true) (hc:∀y∈c,O.lt x y=true):pos O x (a++m++c)=a.length+pos O x m:=by
 have hs:=pos_split O x m
 have hm:m=m.take (pos O x m)++m.drop (pos O x m):=(List.take_append_drop _ _).symm
 have:a++m++c=(a++m.take (pos O x m))++(m.drop (pos O x m)++c):=by
  rw [List.append_assoc,List.append_assoc,←List.append_assoc (m.take _),←hm]
 rw [this,pos_eq O]
 · simp [List.length_take,Nat.min_eq_left (pos_le O x m)]
 ·
  intro y hy
  rcases List.mem_append.1 hy with hy|hy
  · exact ha y hy
  · exact hs.1 y hy
 ·
  intro y hy
  cases hd:m.drop (pos O x m) with
  | nil=>
   rw [hd,List.nil_append] at hy
   exact O.asy (hc y (List.mem_of_mem_head? hy))
  | cons z t=>rw [hd] at hy;simp only [List.cons_append,List.head?_cons,Option.some.injEq] at hy;subst hy;exact hs.2 z (by rw [hd];rfl)
theorem fnd_mid {x:α} {a m c:List α} (ha:∀y∈a,O.lt y x=true) (hc:∀y∈c,O.lt x y=true):fnd O x (a++m++c)=fnd O x m:=by
 unfold fnd
 rw [pos_mid O ha hc]
 have hle:=pos_le O x m
 rcases Nat.lt_or_ge (pos O x m) m.length with h|h
 · rw [List.getElem?_append_left (by simp;omega),List.getElem?_append_right (by omega),Nat.add_sub_cancel_left]
 ·
  rw [List.getElem?_eq_none (l:=m) h]
  have hp:pos O x m=m.length:=by omega
  rw [hp,List.getElem?_append_right (by simp)]
  simp only [List.length_append,Nat.sub_self]
  cases c with
  | nil=>rfl
  | cons z c=>simp [hc z List.mem_cons_self]
theorem fnd_pos_lt {x:α} {l:List α} (h:fnd O x l=true):pos O x l<l.length:=by
 unfold fnd at h
 split at h
 · rename_i y hy;exact (List.getElem?_eq_some_iff.1 hy).1
 · cases h
theorem take_mid {a m c:List α} {i:Nat} (h:i≤m.length):(a++m++c).take (a.length+i)=a++m.take i:=by
 rw [List.append_assoc,List.take_append,List.take_append]
 simp [Nat.sub_eq_zero_of_le h,List.take_of_length_le]
theorem drop_mid {a m c:List α} {i:Nat} (h:i≤m.length):(a++m++c).drop (a.length+i)=m.drop i++c:=by
 rw [List.append_assoc,List.drop_append,List.drop_append]
 simp [Nat.sub_eq_zero_of_le h,List.drop_of_length_le]
theorem put_mid {x:α} {a m c:List α} (ha:∀y∈a,O.lt y x=true) (hc:∀y∈c,O.lt x y=true):put O x (a++m++c)=a++put O x m++c:=by
 unfold put
 rw [pos_mid O ha hc,fnd_mid O ha hc,take_mid (pos_le O x m),Nat.add_assoc,drop_mid]
 · simp
 ·
  cases hf:fnd O x m with
  | false=>simpa using pos_le O x m
  | true=>have:=fnd_pos_lt O hf;simp;omega
theorem Srt.put {x:α} {l:List α} (h:Srt O l):Srt O (Pl.put O x l):=by
 unfold Pl.put
 rw [Srt.append,Srt.cons]
 have h1:=(pos_split O x l).1
 have h2:Srt O (l.drop (pos O x l+(fnd O x l).toNat)):=h.sublist (List.drop_sublist _ _)
 have h3:∀y∈l.drop (pos O x l+(fnd O x l).toNat),O.lt x y=true:=by
  intro y hy
  have hsd:Srt O (l.drop (pos O x l)):=h.sublist (List.drop_sublist _ _)
  have hnl:=h.drop_pos O (x:=x)
  cases hd:l.drop (pos O x l) with
  | nil=>rw [←List.drop_drop,hd] at hy;simp at hy
  | cons z t=>
   have hz:l[pos O x l]?=some z:=by
    have:(l.drop (pos O x l))[0]?=some z:=by rw [hd];rfl
    simpa using this
   rw [hd] at hsd
   cases hf:fnd O x l with
   | false=>
    rw [hf,←List.drop_drop,hd] at hy
    have hxz:O.lt x z=true:=by
     unfold fnd at hf
     rw [hz] at hf
     simpa using hf
    simp only [Bool.toNat_false,List.drop_zero] at hy
    rcases List.mem_cons.1 hy with rfl|hy
    · exact hxz
    · exact O.trans hxz (((Srt.cons O).1 hsd).1 y hy)
   | true=>
    rw [hf,←List.drop_drop,hd] at hy
    simp only [Bool.toNat_true,List.drop_succ_cons,List.drop_zero] at hy
    have hzx:O.lt z x=false:=hnl z (by rw [hd];exact List.mem_cons_self)
    exact O.lt_of_le_of_lt hzx (((Srt.cons O).1 hsd).1 y hy)
 refine ⟨h.sublist (List.take_sublist _ _),⟨h3,h2⟩,fun y hy z hz=>?_⟩
 rcases List.mem_cons.1 hz with rfl|hz
 · exact h1 y hy
 · exact O.trans (h1 y hy) (h3 z hz)
theorem Srt.del {x:α} {l:List α} (h:Srt O l):Srt O (Pl.del O x l):=by
 have:=h.put O (x:=x)
 unfold Pl.put at this
 unfold Pl.del
 exact this.sublist (List.Sublist.append_left (List.sublist_cons_self _ _) _)
theorem length_put (x:α) (l:List α):(put O x l).length=l.length+(1-(fnd O x l).toNat):=by
 unfold put
 simp only [List.length_append,List.length_cons,List.length_take,List.length_drop]
 have:=pos_le O x l
 cases hf:fnd O x l with
 | false=>simp;omega
 | true=>have:=fnd_pos_lt O hf;simp;omega
/-! What a search by halves comes to. -/
theorem search_found {x:α} {l:List α} {i:Nat} {y:α} (hs:Srt O l) (hi:l[i]?=some y) (h1:O.lt y x=false) (h2:O.lt x y=false):pos O x l=i∧fnd O x l=true:=by
 have hil:i<l.length:=(List.getElem?_eq_some_iff.1 hi).1
 have hy:l[i]=y:=(List.getElem?_eq_some_iff.1 hi).2
 have hsp:l.take i++y::l.drop (i+1)=l:=by rw [←hy,List.getElem_cons_drop,List.take_append_drop]
 have hp:pos O x l=i:=by
  have h3:=hs
  rw [←hsp,Srt.append] at h3
  have:=pos_eq O (x:=x) (a:=l.take i) (b:=y::l.drop (i+1)) (fun z hz=>O.lt_of_lt_of_le (h3.2.2 z hz y List.mem_cons_self) h2) (fun z hz=>by simp only [List.head?_cons,Option.some.injEq] at hz;subst hz;exact h1)
  rw [hsp] at this
  rw [this,List.length_take];omega
 exact ⟨hp,by unfold fnd;rw [hp,hi];simp [h2]⟩
theorem search_none {x:α} {l:List α} {i:Nat} (hs:Srt O l) (hil:i≤l.length) (h1:∀y,i≠0→l[i-1]?=some y→O.lt y x=true) (h2:∀y,l[i]?=some y→O.lt x y=true):pos O x l=i∧fnd O x l=false:=by
 have hp:pos O x l=i:=by
  have h3:=hs
  rw [←List.take_append_drop i l,Srt.append] at h3
  have:=pos_eq O (x:=x) (a:=l.take i) (b:=l.drop i) (fun z hz=>by
    rcases Nat.eq_zero_or_pos i with rfl|hi
    · simp at hz
    ·
     have hlast:l[i-1]?=some l[i-1]:=by simp
     have hx:=h1 _ (by omega) hlast
     obtain ⟨j,hj,rfl⟩:=List.mem_iff_getElem.1 hz
     simp only [List.length_take] at hj
     rw [List.getElem_take]
     rcases Nat.lt_or_ge j (i-1) with hlt|hge
     · exact O.trans (List.pairwise_iff_getElem.1 hs j (i-1) (by omega) (by omega) hlt) hx
     ·
      have:j=i-1:=by omega
      subst this;exact hx)
   (fun z hz=>O.asy (h2 z (by rw [←hz,List.head?_drop])))
  rw [List.take_append_drop] at this
  rw [this,List.length_take];omega
 refine ⟨hp,?_⟩
 unfold fnd
 rw [hp]
 cases hh:l[i]? with
 | none=>rfl
 | some y=>simp [h2 y hh]
/-! ### Lists between items -/
def inter:List α→List (List α)→List α
 | X,[]=>X
 | [],k::_=>k
 | x::X,k::K=>k++x::inter X K
def pre:List α→List (List α)→List α
 | x::X,k::K=>k++x::pre X K
 | _,_=>[]
def post:List α→List (List α)→List α
 | x::X,k::K=>x::k++post X K
 | _,_=>[]
theorem inter_post:∀(X:List α) (k:List α) (K:List (List α)),X.length=K.length→inter X (k::K)=k++post X K
 | [],k,[],_=>by simp [inter,post]
 | x::X,k,k'::K,h=>by
  simp only [inter,post]
  rw [inter_post X k' K (by simpa using h)]
  simp
 | [],_,_::_,h=>by simp at h
 | _::_,_,[],h=>by simp at h
theorem inter_focus:∀(X1 X2:List α) (K1:List (List α)) (k:List α) (K2:List (List α)),X1.length=K1.length→X2.length=K2.length→inter (X1++X2) (K1++k::K2)=pre X1 K1++k++post X2 K2
 | [],X2,[],k,K2,_,h2=>by simp [pre,inter_post X2 k K2 h2]
 | x::X1,X2,k1::K1,k,K2,h1,h2=>by
  simp only [List.cons_append,inter,pre]
  rw [inter_focus X1 X2 K1 k K2 (by simpa using h1) h2]
  simp
 | [],_,_::_,_,_,h,_=>by simp at h
 | _::_,_,[],_,_,h,_=>by simp at h
theorem inter_item:∀(X1 X2:List α) (x:α) (K1 K2:List (List α)),X1.length+1=K1.length→inter (X1++x::X2) (K1++K2)=inter X1 K1++x::inter X2 K2
 | [],X2,x,[k],K2,_=>by simp [inter]
 | y::X1,X2,x,k::K1,K2,h=>by
  simp only [List.cons_append,inter]
  rw [inter_item X1 X2 x K1 K2 (by simpa using h)]
  simp
 | [],_,_,[],_,h=>by simp at h
 | [],_,_,_::_::_,_,h=>by simp at h
 | _::_,_,_,[],_,h=>by simp at h
theorem pre_lt {x:α}:∀{X:List α} {K:List (List α)},X.length=K.length→Srt O (pre X K)→(∀y,X.getLast?=some y→O.lt y x=true)→∀y∈pre X K,O.lt y x=true
 | [],_,_,_,_,y,hy=>by simp [pre] at hy
 | _::_,[],h,_,_,_,_=>by simp at h
 | z::X,k::K,hl,hs,hx,y,hy=>by
  simp only [pre] at hs hy
  rw [Srt.append,Srt.cons] at hs
  have hrest:∀w∈pre X K,O.lt w x=true:=by
   cases X with
   | nil=>intro w hw;simp [pre] at hw
   | cons z' X=>exact pre_lt (by simpa using hl) hs.2.1.2 (fun y hy=>hx y (by simpa using hy))
  have hz:O.lt z x=true:=by
   cases X with
   | nil=>exact hx z rfl
   | cons z' X=>
    cases K with
    | nil=>simp at hl
    | cons k' K=>exact O.trans (hs.2.1.1 z' (by simp [pre])) (hrest z' (by simp [pre]))
  rcases List.mem_append.1 hy with hy|hy
  · exact O.trans (hs.2.2 y hy z List.mem_cons_self) hz
  ·
   rcases List.mem_cons.1 hy with rfl|hy
   · exact hz
   · exact hrest y hy
theorem post_gt {x:α} {X:List α} {K:List (List α)} (hs:Srt O (post X K)) (hx:∀y,X.head?=some y→O.lt x y=true) (y:α) (hy:y∈post X K):O.lt x y=true:=by
 cases X with
 | nil=>simp [post] at hy
 | cons z X=>
  cases K with
  | nil=>simp [post] at hy
  | cons k K=>
   simp only [post,List.cons_append] at hs hy
   have hz:=hx z rfl
   rcases List.mem_cons.1 hy with rfl|hy
   · exact hz
   · exact O.trans hz (((Srt.cons O).1 hs).1 y hy)
theorem sublist_inter:∀(X:List α) (K:List (List α)),X.length<K.length→X.Sublist (inter X K)
 | [],k::K,_=>List.nil_sublist _
 | x::X,k::K,h=>by
  simp only [inter]
  exact ((sublist_inter X K (by simpa using h)).cons_cons x).trans (List.sublist_append_right _ _)
 | [],[],h=>by simp at h
 | _::_,[],h=>by simp at h
end Go.Bt.Pl
namespace Go.Bt
open Go
structure Elt (α:Type) where
 enc:α→List Value
 s:Nat
 len:∀x,(enc x).length=s
 one:∀x,ones (enc x)=true
 pos:0<s
section
variable {α:Type} (E:Elt α)
def row (xs:List α):List Value:=xs.flatMap E.enc
theorem row_len (xs:List α):(row E xs).length=xs.length*E.s:=by
 induction xs with
 | nil=>simp [row]
 | cons x xs ih=>simp only [row,List.flatMap_cons,List.length_append,E.len,List.length_cons] at *;rw [ih,Nat.succ_mul];omega
theorem row_append (xs ys:List α):row E (xs++ys)=row E xs++row E ys:=by simp [row]
theorem row_cons (x:α) (ys:List α):row E (x::ys)=E.enc x++row E ys:=by simp [row]
theorem row_one (x:α):row E [x]=E.enc x:=by simp [row]
theorem ones_append (a b:List Value):ones (a++b)=(ones a&&ones b):=by simp [ones]
theorem row_ones (xs:List α):ones (row E xs)=true:=by
 induction xs with
 | nil=>rfl
 | cons x xs ih=>rw [row_cons,ones_append,E.one,ih];rfl
theorem row_get {xs:List α} {i:Nat} {x:α} (h:xs[i]?=some x) (j:Nat) (v:Value) (hv:(E.enc x)[j]?=some v):(row E xs)[i*E.s+j]?=some v:=by
 have hi:i<xs.length:=(List.getElem?_eq_some_iff.1 h).1
 have hj:j<E.s:=by have:=(List.getElem?_eq_some_iff.1 hv).1;rwa [E.len] at this
 have hsp:xs=xs.take i++x::xs.drop (i+1):=by
  have hx:xs[i]=x:=(List.getElem?_eq_some_iff.1 h).2
  rw [←hx,List.getElem_cons_drop,List.take_append_drop]
 have hlen:(xs.take i).length=i:=by simp;omega
 rw [hsp,row_append,row_cons,List.getElem?_append_right (by rw [row_len,hlen];omega),row_len,hlen,Nat.add_sub_cancel_left,List.getElem?_append_left (by rw [E.len];exact hj)]
 exact hv
theorem Rd.item {H:Mem} {b o:Nat} {xs:List α} (h:Rd H b o (row E xs)) {i:Nat} {x:α} (hx:xs[i]?=some x):Rd H b (o+i*E.s) (E.enc x):=fun j v hv=>by
 rw [Nat.add_assoc];exact h _ v (row_get E hx j v hv)
theorem Rd.item' {H:Mem} {b o:Nat} {xs:List α} (h:Rd H b o (row E xs)) {i:Nat} {x:α} (hx:xs[i]?=some x) {j:Nat} {v:Value} (hv:(E.enc x)[j]?=some v):cl H b (o+i*E.s+j)=some v:=Rd.item E h hx j v hv
theorem Rd.append {H:Mem} {b o:Nat} {u v:List Value}:Rd H b o (u++v)↔Rd H b o u∧Rd H b (o+u.length) v:=by
 constructor
 ·
  intro h
  refine ⟨fun i x hx=>h i x ?_,fun i x hx=>?_⟩
  · rw [List.getElem?_append_left (List.getElem?_eq_some_iff.1 hx).1];exact hx
  · rw [Nat.add_assoc];exact h _ x (by rw [List.getElem?_append_right (by omega),Nat.add_sub_cancel_left];exact hx)
 ·
  rintro ⟨h1,h2⟩ i x hx
  rcases Nat.lt_or_ge i u.length with h|h
  · rw [List.getElem?_append_left h] at hx;exact h1 i x hx
  ·
   rw [List.getElem?_append_right h] at hx
   have:=h2 _ x hx
   rwa [show o+u.length+(i-u.length)=o+i by omega] at this
theorem Rd.nil (H:Mem) (b o:Nat):Rd H b o []:=fun i v h=>by simp at h
theorem Rd.one {H:Mem} {b o:Nat} {v:Value} (h:cl H b o=some v):Rd H b o [v]:=fun i x hx=>by
 match i,hx with
 | 0,hx=>simp only [List.getElem?_cons_zero,Option.some.injEq] at hx;subst hx;exact h
 | i+1,hx=>simp at hx
def SlE (H:Mem) (b o c:Nat) (X:List α):Prop:=Sl H b o X.length c E.s (row E X)
variable {E} in
theorem SlE.item {H:Mem} {b o c:Nat} {X:List α} (h:SlE E H b o c X) {i:Nat} {x:α} (hx:X[i]?=some x):Rd H b (o+i*E.s) (E.enc x):=Rd.item E h.rd hx
variable {E} in
theorem SlE.cell {H:Mem} {b o c:Nat} {X:List α} (h:SlE E H b o c X) {i:Nat} {x:α} (hx:X[i]?=some x) {j:Nat} {v:Value} (hv:(E.enc x)[j]?=some v):cl H b (o+i*E.s+j)=some v:=Rd.item' E h.rd hx hv
variable {E} in
theorem SlE.wri {H:Mem} {b o c:Nat} {X:List α} (h:SlE E H b o c X) {i:Nat} (hi:i<X.length):Wr H b (o+i*E.s) E.s:=fun j hj=>by
 have h1:=h.wr (i*E.s+j) (by
  have h2:=h.hle
  have h3:(i+1)*E.s≤c*E.s:=Nat.mul_le_mul_right E.s (by omega)
  rw [Nat.succ_mul] at h3
  omega)
 rw [Nat.add_assoc];exact h1
variable {E} in
theorem SlE.wrm {H:Mem} {b o c:Nat} {X:List α} (h:SlE E H b o c X) {i m:Nat} (hi:i+m≤X.length):Wr H b (o+i*E.s) (m*E.s):=fun j hj=>by
 have h1:=h.wr (i*E.s+j) (by
  have h2:=h.hle
  have h3:(i+m)*E.s≤c*E.s:=Nat.mul_le_mul_right E.s (by omega)
  rw [Nat.add_mul] at h3
  omega)
 rw [Nat.add_assoc];exact h1
variable {E} in
theorem SlE.fr {Z:Nat→Nat→Prop} {H H':Mem} {b o c:Nat} {X:List α} (h:SlE E H b o c X) (hf:Fr Z H H') (hn:∀i,o≤i→i<o+c*E.s→¬Z b i):SlE E H' b o c X:=
 Sl.fr h hf fun i hi=>hn _ (by omega) (by
  have:=Nat.mul_le_mul_right E.s h.hle
  omega)
variable {E} in
theorem SlE.sub {H:Mem} {b o c:Nat} {X:List α} (h:SlE E H b o c X) (i m:Nat) (hi:i≤X.length):Rd H b (o+i*E.s) (row E ((X.drop i).take m)):=by
 have h1:X=X.take i++((X.drop i).take m++(X.drop i).drop m):=by rw [List.take_append_drop,List.take_append_drop]
 have h2:=h.rd
 rw [h1,row_append,row_append] at h2
 have h3:=((Rd.append).1 ((Rd.append).1 h2).2).1
 rw [row_len,List.length_take,Nat.min_eq_left hi] at h3
 exact h3
variable {E} in
theorem SlE.put {H H':Mem} {b o c i:Nat} {X Y:List α} (h:SlE E H b o c X) (hw:Wrote H H' b (o+i*E.s) (row E Y)) (hi:i+Y.length≤X.length):SlE E H' b o c (X.take i++Y++X.drop (i+Y.length)):=by
 have hl:(X.take i++Y++X.drop (i+Y.length)).length=X.length:=by simp;omega
 refine ⟨by rw [row_len],by rw [hl];exact h.hle,?_,hw.fr.wr h.wr⟩
 have h2:=h.rd
 have h1:X=X.take i++((X.drop i).take Y.length++X.drop (i+Y.length)):=by rw [←List.drop_drop,List.take_append_drop,List.take_append_drop]
 rw [h1,row_append,row_append] at h2
 obtain ⟨r1,r2⟩:=(Rd.append).1 h2
 obtain ⟨_,r3⟩:=(Rd.append).1 r2
 have l1:(row E (X.take i)).length=i*E.s:=by rw [row_len,List.length_take,Nat.min_eq_left (by omega)]
 have l2:(row E ((X.drop i).take Y.length)).length=Y.length*E.s:=by rw [row_len,List.length_take,List.length_drop,Nat.min_eq_left (by omega)]
 have l3:(row E Y).length=Y.length*E.s:=row_len E Y
 rw [l1,l2] at r3
 have hb:∀j,¬rng b (o+i*E.s) (row E Y).length b j↔j<o+i*E.s∨o+i*E.s+Y.length*E.s≤j:=fun j=>by rw [←l3];simp only [rng,true_and];omega
 rw [row_append,row_append,Rd.append,Rd.append]
 refine ⟨⟨hw.fr.rd r1 fun j hj=>(hb _).2 (by rw [l1] at hj;omega),?_⟩,?_⟩
 · rw [l1];exact hw.rd
 ·
  rw [List.length_append,l1,l3,←Nat.add_assoc]
  exact hw.fr.rd r3 fun j hj=>(hb _).2 (by omega)
variable {E} in
theorem SlE.set {H H':Mem} {b o c i:Nat} {X:List α} {x:α} (h:SlE E H b o c X) (hw:Wrote H H' b (o+i*E.s) (E.enc x)) (hi:i<X.length):SlE E H' b o c (X.take i++x::X.drop (i+1)):=by
 have:=h.put (Y:=[x]) (by rw [row_one];exact hw) (by rw [List.length_singleton];omega)
 simpa using this
variable {E} in
theorem SlE.app {H H':Mem} {b o c b' o' c':Nat} {X:List α} {x:α} (ha:App H H' b o X.length c 1 E.s (row E X) (E.enc x) b' o' c'):SlE E H' b' o' c' (X++[x]):=by
 have:=ha.sl
 unfold SlE
 rw [row_append,row_one,List.length_append]
 exact this
variable {E} in
theorem SlE.apps {H H':Mem} {b o c b' o' c':Nat} {X Y:List α} (ha:App H H' b o X.length c Y.length E.s (row E X) (row E Y) b' o' c'):SlE E H' b' o' c' (X++Y):=by
 have:=ha.sl
 unfold SlE
 rw [row_append,List.length_append]
 exact this
variable {E} in
theorem SlE.take {H:Mem} {b o c:Nat} {X:List α} (h:SlE E H b o c X) (i:Nat):SlE E H b o c (X.take i):=by
 refine ⟨by rw [row_len],by have:=h.hle;rw [List.length_take];omega,?_,h.wr⟩
 have h2:=h.rd
 rw [←List.take_append_drop i X,row_append] at h2
 exact ((Rd.append).1 h2).1
variable {E} in
theorem SlE.left {H:Mem} {b o c:Nat} {X:List α} (h:SlE E H b o c X) {i:Nat} (hi:i≤X.length):SlE E H b o i (X.take i):=
 ⟨by rw [row_len],by rw [List.length_take];omega,(h.take i).rd,fun j hj=>h.wr j (by
  have:=Nat.mul_le_mul_right E.s (Nat.le_trans hi h.hle)
  omega)⟩
variable {E} in
theorem SlE.right {H:Mem} {b o c:Nat} {X:List α} (h:SlE E H b o c X) {i:Nat} (hi:i≤X.length):SlE E H b (o+i*E.s) (c-i) (X.drop i):=
 ⟨by rw [row_len],by have:=h.hle;rw [List.length_drop];omega,by
  have:=h.sub i (X.length-i) hi
  rwa [List.take_of_length_le (by rw [List.length_drop];omega)] at this,fun j hj=>by
  have h1:=h.wr (i*E.s+j) (by
   have h2:i*E.s≤c*E.s:=Nat.mul_le_mul_right E.s (Nat.le_trans hi h.hle)
   rw [Nat.sub_mul] at hj
   omega)
  rw [Nat.add_assoc];exact h1⟩
structure Ng where
 p:Nat
 iso:Nat
 cnt:Nat
 ib:Nat
 io:Nat
 ic:Nat
 cb:Nat
 kb:Nat
 ko:Nat
 kc:Nat
def ptr (p:Nat):Value:=.pointer (some ⟨p,0,none⟩)
def EP:Elt (Option Nat):={ enc:=fun x=>[match x with|some p=>ptr p|none=>.pointer none],s:=1,len:=fun _=>rfl,one:=fun x=>by cases x<;>rfl,pos:=by decide }
structure NodeM (H:Mem) (g:Ng) (X:List α) (kp:Value):Prop where
 c0:cl H g.p 0=some (.int .u64 (g.iso:Int))
 c1:cl H g.p 1=some (.int .i64 (g.cnt:Int))
 c2:cl H g.p 2=some (.slice (some ⟨g.ib,g.io,none⟩) X.length g.ic)
 c3:cl H g.p 3=some kp
 wr:Wr H g.p 0 4
 sl:SlE E H g.ib g.io g.ic X
 ic:0<g.ic
 ne:g.p≠g.ib
structure KidM (H:Mem) (g:Ng) (ks:List Nat):Prop where
 c:cl H g.cb 0=some (.slice (some ⟨g.kb,g.ko,none⟩) ks.length g.kc)
 wr:Wr H g.cb 0 1
 sl:SlE EP H g.kb g.ko g.kc (ks.map some)
 kc:0<g.kc
 n1:g.cb≠g.kb
 n2:g.p≠g.cb
 n3:g.p≠g.kb
 n4:g.ib≠g.cb
 n5:g.ib≠g.kb
def ncl (g:Ng):Nat→Nat→Prop:=fun b o=>(b=g.p∧o<4)∨(b=g.ib∧g.io≤o∧o<g.io+g.ic*E.s)
def kcl (g:Ng):Nat→Nat→Prop:=fun b o=>(b=g.cb∧o<1)∨(b=g.kb∧g.ko≤o∧o<g.ko+g.kc)
theorem NodeM.fr {X:List α} {kp:Value} {H H':Mem} {g:Ng} {Z:Nat→Nat→Prop} (h:NodeM E H g X kp) (hf:Fr Z H H') (hz:∀b o,ncl E g b o→¬Z b o):NodeM E H' g X kp where
 c0:=hf.keep h.c0 (hz _ _ (.inl ⟨rfl,by omega⟩))
 c1:=hf.keep h.c1 (hz _ _ (.inl ⟨rfl,by omega⟩))
 c2:=hf.keep h.c2 (hz _ _ (.inl ⟨rfl,by omega⟩))
 c3:=hf.keep h.c3 (hz _ _ (.inl ⟨rfl,by omega⟩))
 wr:=hf.wr h.wr
 sl:=h.sl.fr hf fun i h1 h2=>hz _ _ (.inr ⟨rfl,h1,h2⟩)
 ic:=h.ic
 ne:=h.ne
theorem KidM.fr {ks:List Nat} {H H':Mem} {g:Ng} {Z:Nat→Nat→Prop} (h:KidM H g ks) (hf:Fr Z H H') (hz:∀b o,kcl g b o→¬Z b o):KidM H' g ks where
 c:=hf.keep h.c (hz _ _ (.inl ⟨rfl,by omega⟩))
 wr:=hf.wr h.wr
 sl:=h.sl.fr hf fun i h1 h2=>hz _ _ (.inr ⟨rfl,h1,by have e:EP.s=1:=rfl;rw [e,Nat.mul_one] at h2;exact h2⟩)
 kc:=h.kc
 n1:=h.n1
 n2:=h.n2
 n3:=h.n3
 n4:=h.n4
 n5:=h.n5
end
def Gt {α:Type} (E:Elt α):Nat→Type
 | 0=>Ng×List α
 | h+1=>Ng×List α×List (Gt E h)
variable {α:Type} {E:Elt α}
def Gt.g:(h:Nat)→Gt E h→Ng
 | 0,t=>t.1
 | _+1,t=>t.1
def Gt.X:(h:Nat)→Gt E h→List α
 | 0,t=>t.2
 | _+1,t=>t.2.1
def Gt.L:(h:Nat)→Gt E h→List α
 | 0,t=>t.2
 | h+1,t=>Pl.inter t.2.1 (t.2.2.map (Gt.L h))
abbrev Gt.p (h:Nat) (t:Gt E h):Nat:=(Gt.g h t).p
def Gt.ps (h:Nat) (ts:List (Gt E h)):List Nat:=ts.map (Gt.p h)
def Gt.M (H:Mem):(h:Nat)→Gt E h→Prop
 | 0,t=>NodeM E H t.1 t.2 (.pointer none)
 | h+1,t=>NodeM E H t.1 t.2.1 (.pointer (some ⟨t.1.cb,0,none⟩))∧KidM H t.1 (Gt.ps h t.2.2)∧∀k∈t.2.2,Gt.M H h k
def Gt.af:(h:Nat)→Gt E h→Nat→Nat→Prop
 | 0,t=>ncl E t.1
 | h+1,t=>fun b o=>ncl E t.1 b o∨kcl t.1 b o∨∃k∈t.2.2,Gt.af h k b o
def Gt.Ok (mx mn:Nat):(h:Nat)→Gt E h→Prop
 | 0,t=>t.1.cnt=t.2.length∧t.2.length≤mx
 | h+1,t=>t.1.cnt=(Gt.L (h+1) t).length∧t.2.1.length≤mx∧1≤t.2.1.length∧t.2.2.length=t.2.1.length+1∧∀k∈t.2.2,Gt.Ok mx mn h k∧mn≤(Gt.X h k).length
theorem Gt.M.fr {Z:Nat→Nat→Prop} {H H':Mem} (hf:Fr Z H H'):∀(h:Nat) (t:Gt E h),Gt.M H h t→(∀b o,Gt.af h t b o→¬Z b o)→Gt.M H' h t
 | 0,_,hm,hz=>NodeM.fr E hm hf hz
 | h+1,_,⟨h1,h2,h3⟩,hz=>
  ⟨NodeM.fr E h1 hf fun b o hb=>hz b o (.inl hb),h2.fr hf fun b o hb=>hz b o (.inr (.inl hb)),fun k hk=>Gt.M.fr hf h k (h3 k hk) fun b o hb=>hz b o (.inr (.inr ⟨k,hk,hb⟩))⟩
theorem NodeM.lt {H:Mem} {g:Ng} {X:List α} {kp:Value} (h:NodeM E H g X kp) {b o:Nat} (hb:ncl E g b o):b<H.size:=by
 rcases hb with ⟨rfl,_⟩|⟨rfl,h1,h2⟩
 · exact cl_lt h.c0
 ·
  obtain ⟨⟨v,hv⟩,_⟩:=h.sl.wr 0 (Nat.mul_pos h.ic E.pos)
  exact cl_lt hv
theorem KidM.lt {H:Mem} {g:Ng} {ks:List Nat} (h:KidM H g ks) {b o:Nat} (hb:kcl g b o):b<H.size:=by
 rcases hb with ⟨rfl,_⟩|⟨rfl,h1,h2⟩
 · exact cl_lt h.c
 ·
  obtain ⟨⟨v,hv⟩,_⟩:=h.sl.wr 0 (Nat.mul_pos h.kc EP.pos)
  exact cl_lt hv
theorem Gt.M.lt {H:Mem}:∀(h:Nat) (t:Gt E h),Gt.M H h t→∀b o,Gt.af h t b o→b<H.size
 | 0,_,hm,_,_,hb=>NodeM.lt hm hb
 | h+1,_,⟨h1,h2,h3⟩,b,o,hb=>by
  rcases hb with hb|hb|⟨k,hk,hb⟩
  · exact NodeM.lt h1 hb
  · exact h2.lt hb
  · exact Gt.M.lt h k (h3 k hk) b o hb
theorem Gt.M.node {H:Mem}:∀{h:Nat} {t:Gt E h},Gt.M H h t→∃kp,NodeM E H (Gt.g h t) (Gt.X h t) kp
 | 0,_,hm=>⟨_,hm⟩
 | _+1,_,hm=>⟨_,hm.1⟩
namespace Fm
variable {α β:Type} (O:Pl.Swo α) (mx mn:Nat)
def lf (x:α) (X:List α):Option (List α):=
 match Pl.fnd O x X with
 | true=>some (X.take (Pl.pos O x X)++x::X.drop (Pl.pos O x X+1))
 | false=>if X.length=mx then none else some (X.take (Pl.pos O x X)++x::X.drop (Pl.pos O x X))
def st2 (x:α) (rec:β→Option β) (X:List α) (K:List β):List α×List β:=
 match Pl.fnd O x X with
 | true=>(X.take (Pl.pos O x X)++x::X.drop (Pl.pos O x X+1),K)
 | false=>match K[Pl.pos O x X]? with
  | none=>(X,K)
  | some k=>match rec k with
   | some k'=>(X,K.take (Pl.pos O x X)++[k']++K.drop (Pl.pos O x X+1))
   | none=>(X,K)
def spl (lo hi:β→β) (i:Nat) (X:List α) (K:List β) (k:β) (med:α):List α×List β:=
 (X.take i++med::X.drop i,K.take i++[lo k,hi k]++K.drop (i+1))
def st1 (x:α) (rec:β→Option β) (lo hi:β→β) (Xk:β→List α) (X:List α) (K:List β):Option (List α×List β):=
 match Pl.fnd O x X with
 | true=>some (X.take (Pl.pos O x X)++x::X.drop (Pl.pos O x X+1),K)
 | false=>match K[Pl.pos O x X]? with
  | none=>some (X,K)
  | some k=>match rec k with
   | some k'=>some (X,K.take (Pl.pos O x X)++[k']++K.drop (Pl.pos O x X+1))
   | none=>if X.length=mx then none else match (Xk k)[mn]? with
    | none=>some (X,K)
    | some med=>some (st2 O x rec (spl lo hi (Pl.pos O x X) X K k med).1 (spl lo hi (Pl.pos O x X) X K k med).2)
variable {O mx mn} {x:α} {rec:β→Option β} {lo hi:β→β} {Xk:β→List α} {X:List α} {K:List β} {i:Nat} {k k':β} {med:α}
theorem lf_full (h:lf O mx x X=none):X.length=mx:=by
 unfold lf at h
 cases hf:Pl.fnd O x X with
 | true=>simp only [hf] at h;cases h
 | false=>
  simp only [hf] at h
  by_cases e:X.length=mx
  · exact e
  · rw [if_neg e] at h;cases h
theorem st1_full (h:st1 O mx mn x rec lo hi Xk X K=none):X.length=mx:=by
 unfold st1 at h
 cases hf:Pl.fnd O x X with
 | true=>simp only [hf] at h;cases h
 | false=>
  simp only [hf] at h
  cases hk:K[Pl.pos O x X]? with
  | none=>simp only [hk] at h;cases h
  | some k=>
   simp only [hk] at h
   cases hr:rec k with
   | some k'=>simp only [hr] at h;cases h
   | none=>
    simp only [hr] at h
    by_cases e:X.length=mx
    · exact e
    ·
     rw [if_neg e] at h
     cases hm:(Xk k)[mn]? with
     | none=>simp only [hm] at h;cases h
     | some med=>simp only [hm] at h;cases h
theorem st1_found (hf:Pl.fnd O x X=true) (hi':Pl.pos O x X=i):st1 O mx mn x rec lo hi Xk X K=some (X.take i++x::X.drop (i+1),K):=by
 unfold st1;simp only [hf,hi']
theorem st1_kid (hf:Pl.fnd O x X=false) (hi':Pl.pos O x X=i) (hk:K[i]?=some k) (hr:rec k=some k'):st1 O mx mn x rec lo hi Xk X K=some (X,K.take i++[k']++K.drop (i+1)):=by
 unfold st1;simp only [hf,hi',hk,hr]
theorem st1_both (hf:Pl.fnd O x X=false) (hi':Pl.pos O x X=i) (hk:K[i]?=some k) (hr:rec k=none) (hX:X.length=mx):st1 O mx mn x rec lo hi Xk X K=none:=by
 unfold st1;simp only [hf,hi',hk,hr,if_pos hX]
theorem st1_st2 {b:List α×List β} (e:st1 O mx mn x rec lo hi Xk X K=some b) (hfull:∀k,rec k=none→(Xk k).length=mx) (hn:Pl.fnd O x X=true∨∀k,K[Pl.pos O x X]?=some k→(Xk k).length≠mx):st2 O x rec X K=b:=by
 unfold st1 at e
 unfold st2
 cases h1:Pl.fnd O x X with
 | true=>simp only [h1] at e ⊢;exact Option.some.inj e
 | false=>
  simp only [h1] at e ⊢
  cases h2:K[Pl.pos O x X]? with
  | none=>simp only [h2] at e ⊢;exact Option.some.inj e
  | some k=>
   simp only [h2] at e ⊢
   cases h3:rec k with
   | some k'=>simp only [h3] at e ⊢;exact Option.some.inj e
   | none=>
    rcases hn with hn|hn
    · rw [h1] at hn;cases hn
    · exact absurd (hfull k h3) (hn k h2)
theorem st1_part {b:List α×List β} (hf:Pl.fnd O x X=false) (hi':Pl.pos O x X=i) (hk:K[i]?=some k) (hr:rec k=none) (hX:X.length≠mx) (hm:(Xk k)[mn]?=some med) (hfull:∀k,rec k=none→(Xk k).length=mx)
  (e:st1 O mx mn x rec lo hi Xk (spl lo hi i X K k med).1 (spl lo hi i X K k med).2=some b)
  (hn:Pl.fnd O x (spl lo hi i X K k med).1=true∨∀k',(spl lo hi i X K k med).2[Pl.pos O x (spl lo hi i X K k med).1]?=some k'→(Xk k').length≠mx):st1 O mx mn x rec lo hi Xk X K=some b:=by
 have h2:=st1_st2 e hfull hn
 unfold st1
 simp only [hf,hi',hk,hr,if_neg hX,hm,h2]
end Fm
def Ab (α:Type):Nat→Type
 | 0=>List α
 | h+1=>List α×List (Ab α h)
section
variable {α:Type} {E:Elt α}
def Gt.ab:(h:Nat)→Gt E h→Ab α h
 | 0,t=>t.2
 | h+1,t=>(t.2.1,t.2.2.map (Gt.ab h))
def Ab.X:(h:Nat)→Ab α h→List α
 | 0,a=>a
 | _+1,a=>a.1
theorem Gt.ab_X:∀(h:Nat) (t:Gt E h),Ab.X h (Gt.ab h t)=Gt.X h t
 | 0,_=>rfl
 | _+1,_=>rfl
def Ab.lo (mn:Nat):(h:Nat)→Ab α h→Ab α h
 | 0,a=>(show List α from a).take mn
 | _+1,a=>(a.1.take mn,a.2.take (mn+1))
def Ab.hi (mn:Nat):(h:Nat)→Ab α h→Ab α h
 | 0,a=>(show List α from a).drop (mn+1)
 | _+1,a=>(a.1.drop (mn+1),a.2.drop (mn+1))
theorem Ab.X_lo (mn:Nat):∀(h:Nat) (a:Ab α h),Ab.X h (Ab.lo mn h a)=(Ab.X h a).take mn
 | 0,_=>rfl
 | _+1,_=>rfl
theorem Ab.X_hi (mn:Nat):∀(h:Nat) (a:Ab α h),Ab.X h (Ab.hi mn h a)=(Ab.X h a).drop (mn+1)
 | 0,_=>rfl
 | _+1,_=>rfl
variable (O:Pl.Swo α) (mx mn:Nat)
def Ab.put (x:α):(h:Nat)→Ab α h→Option (Ab α h)
 | 0,a=>Fm.lf O mx x a
 | h+1,a=>Fm.st1 O mx mn x (Ab.put x h) (Ab.lo mn h) (Ab.hi mn h) (Ab.X h) a.1 a.2
theorem Ab.put_full {x:α}:∀{h:Nat} {a:Ab α h},Ab.put O mx mn x h a=none→(Ab.X h a).length=mx
 | 0,_,e=>Fm.lf_full e
 | _+1,_,e=>Fm.st1_full e
section
variable {O mx mn} {x:α} {h i:Nat} {X:List α} {K:List (Ab α h)} {k k':Ab α h}
theorem Ab.put_leaf_found {X:List α} (hf:Pl.fnd O x X=true) (hi:Pl.pos O x X=i):Ab.put O mx mn x 0 X=some (X.take i++x::X.drop (i+1)):=by
 show Fm.lf O mx x X=_
 unfold Fm.lf;simp only [hf,hi]
theorem Ab.put_leaf_room {X:List α} (hf:Pl.fnd O x X=false) (hi:Pl.pos O x X=i) (hX:X.length≠mx):Ab.put O mx mn x 0 X=some (X.take i++x::X.drop i):=by
 show Fm.lf O mx x X=_
 unfold Fm.lf;simp only [hf,hi];exact if_neg hX
theorem Ab.put_leaf_full {X:List α} (hf:Pl.fnd O x X=false) (hX:X.length=mx):Ab.put O mx mn x 0 X=none:=by
 show Fm.lf O mx x X=_
 unfold Fm.lf;simp only [hf];exact if_pos hX
theorem Ab.put_found (hf:Pl.fnd O x X=true) (hi:Pl.pos O x X=i):Ab.put O mx mn x (h+1) (X,K)=some (X.take i++x::X.drop (i+1),K):=Fm.st1_found hf hi
theorem Ab.put_kid (hf:Pl.fnd O x X=false) (hi:Pl.pos O x X=i) (hk:K[i]?=some k) (hp:Ab.put O mx mn x h k=some k'):Ab.put O mx mn x (h+1) (X,K)=some (X,K.take i++[k']++K.drop (i+1)):=Fm.st1_kid hf hi hk hp
theorem Ab.put_both (hf:Pl.fnd O x X=false) (hi:Pl.pos O x X=i) (hk:K[i]?=some k) (hp:Ab.put O mx mn x h k=none) (hX:X.length=mx):Ab.put O mx mn x (h+1) (X,K)=none:=Fm.st1_both hf hi hk hp hX
def Ab.spl (mn h i:Nat) (a:Ab α (h+1)) (k:Ab α h) (med:α):Ab α (h+1):=Fm.spl (Ab.lo mn h) (Ab.hi mn h) i a.1 a.2 k med
theorem Ab.put_part {med:α} {b:Ab α (h+1)} (hf:Pl.fnd O x X=false) (hi:Pl.pos O x X=i) (hk:K[i]?=some k) (hp:Ab.put O mx mn x h k=none) (hX:X.length≠mx) (hm:(Ab.X h k)[mn]?=some med)
  (e:Ab.put O mx mn x (h+1) (Ab.spl mn h i (X,K) k med)=some b) (hn:Pl.fnd O x (Ab.spl mn h i (X,K) k med).1=true∨∀k',(Ab.spl mn h i (X,K) k med).2[Pl.pos O x (Ab.spl mn h i (X,K) k med).1]?=some k'→(Ab.X h k').length≠mx):Ab.put O mx mn x (h+1) (X,K)=some b:=
 Fm.st1_part hf hi hk hp hX hm (fun _ h=>Ab.put_full O mx mn h) e hn
end
@[reducible] def AbT (α:Type):Type:=Option ((h:Nat)×Ab α h)
def Ab.top (x:α) (h:Nat) (a:Ab α h) (med:α):Ab α (h+1):=Fm.st2 O x (Ab.put O mx mn x h) [med] [Ab.lo mn h a,Ab.hi mn h a]
def AbT.put (x:α) (T:AbT α):AbT α:=
 match T with
 | none=>some ⟨0,([x]:List α)⟩
 | some s=>match Ab.put O mx mn x s.1 s.2 with
  | some a'=>some ⟨s.1,a'⟩
  | none=>match (Ab.X s.1 s.2)[mn]? with
   | none=>some s
   | some med=>some ⟨s.1+1,Ab.top O mx mn x s.1 s.2 med⟩
def AbT.puts (l:List α):AbT α:=l.foldl (fun T x=>AbT.put O mx mn x T) none
theorem AbT.put_some {x:α} {h:Nat} {a a':Ab α h} (e:Ab.put O mx mn x h a=some a'):AbT.put O mx mn x (some ⟨h,a⟩)=some ⟨h,a'⟩:=by
 unfold AbT.put
 simp only [e]
theorem AbT.put_again {x:α} {h:Nat} {a:Ab α h} {med:α} (e:Ab.put O mx mn x h a=none) (hm:(Ab.X h a)[mn]?=some med) (h1:1<mx) (h2:((Ab.X h a).take mn).length<mx) (h3:((Ab.X h a).drop (mn+1)).length<mx):
  AbT.put O mx mn x (some ⟨h+1,(([med],[Ab.lo mn h a,Ab.hi mn h a]):Ab α (h+1))⟩)=AbT.put O mx mn x (some ⟨h,a⟩):=by
 have hr:AbT.put O mx mn x (some ⟨h,a⟩)=some ⟨h+1,Ab.top O mx mn x h a med⟩:=by
  unfold AbT.put
  simp only [e,hm]
 rw [hr]
 cases hp:Ab.put O mx mn x (h+1) (([med],[Ab.lo mn h a,Ab.hi mn h a]):Ab α (h+1)) with
 | none=>
  have:=Ab.put_full O mx mn hp
  exact absurd this (by show ¬1=mx;omega)
 | some b=>
  rw [AbT.put_some O mx mn hp]
  have h5:Ab.top O mx mn x h a med=b:=Fm.st1_st2 (X:=[med]) (K:=[Ab.lo mn h a,Ab.hi mn h a]) (mn:=mn) hp (fun _ h=>Ab.put_full O mx mn h) (.inr fun k hk=>by
   have hm2:=List.mem_of_getElem? hk
   simp only [List.mem_cons,List.not_mem_nil,or_false] at hm2
   rcases hm2 with rfl|rfl
   · rw [Ab.X_lo];omega
   · rw [Ab.X_hi];omega)
  rw [h5]
def Ab.L:(h:Nat)→Ab α h→List α
 | 0,a=>a
 | h+1,a=>Pl.inter a.1 (a.2.map (Ab.L h))
theorem AbT.puts_snoc (l:List α) (x:α):AbT.puts O mx mn (l++[x])=AbT.put O mx mn x (AbT.puts O mx mn l):=by
 unfold AbT.puts
 rw [List.foldl_append];rfl
end
end Go.Bt
