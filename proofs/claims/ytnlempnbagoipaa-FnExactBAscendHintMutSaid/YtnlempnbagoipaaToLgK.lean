/- Regions where one operation may come at any place between those of a chain: the judgement and the rules. Conditions: those that each rule names. -/
import Derived.Test.YtnlempnbagoipaaToLgT
import Derived.Test.YtnlempnbagoipaaToBt
namespace Go.Bt
open Go
/-- A plan of operations,in every frame,that hands on to K. -/
def Pk (P : Program) (B : World) (n : Nat) (l : List Oper) (C : Mem → Prop) (K : Act → World → Prop) (p : List (Nat × Nat)) (r : Env) (H : Mem) : Prop :=
  ∀ d a,Sees n r a → planRun P l (fun w => ∃ H d,w = mk B H d ∧ C H) K p a (mk B H d)
/-- A tree of plans,in every frame. -/
def Tk (P : Program) (B : World) (f : FuncId) (Q : Value → Mem → Prop) (n : Nat) (l : List Oper) (C : Mem → Prop) (k : List Item) (t : PT) (r : Env) (H : Mem) : Prop :=
  ∀ d a,Sees n r a → t.run P l (fun w => ∃ H d,w = mk B H d ∧ C H) (Cont P f (Post' B Q) k) a (mk B H d)
def treeOk (l : List Oper) (f : Nat) (es : List Nat) (t : PT) : Bool :=
  waitsOk l (waitsGo l []) && edgesDown l && Region.noSelect l.toArray && PT.ok l (waitsGo l []) f es t && ((List.range l.length).all fun i => t.top.any fun y => Nat.beq y.1 i) && t.top.all fun y => Nat.blt y.1 l.length
section
variable {P : Program} {B : World} {f : FuncId} {Q : Value → Mem → Prop} {n : Nat} {r : Env} {k : List Item} {H : Mem} {l : List Oper} {C : Mem → Prop} {p : List (Nat × Nat)} {K : Act → World → Prop}
theorem Tk.leaf (h : Pl P B f Q n l C k p r H) : Tk P B f Q n l C k (.leaf p) r H := h
theorem Tk.node {u : List (Nat × Nat)} {t : PT} (h : Pl P B f Q n l C k p r H) (h' : Pk P B n l C (t.run P l (fun w => ∃ H d,w = mk B H d ∧ C H) (Cont P f (Post' B Q) k)) u r H) : Tk P B f Q n l C k (.node p u t) r H := fun d a ha => ⟨h d a ha,h' d a ha⟩
theorem Pk.fin {t : PT} (h : Tk P B f Q n l C k t r H) : Pk P B n l C (t.run P l (fun w => ∃ H d,w = mk B H d ∧ C H) (Cont P f (Post' B Q) k)) [] r H := fun d a ha => h d a ha
theorem wp_of_tree {Q : Exit → Act → World → Prop} {id : Nat} {a : Act} {w : World} {C : World → Prop} (e : Nat) (es : List Nat) (t : PT) (hmx : P.follows .mixedOrders = true) (hp : treeOk l e es t = true)
    (hQ : ∀ a w,K a w → Q .normal a w) (hC : C w.drew) (h : t.run P l C K a w.drew) : (Code.region id l.toArray true).wp P Q a w := by
  simp only [treeOk,Bool.and_eq_true] at hp
  obtain ⟨⟨⟨⟨⟨h1,h2⟩,h3⟩,h4⟩,h5⟩,h6⟩ := hp
  have hlt : ∀ y ∈ t.top,y.1 < l.length := fun y hy => by simpa using List.all_eq_true.1 h6 y hy
  refine wp_region_any hmx ?_
  have hsel : ∀ (j : Nat) (o : Oper) (cs : Array SelectCase) (b : Bool),l[j]? = some o → o.op ≠ .select cs b := fun j o cs b ho => Region.noSelect_spec h3 j o cs b (by simpa using ho)
  have hfit : Fits l t.top (Array.replicate l.length false) := by
    refine ⟨by simp,fun i hi => ⟨fun _ => ?_,fun _ => by simp [hi]⟩⟩
    obtain ⟨y,hy,he⟩ := List.any_eq_true.1 (List.all_eq_true.1 h5 i (List.mem_range.2 hi))
    exact ⟨y,hy,Nat.eq_of_beq_eq_true he⟩
  have hcl : Closed l (Array.replicate l.length false) := fun j o ho hl => by
    have hjl : j < l.length := (List.getElem?_eq_some_iff.1 ho).1
    simp [hjl] at hl
  have hlen : t.top.length = l.length := by
    have hperm : (t.top.map (·.1)).Perm (List.range l.length) := by
      refine (List.perm_ext_iff_of_nodup (PT.ok_nodup h4) List.nodup_range).2 fun i => ?_
      rw [List.mem_map,List.mem_range]
      constructor
      · rintro ⟨y,hy,rfl⟩; exact hlt y hy
      · intro hi
        obtain ⟨y,hy,he⟩ := List.any_eq_true.1 (List.all_eq_true.1 h5 i (List.mem_range.2 hi))
        exact ⟨y,hy,Nat.eq_of_beq_eq_true he⟩
    have := hperm.length_eq
    simpa using this
  have := planRun.wpTree hQ h1 h2 hsel l.length es t (Array.replicate l.length false) a w.drew hlen h4 hfit hcl hC h
  simpa using this
/-- An operation that may come at any place between those of a chain: all orders come to J. -/
theorem Go'.drawT {id : Nat} {l : List Oper} {σ : Type} (C : Mem → Prop) (J : σ → Mem → Prop) (q : σ → Env) (e : Nat) (es : List Nat) (t : PT) (hm : P.follows .mixedOrders = true) (hp : treeOk l e es t = true) (hC : C H)
    (h : ∀ {f Q k},(∀ x H',J x H' → Go' P B f Q n (q x) k H') → Tk P B f Q n l C k t r H) (hc : ∀ x H',J x H' → Go' P B f Q n (q x) k H') :
    Go' P B f Q n r (.code (.region id l.toArray true) :: k) H := fun d a ha =>
  Cont.of_wp (wp_of_tree e es t hm hp (fun _ _ h => ⟨rfl,h⟩) ⟨H,d + 1,rfl,hC⟩ (h hc (d + 1) a ha))
theorem Pk.quiet {i kd d : Nat} {op : Op} {ty : TypeId} {pos : String} {af : Array Edge} {gd : Option (Nat × Bool)} {v : Value} (hi : l[i]? = some ⟨some d,op,ty,pos,af,gd⟩) (hk : Nat.blt kd 2 = true)
    (hg : guardOn l r gd = true) (hd : Nat.blt d n = true)
    (hrun : ∀ a H' d',Sees n r a → hIn C kd H H' → (execOp a.eval ⟨some d,op,ty,pos,af,gd⟩).run P (mk B H' d') = .ok (.value v) (mk B H' d'))
    (h : Pk P B n l C K p ((d,v) :: r) H) : Pk P B n l C K ((i,kd) :: p) r H := fun dd a ha => by
  refine .inl ⟨by simpa using hk,_,v,hi,fun w' hw' => .inl ⟨guardOn_wanted ha hg,?_⟩,h dd _ (ha.put hd)⟩
  rcases hw' with ⟨h0,H',d',rfl,hC⟩ | ⟨h1,rfl⟩
  · exact hrun a H' d' ha (.inl ⟨h0,hC⟩)
  · exact hrun a H dd ha (.inr ⟨h1,rfl⟩)
theorem Pk.pass {i kd d : Nat} {op : Op} {ty : TypeId} {pos : String} {af : Array Edge} {gd : Option (Nat × Bool)} (hi : l[i]? = some ⟨some d,op,ty,pos,af,gd⟩) (hk : Nat.blt kd 2 = true)
    (hg : guardOff l r gd = true) (hd : Nat.blt d n = true) (h : Pk P B n l C K p ((d,undef) :: r) H) : Pk P B n l C K ((i,kd) :: p) r H := fun dd a ha =>
  .inl ⟨by simpa using hk,_,undef,hi,fun _ _ => .inr ⟨guardOff_wanted ha hg,rfl⟩,h dd _ (ha.put hd)⟩
theorem Pk.loudV {i kd d : Nat} {op : Op} {ty : TypeId} {pos : String} {af : Array Edge} {gd : Option (Nat × Bool)} (hi : l[i]? = some ⟨some d,op,ty,pos,af,gd⟩) (hk : Nat.blt 1 kd = true)
    (hg : guardOn l r gd = true) (hd : Nat.blt d n = true) (R : Value → Mem → Prop)
    (hrun : ∀ a d',Sees n r a → ∃ v H' d'',(execOp a.eval ⟨some d,op,ty,pos,af,gd⟩).run P (mk B H d') = .ok (.value v) (mk B H' d'') ∧ R v H')
    (h : ∀ v H',R v H' → C H' ∧ Pk P B n l C K p ((d,v) :: r) H') : Pk P B n l C K ((i,kd) :: p) r H := fun dd a ha => by
  obtain ⟨v,H',d'',h1,h2⟩ := hrun a dd ha
  obtain ⟨h3,h4⟩ := h v H' h2
  refine .inr ⟨Nat.succ_le_of_lt (by simpa using hk),_,hi,.inl ⟨guardOn_wanted ha hg,?_⟩⟩
  rw [h1]
  exact ⟨fun _ => ⟨H',d'',rfl,h3⟩,h4 d'' _ (ha.put hd)⟩
theorem Pk.loudN {i kd : Nat} {op : Op} {ty : TypeId} {pos : String} {af : Array Edge} {gd : Option (Nat × Bool)} (hi : l[i]? = some ⟨none,op,ty,pos,af,gd⟩) (hk : Nat.blt 1 kd = true)
    (hg : guardOn l r gd = true) (R : Mem → Prop)
    (hrun : ∀ a d',Sees n r a → ∃ H' d'',(execOp a.eval ⟨none,op,ty,pos,af,gd⟩).run P (mk B H d') = .ok .skip (mk B H' d'') ∧ R H')
    (h : ∀ H',R H' → C H' ∧ Pk P B n l C K p r H') : Pk P B n l C K ((i,kd) :: p) r H := fun dd a ha => by
  obtain ⟨H',d'',h1,h2⟩ := hrun a dd ha
  obtain ⟨h3,h4⟩ := h H' h2
  refine .inr ⟨Nat.succ_le_of_lt (by simpa using hk),_,hi,.inl ⟨guardOn_wanted ha hg,?_⟩⟩
  rw [h1]
  exact ⟨fun _ => ⟨H',d'',rfl,h3⟩,h4 d'' _ ha⟩
theorem Pk.enter {i kd : Nat} {dst : Option Tmp} {op : Op} {ty : TypeId} {pos : String} {af : Array Edge} {gd : Option (Nat × Bool)} {g : FuncId} {args : List Value} {R : Value → Mem → Prop} (hi : l[i]? = some ⟨dst,op,ty,pos,af,gd⟩)
    (hk : Nat.blt 1 kd = true) (hg : guardOn l r gd = true) (hd : (match dst with | some d => Nat.blt d n | none => true) = true)
    (hrun : ∀ a d',Sees n r a → (execOp a.eval ⟨dst,op,ty,pos,af,gd⟩).run P (mk B H d') = .ok (.enter g args.toArray) (mk B H d'))
    (hc : Fn P B g args H R) (h : ∀ v H',R v H' → C H' ∧ Pk P B n l C K p (match dst with | some d => (d,v) :: r | none => r) H') : Pk P B n l C K ((i,kd) :: p) r H := fun dd a ha => by
  refine .inr ⟨Nat.succ_le_of_lt (by simpa using hk),_,hi,.inl ⟨guardOn_wanted ha hg,?_⟩⟩
  rw [hrun a dd ha]
  refine (hc dd).mono fun e w' he => ?_
  cases e with
  | returned v =>
    obtain ⟨H',d',rfl,hR⟩ := he
    obtain ⟨h1,h2⟩ := h v H' hR
    refine ⟨fun _ => ⟨H',d',rfl,h1⟩,?_⟩
    cases dst with
    | none => exact h2 d' a ha
    | some d => exact h2 d' _ (ha.put hd)
  | panicked c => exact he
  | outgrown => exact he

variable {i kd d : Nat} {ty : TypeId} {pos : String} {af : Array Edge} {gd : Option (Nat × Bool)}
theorem Ok.mv {x : Operand} {v : Value} (hi : l[i]? = some ⟨some d,.move x,ty,pos,af,gd⟩) (hk : Nat.blt kd 2 = true) (hg : guardOn l r gd = true) (hd : Nat.blt d n = true) (hx : ev r x = some v)
    (h : Pk P B n l C K p ((d,v) :: r) H) : Pk P B n l C K ((i,kd) :: p) r H :=
  Pk.quiet hi hk hg hd (fun a H' d' ha _ => by simp [execOp,ha.eval hx]) h
theorem Ok.asg {x : Operand} {v : Value} (hi : l[i]? = some ⟨some d,.assign x,ty,pos,af,gd⟩) (hk : Nat.blt kd 2 = true) (hg : guardOn l r gd = true) (hd : Nat.blt d n = true) (hx : ev r x = some v)
    (h : Pk P B n l C K p ((d,v) :: r) H) : Pk P B n l C K ((i,kd) :: p) r H :=
  Pk.quiet hi hk hg hd (fun a H' d' ha _ => by simp [execOp,ha.eval hx]) h
theorem Ok.ld {t : TypeId} {x : Operand} {b o : Nat} {v : Value} (hi : l[i]? = some ⟨some d,.load t x,ty,pos,af,gd⟩) (hg : guardOn l r gd = true) (hd : Nat.blt d n = true) (ht : Flat P t)
    (hx : ev r x = some (.pointer (some ⟨b,o,none⟩))) (hc : cl H b o = some v) (h : Pk P B n l C K p ((d,v) :: r) H) : Pk P B n l C K ((i,1) :: p) r H :=
  Pk.quiet hi rfl hg hd (fun a H' d' ha hH => by
    obtain rfl : H' = H := hH.elim (fun h => absurd h.1 (by decide)) (fun h => h.2)
    simp [execOp,ha.eval hx,Instr.loadAt,Instr.sureAddr,run_loadVar_flat ht hc]) h
theorem Ok.ldC {t : TypeId} {x : Operand} {b o : Nat} {v : Value} (hi : l[i]? = some ⟨some d,.load t x,ty,pos,af,gd⟩) (hg : guardOn l r gd = true) (hd : Nat.blt d n = true) (ht : Flat P t)
    (hx : ev r x = some (.pointer (some ⟨b,o,none⟩))) (hc : ∀ H',C H' → cl H' b o = some v) (h : Pk P B n l C K p ((d,v) :: r) H) : Pk P B n l C K ((i,0) :: p) r H :=
  Pk.quiet hi rfl hg hd (fun a H' d' ha hH => by
    have hC : C H' := hH.elim (fun h => h.2) (fun h => absurd h.1 (by decide))
    simp [execOp,ha.eval hx,Instr.loadAt,Instr.sureAddr,run_loadVar_flat ht (hc H' hC)]) h
theorem Ok.lds {t : TypeId} {x : Operand} {b o s : Nat} {vs : List Value} (hi : l[i]? = some ⟨some d,.load t x,ty,pos,af,gd⟩) (hg : guardOn l r gd = true) (hd : Nat.blt d n = true) (ht : AggT P t s)
    (hx : ev r x = some (.pointer (some ⟨b,o,none⟩))) (hl : vs.length = s) (hc : Rd H b o vs) (h : Pk P B n l C K p ((d,.agg vs.toArray) :: r) H) : Pk P B n l C K ((i,1) :: p) r H :=
  Pk.quiet hi rfl hg hd (fun a H' d' ha hH => by
    obtain rfl : H' = H := hH.elim (fun h => absurd h.1 (by decide)) (fun h => h.2)
    simp [execOp,ha.eval hx,Instr.loadAt,Instr.sureAddr,run_loadVar_agg ht hl hc]) h
theorem Ok.ldsC {t : TypeId} {x : Operand} {b o s : Nat} {vs : List Value} (hi : l[i]? = some ⟨some d,.load t x,ty,pos,af,gd⟩) (hg : guardOn l r gd = true) (hd : Nat.blt d n = true) (ht : AggT P t s)
    (hx : ev r x = some (.pointer (some ⟨b,o,none⟩))) (hl : vs.length = s) (hc : ∀ H',C H' → Rd H' b o vs) (h : Pk P B n l C K p ((d,.agg vs.toArray) :: r) H) : Pk P B n l C K ((i,0) :: p) r H :=
  Pk.quiet hi rfl hg hd (fun a H' d' ha hH => by
    have hC : C H' := hH.elim (fun h => h.2) (fun h => absurd h.1 (by decide))
    simp [execOp,ha.eval hx,Instr.loadAt,Instr.sureAddr,run_loadVar_agg ht hl (hc H' hC)]) h
theorem Ok.alloc {t : TypeId} {z : Value} (hi : l[i]? = some ⟨some d,.alloc t,ty,pos,af,gd⟩) (hg : guardOn l r gd = true) (hd : Nat.blt d n = true) (hz : Zero P t z)
    (h : ∀ H',Made H H' z.cells t → C H' ∧ Pk P B n l C K p ((d,.pointer (some ⟨H.size,0,none⟩)) :: r) H') : Pk P B n l C K ((i,2) :: p) r H :=
  Pk.loudV hi rfl hg hd (fun v H' => v = .pointer (some ⟨H.size,0,none⟩) ∧ Made H H' z.cells t)
    (fun a d' _ => ⟨_,H.push (.cells z.cells t),d',by simp [execOp,Instr.alloc,hz _,newVar,newRow]; exact ⟨rfl,rfl⟩,rfl,made_push _ _ _⟩) (fun v H' hv => by obtain ⟨rfl,hm⟩ := hv; exact h H' hm)
theorem Ok.box {t : TypeId} {x : Operand} {v : Value} (hi : l[i]? = some ⟨some d,.box t x,ty,pos,af,gd⟩) (hg : guardOn l r gd = true) (hd : Nat.blt d n = true) (hx : ev r x = some v)
    (h : ∀ H',Made H H' v.cells t → C H' ∧ Pk P B n l C K p ((d,.pointer (some ⟨H.size,0,none⟩)) :: r) H') : Pk P B n l C K ((i,2) :: p) r H :=
  Pk.loudV hi rfl hg hd (fun u H' => u = .pointer (some ⟨H.size,0,none⟩) ∧ Made H H' v.cells t)
    (fun a d' ha => ⟨_,H.push (.cells v.cells t),d',by simp [execOp,Instr.box,ha.eval hx,newVar,newRow]; exact ⟨rfl,rfl⟩,rfl,made_push _ _ _⟩) (fun u H' hv => by obtain ⟨rfl,hm⟩ := hv; exact h H' hm)
theorem Ok.st {t : TypeId} {x y : Operand} {b o s : Nat} {v : Value} {vs : List Value} (hi : l[i]? = some ⟨none,.store t x y,ty,pos,af,gd⟩) (hg : guardOn l r gd = true) (ht : Sz P t s)
    (hx : ev r x = some (.pointer (some ⟨b,o,none⟩))) (hy : ev r y = some v) (hv : v.cells = vs.toArray) (hl : vs.length = s) (h1 : ones vs = true) (hw : Wr H b o s)
    (h : ∀ H',Wrote H H' b o vs → C H' ∧ Pk P B n l C K p r H') : Pk P B n l C K ((i,2) :: p) r H :=
  Pk.loudN hi rfl hg (fun H' => Wrote H H' b o vs)
    (fun a d' ha => ⟨setcs H b o vs,d',by simp [execOp,ha.eval hx,ha.eval hy,Instr.storeAt,Instr.sureAddr,run_storeVar ht hv hl h1 hw],setcs_wrote vs H b o (hl ▸ hw)⟩) h
theorem Ok.call {g : FuncId} {as : List Operand} {ts : Array TypeId} {vs : List Value} {R : Value → Mem → Prop} (hi : l[i]? = some ⟨some d,.call ⟨.value (.func g),as.toArray,ts⟩,ty,pos,af,gd⟩)
    (hg : guardOn l r gd = true) (hd : Nat.blt d n = true) (hcall : ∀ (args : Array Value) (w : World),(callFunc g args).run P w = .ok (.enter g args) w) (ha : evs r as = some vs)
    (hc : Fn P B g vs H R) (h : ∀ v H',R v H' → C H' ∧ Pk P B n l C K p ((d,v) :: r) H') : Pk P B n l C K ((i,2) :: p) r H :=
  Pk.enter hi rfl hg (by exact hd) (fun a d' hs => by
    have h1 := hs.evals ha
    have h2 : a.eval (.func g) = .func (.func g) #[] #[] := rfl
    simp only [execOp,resolve,h2,Deferred.ofValue,Sem.run_bind,Sem.run_pure,Result.andThen_ok,invoke,hcall]
    rw [← h1]
    simp) hc h
theorem Ok.callC {x : Operand} {g : FuncId} {as : List Operand} {ts : Array TypeId} {vs us caps : List Value} {R : Value → Mem → Prop} (hi : l[i]? = some ⟨some d,.call ⟨.value x,as.toArray,ts⟩,ty,pos,af,gd⟩)
    (hg : guardOn l r gd = true) (hd : Nat.blt d n = true) (hx : ev r x = some (.func (.func g) us.toArray caps.toArray)) (hcall : ∀ (args : Array Value) (w : World),(callFunc g args).run P w = .ok (.enter g args) w) (ha : evs r as = some vs)
    (hc : Fn P B g (us ++ vs ++ caps) H R) (h : ∀ v H',R v H' → C H' ∧ Pk P B n l C K p ((d,v) :: r) H') : Pk P B n l C K ((i,2) :: p) r H :=
  Pk.enter hi rfl hg (by exact hd) (fun a d' hs => by
    have h1 := hs.evals ha
    have h2 := hs.eval hx
    simp only [execOp,resolve,h2,Deferred.ofValue,Sem.run_bind,Sem.run_pure,Result.andThen_ok,invoke,hcall]
    rw [← h1]
    simp) hc h
theorem Ok.callQ {g : FuncId} {as : List Operand} {ts : Array TypeId} {vs : List Value} {v : Value} (hi : l[i]? = some ⟨some d,.call ⟨.value (.func g),as.toArray,ts⟩,ty,pos,af,gd⟩)
    (hg : guardOn l r gd = true) (hd : Nat.blt d n = true) (hcall : ∀ (args : Array Value) (w : World),(callFunc g args).run P w = .ok (.enter g args) w) (ha : evs r as = some vs)
    (hc : Fn P B g vs H (fun u H' => u = v ∧ H' = H)) (hC : C H) (h : Pk P B n l C K p ((d,v) :: r) H) : Pk P B n l C K ((i,2) :: p) r H :=
  Ok.call hi hg hd hcall ha hc fun u H' hu => by obtain ⟨rfl,rfl⟩ := hu; exact ⟨hC,h⟩
theorem Ok.fa {s : TypeId} {x : Operand} {b o fld off : Nat} (hi : l[i]? = some ⟨some d,.fieldAddr s x fld,ty,pos,af,gd⟩) (hk : Nat.blt kd 2 = true) (hg : guardOn l r gd = true) (hd : Nat.blt d n = true) (hf : FieldAt P s fld off)
    (hx : ev r x = some (.pointer (some ⟨b,o,none⟩))) (h : Pk P B n l C K p ((d,.pointer (some ⟨b,o + off,none⟩)) :: r) H) : Pk P B n l C K ((i,kd) :: p) r H :=
  Pk.quiet hi hk hg hd (fun a H' d' ha _ => by simp [execOp,ha.eval hx,run_fieldAt hf]) h
theorem Ok.fa0 {s : TypeId} {x : Operand} {b fld off : Nat} (hi : l[i]? = some ⟨some d,.fieldAddr s x fld,ty,pos,af,gd⟩) (hk : Nat.blt kd 2 = true) (hg : guardOn l r gd = true) (hd : Nat.blt d n = true) (hf : FieldAt P s fld off)
    (hx : ev r x = some (.pointer (some ⟨b,0,none⟩))) (h : Pk P B n l C K p ((d,.pointer (some ⟨b,off,none⟩)) :: r) H) : Pk P B n l C K ((i,kd) :: p) r H :=
  Ok.fa hi hk hg hd hf hx (by rw [Nat.zero_add]; exact h)
theorem Ok.faz {s : TypeId} {x : Operand} {b o fld : Nat} (hi : l[i]? = some ⟨some d,.fieldAddr s x fld,ty,pos,af,gd⟩) (hk : Nat.blt kd 2 = true) (hg : guardOn l r gd = true) (hd : Nat.blt d n = true) (hf : FieldAt P s fld 0)
    (hx : ev r x = some (.pointer (some ⟨b,o,none⟩))) (h : Pk P B n l C K p ((d,.pointer (some ⟨b,o,none⟩)) :: r) H) : Pk P B n l C K ((i,kd) :: p) r H :=
  Ok.fa hi hk hg hd hf hx h
theorem Ok.nc {x : Operand} {ad : Addr} (hi : l[i]? = some ⟨some d,.nilCheck x,ty,pos,af,gd⟩) (hk : Nat.blt kd 2 = true) (hg : guardOn l r gd = true) (hd : Nat.blt d n = true) (hx : ev r x = some (.pointer (some ad)))
    (h : Pk P B n l C K p ((d,.pointer (some ad)) :: r) H) : Pk P B n l C K ((i,kd) :: p) r H :=
  Pk.quiet hi hk hg hd (fun a H' d' ha _ => by simp [execOp,ha.eval hx]) h
theorem Ok.ext {x : Operand} {vs : Array Value} {v : Value} {ix : Nat} (hi : l[i]? = some ⟨some d,.extract x ix,ty,pos,af,gd⟩) (hk : Nat.blt kd 2 = true) (hg : guardOn l r gd = true) (hd : Nat.blt d n = true) (hx : ev r x = some (.tuple vs))
    (hv : vs[ix]? = some v) (h : Pk P B n l C K p ((d,v) :: r) H) : Pk P B n l C K ((i,kd) :: p) r H :=
  Pk.quiet hi hk hg hd (fun a H' d' ha _ => by simp [execOp,ha.eval hx,Instr.extract,hv]) h
theorem Ok.bin {op : BinOp} {t t' : TypeId} {x y : Operand} {a b : Value} {v : Value} (hi : l[i]? = some ⟨some d,.binOp op t x y t',ty,pos,af,gd⟩) (hk : Nat.blt kd 2 = true) (hg : guardOn l r gd = true) (hd : Nat.blt d n = true)
    (hx : ev r x = some a) (hy : ev r y = some b) (hr : ∀ w,(eqGuard op t x y a b).run P w = .ok () w ∧ (binOp op t a b).run P w = .ok v w) (h : Pk P B n l C K p ((d,v) :: r) H) : Pk P B n l C K ((i,kd) :: p) r H :=
  Pk.quiet hi hk hg hd (fun a H' d' ha _ => by simp [execOp,ha.eval hx,ha.eval hy,hr]) h
theorem Ok.mki {t : TypeId} {x : Operand} {v : Value} {td : TypeDesc} (hi : l[i]? = some ⟨some d,.makeInterface t x,ty,pos,af,gd⟩) (hk : Nat.blt kd 2 = true) (hg : guardOn l r gd = true) (hd : Nat.blt d n = true)
    (hu : P.underlying t = some td) (hn : (match td with | .interface _ => false | _ => true) = true) (hx : ev r x = some v) (h : Pk P B n l C K p ((d,.iface t v) :: r) H) : Pk P B n l C K ((i,kd) :: p) r H :=
  Pk.quiet hi hk hg hd (fun a H' d' ha _ => by
    simp only [execOp,Instr.makeInterface,Sem.run_bind,run_und hu,Result.andThen_ok,ha.eval hx]
    cases td <;> simp_all) h
theorem Ok.mkf {fn : Go.Fn} {xs ys : List Operand} {us vs : List Value} (hi : l[i]? = some ⟨some d,.makeFunc fn xs.toArray ys.toArray,ty,pos,af,gd⟩) (hk : Nat.blt kd 2 = true) (hg : guardOn l r gd = true) (hd : Nat.blt d n = true)
    (hx : evs r xs = some us) (hy : evs r ys = some vs) (h : Pk P B n l C K p ((d,.func fn us.toArray vs.toArray) :: r) H) : Pk P B n l C K ((i,kd) :: p) r H :=
  Pk.quiet hi hk hg hd (fun a H' d' ha _ => by
    have h1 := ha.evals hx
    have h2 := ha.evals hy
    simp only [execOp,Sem.run_bind,Instr.makeFunc,Sem.run_pure,Result.andThen_ok]
    rw [← h1,← h2]; simp) h
end
end Go.Bt
