/- The program logic: what it means that a frame, at a given list of things to do, runs on to a return; and its rules for code. Conditions: none. -/
import Derived.Orders
import Derived.Tactics
import Derived.Scope
import Derived.KernelRfl
namespace Go.Bt
open Go

/-! ### What is known of a frame's slots -/
abbrev Env := List (Nat × Value)

def Env.get : Env → Nat → Option Value
  | [], _ => none
  | (k, v) :: r, t => match Nat.beq k t with
    | true => some v
    | false => Env.get r t

def Sees (n : Nat) (r : Env) (a : Act) : Prop :=
  a.defers = [] ∧ a.tmps.size = n ∧ ∀ t v, r.get t = some v → a.tmps[t]? = some v

def ev (r : Env) : Operand → Option Value
  | .tmp t => r.get t
  | .const v => some v
  | .global g => some (.pointer (some ⟨g, 0, none⟩))
  | .func f => some (.func (.func f) #[] #[])

def evs (r : Env) : List Operand → Option (List Value)
  | [] => some []
  | x :: xs => match ev r x, evs r xs with
    | some v, some vs => some (v :: vs)
    | _, _ => none

theorem Sees.eval {n : Nat} {r : Env} {a : Act} (h : Sees n r a) {x : Operand} {v : Value} (hx : ev r x = some v) : a.eval x = v := by
  cases x with
  | tmp t => have := h.2.2 t v hx; simp [Act.eval, this]
  | const u => simpa [ev, Act.eval] using hx
  | global g => simpa [ev, Act.eval] using hx
  | func f => simpa [ev, Act.eval] using hx

theorem Sees.evals {n : Nat} {r : Env} {a : Act} (h : Sees n r a) : ∀ {xs : List Operand} {vs : List Value}, evs r xs = some vs → xs.map a.eval = vs
  | [], vs, hx => by simp only [evs, Option.some.injEq] at hx; simpa using hx
  | x :: xs, vs, hx => by
    simp only [evs] at hx
    split at hx
    · rename_i v ws h1 h2
      simp only [Option.some.injEq] at hx
      subst hx
      simp [h.eval h1, Sees.evals h h2]
    · cases hx

theorem Sees.put {n : Nat} {r : Env} {a : Act} (h : Sees n r a) {d : Nat} {v : Value} (hd : Nat.blt d n = true) : Sees n ((d, v) :: r) (a.put (some d) v) := by
  have hd' : d < n := by simpa using hd
  refine ⟨h.1, by simp [Act.put, h.2.1], fun t u hu => ?_⟩
  simp only [Env.get] at hu
  simp only [Act.put]
  by_cases hdt : d = t
  · subst hdt
    simp only [Nat.beq_refl, Option.some.injEq] at hu
    subst hu
    simp [h.2.1, hd']
  · have hb : Nat.beq d t = false := by
      cases hb : Nat.beq d t with
      | false => rfl
      | true => exact absurd (Nat.eq_of_beq_eq_true hb) hdt
    rw [hb] at hu
    rw [Array.getElem?_setIfInBounds_ne hdt]
    exact h.2.2 t u hu

/-- Every binding of the first list is one of the second. -/
def Env.Sub : Env → Env → Prop
  | [], _ => True
  | (k, v) :: q, r => Env.get r k = some v ∧ Env.Sub q r

theorem Env.Sub.get {r : Env} : ∀ {q : Env}, Env.Sub q r → ∀ t v, Env.get q t = some v → Env.get r t = some v
  | [], _, t, v, h => by simp [Env.get] at h
  | (k, u) :: q, hs, t, v, h => by
    simp only [Env.get] at h
    split at h
    · rename_i hb
      have := Nat.eq_of_beq_eq_true hb
      subst this
      simp only [Option.some.injEq] at h
      subst h
      exact hs.1
    · exact Env.Sub.get hs.2 t v h

theorem Sees.sub {n : Nat} {r q : Env} {a : Act} (h : Sees n r a) (hs : Env.Sub q r) : Sees n q a := ⟨h.1, h.2.1, fun t v hq => h.2.2 t v (hs.get t v hq)⟩

/-! ### A frame that runs on to a return -/
abbrev Post := Value → World → Prop

def Ret (R : Post) : Ending → World → Prop
  | .returned v, w => R v w
  | _, _ => False

/-- From this list of things to do, in this frame, the call comes to a return of which R holds. -/
def Cont (P : Program) (f : FuncId) (R : Post) (todo : List Item) (a : Act) (w : World) : Prop :=
  ∀ (b : Frame) (cs : List Frame), b.fn = f → b.kind = .normal →
    ∃ v w' fr, R v w' ∧ Steps P (lone (b.at a todo) cs w) (lone fr cs w') ∧ fr.fn = f ∧ fr.leaving P w' (.returned v)

/-- The same, in every frame of which this much is known. -/
def Run (P : Program) (f : FuncId) (R : Post) (n : Nat) (r : Env) (todo : List Item) (w : World) : Prop :=
  ∀ a, Sees n r a → Cont P f R todo a w

theorem Cont.head {P : Program} {f : FuncId} {R : Post} {k k' : List Item} {a : Act} {w w' : World} (h : Cont P f R k' a w')
    (hs : ∀ (b : Frame) (cs : List Frame), step P (lone (b.at a k) cs w) = .next (lone (b.at a k') cs w')) : Cont P f R k a w := fun b cs hb hk =>
  let ⟨v, w'', fr, h1, h2, h3, h4⟩ := h b cs hb hk
  ⟨v, w'', fr, h1, .head (hs b cs) h2, h3, h4⟩

section rules
variable {P : Program} {f : FuncId} {R : Post} {n : Nat} {r : Env} {k : List Item} {w : World}

theorem Run.keep (q : Env) (hs : Env.Sub q r) (h : Run P f R n q k w) : Run P f R n r k w := fun a ha => h a (ha.sub hs)

theorem Run.skip (h : Run P f R n r k w) : Run P f R n r (.code .skip :: k) w := fun a ha => (h a ha).head fun _ _ => step_skip
theorem Run.label {l : Nat} (h : Run P f R n r k w) : Run P f R n r (.code (.label l) :: k) w := fun a ha => (h a ha).head fun _ _ => step_label
theorem Run.inBlock {id : Nat} (h : Run P f R n r k w) : Run P f R n r (.inBlock id :: k) w := fun a ha => (h a ha).head fun _ _ => step_inBlock
theorem Run.seq {x y : Code} (h : Run P f R n r (.code x :: .code y :: k) w) : Run P f R n r (.code (.seq x y) :: k) w := fun a ha => (h a ha).head fun _ _ => step_seq
theorem Run.block {id : Nat} {c : Code} (h : Run P f R n r (.code c :: .inBlock id :: k) w) : Run P f R n r (.code (.block id c) :: k) w := fun a ha => (h a ha).head fun _ _ => step_block
theorem Run.loop {c : Code} (h : Run P f R n r (.code c :: .inLoop c :: k) w) : Run P f R n r (.code (.loop c) :: k) w := fun a ha => (h a ha).head fun _ _ => step_loop
theorem Run.inLoop {c : Code} (h : Run P f R n r (.code c :: .inLoop c :: k) w) : Run P f R n r (.inLoop c :: k) w := fun a ha => (h a ha).head fun _ _ => step_inLoop
theorem Run.scope {c : Code} (h : Run P f R n r (.code c :: .inScope c :: k) w) : Run P f R n r (.code (.scope c) :: k) w := fun a ha => (h a ha).head fun _ _ => step_scope
theorem Run.inScope {c : Code} (h : Run P f R n r k w) : Run P f R n r (.inScope c :: k) w := fun a ha => (h a ha).head fun _ _ => step_inScope
theorem Run.exit {id : Nat} {k' : List Item} (hx : exitTo id k = some k') (h : Run P f R n r k' w) : Run P f R n r (.code (.exit id) :: k) w :=
  fun a ha => (h a ha).head fun _ _ => step_exit hx
theorem Run.goto {l : Nat} {k' : List Item} (hx : gotoIn l k = some k') (h : Run P f R n r k' w) : Run P f R n r (.code (.goto l) :: k) w :=
  fun a ha => (h a ha).head fun _ _ => step_goto hx
theorem Run.cond {c : Operand} {x y : Code} {t : Bool} (hc : ev r c = some (.bool t)) (h : Run P f R n r (.code (bif t then x else y) :: k) w) : Run P f R n r (.code (.cond c x y) :: k) w :=
  fun a ha => (h a ha).head fun _ _ => by rw [step_cond (ha.eval hc)]; cases t <;> rfl
theorem Run.condT {c : Operand} {x y : Code} (hc : ev r c = some (.bool true)) (h : Run P f R n r (.code x :: k) w) : Run P f R n r (.code (.cond c x y) :: k) w := Run.cond hc h
theorem Run.condF {c : Operand} {x y : Code} (hc : ev r c = some (.bool false)) (h : Run P f R n r (.code y :: k) w) : Run P f R n r (.code (.cond c x y) :: k) w := Run.cond hc h

/-! The end of a call. -/
def resOf (P : Program) (r : Env) (w : World) : List ResultVar → List Value → Prop
  | [], [] => True
  | .tmp t :: rs, v :: vs => r.get t = some v ∧ resOf P r w rs vs
  | .cell t ty :: rs, v :: vs => (∃ p, r.get t = some (.pointer (some p)) ∧ (loadVar ty p).run P w = .ok v w) ∧ resOf P r w rs vs
  | _, _ => False

def resOne (a : Act) : ResultVar → Sem Value
  | .tmp t => pure (a.tmps.getD t undef)
  | .cell c t => do loadVar t (← asAddr (a.tmps.getD c undef))

theorem run_mapM_results {a : Act} (ha : Sees n r a) : ∀ (rs : List ResultVar) (vs : List Value), resOf P r w rs vs → (rs.mapM (resOne a)).run P w = .ok vs w
  | [], [], _ => by simp
  | [], _ :: _, h => by simp [resOf] at h
  | .tmp t :: rs, [], h => by simp [resOf] at h
  | .cell t ty :: rs, [], h => by simp [resOf] at h
  | .tmp t :: rs, v :: vs, h => by
    obtain ⟨h1, h2⟩ := h
    have h3 := ha.2.2 t v h1
    have ih := run_mapM_results ha rs vs h2
    have h4 : (resOne a (.tmp t)).run P w = .ok v w := by simp [resOne, h3]
    simp only [List.mapM_cons, Sem.run_bind, h4, Result.andThen_ok, ih, Sem.run_pure]
  | .cell t ty :: rs, v :: vs, h => by
    obtain ⟨⟨p, h1, hl⟩, h2⟩ := h
    have h3 := ha.2.2 t _ h1
    have ih := run_mapM_results ha rs vs h2
    have h4 : (resOne a (.cell t ty)).run P w = .ok v w := by simp [resOne, h3, asAddr, hl]
    simp only [List.mapM_cons, Sem.run_bind, h4, Result.andThen_ok, ih, Sem.run_pure]

def resVal : List Value → Value
  | [v] => v
  | vs => .tuple vs.toArray

theorem run_results {a : Act} {fn : Func} {rs : List ResultVar} {vs : List Value} (ha : Sees n r a) (hr : fn.results = rs.toArray) (h : resOf P r w rs vs) :
    (results fn a.tmps).run P w = .ok (resVal vs) w := by
  have h1 := run_mapM_results ha rs vs h
  have h2 : results fn a.tmps = (do
      let us ← fn.results.mapM (resOne a)
      pure (if h : us.size = 1 then us[0] else .tuple us)) := rfl
  rw [h2, hr, List.mapM_toArray]
  simp only [Sem.run_bind, Sem.run_map, h1, Result.andThen_ok, Sem.run_pure]
  rcases vs with _ | ⟨v, _ | ⟨u, vs⟩⟩ <;> simp [resVal]

theorem Cont.leave {a : Act} {fn : Func} {v : Value} {x : List Item} (hf : P.funcs[f]? = some fn) (hd : a.defers = []) (hv : (results fn a.tmps).run P w = .ok v w) (hR : R v w)
    (hs : ∀ (b : Frame) (cs : List Frame), step P (lone (b.at a x) cs w) = .next (lone { b.at a x with mode := .returning } cs w)) : Cont P f R x a w := fun b cs hb hk => by
  refine ⟨v, w, { b.at a x with mode := .returning }, hR, .one (hs b cs), hb, rfl, hd, hk, fn, ?_, hv⟩
  show P.funcs[b.fn]? = some fn
  rw [hb]; exact hf

theorem Run.ret {fn : Func} {rs : List ResultVar} {vs : List Value} (hf : P.funcs[f]? = some fn) (hr : fn.results = rs.toArray) (h : resOf P r w rs vs) (hR : R (resVal vs) w) :
    Run P f R n r (.code .ret :: k) w := fun _ ha => Cont.leave hf ha.1 (run_results ha hr h) hR fun _ _ => step_ret
theorem Run.fall {fn : Func} {rs : List ResultVar} {vs : List Value} (hf : P.funcs[f]? = some fn) (hr : fn.results = rs.toArray) (h : resOf P r w rs vs) (hR : R (resVal vs) w) :
    Run P f R n r [] w := fun _ ha => Cont.leave hf ha.1 (run_results ha hr h) hR fun _ _ => step_end

/-! The beginning of a call. -/
def argEnv : Nat → List Value → Env
  | _, [] => []
  | i, v :: vs => (i, v) :: argEnv (i + 1) vs

theorem argEnv_get : ∀ (vs : List Value) (i t : Nat) (v : Value), (argEnv i vs).get t = some v → i ≤ t ∧ vs[t - i]? = some v
  | [], _, _, _, h => by simp [argEnv, Env.get] at h
  | u :: vs, i, t, v, h => by
    simp only [argEnv, Env.get] at h
    split at h
    · rename_i hb
      have := Nat.eq_of_beq_eq_true hb
      subst this
      simp only [Option.some.injEq] at h
      subst h
      simp
    · rename_i hb
      obtain ⟨h1, h2⟩ := argEnv_get vs (i + 1) t v h
      refine ⟨by omega, ?_⟩
      rw [show t - i = (t - (i + 1)) + 1 by omega]
      simpa using h2

theorem calls_of_run {fn : Func} {c : Code} {vs : List Value} {m : Nat} (hf : P.funcs[f]? = some fn) (hb : fn.body = some c) (hn : fn.ntmps = m)
    (h : Run P f R (vs.length + (m - vs.length)) (argEnv 0 vs) [.code c] w) : Calls P f vs.toArray w (Ret R) := by
  intro cs
  let b : Frame := { (default : Frame) with fn := f, kind := .normal }
  have henter : Frame.enter P f vs.toArray .normal =
      b.at { tmps := vs.toArray ++ Array.replicate (fn.ntmps - vs.toArray.size) undef, defers := [] } [.code c] := by
    simp [Frame.enter, Frame.at, hf, hb, b]
  have hs : Sees (vs.length + (m - vs.length)) (argEnv 0 vs) { tmps := vs.toArray ++ Array.replicate (fn.ntmps - vs.toArray.size) undef, defers := [] } := by
    refine ⟨rfl, by simp [hn], fun t v ht => ?_⟩
    obtain ⟨_, h2⟩ := argEnv_get vs 0 t v ht
    have h3 : vs[t]? = some v := by simpa using h2
    have h4 : t < vs.length := (List.getElem?_eq_some_iff.1 h3).1
    rw [Array.getElem?_append_left (by simpa using h4)]
    simpa using h3
  obtain ⟨v, w', fr, h1, h2, h3, h4⟩ := h _ hs b cs rfl rfl
  rw [henter]
  exact ⟨.returned v, w', fr, h1, h2, h3, h4⟩
end rules
end Go.Bt
