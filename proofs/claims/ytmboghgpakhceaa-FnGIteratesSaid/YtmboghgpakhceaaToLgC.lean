/- The program logic: one rule for each kind of operation. Conditions: those that each rule names. -/
import Derived.IntWalk
import Derived.Test.YtmboghgpakhceaaToLgH
namespace Go.Bt
open Go

/-! What is to be known of a type. -/
def Flat (P : Program) (t : TypeId) : Prop := ∀ w, (isAgg t).run P w = .ok false w ∧ (sizeOf t).run P w = .ok 1 w
def AggT (P : Program) (t : TypeId) (s : Nat) : Prop := ∀ w, (isAgg t).run P w = .ok true w ∧ (sizeOf t).run P w = .ok s w
def Sz (P : Program) (t : TypeId) (s : Nat) : Prop := ∀ w, (sizeOf t).run P w = .ok s w
def Zero (P : Program) (t : TypeId) (v : Value) : Prop := ∀ w, (zeroValue t).run P w = .ok v w
def FieldAt (P : Program) (s : TypeId) (f off : Nat) : Prop := ∃ fs fd sz, P.underlying s = some (.struct fs) ∧ fs[f]? = some fd ∧ fd.offset = off ∧ Sz P fd.type (sz + 1)

theorem wrap_id {z : Int} (h : -9223372036854775808 ≤ z ∧ z < 9223372036854775808) : IntKind.i64.wrap z = z := IntWalk.i64_in z (by omega)

/-! ### The runs -/
section
variable {P : Program} {B : World} {H : Mem} {d : Nat}

theorem run_und {t : TypeId} {x : TypeDesc} (h : P.underlying t = some x) (w : World) : (underlying t).run P w = .ok x w := run_underlying h w

theorem run_loadVar_flat {t : TypeId} {b o : Nat} {v : Value} (ht : Flat P t) (hc : cl H b o = some v) : (loadVar t ⟨b, o, none⟩).run P (mk B H d) = .ok v (mk B H d) := by
  simp only [loadVar, Sem.run_bind, (ht _).1, Result.andThen_ok, Bool.false_eq_true, if_false, run_load, mk_cell, hc]

theorem run_loadVar_agg {t : TypeId} {b o s : Nat} {vs : List Value} (ht : AggT P t s) (hl : vs.length = s) (hc : Rd H b o vs) : (loadVar t ⟨b, o, none⟩).run P (mk B H d) = .ok (.agg vs.toArray) (mk B H d) := by
  subst hl
  simp only [loadVar, Sem.run_bind, (ht _).1, (ht _).2, Result.andThen_ok, if_true, run_loads P B H d b o vs hc, Sem.run_pure]

theorem run_storeVar {t : TypeId} {b o s : Nat} {v : Value} {vs : List Value} (ht : Sz P t s) (hv : v.cells = vs.toArray) (hl : vs.length = s) (h1 : ones vs = true) (hw : Wr H b o s) :
    (storeVar t ⟨b, o, none⟩ v).run P (mk B H d) = .ok () (mk B (setcs H b o vs) d) := by
  subst hl
  have := run_stores P B d b vs H o 0 (by simpa using hw) h1
  simp only [Nat.add_zero] at this
  simp [storeVar, ht _, hv, this]

theorem run_fieldAt {s : TypeId} {f off b o : Nat} (h : FieldAt P s f off) (w : World) : (Instr.fieldAt s (.pointer (some ⟨b, o, none⟩)) f).run P w = .ok (.pointer (some ⟨b, o + off, none⟩)) w := by
  obtain ⟨fs, fd, sz, h1, h2, h3, h4⟩ := h
  subst h3
  simp [Instr.fieldAt, run_und h1, h2, Instr.sureAddr, fieldPlace, h4 _, Addr.add_lit]

theorem run_indexAt {t e : TypeId} {s b o len cap i : Nat} {kk : IntKind} (hu : P.underlying t = some (.slice e)) (hs : Sz P e s) (hi : i < len) (w : World) :
    (Instr.indexAt t (.slice (some ⟨b, o, none⟩) len cap) (.int kk (i : Int))).run P w = .ok (.pointer (some ⟨b, o + i * s, none⟩)) w := by
  have h : (0 : Int) ≤ (i : Int) ∧ (i : Int) < (len : Int) := by omega
  simp only [Instr.indexAt, asIntOf, Sem.run_bind, Sem.run_pure, Result.andThen_ok, run_und hu, if_pos h, hs _, Int.toNat_natCast, Addr.add_lit]

end

section
variable {P : Program} {B : World} {f : FuncId} {Q : Value → Mem → Prop} {n : Nat} {r : Env} {k : List Item} {H : Mem} {l : List Oper} {C : Mem → Prop} {p : List (Nat × Nat)}
variable {i kd d : Nat} {ty : TypeId} {pos : String} {af : Array Edge} {gd : Option (Nat × Bool)}

theorem O.mv {x : Operand} {v : Value} (hi : l[i]? = some ⟨some d, .move x, ty, pos, af, gd⟩) (hk : Nat.blt kd 2 = true) (hg : guardOn l r gd = true) (hd : Nat.blt d n = true) (hx : ev r x = some v)
    (h : Pl P B f Q n l C k p ((d, v) :: r) H) : Pl P B f Q n l C k ((i, kd) :: p) r H :=
  Pl.quiet hi hk hg hd (fun a H' d' ha _ => by simp [execOp, ha.eval hx]) h

theorem O.asg {x : Operand} {v : Value} (hi : l[i]? = some ⟨some d, .assign x, ty, pos, af, gd⟩) (hk : Nat.blt kd 2 = true) (hg : guardOn l r gd = true) (hd : Nat.blt d n = true) (hx : ev r x = some v)
    (h : Pl P B f Q n l C k p ((d, v) :: r) H) : Pl P B f Q n l C k ((i, kd) :: p) r H :=
  Pl.quiet hi hk hg hd (fun a H' d' ha _ => by simp [execOp, ha.eval hx]) h

theorem O.pick {c x y : Operand} {t : Bool} {v : Value} (hi : l[i]? = some ⟨some d, .pick c x y, ty, pos, af, gd⟩) (hk : Nat.blt kd 2 = true) (hg : guardOn l r gd = true) (hd : Nat.blt d n = true) (hc : ev r c = some (.bool t))
    (hx : ev r (bif t then x else y) = some v) (h : Pl P B f Q n l C k p ((d, v) :: r) H) : Pl P B f Q n l C k ((i, kd) :: p) r H :=
  Pl.quiet hi hk hg hd (fun a H' d' ha _ => by
    have := ha.eval hx
    cases t <;> simp_all [execOp, ha.eval hc, asBool]) h

/-- A load of one cell, in the heap in which it stands. -/
theorem O.ld {t : TypeId} {x : Operand} {b o : Nat} {v : Value} (hi : l[i]? = some ⟨some d, .load t x, ty, pos, af, gd⟩) (hg : guardOn l r gd = true) (hd : Nat.blt d n = true) (ht : Flat P t)
    (hx : ev r x = some (.pointer (some ⟨b, o, none⟩))) (hc : cl H b o = some v) (h : Pl P B f Q n l C k p ((d, v) :: r) H) : Pl P B f Q n l C k ((i, 1) :: p) r H :=
  Pl.quiet hi rfl hg hd (fun a H' d' ha hH => by
    obtain rfl : H' = H := hH.elim (fun h => absurd h.1 (by decide)) (fun h => h.2)
    simp [execOp, ha.eval hx, Instr.loadAt, Instr.sureAddr, run_loadVar_flat ht hc]) h

/-- A load of one cell that holds the same in every heap of the class. -/
theorem O.ldC {t : TypeId} {x : Operand} {b o : Nat} {v : Value} (hi : l[i]? = some ⟨some d, .load t x, ty, pos, af, gd⟩) (hg : guardOn l r gd = true) (hd : Nat.blt d n = true) (ht : Flat P t)
    (hx : ev r x = some (.pointer (some ⟨b, o, none⟩))) (hc : ∀ H', C H' → cl H' b o = some v) (h : Pl P B f Q n l C k p ((d, v) :: r) H) : Pl P B f Q n l C k ((i, 0) :: p) r H :=
  Pl.quiet hi rfl hg hd (fun a H' d' ha hH => by
    have hC : C H' := hH.elim (fun h => h.2) (fun h => absurd h.1 (by decide))
    simp [execOp, ha.eval hx, Instr.loadAt, Instr.sureAddr, run_loadVar_flat ht (hc H' hC)]) h

theorem O.lds {t : TypeId} {x : Operand} {b o s : Nat} {vs : List Value} (hi : l[i]? = some ⟨some d, .load t x, ty, pos, af, gd⟩) (hg : guardOn l r gd = true) (hd : Nat.blt d n = true) (ht : AggT P t s)
    (hx : ev r x = some (.pointer (some ⟨b, o, none⟩))) (hl : vs.length = s) (hc : Rd H b o vs) (h : Pl P B f Q n l C k p ((d, .agg vs.toArray) :: r) H) : Pl P B f Q n l C k ((i, 1) :: p) r H :=
  Pl.quiet hi rfl hg hd (fun a H' d' ha hH => by
    obtain rfl : H' = H := hH.elim (fun h => absurd h.1 (by decide)) (fun h => h.2)
    simp [execOp, ha.eval hx, Instr.loadAt, Instr.sureAddr, run_loadVar_agg ht hl hc]) h

theorem O.ldsC {t : TypeId} {x : Operand} {b o s : Nat} {vs : List Value} (hi : l[i]? = some ⟨some d, .load t x, ty, pos, af, gd⟩) (hg : guardOn l r gd = true) (hd : Nat.blt d n = true) (ht : AggT P t s)
    (hx : ev r x = some (.pointer (some ⟨b, o, none⟩))) (hl : vs.length = s) (hc : ∀ H', C H' → Rd H' b o vs) (h : Pl P B f Q n l C k p ((d, .agg vs.toArray) :: r) H) : Pl P B f Q n l C k ((i, 0) :: p) r H :=
  Pl.quiet hi rfl hg hd (fun a H' d' ha hH => by
    have hC : C H' := hH.elim (fun h => h.2) (fun h => absurd h.1 (by decide))
    simp [execOp, ha.eval hx, Instr.loadAt, Instr.sureAddr, run_loadVar_agg ht hl (hc H' hC)]) h

theorem O.nc {x : Operand} {ad : Addr} (hi : l[i]? = some ⟨some d, .nilCheck x, ty, pos, af, gd⟩) (hk : Nat.blt kd 2 = true) (hg : guardOn l r gd = true) (hd : Nat.blt d n = true) (hx : ev r x = some (.pointer (some ad)))
    (h : Pl P B f Q n l C k p ((d, .pointer (some ad)) :: r) H) : Pl P B f Q n l C k ((i, kd) :: p) r H :=
  Pl.quiet hi hk hg hd (fun a H' d' ha _ => by simp [execOp, ha.eval hx]) h

theorem O.fa {s : TypeId} {x : Operand} {b o fld off : Nat} (hi : l[i]? = some ⟨some d, .fieldAddr s x fld, ty, pos, af, gd⟩) (hk : Nat.blt kd 2 = true) (hg : guardOn l r gd = true) (hd : Nat.blt d n = true) (hf : FieldAt P s fld off)
    (hx : ev r x = some (.pointer (some ⟨b, o, none⟩))) (h : Pl P B f Q n l C k p ((d, .pointer (some ⟨b, o + off, none⟩)) :: r) H) : Pl P B f Q n l C k ((i, kd) :: p) r H :=
  Pl.quiet hi hk hg hd (fun a H' d' ha _ => by simp [execOp, ha.eval hx, run_fieldAt hf]) h
theorem O.fa0 {s : TypeId} {x : Operand} {b fld off : Nat} (hi : l[i]? = some ⟨some d, .fieldAddr s x fld, ty, pos, af, gd⟩) (hk : Nat.blt kd 2 = true) (hg : guardOn l r gd = true) (hd : Nat.blt d n = true) (hf : FieldAt P s fld off)
    (hx : ev r x = some (.pointer (some ⟨b, 0, none⟩))) (h : Pl P B f Q n l C k p ((d, .pointer (some ⟨b, off, none⟩)) :: r) H) : Pl P B f Q n l C k ((i, kd) :: p) r H :=
  O.fa hi hk hg hd hf hx (by rw [Nat.zero_add]; exact h)
theorem O.faz {s : TypeId} {x : Operand} {b o fld : Nat} (hi : l[i]? = some ⟨some d, .fieldAddr s x fld, ty, pos, af, gd⟩) (hk : Nat.blt kd 2 = true) (hg : guardOn l r gd = true) (hd : Nat.blt d n = true) (hf : FieldAt P s fld 0)
    (hx : ev r x = some (.pointer (some ⟨b, o, none⟩))) (h : Pl P B f Q n l C k p ((d, .pointer (some ⟨b, o, none⟩)) :: r) H) : Pl P B f Q n l C k ((i, kd) :: p) r H :=
  O.fa hi hk hg hd hf hx h

/-- The address of an element of a slice. -/
theorem O.ix {t e : TypeId} {x ix : Operand} {b o s len cap j : Nat} {kk : IntKind} {z : Int} (hi : l[i]? = some ⟨some d, .indexAddr t x ix, ty, pos, af, gd⟩) (hk : Nat.blt kd 2 = true) (hg : guardOn l r gd = true) (hd : Nat.blt d n = true)
    (hu : P.underlying t = some (.slice e)) (hs : Sz P e s) (hx : ev r x = some (.slice (some ⟨b, o, none⟩) len cap)) (hix : ev r ix = some (.int kk z)) (hz : z = (j : Int)) (hj : j < len)
    (h : Pl P B f Q n l C k p ((d, .pointer (some ⟨b, o + j * s, none⟩)) :: r) H) : Pl P B f Q n l C k ((i, kd) :: p) r H :=
  Pl.quiet hi hk hg hd (fun a H' d' ha _ => by subst hz; simp [execOp, ha.eval hx, ha.eval hix, run_indexAt hu hs hj]) h

theorem O.ext {x : Operand} {vs : Array Value} {v : Value} {ix : Nat} (hi : l[i]? = some ⟨some d, .extract x ix, ty, pos, af, gd⟩) (hk : Nat.blt kd 2 = true) (hg : guardOn l r gd = true) (hd : Nat.blt d n = true) (hx : ev r x = some (.tuple vs))
    (hv : vs[ix]? = some v) (h : Pl P B f Q n l C k p ((d, v) :: r) H) : Pl P B f Q n l C k ((i, kd) :: p) r H :=
  Pl.quiet hi hk hg hd (fun a H' d' ha _ => by simp [execOp, ha.eval hx, Instr.extract, hv]) h

theorem O.not {t : TypeId} {x : Operand} {v : Bool} (hi : l[i]? = some ⟨some d, .unOp .not t x, ty, pos, af, gd⟩) (hk : Nat.blt kd 2 = true) (hg : guardOn l r gd = true) (hd : Nat.blt d n = true) (hx : ev r x = some (.bool v))
    (h : Pl P B f Q n l C k p ((d, .bool (!v)) :: r) H) : Pl P B f Q n l C k ((i, kd) :: p) r H :=
  Pl.quiet hi hk hg hd (fun a H' d' ha _ => by simp [execOp, ha.eval hx, Op.unary]) h

/-! Integers. -/
theorem O.bin {op : BinOp} {t t' : TypeId} {x y : Operand} {a b : Value} {v : Value} (hi : l[i]? = some ⟨some d, .binOp op t x y t', ty, pos, af, gd⟩) (hk : Nat.blt kd 2 = true) (hg : guardOn l r gd = true) (hd : Nat.blt d n = true)
    (hx : ev r x = some a) (hy : ev r y = some b) (hr : ∀ w, (eqGuard op t x y a b).run P w = .ok () w ∧ (binOp op t a b).run P w = .ok v w) (h : Pl P B f Q n l C k p ((d, v) :: r) H) : Pl P B f Q n l C k ((i, kd) :: p) r H :=
  Pl.quiet hi hk hg hd (fun a H' d' ha _ => by simp [execOp, ha.eval hx, ha.eval hy, hr]) h

theorem run_eqGuard_int (op : BinOp) (t : TypeId) (x y : Operand) (kk kl : IntKind) (a b : Int) (w : World) : (eqGuard op t x y (.int kk a) (.int kl b)).run P w = .ok () w := by
  unfold eqGuard
  split <;> simp

theorem O.add {t t' : TypeId} {x y : Operand} {a b : Int} (z : Int) (hi : l[i]? = some ⟨some d, .binOp .add t x y t', ty, pos, af, gd⟩) (hk : Nat.blt kd 2 = true) (hg : guardOn l r gd = true) (hd : Nat.blt d n = true)
    (hx : ev r x = some (.int .i64 a)) (hy : ev r y = some (.int .i64 b)) (hz : a + b = z) (hb : -9223372036854775808 ≤ z ∧ z < 9223372036854775808) (h : Pl P B f Q n l C k p ((d, .int .i64 z) :: r) H) : Pl P B f Q n l C k ((i, kd) :: p) r H :=
  O.bin hi hk hg hd hx hy (fun w => ⟨run_eqGuard_int _ _ _ _ _ _ _ _ w, by simp only [binOp, Op.intArith, if_neg (not_not_intro rfl), hz, wrap_id hb, Sem.run_pure]⟩) h
theorem O.sub {t t' : TypeId} {x y : Operand} {a b : Int} (z : Int) (hi : l[i]? = some ⟨some d, .binOp .sub t x y t', ty, pos, af, gd⟩) (hk : Nat.blt kd 2 = true) (hg : guardOn l r gd = true) (hd : Nat.blt d n = true)
    (hx : ev r x = some (.int .i64 a)) (hy : ev r y = some (.int .i64 b)) (hz : a - b = z) (hb : -9223372036854775808 ≤ z ∧ z < 9223372036854775808) (h : Pl P B f Q n l C k p ((d, .int .i64 z) :: r) H) : Pl P B f Q n l C k ((i, kd) :: p) r H :=
  O.bin hi hk hg hd hx hy (fun w => ⟨run_eqGuard_int _ _ _ _ _ _ _ _ w, by simp only [binOp, Op.intArith, if_neg (not_not_intro rfl), hz, wrap_id hb, Sem.run_pure]⟩) h
theorem O.mul {t t' : TypeId} {x y : Operand} {a b : Int} (z : Int) (hi : l[i]? = some ⟨some d, .binOp .mul t x y t', ty, pos, af, gd⟩) (hk : Nat.blt kd 2 = true) (hg : guardOn l r gd = true) (hd : Nat.blt d n = true)
    (hx : ev r x = some (.int .i64 a)) (hy : ev r y = some (.int .i64 b)) (hz : a * b = z) (hb : -9223372036854775808 ≤ z ∧ z < 9223372036854775808) (h : Pl P B f Q n l C k p ((d, .int .i64 z) :: r) H) : Pl P B f Q n l C k ((i, kd) :: p) r H :=
  O.bin hi hk hg hd hx hy (fun w => ⟨run_eqGuard_int _ _ _ _ _ _ _ _ w, by simp only [binOp, Op.intArith, if_neg (not_not_intro rfl), hz, wrap_id hb, Sem.run_pure]⟩) h
theorem O.quo {t t' : TypeId} {x y : Operand} {a b : Int} (z : Int) (hi : l[i]? = some ⟨some d, .binOp .quo t x y t', ty, pos, af, gd⟩) (hk : Nat.blt kd 2 = true) (hg : guardOn l r gd = true) (hd : Nat.blt d n = true)
    (hx : ev r x = some (.int .i64 a)) (hy : ev r y = some (.int .i64 b)) (h0 : b ≠ 0) (hz : a.tdiv b = z) (hb : -9223372036854775808 ≤ z ∧ z < 9223372036854775808) (h : Pl P B f Q n l C k p ((d, .int .i64 z) :: r) H) : Pl P B f Q n l C k ((i, kd) :: p) r H :=
  O.bin hi hk hg hd hx hy (fun w => ⟨run_eqGuard_int _ _ _ _ _ _ _ _ w, by simp only [binOp, Op.intDiv, if_neg (not_not_intro rfl), if_neg h0, hz, wrap_id hb, Sem.run_pure]⟩) h
theorem O.rem {t t' : TypeId} {x y : Operand} {kk : IntKind} {a b : Int} (z : Int) (hi : l[i]? = some ⟨some d, .binOp .rem t x y t', ty, pos, af, gd⟩) (hk : Nat.blt kd 2 = true) (hg : guardOn l r gd = true) (hd : Nat.blt d n = true)
    (hx : ev r x = some (.int kk a)) (hy : ev r y = some (.int kk b)) (h0 : b ≠ 0) (hz : a.tmod b = z) (h : Pl P B f Q n l C k p ((d, .int kk z) :: r) H) : Pl P B f Q n l C k ((i, kd) :: p) r H :=
  O.bin hi hk hg hd hx hy (fun w => ⟨run_eqGuard_int _ _ _ _ _ _ _ _ w, by simp only [binOp, Op.intDiv, if_neg (not_not_intro rfl), if_neg h0, hz, Sem.run_pure]⟩) h

def cmpOf : BinOp → Int → Int → Option Bool
  | .eql, a, b => some (decide (a = b))
  | .neq, a, b => some (!decide (a = b))
  | .lss, a, b => some (decide (a < b))
  | .leq, a, b => some (decide (a ≤ b))
  | .gtr, a, b => some (decide (b < a))
  | .geq, a, b => some (decide (b ≤ a))
  | _, _, _ => none

theorem O.cmp {op : BinOp} {t t' : TypeId} {x y : Operand} {kk : IntKind} {a b : Int} {v : Bool} (hi : l[i]? = some ⟨some d, .binOp op t x y t', ty, pos, af, gd⟩) (hk : Nat.blt kd 2 = true) (hg : guardOn l r gd = true) (hd : Nat.blt d n = true)
    (hx : ev r x = some (.int kk a)) (hy : ev r y = some (.int kk b)) (hv : cmpOf op a b = some v) (h : Pl P B f Q n l C k p ((d, .bool v) :: r) H) : Pl P B f Q n l C k ((i, kd) :: p) r H :=
  O.bin hi hk hg hd hx hy (fun w => ⟨run_eqGuard_int _ _ _ _ _ _ _ _ w, by
    cases op <;> simp only [cmpOf, Option.some.injEq, reduceCtorEq] at hv
    all_goals
      subst hv
      simp only [binOp, if_neg (not_not_intro rfl), Op.intCmp, Sem.run_pure]
      first | done | rfl | (congr 2; by_cases h : a = b <;> simp [h])⟩) h

theorem lssT {a b : Int} (h : a < b) : cmpOf .lss a b = some true := by simp [cmpOf, h]
theorem lssF {a b : Int} (h : b ≤ a) : cmpOf .lss a b = some false := by simp [cmpOf, h]
theorem leqT {a b : Int} (h : a ≤ b) : cmpOf .leq a b = some true := by simp [cmpOf, h]
theorem leqF {a b : Int} (h : b < a) : cmpOf .leq a b = some false := by simp [cmpOf, h]
theorem gtrT {a b : Int} (h : b < a) : cmpOf .gtr a b = some true := by simp [cmpOf, h]
theorem gtrF {a b : Int} (h : a ≤ b) : cmpOf .gtr a b = some false := by simp [cmpOf, h]
theorem geqT {a b : Int} (h : b ≤ a) : cmpOf .geq a b = some true := by simp [cmpOf, h]
theorem geqF {a b : Int} (h : a < b) : cmpOf .geq a b = some false := by simp [cmpOf, h]
theorem eqlT {a b : Int} (h : a = b) : cmpOf .eql a b = some true := by simp [cmpOf, h]
theorem eqlF {a b : Int} (h : a ≠ b) : cmpOf .eql a b = some false := by simp [cmpOf, h]
theorem neqT {a b : Int} (h : a ≠ b) : cmpOf .neq a b = some true := by simp [cmpOf, h]
theorem neqF {a b : Int} (h : a = b) : cmpOf .neq a b = some false := by simp [cmpOf, h]

/-! A pointer against nil. -/
theorem run_equalIn_nil {t e : TypeId} (hu : P.underlying t = some (.pointer e)) (m : Nat) (v : Option Addr) (w : World) : (Op.equalIn (m + 1) t (.pointer v) (.pointer none)).run P w = .ok v.isNone w := by
  cases v <;> simp [Op.equalIn, run_und hu]
theorem run_nil_eql {t e : TypeId} {x y : Operand} (hu : P.underlying t = some (.pointer e)) (v : Option Addr) (w : World) :
    (eqGuard .eql t x y (.pointer v) (.pointer none)).run P w = .ok () w ∧ (binOp .eql t (.pointer v) (.pointer none)).run P w = .ok (.bool v.isNone) w := by
  refine ⟨by unfold eqGuard; simp, ?_⟩
  have h := run_equalIn_nil hu 9999 v w
  have h2 : binOp .eql t (.pointer v) (.pointer none) = (do pure (.bool (← Op.equal t (.pointer v) (.pointer none)))) := by cases v <;> rfl
  rw [h2]
  simp only [Op.equal, Op.maxDepth, Sem.run_bind, h, Result.andThen_ok, Sem.run_pure]
theorem O.isNil {t t' e : TypeId} {x y : Operand} {v : Option Addr} (hi : l[i]? = some ⟨some d, .binOp .eql t x y t', ty, pos, af, gd⟩) (hk : Nat.blt kd 2 = true) (hg : guardOn l r gd = true) (hd : Nat.blt d n = true)
    (hu : P.underlying t = some (.pointer e)) (hx : ev r x = some (.pointer v)) (hy : ev r y = some (.pointer none)) (h : Pl P B f Q n l C k p ((d, .bool v.isNone) :: r) H) : Pl P B f Q n l C k ((i, kd) :: p) r H :=
  O.bin hi hk hg hd hx hy (run_nil_eql hu v) h
theorem run_nil_neq {t e : TypeId} {x y : Operand} (hu : P.underlying t = some (.pointer e)) (v : Option Addr) (w : World) :
    (eqGuard .neq t x y (.pointer v) (.pointer none)).run P w = .ok () w ∧ (binOp .neq t (.pointer v) (.pointer none)).run P w = .ok (.bool (!v.isNone)) w := by
  refine ⟨by unfold eqGuard; simp, ?_⟩
  have h := run_equalIn_nil hu 9999 v w
  have h2 : binOp .neq t (.pointer v) (.pointer none) = (do pure (.bool (!(← Op.equal t (.pointer v) (.pointer none))))) := by cases v <;> rfl
  rw [h2]
  simp only [Op.equal, Op.maxDepth, Sem.run_bind, h, Result.andThen_ok, Sem.run_pure]
theorem O.notNil {t t' e : TypeId} {x y : Operand} {v : Option Addr} (hi : l[i]? = some ⟨some d, .binOp .neq t x y t', ty, pos, af, gd⟩) (hk : Nat.blt kd 2 = true) (hg : guardOn l r gd = true) (hd : Nat.blt d n = true)
    (hu : P.underlying t = some (.pointer e)) (hx : ev r x = some (.pointer v)) (hy : ev r y = some (.pointer none)) (h : Pl P B f Q n l C k p ((d, .bool (!v.isNone)) :: r) H) : Pl P B f Q n l C k ((i, kd) :: p) r H :=
  O.bin hi hk hg hd hx hy (run_nil_neq hu v) h

/-! A loop, by a measure: what holds of the state, and which slots it is in, at each round's head. -/
theorem Go'.ind {σ : Type} (μ : σ → Nat) (I : σ → Mem → Prop) (e : σ → Env) (s0 : σ) (h0 : I s0 H) (hr : r = e s0)
    (step : ∀ s H, I s H → (∀ s' H', I s' H' → μ s' < μ s → Go' P B f Q n (e s') k H') → Go' P B f Q n (e s) k H) : Go' P B f Q n r k H := by
  subst hr
  have key : ∀ m s H, μ s = m → I s H → Go' P B f Q n (e s) k H := by
    intro m
    induction m using Nat.strongRecOn with
    | _ m ih => exact fun s H hm hI => step s H hI fun s' H' hI' hlt => ih (μ s') (hm ▸ hlt) s' H' rfl hI'
  exact key _ s0 H rfl h0

/-! Slices. -/
theorem O.len {t e : TypeId} {x : Operand} {ad : Option Addr} {len cap : Nat} (hi : l[i]? = some ⟨some d, .call ⟨.builtin .len, #[x], #[t]⟩, ty, pos, af, gd⟩) (hk : Nat.blt kd 2 = true) (hg : guardOn l r gd = true) (hd : Nat.blt d n = true)
    (hu : P.underlying t = some (.slice e)) (hx : ev r x = some (.slice ad len cap)) (h : Pl P B f Q n l C k p ((d, .int .i64 (len : Int)) :: r) H) : Pl P B f Q n l C k ((i, kd) :: p) r H :=
  Pl.quiet hi hk hg hd (fun a H' d' ha _ => by simp [execOp, resolve, invoke, builtin, Builtin.len_, ha.eval hx, run_und hu, goInt]) h
theorem O.cap {t e : TypeId} {x : Operand} {ad : Option Addr} {len cap : Nat} (hi : l[i]? = some ⟨some d, .call ⟨.builtin .cap, #[x], #[t]⟩, ty, pos, af, gd⟩) (hk : Nat.blt kd 2 = true) (hg : guardOn l r gd = true) (hd : Nat.blt d n = true)
    (hu : P.underlying t = some (.slice e)) (hx : ev r x = some (.slice ad len cap)) (h : Pl P B f Q n l C k p ((d, .int .i64 (cap : Int)) :: r) H) : Pl P B f Q n l C k ((i, kd) :: p) r H :=
  Pl.quiet hi hk hg hd (fun a H' d' ha _ => by simp [execOp, resolve, invoke, builtin, Builtin.cap_, ha.eval hx, run_und hu, goInt]) h

/-- x[lo:hi:mx], each bound that is not given being 0, the length, the capacity. -/
def bnd (r : Env) (dflt : Nat) : Option Operand → Nat → Prop
  | none, j => j = dflt
  | some x, j => ∃ kk, ev r x = some (.int kk (j : Int))

theorem run_sliceBound (w : World) (kk : IntKind) (j m : Nat) (c : BoundsCode) (h : j ≤ m) : (Instr.sliceBound (.int kk (j : Int)) m c).run P w = .ok j w := by
  have h' : (0 : Int) ≤ (j : Int) ∧ (j : Int) ≤ (m : Int) := by omega
  simp only [Instr.sliceBound, asIntOf, Sem.run_bind, Sem.run_pure, Result.andThen_ok, Sem.run_ite, if_pos h', Int.toNat_natCast]

theorem O.slc {t e : TypeId} {x : Operand} {lo hi' mx : Option Operand} {b o s len cap jl jh jm : Nat} (hi : l[i]? = some ⟨some d, .slice t x lo hi' mx, ty, pos, af, gd⟩) (hk : Nat.blt kd 2 = true) (hg : guardOn l r gd = true) (hd : Nat.blt d n = true)
    (hu : P.underlying t = some (.slice e)) (hs : Sz P e s) (hx : ev r x = some (.slice (some ⟨b, o, none⟩) len cap)) (hm : bnd r cap mx jm) (hh : bnd r len hi' jh) (hl : bnd r 0 lo jl)
    (h1 : jl ≤ jh) (h2 : jh ≤ jm) (h3 : jm ≤ cap) (hmh : mx.isSome = true → hi'.isSome = true)
    (h : ∀ o', (jl < jm → o' = o + jl * s) → Pl P B f Q n l C k p ((d, .slice (some ⟨b, o', none⟩) (jh - jl) (jm - jl)) :: r) H) : Pl P B f Q n l C k ((i, kd) :: p) r H := by
  refine Pl.quiet hi hk hg hd (fun a H' d' ha _ => ?_) (h (if jm = jl then o else o + jl * s) (fun hlt => if_neg (by omega)))
  have hb : (Instr.sliceBounds true len cap (lo.map a.eval) (hi'.map a.eval) (mx.map a.eval)).run P (mk B H' d') = .ok (jl, jh, jm) (mk B H' d') := by
    unfold Instr.sliceBounds
    cases mx with
    | none =>
      simp only [bnd] at hm
      subst hm
      cases hi' with
      | none =>
        simp only [bnd] at hh
        subst hh
        cases lo with
        | none => simp only [bnd] at hl; subst hl; simp
        | some y => obtain ⟨kk, hy⟩ := hl; simp [ha.eval hy, run_sliceBound _ kk jl jh _ h1]
      | some z =>
        obtain ⟨kz, hz⟩ := hh
        cases lo with
        | none => simp only [bnd] at hl; subst hl; simp [ha.eval hz, run_sliceBound _ kz jh jm _ h2]
        | some y => obtain ⟨kk, hy⟩ := hl; simp [ha.eval hy, ha.eval hz, run_sliceBound _ kk jl jh _ h1, run_sliceBound _ kz jh jm _ h2]
    | some u =>
      obtain ⟨ku, hu'⟩ := hm
      cases hi' with
      | none => simp at hmh
      | some z =>
        obtain ⟨kz, hz⟩ := hh
        cases lo with
        | none => simp only [bnd] at hl; subst hl; simp [ha.eval hz, ha.eval hu', run_sliceBound _ ku jm cap _ h3, run_sliceBound _ kz jh jm _ h2]
        | some y => obtain ⟨kk, hy⟩ := hl; simp [ha.eval hy, ha.eval hz, ha.eval hu', run_sliceBound _ kk jl jh _ h1, run_sliceBound _ kz jh jm _ h2, run_sliceBound _ ku jm cap _ h3]
  simp only [execOp, ha.eval hx, Sem.run_bind, Sem.run_pure, Instr.sliceAt, run_und hu, Result.andThen_ok, Instr.slice, hb, hs _]
  congr 3
  by_cases he : jm = jl
  · simp [he]
  · simp [he, Addr.add_lit]

/-! ### Making -/
/-- A new variable. -/
theorem O.alloc {t : TypeId} {z : Value} (hi : l[i]? = some ⟨some d, .alloc t, ty, pos, af, gd⟩) (hg : guardOn l r gd = true) (hd : Nat.blt d n = true) (hz : Zero P t z)
    (h : ∀ H', Made H H' z.cells t → C H' ∧ Pl P B f Q n l C k p ((d, .pointer (some ⟨H.size, 0, none⟩)) :: r) H') : Pl P B f Q n l C k ((i, 2) :: p) r H :=
  Pl.loudV hi rfl hg hd (fun v H' => v = .pointer (some ⟨H.size, 0, none⟩) ∧ Made H H' z.cells t)
    (fun a d' _ => ⟨_, H.push (.cells z.cells t), d', by simp [execOp, Instr.alloc, hz _, newVar, newRow]; exact ⟨rfl, rfl⟩, rfl, made_push _ _ _⟩) (fun v H' hv => by obtain ⟨rfl, hm⟩ := hv; exact h H' hm)

theorem O.box {t : TypeId} {x : Operand} {v : Value} (hi : l[i]? = some ⟨some d, .box t x, ty, pos, af, gd⟩) (hg : guardOn l r gd = true) (hd : Nat.blt d n = true) (hx : ev r x = some v)
    (h : ∀ H', Made H H' v.cells t → C H' ∧ Pl P B f Q n l C k p ((d, .pointer (some ⟨H.size, 0, none⟩)) :: r) H') : Pl P B f Q n l C k ((i, 2) :: p) r H :=
  Pl.loudV hi rfl hg hd (fun u H' => u = .pointer (some ⟨H.size, 0, none⟩) ∧ Made H H' v.cells t)
    (fun a d' ha => ⟨_, H.push (.cells v.cells t), d', by simp [execOp, Instr.box, ha.eval hx, newVar, newRow]; exact ⟨rfl, rfl⟩, rfl, made_push _ _ _⟩) (fun u H' hv => by obtain ⟨rfl, hm⟩ := hv; exact h H' hm)

/-! ### Writing -/
theorem O.st {t : TypeId} {x y : Operand} {b o s : Nat} {v : Value} {vs : List Value} (hi : l[i]? = some ⟨none, .store t x y, ty, pos, af, gd⟩) (hg : guardOn l r gd = true) (ht : Sz P t s)
    (hx : ev r x = some (.pointer (some ⟨b, o, none⟩))) (hy : ev r y = some v) (hv : v.cells = vs.toArray) (hl : vs.length = s) (h1 : ones vs = true) (hw : Wr H b o s)
    (h : ∀ H', Wrote H H' b o vs → C H' ∧ Pl P B f Q n l C k p r H') : Pl P B f Q n l C k ((i, 2) :: p) r H :=
  Pl.loudN hi rfl hg (fun H' => Wrote H H' b o vs)
    (fun a d' ha => ⟨setcs H b o vs, d', by simp [execOp, ha.eval hx, ha.eval hy, Instr.storeAt, Instr.sureAddr, run_storeVar ht hv hl h1 hw], setcs_wrote vs H b o (hl ▸ hw)⟩) h

/-- The same as the last operation of a region. -/
theorem O.st3 {t : TypeId} {x y : Operand} {b o s : Nat} {v : Value} {vs : List Value} (hi : l[i]? = some ⟨none, .store t x y, ty, pos, af, gd⟩) (hg : guardOn l r gd = true) (ht : Sz P t s)
    (hx : ev r x = some (.pointer (some ⟨b, o, none⟩))) (hy : ev r y = some v) (hv : v.cells = vs.toArray) (hl : vs.length = s) (h1 : ones vs = true) (hw : Wr H b o s)
    (h : ∀ H', Wrote H H' b o vs → Pl P B f Q n l C k p r H') : Pl P B f Q n l C k ((i, 3) :: p) r H :=
  Pl.lastN hi rfl hg (fun H' => Wrote H H' b o vs)
    (fun a d' ha => ⟨setcs H b o vs, d', by simp [execOp, ha.eval hx, ha.eval hy, Instr.storeAt, Instr.sureAddr, run_storeVar ht hv hl h1 hw], setcs_wrote vs H b o (hl ▸ hw)⟩) h

/-! ### Calls -/
theorem O.call {g : FuncId} {as : List Operand} {ts : Array TypeId} {vs : List Value} {R : Value → Mem → Prop} (hi : l[i]? = some ⟨some d, .call ⟨.value (.func g), as.toArray, ts⟩, ty, pos, af, gd⟩)
    (hg : guardOn l r gd = true) (hd : Nat.blt d n = true) (hcall : ∀ (args : Array Value) (w : World), (callFunc g args).run P w = .ok (.enter g args) w) (ha : evs r as = some vs)
    (hc : Fn P B g vs H R) (h : ∀ v H', R v H' → C H' ∧ Pl P B f Q n l C k p ((d, v) :: r) H') : Pl P B f Q n l C k ((i, 2) :: p) r H :=
  Pl.enter hi rfl hg (by exact hd) (fun a d' hs => by
    have h1 := hs.evals ha
    have h2 : a.eval (.func g) = .func (.func g) #[] #[] := rfl
    simp only [execOp, resolve, h2, Deferred.ofValue, Sem.run_bind, Sem.run_pure, Result.andThen_ok, invoke, hcall]
    rw [← h1]
    simp) hc h

/-- A call that leaves the heap alone. -/
theorem O.callQ {g : FuncId} {as : List Operand} {ts : Array TypeId} {vs : List Value} {v : Value} (hi : l[i]? = some ⟨some d, .call ⟨.value (.func g), as.toArray, ts⟩, ty, pos, af, gd⟩)
    (hg : guardOn l r gd = true) (hd : Nat.blt d n = true) (hcall : ∀ (args : Array Value) (w : World), (callFunc g args).run P w = .ok (.enter g args) w) (ha : evs r as = some vs)
    (hc : Fn P B g vs H (fun u H' => u = v ∧ H' = H)) (hC : C H) (h : Pl P B f Q n l C k p ((d, v) :: r) H) : Pl P B f Q n l C k ((i, 2) :: p) r H :=
  O.call hi hg hd hcall ha hc fun u H' hu => by obtain ⟨rfl, rfl⟩ := hu; exact ⟨hC, h⟩

/-- A call of a closure that is in a slot. -/
theorem O.callC {x : Operand} {g : FuncId} {as : List Operand} {ts : Array TypeId} {vs us caps : List Value} {R : Value → Mem → Prop} (hi : l[i]? = some ⟨some d, .call ⟨.value x, as.toArray, ts⟩, ty, pos, af, gd⟩)
    (hg : guardOn l r gd = true) (hd : Nat.blt d n = true) (hx : ev r x = some (.func (.func g) us.toArray caps.toArray)) (hcall : ∀ (args : Array Value) (w : World), (callFunc g args).run P w = .ok (.enter g args) w) (ha : evs r as = some vs)
    (hc : Fn P B g (us ++ vs ++ caps) H R) (h : ∀ v H', R v H' → C H' ∧ Pl P B f Q n l C k p ((d, v) :: r) H') : Pl P B f Q n l C k ((i, 2) :: p) r H :=
  Pl.enter hi rfl hg (by exact hd) (fun a d' hs => by
    have h1 := hs.evals ha
    have h2 := hs.eval hx
    simp only [execOp, resolve, h2, Deferred.ofValue, Sem.run_bind, Sem.run_pure, Result.andThen_ok, invoke, hcall]
    rw [← h1]
    simp) hc h
end
end Go.Bt
