/- The order of strings: by bytes. Conditions: none. -/
import Derived.Test.YtknkmaigdgfhlaaAc
import Derived.Laws.Strings
namespace Go.Bt
open Go
set_option linter.unusedVariables false
theorem bl_irr : ∀ l : List UInt8, Op.bytesLess l l = false
  | [] => rfl
  | a :: l => by simp [Op.bytesLess, bl_irr l]
theorem bl_asy : ∀ a b : List UInt8, Op.bytesLess a b = true → Op.bytesLess b a = false
  | [], [], h => rfl
  | [], _ :: _, h => rfl
  | _ :: _, [], h => by simp [Op.bytesLess] at h
  | x :: a, y :: b, h => by
    simp only [Op.bytesLess, Bool.or_eq_true, Bool.and_eq_true, decide_eq_true_eq, beq_iff_eq] at h
    simp only [Op.bytesLess, Bool.or_eq_false_iff, Bool.and_eq_false_iff, decide_eq_false_iff_not, beq_eq_false_iff_ne]
    rcases h with h | ⟨rfl, h⟩
    · exact ⟨fun k => absurd (UInt8.lt_trans h k) (UInt8.lt_irrefl _), .inl (fun e => absurd (e ▸ h) (UInt8.lt_irrefl _))⟩
    · exact ⟨UInt8.lt_irrefl _, .inr (bl_asy a b h)⟩
theorem bl_eq : ∀ a b : List UInt8, Op.bytesLess a b = false → Op.bytesLess b a = false → a = b
  | [], [], _, _ => rfl
  | [], _ :: _, h, _ => by simp [Op.bytesLess] at h
  | _ :: _, [], _, h => by simp [Op.bytesLess] at h
  | x :: a, y :: b, h, k => by
    simp only [Op.bytesLess, Bool.or_eq_false_iff, Bool.and_eq_false_iff, decide_eq_false_iff_not, beq_eq_false_iff_ne] at h k
    have e : x = y := by
      rcases UInt8.lt_or_lt_of_ne (a := x) (b := y) with h1
      by_cases he : x = y
      · exact he
      · rcases UInt8.lt_or_lt_of_ne he with h2 | h2
        · exact absurd h2 h.1
        · exact absurd h2 k.1
    subst e
    have h1 : Op.bytesLess a b = false := h.2.elim (fun n => absurd rfl n) id
    have h2 : Op.bytesLess b a = false := k.2.elim (fun n => absurd rfl n) id
    rw [bl_eq a b h1 h2]
theorem bl_trans : ∀ a b c : List UInt8, Op.bytesLess a b = true → Op.bytesLess b c = true → Op.bytesLess a c = true
  | _, [], _, h, _ => by cases ‹List UInt8› <;> simp [Op.bytesLess] at h
  | _, _ :: _, [], _, k => by simp [Op.bytesLess] at k
  | [], _ :: _, _ :: _, _, _ => rfl
  | x :: a, y :: b, z :: c, h, k => by
    simp only [Op.bytesLess, Bool.or_eq_true, Bool.and_eq_true, decide_eq_true_eq, beq_iff_eq] at h k ⊢
    rcases h with h | ⟨rfl, h⟩
    · rcases k with k | ⟨rfl, k⟩
      · exact .inl (UInt8.lt_trans h k)
      · exact .inl h
    · rcases k with k | ⟨rfl, k⟩
      · exact .inl k
      · exact .inr ⟨rfl, bl_trans a b c h k⟩
/-- A string's bytes. -/
abbrev Wk := ByteArray
theorem wk_eq {a b : Wk} (h : Op.bytesLess a.toList b.toList = false) (k : Op.bytesLess b.toList a.toList = false) : a = b := by
  have e := bl_eq _ _ h k
  rw [ByteArray.toList_eq, ByteArray.toList_eq] at e
  cases a; cases b
  simp only [ByteArray.mk.injEq]
  exact Array.ext' e
def OW : Pl.Swo (Wk × Int) where
  lt := fun x y => Op.bytesLess x.1.toList y.1.toList
  irr := fun x => bl_irr _
  ntr := fun {x y z} h k => by
    cases e : Op.bytesLess x.1.toList z.1.toList with
    | false => rfl
    | true =>
      cases e2 : Op.bytesLess y.1.toList x.1.toList with
      | true => have := bl_trans _ _ _ e2 e; rw [k] at this; cases this
      | false => rw [bl_eq _ _ h e2] at e; rw [k] at e; cases e
  asy := fun h => bl_asy _ _ h
section
variable {P : Program} {B : World} {f : FuncId} {Q : Value → Mem → Prop} {n : Nat} {r : Env} {k : List Item} {H : Mem} {l : List Oper} {C : Mem → Prop} {p : List (Nat × Nat)}
variable {i kd d : Nat} {ty : TypeId} {pos : String} {af : Array Edge} {gd : Option (Nat × Bool)}
theorem run_eqGuard_str (op : BinOp) (t : TypeId) (x y : Operand) (a b : ByteArray) (w : World) : (eqGuard op t x y (.string a) (.string b)).run P w = .ok () w := by
  unfold eqGuard
  split <;> simp
theorem O.slss {t t' : TypeId} {x y : Operand} {a b : ByteArray} {v : Bool} (hi : l[i]? = some ⟨some d, .binOp .lss t x y t', ty, pos, af, gd⟩) (hk : Nat.blt kd 2 = true) (hg : guardOn l r gd = true) (hd : Nat.blt d n = true)
    (hx : ev r x = some (.string a)) (hy : ev r y = some (.string b)) (hv : Op.bytesLess a.toList b.toList = v) (h : Pl P B f Q n l C k p ((d, .bool v) :: r) H) : Pl P B f Q n l C k ((i, kd) :: p) r H :=
  O.bin hi hk hg hd hx hy (fun w => ⟨run_eqGuard_str _ _ _ _ _ _ w, by rw [binOp_string_lss, hv]; rfl⟩) h
theorem O.seql {t t' : TypeId} {x y : Operand} {a b : ByteArray} {v : Bool} (hi : l[i]? = some ⟨some d, .binOp .eql t x y t', ty, pos, af, gd⟩) (hk : Nat.blt kd 2 = true) (hg : guardOn l r gd = true) (hd : Nat.blt d n = true)
    (hx : ev r x = some (.string a)) (hy : ev r y = some (.string b)) (hv : (a.toList == b.toList) = v) (h : Pl P B f Q n l C k p ((d, .bool v) :: r) H) : Pl P B f Q n l C k ((i, kd) :: p) r H :=
  O.bin hi hk hg hd hx hy (fun w => ⟨run_eqGuard_str _ _ _ _ _ _ w, by rw [binOp_string_eql, hv]; rfl⟩) h
theorem O.sneq {t t' : TypeId} {x y : Operand} {a b : ByteArray} {v : Bool} (hi : l[i]? = some ⟨some d, .binOp .neq t x y t', ty, pos, af, gd⟩) (hk : Nat.blt kd 2 = true) (hg : guardOn l r gd = true) (hd : Nat.blt d n = true)
    (hx : ev r x = some (.string a)) (hy : ev r y = some (.string b)) (hv : (!(a.toList == b.toList)) = v) (h : Pl P B f Q n l C k p ((d, .bool v) :: r) H) : Pl P B f Q n l C k ((i, kd) :: p) r H :=
  O.bin hi hk hg hd hx hy (fun w => ⟨run_eqGuard_str _ _ _ _ _ _ w, by rw [binOp_string_neq, hv]; rfl⟩) h
end
end Go.Bt
