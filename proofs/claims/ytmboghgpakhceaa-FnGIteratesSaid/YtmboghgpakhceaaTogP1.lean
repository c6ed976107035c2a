/- Contracts of functions of the program, proved by walking through their code. Conditions: those that each theorem names. -/
import Derived.Laws.StructEq
import Derived.Test.YtmboghgpakhceaaTogM
import Derived.Test.YtmboghgpakhceaaToSo
namespace Go.Bt.FG
open Go Go.Proofs
set_option maxRecDepth 20000
set_option maxHeartbeats 4000000
set_option linter.unusedVariables false
set_option linter.unusedSectionVars false

theorem fields27 : Try.prog.underlying 27 = some (.struct (Try.prog.fieldsOf 27)) := by unfold Program.fieldsOf; rw [Try.underlying27]
theorem fields68 : Try.prog.underlying 68 = some (.struct (Try.prog.fieldsOf 68)) := by unfold Program.fieldsOf; rw [Try.underlying68]
theorem item_eq (d : Nat) (x : Int × Int) (w : World) : (Op.equalIn (d + 2) 27 (.agg #[.int .i64 x.1, .int .i64 x.2]) (.agg #[.int .i64 x.1, .int .i64 x.2])).run Try.prog w = .ok true w := by
  rw [run_equalIn_agg w (d + 1) 27 _ _ fields27 Try.stoodInHeld27]
  simp [Op.eqFields, Program.fieldsOf, Try.underlying27, part, Try.isAgg3, run_equalIn_int w d 3 _ _ _ _ Try.underlying3]
theorem found_eq (o : Option (Int × Int)) (x y : Operand) (w : World) : (eqGuard .eql 68 x y (.agg (fvs o).toArray) (.agg (fvs o).toArray)).run Try.prog w = .ok () w ∧ (binOp .eql 68 (.agg (fvs o).toArray) (.agg (fvs o).toArray)).run Try.prog w = .ok (.bool true) w := by
  refine ⟨run_eqGuard_agg w _ _ _ _ _ _ Try.eqGuardType68, ?_⟩
  rw [run_eql_struct, run_equalIn_agg w 9999 68 _ _ fields68 Try.stoodInHeld68]
  have h : ∀ x y : Int, (Op.equalIn 9999 27 (.agg #[.int .i64 x, .int .i64 y]) (.agg #[.int .i64 x, .int .i64 y])).run Try.prog w = .ok true w := fun x y => item_eq 9997 (x, y) w
  have hb : ∀ b : Bool, (Op.equalIn 9999 4 (.bool b) (.bool b)).run Try.prog w = .ok true w := fun b => by
    have := run_equalIn_bool' w 9998 4 b b Try.underlying4
    simpa using this
  cases o with
  | none => simp [fvs, Op.eqFields, Program.fieldsOf, Try.underlying68, part, Try.isAgg27, Try.sizeOf27, Try.isAgg4, h, hb]
  | some y => simp [fvs, Op.eqFields, Program.fieldsOf, Try.underlying68, part, Try.isAgg27, Try.sizeOf27, Try.isAgg4, h, hb]

theorem found_neq (o : Option (Int × Int)) (a b : Operand) (w : World) : (eqGuard .neq 68 a b (.agg (fvs o).toArray) (.agg (fvs o).toArray)).run Try.prog w = .ok () w ∧ (binOp .neq 68 (.agg (fvs o).toArray) (.agg (fvs o).toArray)).run Try.prog w = .ok (.bool false) w := by
  refine ⟨run_eqGuard_agg w _ _ _ _ _ _ Try.eqGuardType68, ?_⟩
  rw [run_neq_struct]
  have h := (found_eq o a b w).2
  rw [run_eql_struct] at h
  have h2 : (Op.equalIn 10000 68 (.agg (fvs o).toArray) (.agg (fvs o).toArray)).run Try.prog w = .ok true w := by
    cases hh : (Op.equalIn 10000 68 (.agg (fvs o).toArray) (.agg (fvs o).toArray)).run Try.prog w with
    | ok x w2 => rw [hh] at h; simp [Result.andThen] at h; obtain ⟨h1, h2⟩ := h; rw [h1, h2]
    | _ => rw [hh] at h; simp [Result.andThen] at h
  rw [h2]; rfl

end Go.Bt.FG
