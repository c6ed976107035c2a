/- Contracts of functions of the program, proved by walking through their code. Conditions: those that each theorem names. -/
import Derived.Test.YtknkmaigdgfhlaaTotC
import Derived.Test.YtknkmaigdgfhlaaTotD
import Derived.Test.YtknkmaigdgfhlaaTozI
import Derived.Test.YtknkmaigdgfhlaaToRb
namespace Go.Bt.FZ
open Go Go.Proofs
set_option maxRecDepth 20000
set_option maxHeartbeats 4000000
set_option linter.unusedVariables false

/-- What was found of a key. -/
def EKy : Elt (Option Int) := { enc := kvs, s := 2, len := fun o => by cases o <;> rfl, one := fun o => by cases o <;> rfl, pos := by decide }
theorem key_neq (o : Option Int) (a b : Operand) (w : World) : (eqGuard .neq 63 a b (.agg (kvs o).toArray) (.agg (kvs o).toArray)).run Try.prog w = .ok () w ∧ (binOp .neq 63 (.agg (kvs o).toArray) (.agg (kvs o).toArray)).run Try.prog w = .ok (.bool false) w := by
  refine ⟨run_eqGuard_agg w _ _ _ _ _ _ Try.eqGuardType63, ?_⟩
  rw [run_neq_struct]
  have h := (key_eq o a b w).2
  rw [run_eql_struct] at h
  have h2 : (Op.equalIn 10000 63 (.agg (kvs o).toArray) (.agg (kvs o).toArray)).run Try.prog w = .ok true w := by
    cases hh : (Op.equalIn 10000 63 (.agg (kvs o).toArray) (.agg (kvs o).toArray)).run Try.prog w with
    | ok x w2 => rw [hh] at h; simp [Result.andThen] at h; obtain ⟨h1, h2⟩ := h; rw [h1, h2]
    | _ => rw [hh] at h; simp [Result.andThen] at h
  rw [h2]; rfl
end Go.Bt.FZ
namespace Go.Bt.FZ
open Go Go.Proofs
set_option maxRecDepth 20000
set_option maxHeartbeats 4000000
set_option linter.unusedVariables false

namespace Pl
open Go.Bt.Pl
end Pl
namespace Pl
open Go.Bt.Pl
end Pl
def encKV (x : Int) : List Value := [.int .i64 x, .agg #[]]
/-- What a reader with a function is called with. -/
structure VPre {P' : Program} {B : World} {g : FuncId} {us cs : List Value} {go : List Int → Bool} {M : Nat} (cb : Cb P' B encKV g us cs go M) (H : Mem) (tr : Nat) (P : Ps) (h : Nat) (t : Gt EI h) (bp op : Nat) (acc : List Int) (Z : Nat → Prop) : Prop where
  tc : TrC H tr P.iso P.mx P.mn
  g : Gt.Good H P h t
  cel : cl H bp op = some (ptr (Gt.p h t))
  nz : ∀ b o, Gt.af h t b o → ¬ Z b
  ntr : ¬ Z tr
  st : cb.T acc Z H
  len : acc.length + (Gt.L h t).length ≤ M
namespace Pl
open Go.Bt.Pl
end Pl

end Go.Bt.FZ
