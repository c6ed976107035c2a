/- Contracts of functions of the program, proved by walking through their code. Conditions: those that each theorem names. -/
import Derived.Test.YtmboghgpakhceaaTojM
namespace Go.Bt.FG
open Go Go.Proofs Go.Proofs.Try
set_option maxRecDepth 20000
set_option maxHeartbeats 4000000
set_option linter.unusedVariables false
set_option linter.unusedSectionVars false

/-- What the taker keeps: how many at most,and the list so far. -/
structure TkT (b2 b3 D : Nat) (n : Int) (acc : List (Int × Int)) (Z : Nat → Prop) (H : Mem) : Prop where
  c2 : cl H b2 0 = some (ptr D)
  c3 : cl H b3 0 = some (.int .i64 n)
  wr : Wr H D 0 1
  z2 : Z b2
  z3 : Z b3
  zD : Z D
  n2 : b2 ≠ D
  n3 : b3 ≠ D
  lt : ∀ b,Z b → b < H.size
  sl : (acc = [] ∧ cl H D 0 = some (.slice none 0 0)) ∨ ∃ b o c,cl H D 0 = some (.slice (some ⟨b,o,none⟩) acc.length c) ∧ SlE EJ H b o c acc ∧ Z b ∧ b ≠ D ∧ b ≠ b2 ∧ b ≠ b3
theorem TkT.fr {b2 b3 D : Nat} {n : Int} {acc : List (Int × Int)} {Z : Nat → Prop} {H H' : Mem} {Y : Nat → Nat → Prop} (h : TkT b2 b3 D n acc Z H) (hf : Fr Y H H') (hy : ∀ b o,Z b → ¬ Y b o) : TkT b2 b3 D n acc Z H' where
  c2 := hf.keep h.c2 (hy _ _ h.z2)
  c3 := hf.keep h.c3 (hy _ _ h.z3)
  wr := hf.wr h.wr
  z2 := h.z2
  z3 := h.z3
  zD := h.zD
  n2 := h.n2
  n3 := h.n3
  lt := fun b hb => Nat.lt_of_lt_of_le (h.lt b hb) hf.size
  sl := h.sl.elim (fun ⟨e,k⟩ => .inl ⟨e,hf.keep k (hy _ _ h.zD)⟩) fun ⟨b,o,c,k,hs,hz,r⟩ => .inr ⟨b,o,c,hf.keep k (hy _ _ h.zD),hs.fr hf (fun i _ _ => hy _ _ hz),hz,r⟩

theorem TkT.out {b2 b3 D : Nat} {n : Int} {acc : List (Int × Int)} {Z : Nat → Prop} {H : Mem} (h : TkT b2 b3 D n acc Z H) : ∃ v,cl H D 0 = some v ∧ OutS EJ H v acc := by
  rcases h.sl with ⟨e,k⟩ | ⟨b,o,c,k,hs,_⟩
  · exact ⟨_,k,.inl ⟨rfl,e⟩⟩
  · exact ⟨_,k,.inr ⟨b,o,c,rfl,hs⟩⟩
section
variable [Inhabited Cx]
end
end Go.Bt.FG
namespace Go.Bt.FG
open Go Go.Proofs Go.Proofs.Try
set_option maxRecDepth 20000
set_option maxHeartbeats 4000000
set_option linter.unusedVariables false
set_option linter.unusedSectionVars false

theorem firstN_len {α : Type} (l : List α) (n : Int) : (firstN l n).length ≤ l.length := by
  unfold firstN; split
  · exact Nat.le_refl _
  · rw [List.length_take]; omega

end Go.Bt.FG
