/- Contracts of functions of the program, proved by walking through their code. Conditions: those that each theorem names. -/
import Derived.Test.YtknkmaigdgfhlaaTotD
import Derived.Test.YtknkmaigdgfhlaaTozJ
namespace Go.Bt.FZ
open Go Go.Proofs
set_option maxRecDepth 20000
set_option maxHeartbeats 4000000
set_option linter.unusedVariables false

def EB : Elt Bool := { enc := fun x => [.bool x], s := 1, len := fun _ => rfl, one := fun _ => rfl, pos := by decide }
end Go.Bt.FZ
namespace Go.Bt.FZ
open Go Go.Proofs
set_option maxRecDepth 20000
set_option maxHeartbeats 4000000
set_option linter.unusedVariables false

end Go.Bt.FZ
namespace Go.Bt.FZ
open Go Go.Proofs
set_option maxRecDepth 20000
set_option maxHeartbeats 4000000
set_option linter.unusedVariables false

theorem App.rp {H H' : Mem} {b o len c m s : Nat} {xs news : List Value} {b' o' c' : Nat} (ha : App H H' b o len c m s xs news b' o' c') : Fr (fun b1 _ => b1 = b) H H' ∧ (b' = b ∨ H.size ≤ b') :=
  ⟨ha.fr.mono fun b1 o1 _ hz => hz.1, by rcases ha.place with ⟨h, _⟩ | ⟨h, _⟩ <;> omega⟩
/-- What the taker keeps: how many at most, and the list so far. -/
structure TkT (b2 b3 D : Nat) (n : Int) (acc : List Int) (Z : Nat → Prop) (H : Mem) : Prop where
  c2 : cl H b2 0 = some (ptr D)
  c3 : cl H b3 0 = some (.int .i64 n)
  wr : Wr H D 0 1
  z2 : Z b2
  z3 : Z b3
  zD : Z D
  n2 : b2 ≠ D
  n3 : b3 ≠ D
  lt : ∀ b, Z b → b < H.size
  sl : (acc = [] ∧ cl H D 0 = some (.slice none 0 0)) ∨ ∃ b o c, cl H D 0 = some (.slice (some ⟨b, o, none⟩) acc.length c) ∧ SlE EN H b o c acc ∧ Z b ∧ b ≠ D ∧ b ≠ b2 ∧ b ≠ b3
theorem TkT.fr {b2 b3 D : Nat} {n : Int} {acc : List Int} {Z : Nat → Prop} {H H' : Mem} {Y : Nat → Nat → Prop} (h : TkT b2 b3 D n acc Z H) (hf : Fr Y H H') (hy : ∀ b o, Z b → ¬ Y b o) : TkT b2 b3 D n acc Z H' where
  c2 := hf.keep h.c2 (hy _ _ h.z2)
  c3 := hf.keep h.c3 (hy _ _ h.z3)
  wr := hf.wr h.wr
  z2 := h.z2
  z3 := h.z3
  zD := h.zD
  n2 := h.n2
  n3 := h.n3
  lt := fun b hb => Nat.lt_of_lt_of_le (h.lt b hb) hf.size
  sl := h.sl.elim (fun ⟨e, k⟩ => .inl ⟨e, hf.keep k (hy _ _ h.zD)⟩) fun ⟨b, o, c, k, hs, hz, r⟩ => .inr ⟨b, o, c, hf.keep k (hy _ _ h.zD), hs.fr hf (fun i _ _ => hy _ _ hz), hz, r⟩

/-- What the function of Set.Scan keeps: the taker, and what that one keeps. -/
def PrT (pb b2 b3 D : Nat) (n : Int) (acc : List Int) (Z : Nat → Prop) (H : Mem) : Prop :=
  ∃ Z0, TkT b2 b3 D n acc Z0 H ∧ cl H pb 0 = some (.func (.func 128) #[] #[ptr b2, ptr b3]) ∧ ¬ Z0 pb ∧ (∀ b, Z0 b → Z b) ∧ Z pb ∧ ∀ b, Z b → b < H.size
theorem PrT.out {pb b2 b3 D : Nat} {n : Int} {acc : List Int} {Z : Nat → Prop} {H : Mem} (h : PrT pb b2 b3 D n acc Z H) : ∃ v, cl H D 0 = some v ∧ OutS EN H v acc := by
  obtain ⟨Z0, hT, _⟩ := h
  rcases hT.sl with ⟨e, k⟩ | ⟨b, o, c, k, hs, _⟩
  · exact ⟨_, k, .inl ⟨rfl, e⟩⟩
  · exact ⟨_, k, .inr ⟨b, o, c, rfl, hs⟩⟩

end Go.Bt.FZ
