/- What a reader does with a function that it hands the items to, one after the other, until that one says no. Conditions: none. -/
import Derived.Test.YtknkmaigdgfhlaaIt
namespace Go.Bt
open Go
set_option linter.unusedVariables false

/-- What has been handed on, and whether all were. -/
def takes {α : Type} (go : List α → Bool) : List α → List α → List α × Bool
  | acc, [] => (acc, true)
  | acc, x :: l => if go (acc ++ [x]) then takes go (acc ++ [x]) l else (acc ++ [x], false)
theorem takes_append {α : Type} (go : List α → Bool) : ∀ (l1 acc l2 : List α), takes go acc (l1 ++ l2) = if (takes go acc l1).2 then takes go (takes go acc l1).1 l2 else takes go acc l1
  | [], acc, l2 => by simp [takes]
  | x :: l1, acc, l2 => by
    simp only [List.cons_append, takes]
    by_cases h : go (acc ++ [x]) = true
    · simp only [h, if_true]; exact takes_append go l1 (acc ++ [x]) l2
    · simp only [h]; rfl
/-- n items at most; any number for n below 1. -/
def goN {α : Type} (n : Int) (acc : List α) : Bool := decide (n < 1) || decide ((acc.length : Int) < n)
def firstN {α : Type} (l : List α) (n : Int) : List α := if n < 1 ∨ (l.length : Int) < n then l else l.take n.toNat
theorem takes_goN {α : Type} (n : Int) : ∀ (l acc : List α), (n < 1 ∨ (acc.length : Int) < n) → (takes (goN n) acc l).1 = if n < 1 ∨ ((acc.length + l.length : Nat) : Int) < n then acc ++ l else acc ++ l.take (n.toNat - acc.length)
  | [], acc, h => by
    simp only [takes, List.length_nil, Nat.add_zero, List.append_nil, List.take_nil]
    split <;> rfl
  | x :: l, acc, h => by
    simp only [takes]
    by_cases hg : goN n (acc ++ [x]) = true
    · have hg' : n < 1 ∨ ((acc ++ [x]).length : Int) < n := by
        unfold goN at hg; simpa using hg
      rw [if_pos hg, takes_goN n l (acc ++ [x]) hg']
      have e : (acc ++ [x]).length + l.length = acc.length + (x :: l).length := by simp; omega
      rw [e]
      split
      · simp
      · rename_i hn
        have hlen : (acc ++ [x]).length = acc.length + 1 := by simp
        rw [hlen] at hg' ⊢
        have : n.toNat - acc.length = (n.toNat - (acc.length + 1)) + 1 := by omega
        rw [this, List.take_succ_cons]; simp
    · have hg' : ¬ (n < 1) ∧ n ≤ ((acc.length + 1 : Nat) : Int) := by
        unfold goN at hg; simp at hg; constructor <;> omega
      rw [if_neg hg]
      have hacc : (acc.length : Int) < n := by omega
      have hn : n.toNat = acc.length + 1 := by omega
      split
      · rename_i hh
        have : (x :: l).length = l.length + 1 := rfl
        omega
      · rw [hn, show acc.length + 1 - acc.length = 1 by omega]; simp
theorem takes_first {α : Type} (n : Int) (l : List α) : (takes (goN n) [] l).1 = firstN l n := by
  rcases Int.lt_or_le n 1 with h | h
  · rw [takes_goN n l [] (.inl h), firstN, if_pos (.inl h), if_pos (.inl h), List.nil_append]
  · rw [takes_goN n l [] (.inr (by simp; omega)), firstN]
    simp

/-- A function value that items are handed to: its states. T acc Z H: it has been handed acc; what it keeps lies in the blocks Z. -/
structure Cb {α : Type} (P : Program) (B : World) (enc : α → List Value) (g : FuncId) (us cs : List Value) (go : List α → Bool) (M : Nat) where
  T : List α → (Nat → Prop) → Mem → Prop
  fr : ∀ {acc Z H H' Y}, T acc Z H → Fr Y H H' → (∀ b o, Z b → ¬ Y b o) → T acc Z H'
  lt : ∀ {acc Z H b}, T acc Z H → Z b → b < H.size
  call : ∀ {acc Z H} (x : α), T acc Z H → acc.length < M → Fn P B g (us ++ enc x ++ cs) H fun r H' => r = .bool (go (acc ++ [x])) ∧ ∃ Z', T (acc ++ [x]) Z' H' ∧ Fr (fun b _ => Z b) H H' ∧ ∀ b, Z' b → Z b ∨ H.size ≤ b
/-- What a reader comes to. -/
def CbPost {α : Type} {P : Program} {B : World} {enc : α → List Value} {g : FuncId} {us cs : List Value} {go : List α → Bool} {M : Nat} (cb : Cb P B enc g us cs go M) (acc : List α) (Z : Nat → Prop) (H : Mem) (l : List α) (H' : Mem) : Prop :=
  ∃ Z', cb.T (takes go acc l).1 Z' H' ∧ Fr (fun b _ => Z b) H H' ∧ ∀ b, Z' b → Z b ∨ H.size ≤ b
theorem takes_length {α : Type} (go : List α → Bool) : ∀ (l acc : List α), (takes go acc l).1.length ≤ acc.length + l.length
  | [], acc => by simp [takes]
  | x :: l, acc => by
    simp only [takes]
    split
    · have := takes_length go l (acc ++ [x]); simp at this ⊢; omega
    · simp
end Go.Bt
