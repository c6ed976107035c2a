/- Contracts of functions of the program, proved by walking through their code. Conditions: those that each theorem names. -/
import Derived.Test.YtmboghgpakhceaaToiB
import Derived.Test.YtmboghgpakhceaaTogV
import Derived.Test.YtmboghgpakhceaaToSo
import Derived.Test.YtmboghgpakhceaaToHi
namespace Go.Bt.FG
open Go Go.Proofs
set_option maxRecDepth 20000
set_option maxHeartbeats 4000000
set_option linter.unusedVariables false
set_option linter.unusedSectionVars false

section
variable [Inhabited Cx]
variable {B : World} {g : FuncId} {us cs : List Value} {go : List (Int × Int) → Bool} {M : Nat}
theorem CbPost.rebase {cb : Cb Try.prog B encIt g us cs go M} {acc l : List (Int × Int)} {Z : Nat → Prop} {H H1 H' : Mem} (hf : Fr (fun b _ => Z b) H H1) (h : CbPost cb acc Z H1 l H') : CbPost cb acc Z H l H' := by
  obtain ⟨Z', h1, h2, h3⟩ := h
  exact ⟨Z', h1, hf.trans h2, fun b hb => (h3 b hb).imp id (fun h => Nat.le_trans hf.size h)⟩
/-- A function that items are handed to, with a hint beside what it keeps. -/
def cbH (cb : Cb Try.prog B encIt g us cs go M) (hv : Value) (hz : Nat → Prop) : Cb Try.prog B encIt g us cs go M where
  T := fun acc Z H => ∃ Z0, cb.T acc Z0 H ∧ HintOk H hv hz ∧ (∀ b, Z b ↔ Z0 b ∨ hz b) ∧ ∀ b, Z0 b → ¬ hz b
  fr := fun ⟨Z0, h1, h2, h3, h4⟩ hf hy => ⟨Z0, cb.fr h1 hf (fun b o hb => hy b o ((h3 b).2 (.inl hb))), h2.fr hf (fun b o hb => hy b o ((h3 b).2 (.inr hb))), h3, h4⟩
  lt := fun ⟨Z0, h1, h2, h3, _⟩ hb => ((h3 _).1 hb).elim (cb.lt h1) (fun h => (h2.base _ h).2)
  call := fun x ⟨Z0, h1, h2, h3, h4⟩ hl => (cb.call x h1 hl).mono fun _ H' ⟨e, Z1, g1, g2, g3⟩ =>
    ⟨e, fun b => Z1 b ∨ hz b, ⟨Z1, g1, h2.fr g2 (fun b o hb hb2 => h4 b hb2 hb), fun _ => Iff.rfl, fun b hb hb2 => (g3 b hb).elim (fun h => h4 b h hb2) (fun h => by have := (h2.base b hb2).2; omega)⟩,
      g2.mono (fun b o _ hb => (h3 b).2 (.inl hb)), fun b hb => hb.elim (fun hb => (g3 b hb).imp (fun h => (h3 b).2 (.inl h)) id) (fun hb => .inl ((h3 b).2 (.inr hb)))⟩
theorem VPre.fr0 {cb : Cb Try.prog B encIt g us cs go M} {H H' : Mem} {tr : Nat} {P : Ps} {h : Nat} {t : Gt EJ h} {bp op : Nat} {acc : List (Int × Int)} {Z : Nat → Prop} {Y : Nat → Nat → Prop} (hp : VPre cb H tr P h t bp op acc Z) (hf : Fr Y H H') (hy : ∀ b o, Y b o → Z b) (hbp : ¬ Z bp) (hst : cb.T acc Z H') : VPre cb H' tr P h t bp op acc Z :=
  ⟨hp.tc.fr hf (fun b o hb _ hz => hp.nb b (hy b o hz) hb), hp.g.fr hf (fun b o hb hz => hp.nz b o hb (hy b o hz)), hf.keep hp.cel (fun hz => hbp (hy _ _ hz)), hp.nz, hp.nb, hst, hp.len⟩
end
section
variable [Inhabited Cx]
end
end Go.Bt.FG
