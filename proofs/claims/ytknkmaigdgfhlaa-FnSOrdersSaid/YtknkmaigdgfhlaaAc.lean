/- A list that a function gathers in blocks of its own. Conditions: none. -/
import Derived.Test.YtknkmaigdgfhlaaDn
namespace Go.Bt
open Go
set_option linter.unusedVariables false
/-- What has been gathered: its block is one of Z. -/
def Acc {α : Type} (E : Elt α) (Z : Nat → Prop) (H : Mem) (v : Value) (l : List α) : Prop :=
  (v = .slice none 0 0 ∧ l = []) ∨ ∃ b o c, v = .slice (some ⟨b, o, none⟩) l.length c ∧ Z b ∧ b < H.size ∧ SlE E H b o c l
theorem Acc.nil {α : Type} (E : Elt α) (Z : Nat → Prop) (H : Mem) : Acc E Z H (.slice none 0 0) ([] : List α) := .inl ⟨rfl, rfl⟩
theorem Acc.fr {α : Type} {E : Elt α} {Z : Nat → Prop} {X : Nat → Nat → Prop} {H H' : Mem} {v : Value} {l : List α} (h : Acc E Z H v l) (hf : Fr X H H') (hz : ∀ b o, b < H.size → Z b → ¬ X b o) : Acc E Z H' v l :=
  h.imp id fun ⟨b, o, c, e, z, hb, hs⟩ => ⟨b, o, c, e, z, Nat.lt_of_lt_of_le hb hf.size, hs.fr hf fun i _ _ => hz b i hb z⟩
theorem Acc.mono {α : Type} {E : Elt α} {Z Y : Nat → Prop} {H : Mem} {v : Value} {l : List α} (h : Acc E Z H v l) (hz : ∀ b, b < H.size → Z b → Y b) : Acc E Y H v l :=
  h.imp id fun ⟨b, o, c, e, z, hb, hs⟩ => ⟨b, o, c, e, hz b hb z, hb, hs⟩
theorem Acc.out {α : Type} {E : Elt α} {Z : Nat → Prop} {H : Mem} {v : Value} {l : List α} (h : Acc E Z H v l) : OutS E H v l := h.imp id fun ⟨b, o, c, e, _, _, hs⟩ => ⟨b, o, c, e, hs⟩
theorem Acc.inS {α : Type} {E : Elt α} {Z : Nat → Prop} {H : Mem} {v : Value} {l : List α} (h : Acc E Z H v l) : InS E H v l := h.out.inS

section
variable {P : Program} {B : World} {f : FuncId} {Q : Value → Mem → Prop} {n : Nat} {r : Env} {k : List Item} {H : Mem} {l : List Oper} {C : Mem → Prop} {p : List (Nat × Nat)}
variable {i kd d : Nat} {ty : TypeId} {pos : String} {af : Array Edge} {gd : Option (Nat × Bool)}
theorem O.appA {α : Type} {E : Elt α} {t e : TypeId} {by' : Nat} {z : Value} {x y : Operand} {v u : Value} {l' Y : List α} {Z : Nat → Prop} (hi : l[i]? = some ⟨some d, .call ⟨.builtin .append, #[x, y], #[t, t]⟩, ty, pos, af, gd⟩)
    (hg : guardOn l r gd = true) (hd : Nat.blt d n = true) (T : SlT P t e E.s by' z) (hx : ev r x = some v) (hA : Acc E Z H v l') (hy : ev r y = some u)
    (hv : ∃ b2 o2 c2, u = .slice (some ⟨b2, o2, none⟩) Y.length c2 ∧ Rd H b2 o2 (row E Y)) (hm : 0 < Y.length) (hb : (l'.length + Y.length) * by' ≤ 140737488355328) (h63 : l'.length + Y.length < 9223372036854775808)
    (h : ∀ v' H', Acc E (fun b => Z b ∨ (b = H.size ∧ b < H'.size)) H' v' (l' ++ Y) → Fr (fun b _ => Z b) H H' → H'.size ≤ H.size + 1 → C H' ∧ Pl P B f Q n l C k p ((d, v') :: r) H') : Pl P B f Q n l C k ((i, 2) :: p) r H := by
  rcases hA with ⟨rfl, rfl⟩ | ⟨b, o, c, rfl, hz, hlt, hs⟩
  · rw [List.length_nil, Nat.zero_add] at hb h63
    refine O.appN (m := Y.length) (news := row E Y) hi hg hd T hx hy hv (row_len E Y) hb h63 hm fun cap' H' h1 h2 h3 => ?_
    refine h _ _ (.inr ⟨H.size, 0, cap', by rw [List.nil_append], .inr ⟨rfl, by omega⟩, by omega, ?_⟩) (h2.mono fun _ _ _ h => h.elim) (by omega)
    exact h1
  · refine O.app (m := Y.length) (news := row E Y) (xs := row E l') (s := E.s) hi hg hd T hx hs hy (.inl hv) (row_len E Y) (row_ones E Y) hb h63 fun b' o' cap' H' ha => ?_
    have hp : b' = b ∧ H'.size = H.size ∨ b' = H.size ∧ H'.size = H.size + 1 := ha.place.elim (fun h => .inl ⟨h.1, h.2.2.2⟩) (fun h => .inr ⟨h.1, h.2.2⟩)
    refine h _ _ (.inr ⟨b', o', cap', by rw [List.length_append], ?_, by omega, SlE.apps ha⟩) (ha.fr.mono fun b1 o1 _ h1 => ?_) (by omega)
    · rcases hp with ⟨rfl, _⟩ | ⟨rfl, _⟩
      · exact .inl hz
      · exact .inr ⟨rfl, by omega⟩
    · have : b1 = b := h1.1
      subst this; exact hz
end
end Go.Bt
