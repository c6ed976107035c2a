/- What is told of each setting; lists put together. Conditions: none. -/
import Derived.Test.YtknkmaigdgfhlaaSt
namespace Go.Bt
open Go
set_option linter.unusedVariables false
namespace Pl
/-- For each setting in turn what f says of it and of the list before it. -/
def trace {α β : Type} (O : Swo α) (f : α → List α → β) (ls : List α) : List β := (ls.foldl (fun s x => (put O x s.1, s.2 ++ [f x s.1])) (([] : List α), ([] : List β))).2
theorem trace_1 {α β : Type} (O : Swo α) (f : α → List α → β) (ls : List α) : (ls.foldl (fun s x => (put O x s.1, s.2 ++ [f x s.1])) (([] : List α), ([] : List β))).1 = puts O ls := by
  unfold puts
  have : ∀ (ls : List α) (s : List α × List β), (ls.foldl (fun s x => (put O x s.1, s.2 ++ [f x s.1])) s).1 = ls.foldl (fun l x => put O x l) s.1 := by
    intro ls
    induction ls with
    | nil => exact fun s => rfl
    | cons x ls ih => exact fun s => ih _
  exact this ls _
theorem trace_snoc {α β : Type} (O : Swo α) (f : α → List α → β) (ls : List α) (x : α) : trace O f (ls ++ [x]) = trace O f ls ++ [f x (puts O ls)] := by
  rw [← trace_1 O f]
  simp [trace]
theorem trace_length {α β : Type} (O : Swo α) (f : α → List α → β) (ls : List α) : (trace O f ls).length = ls.length := by
  unfold trace
  have : ∀ (ls : List α) (s : List α × List β), (ls.foldl (fun s x => (put O x s.1, s.2 ++ [f x s.1])) s).2.length = s.2.length + ls.length := by
    intro ls
    induction ls with
    | nil => exact fun s => rfl
    | cons x ls ih => intro s; rw [List.foldl_cons, ih]; simp; omega
  simpa using this ls ([], [])
end Pl
section
variable {P : Program} {B : World} {f : FuncId} {Q : Value → Mem → Prop} {n : Nat} {r : Env} {k : List Item} {H : Mem} {l : List Oper} {C : Mem → Prop} {p : List (Nat × Nat)}
variable {i kd d : Nat} {ty : TypeId} {pos : String} {af : Array Edge} {gd : Option (Nat × Bool)}
/-- A list that lies in a block, be it empty. -/
def AccN {α : Type} (E : Elt α) (Z : Nat → Prop) (H : Mem) (v : Value) (l : List α) : Prop := ∃ b o c, v = .slice (some ⟨b, o, none⟩) l.length c ∧ Z b ∧ b < H.size ∧ SlE E H b o c l
theorem AccN.acc {α : Type} {E : Elt α} {Z : Nat → Prop} {H : Mem} {v : Value} {l : List α} (h : AccN E Z H v l) : Acc E Z H v l := .inr h
theorem AccN.fr {α : Type} {E : Elt α} {Z : Nat → Prop} {X : Nat → Nat → Prop} {H H' : Mem} {v : Value} {l : List α} (h : AccN E Z H v l) (hf : Fr X H H') (hz : ∀ b o, b < H.size → Z b → ¬ X b o) : AccN E Z H' v l :=
  have ⟨b, o, c, e, z, hb, hs⟩ := h
  ⟨b, o, c, e, z, Nat.lt_of_lt_of_le hb hf.size, hs.fr hf fun i _ _ => hz b i hb z⟩
theorem AccN.mono {α : Type} {E : Elt α} {Z Y : Nat → Prop} {H : Mem} {v : Value} {l : List α} (h : AccN E Z H v l) (hz : ∀ b, b < H.size → Z b → Y b) : AccN E Y H v l :=
  have ⟨b, o, c, e, z, hb, hs⟩ := h
  ⟨b, o, c, e, hz b hb z, hb, hs⟩
theorem AccN.made {α : Type} {E : Elt α} {H H' : Mem} {c : Array Value} {e : TypeId} (h : Made H H' c e) : AccN E (fun b => H.size ≤ b) H' (.slice (some ⟨H.size, 0, none⟩) 0 0) [] :=
  ⟨H.size, 0, 0, rfl, Nat.le_refl _, by rw [h.size]; omega, Sl.none _ _ _ _⟩
theorem O.appI {α : Type} {E : Elt α} {t e : TypeId} {by' : Nat} {z : Value} {x y : Operand} {v u : Value} {l' Y : List α} {Z : Nat → Prop} (hi : l[i]? = some ⟨some d, .call ⟨.builtin .append, #[x, y], #[t, t]⟩, ty, pos, af, gd⟩)
    (hg : guardOn l r gd = true) (hd : Nat.blt d n = true) (T : SlT P t e E.s by' z) (hx : ev r x = some v) (hA : AccN E Z H v l') (hy : ev r y = some u)
    (hv : InS E H u Y) (hb : (l'.length + Y.length) * by' ≤ 140737488355328) (h63 : l'.length + Y.length < 9223372036854775808)
    (h : ∀ v' H', AccN E (fun b => Z b ∨ (b = H.size ∧ b < H'.size)) H' v' (l' ++ Y) → Fr (fun b _ => Z b) H H' → H'.size ≤ H.size + 1 → C H' ∧ Pl P B f Q n l C k p ((d, v') :: r) H') : Pl P B f Q n l C k ((i, 2) :: p) r H := by
  obtain ⟨b, o, c, rfl, hz, hlt, hs⟩ := hA
  refine O.app (m := Y.length) (news := row E Y) (xs := row E l') (s := E.s) hi hg hd T hx hs hy hv.src (row_len E Y) (row_ones E Y) hb h63 fun b' o' cap' H' ha => ?_
  have hp : b' = b ∧ H'.size = H.size ∨ b' = H.size ∧ H'.size = H.size + 1 := ha.place.elim (fun h => .inl ⟨h.1, h.2.2.2⟩) (fun h => .inr ⟨h.1, h.2.2⟩)
  refine h _ _ ⟨b', o', cap', by rw [List.length_append], ?_, by omega, SlE.apps ha⟩ (ha.fr.mono fun b1 o1 _ h1 => ?_) (by omega)
  · rcases hp with ⟨rfl, _⟩ | ⟨rfl, _⟩
    · exact .inl hz
    · exact .inr ⟨rfl, by omega⟩
  · have : b1 = b := h1.1
    subst this; exact hz
theorem O.lenS {t : TypeId} {x : Operand} {s : ByteArray} (hi : l[i]? = some ⟨some d, .call ⟨.builtin .len, #[x], #[t]⟩, ty, pos, af, gd⟩) (hk : Nat.blt kd 2 = true) (hg : guardOn l r gd = true) (hd : Nat.blt d n = true)
    (hu : P.underlying t = some .string) (hx : ev r x = some (.string s)) (h : Pl P B f Q n l C k p ((d, .int .i64 (s.size : Int)) :: r) H) : Pl P B f Q n l C k ((i, kd) :: p) r H :=
  Pl.quiet hi hk hg hd (fun a H' d' ha _ => by
    simp only [execOp, resolve, List.map_toArray, List.map_cons, List.map_nil, ha.eval hx, Sem.run_bind, Sem.run_pure, Result.andThen_ok, invoke, builtin]
    rw [run_len_string _ t ty s hu]
    rfl) h
theorem O.sleq {t t' : TypeId} {x y : Operand} {a b : ByteArray} {v : Bool} (hi : l[i]? = some ⟨some d, .binOp .leq t x y t', ty, pos, af, gd⟩) (hk : Nat.blt kd 2 = true) (hg : guardOn l r gd = true) (hd : Nat.blt d n = true)
    (hx : ev r x = some (.string a)) (hy : ev r y = some (.string b)) (hv : (Op.bytesLess a.toList b.toList || a.toList == b.toList) = v) (h : Pl P B f Q n l C k p ((d, .bool v) :: r) H) : Pl P B f Q n l C k ((i, kd) :: p) r H :=
  O.bin hi hk hg hd hx hy (fun w => ⟨run_eqGuard_str _ _ _ _ _ _ w, by simp [binOp, Op.stringOp, hv]⟩) h
end
theorem bl_leq (a b : Wk) : (Op.bytesLess a.toList b.toList || a.toList == b.toList) = !Op.bytesLess b.toList a.toList := by
  cases h : Op.bytesLess a.toList b.toList with
  | true => rw [bl_asy _ _ h]; rfl
  | false =>
    cases k : Op.bytesLess b.toList a.toList with
    | true =>
      rw [Bool.false_or]
      have : a.toList ≠ b.toList := fun e => by rw [e, bl_irr] at k; cases k
      simpa using this
    | false => rw [bl_eq _ _ h k]; simp
theorem bl_beq {a b : Wk} (h : Op.bytesLess a.toList b.toList = false) : (a.toList == b.toList) = !Op.bytesLess b.toList a.toList := by
  have := bl_leq a b
  rwa [h, Bool.false_or] at this
end Go.Bt
