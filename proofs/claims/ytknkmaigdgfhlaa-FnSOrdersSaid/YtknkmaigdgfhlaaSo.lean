/- Numbers put into order: neither their order nor how often they come matters. Conditions: none. -/
import Derived.Test.YtknkmaigdgfhlaaCc
namespace Go.Bt.Pl
set_option linter.unusedVariables false
/-- An order in which two are equal only if they are the same. -/
def Anti {α : Type} (O : Swo α) : Prop := ∀ x y, O.lt x y = false → O.lt y x = false → x = y
theorem mem_put {α : Type} {O : Swo α} (ha : Anti O) {x : α} {l : List α} (hs : Srt O l) (y : α) : y ∈ put O x l ↔ y = x ∨ y ∈ l := by
  unfold put
  cases hf : fnd O x l with
  | false =>
    simp only [Bool.toNat_false, Nat.add_zero, List.mem_append, List.mem_cons]
    have : y ∈ l ↔ y ∈ l.take (pos O x l) ∨ y ∈ l.drop (pos O x l) := by
      conv => lhs; rw [← List.take_append_drop (pos O x l) l]
      rw [List.mem_append]
    rw [this]
    constructor
    · rintro (h | h | h)
      · exact .inr (.inl h)
      · exact .inl h
      · exact .inr (.inr h)
    · rintro (h | h | h)
      · exact .inr (.inl h)
      · exact .inl h
      · exact .inr (.inr h)
  | true =>
    obtain ⟨z, hz, h1, h2⟩ := fnd_at O hs hf
    obtain rfl := ha z x h1 h2
    obtain ⟨hl, he⟩ := List.getElem?_eq_some_iff.1 hz
    have e : l = l.take (pos O z l) ++ z :: l.drop (pos O z l + 1) := by
      conv => lhs; rw [← List.take_append_drop (pos O z l) l, ← List.getElem_cons_drop (h := hl), he]
    simp only [Bool.toNat_true]
    rw [← e]
    constructor
    · exact .inr
    · rintro (rfl | h)
      · exact List.mem_of_getElem? hz
      · exact h
theorem mem_puts {α : Type} {O : Swo α} (ha : Anti O) (ls : List α) (y : α) : y ∈ puts O ls ↔ y ∈ ls := by
  unfold puts
  have : ∀ (ls l : List α), Srt O l → (y ∈ ls.foldl (fun l x => put O x l) l ↔ y ∈ l ∨ y ∈ ls) := by
    intro ls
    induction ls with
    | nil => intro l _; simp
    | cons x ls ih =>
      intro l hl
      rw [List.foldl_cons, ih _ (hl.put O), mem_put ha hl, List.mem_cons]
      constructor
      · rintro ((h | h) | h)
        · exact .inr (.inl h)
        · exact .inl h
        · exact .inr (.inr h)
      · rintro (h | h | h)
        · exact .inl (.inr h)
        · exact .inl (.inl h)
        · exact .inr h
  have := this ls [] List.Pairwise.nil
  simpa using this
theorem srt_ext {α : Type} {O : Swo α} : ∀ {l1 l2 : List α}, Srt O l1 → Srt O l2 → (∀ y, y ∈ l1 ↔ y ∈ l2) → l1 = l2
  | [], [], _, _, _ => rfl
  | [], z :: l2, _, _, h => by have := (h z).2 List.mem_cons_self; cases this
  | x :: l1, [], _, _, h => by have := (h x).1 List.mem_cons_self; cases this
  | x :: l1, z :: l2, h1, h2, h => by
    have g1 := (Srt.cons O).1 h1
    have g2 := (Srt.cons O).1 h2
    have e : x = z := by
      rcases List.mem_cons.1 ((h x).1 List.mem_cons_self) with e | hx
      · exact e
      · rcases List.mem_cons.1 ((h z).2 List.mem_cons_self) with e | hz
        · exact e.symm
        · have a := g2.1 x hx
          have b := g1.1 z hz
          rw [O.asy a] at b; cases b
    subst e
    rw [srt_ext g1.2 g2.2 fun y => ?_]
    constructor
    · intro hy
      rcases List.mem_cons.1 ((h y).1 (List.mem_cons_of_mem _ hy)) with e | hy2
      · subst e; have := g1.1 _ hy; rw [O.irr] at this; cases this
      · exact hy2
    · intro hy
      rcases List.mem_cons.1 ((h y).2 (List.mem_cons_of_mem _ hy)) with e | hy2
      · subst e; have := g2.1 _ hy; rw [O.irr] at this; cases this
      · exact hy2
theorem puts_ext {α : Type} {O : Swo α} (ha : Anti O) {a b : List α} (h : ∀ y, y ∈ a ↔ y ∈ b) : puts O a = puts O b :=
  srt_ext (puts_srt O a) (puts_srt O b) fun y => by rw [mem_puts ha, mem_puts ha]; exact h y
end Go.Bt.Pl
