/- An order carried over to other items. Conditions: none. -/
import Derived.Test.YtknkmaigdgfhlaaAc
namespace Go.Bt.Pl
set_option linter.unusedVariables false
variable {α β : Type} {O : Swo α} {O2 : Swo β} {f : α → β} (hf : ∀ x y, O2.lt (f x) (f y) = O.lt x y)
include hf
theorem pos_map (x : α) (l : List α) : pos O2 (f x) (l.map f) = pos O x l := by
  unfold pos
  rw [List.takeWhile_map, List.length_map]
  congr 2
  funext y
  exact hf y x
theorem fnd_map (x : α) (l : List α) : fnd O2 (f x) (l.map f) = fnd O x l := by
  unfold fnd
  rw [pos_map hf, List.getElem?_map]
  cases l[pos O x l]? with
  | none => rfl
  | some y => simp only [Option.map_some, hf]
theorem got_map (x : α) (l : List α) : got O2 (f x) (l.map f) = (got O x l).map f := by
  unfold got
  rw [fnd_map hf, pos_map hf, List.getElem?_map]
  split <;> rfl
theorem put_map (x : α) (l : List α) : put O2 (f x) (l.map f) = (put O x l).map f := by
  unfold put
  rw [fnd_map hf, pos_map hf]
  simp [List.map_take, List.map_drop]
theorem puts_map (ls : List α) : puts O2 (ls.map f) = (puts O ls).map f := by
  unfold puts
  rw [List.foldl_map]
  have : ∀ (ls l : List α), ls.foldl (fun m x => put O2 (f x) m) (l.map f) = (ls.foldl (fun m x => put O x m) l).map f := by
    intro ls
    induction ls with
    | nil => exact fun l => rfl
    | cons x ls ih => intro l; simp only [List.foldl_cons]; rw [put_map hf, ih]
  exact this ls []
end Go.Bt.Pl
