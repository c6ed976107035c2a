/- Items, lists of items and orders, as the thin package and the reference have them. Conditions: none. -/
import Derived.Test.YtknkmaigdgfhlaaBi
namespace Go.Bt
open Go
set_option linter.unusedVariables false

/-- An item: its key and its value. -/
def EJ : Elt (Int × Int) := { enc := fun x => [.int .i64 x.1, .int .i64 x.2], s := 2, len := fun _ => rfl, one := fun _ => rfl, pos := by decide }
def EN : Elt Int := { enc := fun x => [.int .i64 x], s := 1, len := fun _ => rfl, one := fun _ => rfl, pos := by decide }

/-- A slice that is read. -/
def InS {α : Type} (E : Elt α) (H : Mem) (v : Value) (l : List α) : Prop := (∃ b o c, v = .slice (some ⟨b, o, none⟩) l.length c ∧ l.length ≤ c ∧ Rd H b o (row E l)) ∨ (l = [] ∧ ∃ a c, v = .slice a 0 c)
theorem InS.nil {α : Type} (E : Elt α) (H : Mem) : InS E H (.slice none 0 0) ([] : List α) := .inr ⟨rfl, _, _, rfl⟩
theorem InS.fr {α : Type} {E : Elt α} {H H' : Mem} {v : Value} {l : List α} (h : InS E H v l) (hf : Fr nowhere H H') : InS E H' v l := h.elim (fun ⟨b, o, c, e, hc, hr⟩ => .inl ⟨b, o, c, e, hc, hf.rd hr fun _ _ => nw⟩) .inr
theorem InS.len {α : Type} {E : Elt α} {H : Mem} {v : Value} {l : List α} (h : InS E H v l) : ∃ a c, v = .slice a l.length c := by
  rcases h with ⟨b, o, c, e, _⟩ | ⟨rfl, a, c, e⟩
  · exact ⟨_, _, e⟩
  · exact ⟨_, _, e⟩
theorem InS.at {α : Type} {E : Elt α} {H : Mem} {v : Value} {l : List α} {i : Nat} {x : α} (h : InS E H v l) (hx : l[i]? = some x) : ∃ b o c, v = .slice (some ⟨b, o, none⟩) l.length c ∧ Rd H b (o + i * E.s) (E.enc x) := by
  rcases h with ⟨b, o, c, e, _, hr⟩ | ⟨rfl, _⟩
  · exact ⟨b, o, c, e, Rd.item E hr hx⟩
  · simp at hx
/-- A slice that is handed back. -/
def OutS {α : Type} (E : Elt α) (H : Mem) (v : Value) (l : List α) : Prop := (v = .slice none 0 0 ∧ l = []) ∨ ∃ b o c, v = .slice (some ⟨b, o, none⟩) l.length c ∧ SlE E H b o c l
theorem OutS.inS {α : Type} {E : Elt α} {H : Mem} {v : Value} {l : List α} (h : OutS E H v l) : InS E H v l := by
  rcases h with ⟨rfl, rfl⟩ | ⟨b, o, c, e, h⟩
  · exact .inr ⟨rfl, _, _, rfl⟩
  · exact .inl ⟨b, o, c, e, h.hle, h.rd⟩
/-- What was found. -/
def FV : Option (Int × Int) → Value
  | some y => .agg #[.int .i64 y.1, .int .i64 y.2, .bool true]
  | none => .agg #[.int .i64 0, .int .i64 0, .bool false]
def fvs : Option (Int × Int) → List Value
  | some y => [.int .i64 y.1, .int .i64 y.2, .bool true]
  | none => [.int .i64 0, .int .i64 0, .bool false]
theorem FV_eq (o : Option (Int × Int)) : FV o = .agg (fvs o).toArray := by cases o <;> rfl

/-- The rank of a key. -/
def rank (ord : List Int) (k : Int) : Int := if ord.length = 0 then k else ord.getD ((k.tmod ord.length + ord.length).tmod ord.length).toNat 0
def OO (ord : List Int) : Pl.Swo (Int × Int) := { lt := fun x y => decide (rank ord x.1 < rank ord y.1), irr := fun x => by simp, ntr := fun h k => by simp at *; omega, asy := fun h => by simp at *; omega }
theorem rank_nil (k : Int) : rank [] k = k := rfl

theorem InS.src {α : Type} {E : Elt α} {H : Mem} {v : Value} {l : List α} (h : InS E H v l) : (∃ b2 o2 c2, v = .slice (some ⟨b2, o2, none⟩) l.length c2 ∧ Rd H b2 o2 (row E l)) ∨ (∃ a c2, v = .slice a 0 c2 ∧ l.length = 0) := by
  rcases h with ⟨b, o, c, e, _, hr⟩ | ⟨rfl, a, c, e⟩
  · exact .inl ⟨b, o, c, e, hr⟩
  · exact .inr ⟨a, c, e, rfl⟩
theorem App.quiet {H H' : Mem} {b o m s : Nat} {xs news : List Value} {b' o' c' : Nat} (ha : App H H' b o 0 0 m s xs news b' o' c') : Fr nowhere H H' :=
  ha.fr.mono fun b1 o1 _ hz => by have h2 := hz.2.1; have h3 := hz.2.2; simp only [Nat.sub_self, Nat.zero_mul, Nat.add_zero] at h2 h3; omega
theorem SlE.of {α : Type} {E : Elt α} {H : Mem} {b o c n : Nat} {l : List α} {vs : List Value} (h : Sl H b o n c E.s vs) (hv : vs = row E l) (hn : n = l.length) : SlE E H b o c l := by subst hv; subst hn; exact h

section
variable {P : Program} {B : World} {f : FuncId} {Q : Value → Mem → Prop} {n : Nat} {r : Env} {k : List Item} {H : Mem} {l : List Oper} {C : Mem → Prop} {p : List (Nat × Nat)}
variable {i kd d : Nat} {ty : TypeId} {pos : String} {af : Array Edge} {gd : Option (Nat × Bool)}
/-- A slice that is empty, of any address. -/
theorem O.slc0 {t e : TypeId} {x : Operand} {lo hi' : Option Operand} {a : Option Addr} {s cap : Nat} (hi : l[i]? = some ⟨some d, .slice t x lo hi' none, ty, pos, af, gd⟩) (hk : Nat.blt kd 2 = true) (hg : guardOn l r gd = true) (hd : Nat.blt d n = true)
    (hu : P.underlying t = some (.slice e)) (hs : Sz P e s) (hx : ev r x = some (.slice a 0 cap)) (hh : bnd r 0 hi' 0) (hl : bnd r 0 lo 0)
    (h : ∀ a', Pl P B f Q n l C k p ((d, .slice a' 0 cap) :: r) H) : Pl P B f Q n l C k ((i, kd) :: p) r H := by
  refine Pl.quiet hi hk hg hd (fun ac H' d' ha _ => ?_) (h (if cap = 0 then a else a.map (·.add (0 * s))))
  have hb : (Instr.sliceBounds true 0 cap (lo.map ac.eval) (hi'.map ac.eval) none).run P (mk B H' d') = .ok (0, 0, cap) (mk B H' d') := by
    have z0 : ∀ (w : World) (kk : IntKind) (m : Nat) (c : BoundsCode), (Instr.sliceBound (.int kk 0) m c).run P w = .ok 0 w := fun w kk m c => run_sliceBound w kk 0 m c (Nat.zero_le m)
    unfold Instr.sliceBounds
    cases hi' with
    | none =>
      cases lo with
      | none => simp
      | some y =>
        obtain ⟨kk, hy⟩ := hl
        simp [ha.eval hy, z0]
    | some z =>
      obtain ⟨kz, hz⟩ := hh
      cases lo with
      | none => simp [ha.eval hz, z0]
      | some y =>
        obtain ⟨kk, hy⟩ := hl
        simp [ha.eval hy, ha.eval hz, z0]
  simp only [execOp, ha.eval hx, Sem.run_bind, Sem.run_pure, Instr.sliceAt, run_und hu, Result.andThen_ok, Instr.slice, Option.map_none, hb, hs _]
  rfl

/-- A part of a slice that is read. -/
theorem O.slcIn {α : Type} {E : Elt α} {t e : TypeId} {x : Operand} {lo hi' : Option Operand} {v : Value} {l' : List α} {jl jh : Nat} (hi : l[i]? = some ⟨some d, .slice t x lo hi' none, ty, pos, af, gd⟩) (hk : Nat.blt kd 2 = true) (hg : guardOn l r gd = true) (hd : Nat.blt d n = true)
    (hu : P.underlying t = some (.slice e)) (hs : Sz P e E.s) (hx : ev r x = some v) (hv : InS E H v l') (hh : bnd r l'.length hi' jh) (hl : bnd r 0 lo jl) (h1 : jl ≤ jh) (h2 : jh ≤ l'.length)
    (h : ∀ v', InS E H v' ((l'.drop jl).take (jh - jl)) → Pl P B f Q n l C k p ((d, v') :: r) H) : Pl P B f Q n l C k ((i, kd) :: p) r H := by
  rcases hv with ⟨b, o, c, rfl, hc, hr⟩ | ⟨rfl, a, c, rfl⟩
  · refine O.slc (jl := jl) (jh := jh) (jm := c) hi hk hg hd hu hs hx rfl hh hl h1 (by omega) (Nat.le_refl _) (by simp) fun o' ho' => h _ ?_
    have hlen : ((l'.drop jl).take (jh - jl)).length = jh - jl := by rw [List.length_take, List.length_drop]; omega
    rcases Nat.lt_or_ge jl c with hlt | hge
    · rw [ho' hlt]
      refine .inl ⟨b, o + jl * E.s, c - jl, by rw [hlen], by rw [hlen]; omega, ?_⟩
      have h3 : l' = l'.take jl ++ ((l'.drop jl).take (jh - jl) ++ (l'.drop jl).drop (jh - jl)) := by rw [List.take_append_drop, List.take_append_drop]
      rw [h3, row_append, row_append] at hr
      have h4 := ((Rd.append).1 ((Rd.append).1 hr).2).1
      rwa [row_len, List.length_take, Nat.min_eq_left (by omega)] at h4
    · have e0 : jh - jl = 0 := by omega
      rw [e0, List.take_zero]
      exact .inr ⟨rfl, _, _, rfl⟩
  · simp only [List.length_nil] at h2 hh
    obtain rfl : jh = 0 := by omega
    obtain rfl : jl = 0 := by omega
    exact O.slc0 hi hk hg hd hu hs hx hh hl fun a' => h _ (.inr ⟨by simp, _, _, rfl⟩)
end
namespace Pl
def puts {α : Type} (O : Swo α) (ls : List α) : List α := ls.foldl (fun l x => put O x l) []
theorem puts_snoc {α : Type} (O : Swo α) (ls : List α) (x : α) : puts O (ls ++ [x]) = put O x (puts O ls) := by simp [puts]
theorem puts_srt {α : Type} (O : Swo α) (ls : List α) : Srt O (puts O ls) := by
  unfold puts
  have : ∀ (ls l : List α), Srt O l → Srt O (ls.foldl (fun l x => put O x l) l) := by
    intro ls
    induction ls with
    | nil => exact fun l h => h
    | cons x ls ih => exact fun l h => ih _ (h.put O)
  exact this ls [] List.Pairwise.nil
theorem puts_length {α : Type} (O : Swo α) (ls : List α) : (puts O ls).length ≤ ls.length := by
  unfold puts
  have : ∀ (ls l : List α), (ls.foldl (fun l x => put O x l) l).length ≤ l.length + ls.length := by
    intro ls
    induction ls with
    | nil => exact fun l => by simp
    | cons x ls ih =>
      intro l
      have h1 := ih (put O x l)
      have h2 := length_put O x l
      simp only [List.foldl_cons, List.length_cons] at h1 ⊢
      omega
  simpa using this ls []
end Pl
end Go.Bt
namespace Go.Bt
/-- A list of what was found, as it lies in memory. -/
def EF : Elt (Option (Int × Int)) := { enc := fvs, s := 3, len := fun x => by cases x <;> rfl, one := fun x => by cases x <;> rfl, pos := by decide }
namespace Pl
/-- What each setting replaces. -/
def setst {α : Type} (O : Swo α) (ls : List α) : List α × List (Option α) := ls.foldl (fun s x => (put O x s.1, s.2 ++ [got O x s.1])) ([], [])
theorem setst_1 {α : Type} (O : Swo α) (ls : List α) : (setst O ls).1 = puts O ls := by
  unfold setst puts
  have : ∀ (ls : List α) (s : List α × List (Option α)), (ls.foldl (fun s x => (put O x s.1, s.2 ++ [got O x s.1])) s).1 = ls.foldl (fun l x => put O x l) s.1 := by
    intro ls
    induction ls with
    | nil => exact fun s => rfl
    | cons x ls ih => exact fun s => ih _
  exact this ls _
def gots {α : Type} (O : Swo α) (ls : List α) : List (Option α) := (setst O ls).2
theorem gots_snoc {α : Type} (O : Swo α) (ls : List α) (x : α) : gots O (ls ++ [x]) = gots O ls ++ [got O x (puts O ls)] := by
  unfold gots
  rw [← setst_1]
  simp [setst]
theorem gots_length {α : Type} (O : Swo α) (ls : List α) : (gots O ls).length = ls.length := by
  unfold gots setst
  have : ∀ (ls : List α) (s : List α × List (Option α)), (ls.foldl (fun s x => (put O x s.1, s.2 ++ [got O x s.1])) s).2.length = s.2.length + ls.length := by
    intro ls
    induction ls with
    | nil => exact fun s => rfl
    | cons x ls ih => intro s; rw [List.foldl_cons, ih]; simp; omega
  simpa using this ls ([], [])
end Pl
end Go.Bt
