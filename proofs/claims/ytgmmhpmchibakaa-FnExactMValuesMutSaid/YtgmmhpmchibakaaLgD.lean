/- The program logic: slices that are made, appended to and copied; structs that are built. Conditions: those that each rule names. -/
import Derived.Test.YtgmmhpmchibakaaLgC
namespace Go.Bt
open Go

/-- A slice in memory: its cells up to the capacity are there and may be written, the first ones read so. -/
structure Sl (H : Mem) (b o len cap s : Nat) (xs : List Value) : Prop where
  hlen : xs.length = len * s
  hle : len ≤ cap
  rd : Rd H b o xs
  wr : Wr H b o (cap * s)

theorem Sl.fr {X : Nat → Nat → Prop} {H H' : Mem} {b o len cap s : Nat} {xs : List Value} (h : Sl H b o len cap s xs) (hf : Fr X H H') (hn : ∀ i, i < len * s → ¬ X b (o + i)) : Sl H' b o len cap s xs :=
  ⟨h.hlen, h.hle, hf.rd h.rd (by rw [h.hlen]; exact hn), hf.wr h.wr⟩

theorem Sl.lt {H : Mem} {b o len cap s : Nat} {xs : List Value} (h : Sl H b o len cap s xs) (hp : 0 < cap * s) : b < H.size := by
  obtain ⟨⟨v, hv⟩, _⟩ := h.wr 0 hp
  exact cl_lt hv

/-- What is known of a slice type. -/
structure SlT (P : Program) (t e : TypeId) (s by' : Nat) (z : Value) : Prop where
  und : P.underlying t = some (.slice e)
  sz : Sz P e s
  zero : Zero P e z
  bytes : ∃ i, (∀ w, (typeInfo e).run P w = .ok i w) ∧ i.bytes = by'
  zs : z.cells.size = s
  pos : 0 < s

/-- Behind an append of m elements: the slice is where it was, or in a block of its own. -/
structure App (H H' : Mem) (b o len cap m s : Nat) (xs news : List Value) (b' o' cap' : Nat) : Prop where
  sl : Sl H' b' o' (len + m) cap' s (xs ++ news)
  fr : Fr (rng b (o + len * s) ((cap - len) * s)) H H'
  place : (b' = b ∧ o' = o ∧ cap' = cap ∧ H'.size = H.size) ∨ (b' = H.size ∧ o' = 0 ∧ H'.size = H.size + 1)

section
variable {P : Program} {B : World} {H : Mem}

theorem run_firstCells (d s n : Nat) {b o len cap : Nat} {vs : List Value} (hl : vs.length = n * s) (h : Rd H b o vs) :
    (Builtin.firstCells s n (.slice (some ⟨b, o, none⟩) len cap)).run P (mk B H d) = .ok vs.toArray (mk B H d) := by
  simp only [Builtin.firstCells, ← hl]
  exact run_loads P B H d b o vs h

theorem run_firstCells_empty (s : Nat) (x : Option Addr) (len cap : Nat) (w : World) : (Builtin.firstCells s 0 (.slice x len cap)).run P w = .ok #[] w := by
  cases x <;> simp [Builtin.firstCells, loadCells, loadCellsFrom]

theorem zeroCells_size (z : Array Value) (n : Nat) : (Builtin.zeroCells z n).size = n * z.size := by simp [Builtin.zeroCells]

/-- append(x, y...) of a slice that lies in memory, or of none, to a slice that lies in memory. -/
theorem run_append {t e ty : TypeId} {s by' : Nat} {z : Value} (T : SlT P t e s by' z) {b o len cap : Nat} {xs : List Value} (hx : Sl H b o len cap s xs) {y : Value} {m : Nat} {news : List Value}
    (hy : (∃ b2 o2 c2, y = .slice (some ⟨b2, o2, none⟩) m c2 ∧ Rd H b2 o2 news) ∨ (∃ a c2, y = .slice a 0 c2 ∧ m = 0)) (hl : news.length = m * s) (h1 : ones news = true) (hb : (len + m) * by' ≤ 140737488355328) (h63 : len + m < 9223372036854775808)
    (d : Nat) : ∃ b' o' cap' H' d', (Builtin.append_ #[t, t] ty #[.slice (some ⟨b, o, none⟩) len cap, y]).run P (mk B H d) = .ok (.slice (some ⟨b', o', none⟩) (len + m) cap') (mk B H' d') ∧ App H H' b o len cap m s xs news b' o' cap' := by
  obtain ⟨inf, hinf, hby⟩ := T.bytes
  have hlen : ∀ w, (Builtin.lenOf y).run P w = .ok m w := fun w => by
    rcases hy with ⟨b2, o2, c2, rfl, _⟩ | ⟨a, c2, rfl, rfl⟩ <;> simp [Builtin.lenOf]
  have hfirst : ∀ d, (Builtin.firstCells s m y).run P (mk B H d) = .ok news.toArray (mk B H d) := fun d => by
    rcases hy with ⟨b2, o2, c2, rfl, hr⟩ | ⟨a, c2, rfl, rfl⟩
    · exact run_firstCells d s m hl hr
    · have : news = [] := List.eq_nil_of_length_eq_zero (by simpa using hl)
      subst this
      exact run_firstCells_empty s a 0 c2 _
  by_cases hroom : len + m ≤ cap
  · -- there is room
    have hw : Wr H b (o + len * s) news.length := fun i hi => by
      have := hx.wr (len * s + i) (by
        have : (len + m) * s ≤ cap * s := Nat.mul_le_mul_right s hroom
        rw [Nat.add_mul] at this
        omega)
      rw [show o + len * s + i = o + (len * s + i) by omega]
      exact this
    have hst := run_stores P B d b news H (o + len * s) 0 (by simpa using hw) h1
    simp only [Nat.add_zero] at hst
    refine ⟨b, o, cap, setcs H b (o + len * s) news, d, ?_, ?_⟩
    · simp [Builtin.append_, run_und T.und, T.sz _, hlen, hroom, hfirst, Addr.add_lit, hst]
    · have W := setcs_wrote news H b (o + len * s) hw
      refine ⟨⟨by rw [List.length_append, hx.hlen, hl, Nat.add_mul], hroom, fun i v hv => ?_, W.fr.wr hx.wr⟩, W.fr.mono fun b' o' _ hr => ?_, .inl ⟨rfl, rfl, rfl, W.size⟩⟩
      · rcases Nat.lt_or_ge i xs.length with h | h
        · rw [List.getElem?_append_left h] at hv
          exact W.fr.keep (hx.rd i v hv) (by rw [hx.hlen] at h; simp only [rng]; omega)
        · rw [List.getElem?_append_right h] at hv
          have := W.rd _ v hv
          rw [show o + i = o + len * s + (i - xs.length) by rw [hx.hlen] at h ⊢; omega]
          exact this
      · simp only [rng] at hr ⊢
        have : (len + m) * s ≤ cap * s := Nat.mul_le_mul_right s hroom
        rw [Nat.add_mul] at this
        rw [Nat.sub_mul]
        omega
  · -- a new array
    have hcap : ((Question.appendCap (len + m) cap e).cut ((mk B H d).tape (mk B H d).drawn (.appendCap (len + m) cap e))) = grownCap (mk B H d) (len + m) cap e := rfl
    generalize hG : grownCap (mk B H d) (len + m) cap e = G at *
    have hge : len + m ≤ G := by rw [← hG]; exact Nat.le_add_right _ _
    have hfit : ¬ (281474976710656 < Builtin.nextslicecap (len + m) cap * inf.bytes) := by
      have := growslice_fits (need := len + m) (old := cap) (bytes := by') (by omega) hb
      rw [hby]; omega
    have hold := run_firstCells (P := P) (B := B) (d + 1) s len (len := len) (cap := cap) hx.hlen hx.rd
    have hmade := made_push H (xs.toArray ++ news.toArray ++ Builtin.zeroCells z.cells (G - (len + m))) e
    have hsize : (xs.toArray ++ news.toArray ++ Builtin.zeroCells z.cells (G - (len + m))).size = G * s := by
      simp only [Array.size_append, List.size_toArray, zeroCells_size, T.zs, hx.hlen, hl, ← Nat.add_mul]
      congr 1
      omega
    refine ⟨H.size, 0, G, H.push (.cells (xs.toArray ++ news.toArray ++ Builtin.zeroCells z.cells (G - (len + m))) e), d + 1, ?_, ?_⟩
    · have h63' : ¬ (9223372036854775807 < ((len + m : Nat) : Int)) := by omega
      have hi : IntKind.i64.max = 9223372036854775807 := rfl
      have hcc : ¬ (((len + m : Nat) : Int) > IntKind.i64.max ∧ (false = true ∨ inf.bytes = 0)) := fun h => h63' (by rw [← hi]; exact h.1)
      have hq : (choose (.appendCap (len + m) cap e)).run P (mk B H d) = .ok G (mk B H (d + 1)) := by
        rw [run_choose]
        simp only [Question.forced, Bool.false_eq_true, if_false]
        rw [hcap]; rfl
      have hz := T.zero (mk B H (d + 1))
      simp only [Builtin.append_, List.getElem?_toArray, List.getElem?_cons_zero, List.getElem?_cons_succ, Sem.run_bind, run_und T.und, Result.andThen_ok, Sem.run_pure, T.sz _, Sem.run_ite, Bool.false_eq_true, if_false, hlen, if_neg hroom,
        hinf, Bool.not_false]
      have hg2 : ¬ ((len : Int) + (m : Int) > IntKind.i64.max ∧ (inf.bytes = 0)) := fun h => h63' (by rw [← hi]; push_cast; exact h.1)
      have hg3 : ¬ (Builtin.nextslicecap (len + m) cap * inf.bytes > 2 ^ 48) := by simpa using hfit
      simp only [Int.natCast_add, false_or, if_neg hg2, Result.andThen_ok, if_neg hg3, hq, run_askRoom, hold, hfirst, hz, newRow, if_true]
      rfl
    · have hr := hmade.rd (xs ++ news) (Builtin.zeroCells z.cells (G - (len + m))).toList (by simp)
      exact ⟨⟨by rw [List.length_append, hx.hlen, hl, Nat.add_mul], hge, hr, hmade.wr _ (by rw [hsize]; exact Nat.le_refl _)⟩, hmade.fr _, .inr ⟨rfl, rfl, hmade.size⟩⟩

/-- append(nil, y...) of a slice that lies in memory and is not empty. -/
theorem run_append_none {t e ty : TypeId} {s by' : Nat} {z : Value} (T : SlT P t e s by' z) {y : Value} {m : Nat} {news : List Value}
    (hy : ∃ b2 o2 c2, y = .slice (some ⟨b2, o2, none⟩) m c2 ∧ Rd H b2 o2 news) (hl : news.length = m * s) (hb : m * by' ≤ 140737488355328) (h63 : m < 9223372036854775808) (hm : 0 < m)
    (d : Nat) : ∃ cap' H' d', (Builtin.append_ #[t, t] ty #[.slice none 0 0, y]).run P (mk B H d) = .ok (.slice (some ⟨H.size, 0, none⟩) m cap') (mk B H' d') ∧ Sl H' H.size 0 m cap' s news ∧ Fr nowhere H H' ∧ H'.size = H.size + 1 := by
  obtain ⟨inf, hinf, hby⟩ := T.bytes
  obtain ⟨b2, o2, c2, rfl, hr⟩ := hy
  have hfirst : ∀ d, (Builtin.firstCells s m (.slice (some ⟨b2, o2, none⟩) m c2)).run P (mk B H d) = .ok news.toArray (mk B H d) := fun d => run_firstCells d s m hl hr
  have hcap : ((Question.appendCap m 0 e).cut ((mk B H d).tape (mk B H d).drawn (.appendCap m 0 e))) = grownCap (mk B H d) m 0 e := rfl
  generalize hG : grownCap (mk B H d) m 0 e = G at *
  have hge : m ≤ G := by rw [← hG]; exact Nat.le_add_right _ _
  have hfit : ¬ (281474976710656 < Builtin.nextslicecap m 0 * inf.bytes) := by
    have := growslice_fits (need := m) (old := 0) (bytes := by') (by omega) hb
    rw [hby]; omega
  have hmade := made_push H (news.toArray ++ Builtin.zeroCells z.cells (G - m)) e
  have hsize : (news.toArray ++ Builtin.zeroCells z.cells (G - m)).size = G * s := by
    simp only [Array.size_append, List.size_toArray, zeroCells_size, T.zs, hl, ← Nat.add_mul]
    congr 1
    omega
  refine ⟨G, H.push (.cells (news.toArray ++ Builtin.zeroCells z.cells (G - m)) e), d + 1, ?_, ?_⟩
  · have h63' : ¬ (9223372036854775807 < (m : Int)) := by omega
    have hi : IntKind.i64.max = 9223372036854775807 := rfl
    have hq : (choose (.appendCap m 0 e)).run P (mk B H d) = .ok G (mk B H (d + 1)) := by
      rw [run_choose]
      simp only [Question.forced, Bool.false_eq_true, if_false]
      rw [hcap]; rfl
    have hz := T.zero (mk B H (d + 1))
    have hroom : ¬ (m ≤ 0) := by omega
    have hg2 : ¬ ((m : Int) > IntKind.i64.max ∧ (inf.bytes = 0)) := fun h => h63' (by rw [← hi]; exact h.1)
    have hg3 : ¬ (Builtin.nextslicecap m 0 * inf.bytes > 2 ^ 48) := by simpa using hfit
    simp only [Builtin.append_, List.getElem?_toArray, List.getElem?_cons_zero, List.getElem?_cons_succ, Sem.run_bind, run_und T.und, Result.andThen_ok, Sem.run_pure, T.sz _, Sem.run_ite, Bool.false_eq_true, if_false, Builtin.lenOf, Nat.zero_add, if_neg hroom,
      hinf, Bool.not_false, false_or, if_neg hg2, if_neg hg3, hq, run_askRoom, run_firstCells_empty, hfirst, hz, newRow, run_newObj, if_true, Sem.run_pure, Array.empty_append]
    rfl
  · have h1 := hmade.rd news (Builtin.zeroCells z.cells (G - m)).toList (by simp)
    exact ⟨⟨hl, hge, h1, hmade.wr _ (by rw [hsize]; exact Nat.le_refl _)⟩, hmade.fr _, hmade.size⟩

/-- copy(x, y). -/
theorem run_copy {t e ty : TypeId} {s by' : Nat} {z : Value} (T : SlT P t e s by' z) {xa : Option Addr} {b o lx cx : Nat} {y : Value} {m j : Nat} {cs : List Value}
    (hj : j = Nat.min m lx) (hx : (xa = some ⟨b, o, none⟩) ∨ j = 0) (hy : (∃ b2 o2 c2, y = .slice (some ⟨b2, o2, none⟩) m c2 ∧ Rd H b2 o2 cs) ∨ (∃ a c2, y = .slice a m c2 ∧ j = 0)) (hl : cs.length = j * s) (h1 : ones cs = true) (hw : Wr H b o (j * s))
    (d : Nat) : ∃ H', (Builtin.copy_ #[t, t] ty #[.slice xa lx cx, y]).run P (mk B H d) = .ok (.int .i64 (j : Int)) (mk B H' d) ∧ Wrote H H' b o cs := by
  refine ⟨setcs H b o cs, ?_, setcs_wrote cs H b o (by rw [hl]; exact hw)⟩
  have hlen : (Builtin.lenOf y).run P (mk B H d) = .ok m (mk B H d) := by
    rcases hy with ⟨b2, o2, c2, rfl, _⟩ | ⟨a, c2, rfl, _⟩ <;> simp [Builtin.lenOf]
  have hfirst : (Builtin.firstCells s j y).run P (mk B H d) = .ok cs.toArray (mk B H d) := by
    rcases hy with ⟨b2, o2, c2, rfl, hr⟩ | ⟨a, c2, rfl, h0⟩
    · exact run_firstCells d s j hl hr
    · subst h0
      have : cs = [] := List.eq_nil_of_length_eq_zero (by simpa using hl)
      subst this
      exact run_firstCells_empty s a m c2 _
  have hst := run_stores P B d b cs H o 0 (by simpa [hl] using hw) h1
  simp only [Nat.add_zero] at hst
  rcases hx with rfl | h0
  · simp [Builtin.copy_, run_und T.und, hlen, ← hj, T.sz _, hfirst, hst, goInt]
  · subst h0
    have : cs = [] := List.eq_nil_of_length_eq_zero (by simpa using hl)
    subst this
    cases xa with
    | none => simp [Builtin.copy_, run_und T.und, hlen, ← hj, T.sz _, hfirst, goInt, setcs]
    | some ad => simp [Builtin.copy_, run_und T.und, hlen, ← hj, T.sz _, hfirst, goInt, setcs, storeCells]
end

section
variable {P : Program} {B : World} {f : FuncId} {Q : Value → Mem → Prop} {n : Nat} {r : Env} {k : List Item} {H : Mem} {l : List Oper} {C : Mem → Prop} {p : List (Nat × Nat)}
variable {i kd d : Nat} {ty : TypeId} {pos : String} {af : Array Edge} {gd : Option (Nat × Bool)}

theorem O.app {t e : TypeId} {s by' : Nat} {z : Value} {x y : Operand} {b o len cap : Nat} {xs : List Value} {v : Value} {m : Nat} {news : List Value} (hi : l[i]? = some ⟨some d, .call ⟨.builtin .append, #[x, y], #[t, t]⟩, ty, pos, af, gd⟩)
    (hg : guardOn l r gd = true) (hd : Nat.blt d n = true) (T : SlT P t e s by' z) (hx : ev r x = some (.slice (some ⟨b, o, none⟩) len cap)) (hs : Sl H b o len cap s xs) (hy : ev r y = some v)
    (hv : (∃ b2 o2 c2, v = .slice (some ⟨b2, o2, none⟩) m c2 ∧ Rd H b2 o2 news) ∨ (∃ a c2, v = .slice a 0 c2 ∧ m = 0)) (hl : news.length = m * s) (h1 : ones news = true) (hb : (len + m) * by' ≤ 140737488355328) (h63 : len + m < 9223372036854775808)
    (h : ∀ b' o' cap' H', App H H' b o len cap m s xs news b' o' cap' → C H' ∧ Pl P B f Q n l C k p ((d, .slice (some ⟨b', o', none⟩) (len + m) cap') :: r) H') : Pl P B f Q n l C k ((i, 2) :: p) r H :=
  Pl.loudV hi rfl hg hd (fun u H' => ∃ b' o' cap', u = .slice (some ⟨b', o', none⟩) (len + m) cap' ∧ App H H' b o len cap m s xs news b' o' cap')
    (fun a d' ha => by
      obtain ⟨b', o', cap', H', d'', h1, h2⟩ := run_append (ty := ty) T hs hv hl h1 hb h63 d'
      refine ⟨_, H', d'', ?_, b', o', cap', rfl, h2⟩
      simp only [execOp, resolve, List.map_toArray, List.map_cons, List.map_nil, ha.eval hx, ha.eval hy, Sem.run_bind, Sem.run_pure, Result.andThen_ok, invoke, builtin]
      rw [h1]; rfl)
    (fun u H' hu => by obtain ⟨b', o', cap', rfl, ha⟩ := hu; exact h b' o' cap' H' ha)

theorem O.appN {t e : TypeId} {s by' : Nat} {z : Value} {x y : Operand} {v : Value} {m : Nat} {news : List Value} (hi : l[i]? = some ⟨some d, .call ⟨.builtin .append, #[x, y], #[t, t]⟩, ty, pos, af, gd⟩)
    (hg : guardOn l r gd = true) (hd : Nat.blt d n = true) (T : SlT P t e s by' z) (hx : ev r x = some (.slice none 0 0)) (hy : ev r y = some v)
    (hv : ∃ b2 o2 c2, v = .slice (some ⟨b2, o2, none⟩) m c2 ∧ Rd H b2 o2 news) (hl : news.length = m * s) (hb : m * by' ≤ 140737488355328) (h63 : m < 9223372036854775808) (hm : 0 < m)
    (h : ∀ cap' H', Sl H' H.size 0 m cap' s news → Fr nowhere H H' → H'.size = H.size + 1 → C H' ∧ Pl P B f Q n l C k p ((d, .slice (some ⟨H.size, 0, none⟩) m cap') :: r) H') : Pl P B f Q n l C k ((i, 2) :: p) r H :=
  Pl.loudV hi rfl hg hd (fun u H' => ∃ cap', u = .slice (some ⟨H.size, 0, none⟩) m cap' ∧ Sl H' H.size 0 m cap' s news ∧ Fr nowhere H H' ∧ H'.size = H.size + 1)
    (fun a d' ha => by
      obtain ⟨cap', H', d'', h1, h2⟩ := run_append_none (ty := ty) T hv hl hb h63 hm d'
      refine ⟨_, H', d'', ?_, cap', rfl, h2⟩
      simp only [execOp, resolve, List.map_toArray, List.map_cons, List.map_nil, ha.eval hx, ha.eval hy, Sem.run_bind, Sem.run_pure, Result.andThen_ok, invoke, builtin]
      rw [h1]; rfl)
    (fun u H' hu => by obtain ⟨cap', rfl, h1, h2, h3⟩ := hu; exact h cap' H' h1 h2 h3)

theorem O.copy {t e : TypeId} {s by' : Nat} {z : Value} {x y : Operand} {xa : Option Addr} {b o lx cx : Nat} {v : Value} {m j : Nat} {cs : List Value} (hi : l[i]? = some ⟨some d, .call ⟨.builtin .copy, #[x, y], #[t, t]⟩, ty, pos, af, gd⟩)
    (hg : guardOn l r gd = true) (hd : Nat.blt d n = true) (T : SlT P t e s by' z) (hx : ev r x = some (.slice xa lx cx)) (hy : ev r y = some v)
    (hj : j = Nat.min m lx) (hxa : (xa = some ⟨b, o, none⟩) ∨ j = 0) (hv : (∃ b2 o2 c2, v = .slice (some ⟨b2, o2, none⟩) m c2 ∧ Rd H b2 o2 cs) ∨ (∃ a c2, v = .slice a m c2 ∧ j = 0)) (hl : cs.length = j * s) (h1 : ones cs = true) (hw : Wr H b o (j * s))
    (h : ∀ H', Wrote H H' b o cs → C H' ∧ Pl P B f Q n l C k p ((d, .int .i64 (j : Int)) :: r) H') : Pl P B f Q n l C k ((i, 2) :: p) r H :=
  Pl.loudV hi rfl hg hd (fun u H' => u = .int .i64 (j : Int) ∧ Wrote H H' b o cs)
    (fun a d' ha => by
      obtain ⟨H', h1, h2⟩ := run_copy (ty := ty) (b := b) (o := o) (cx := cx) T hj hxa hv hl h1 hw d'
      refine ⟨_, H', d', ?_, rfl, h2⟩
      simp only [execOp, resolve, List.map_toArray, List.map_cons, List.map_nil, ha.eval hx, ha.eval hy, Sem.run_bind, Sem.run_pure, Result.andThen_ok, invoke, builtin]
      rw [h1]; rfl)
    (fun u H' hu => by obtain ⟨rfl, hw⟩ := hu; exact h H' hw)

/-! ### Literals -/
def vals (r : Env) : List (Nat × Operand) → Option (List (Nat × Value))
  | [] => some []
  | (j, x) :: ps => match ev r x, vals r ps with
    | some v, some vs => some ((j, v) :: vs)
    | _, _ => none

theorem Sees.vals {a : Act} (ha : Sees n r a) : ∀ {ps : List (Nat × Operand)} {vs : List (Nat × Value)}, vals r ps = some vs → ps.map (fun x => (x.1, a.eval x.2)) = vs
  | [], vs, h => by simp only [Bt.vals, Option.some.injEq] at h; subst h; rfl
  | (j, x) :: ps, vs, h => by
    simp only [Bt.vals] at h
    split at h
    · rename_i v us h1 h2
      simp only [Option.some.injEq] at h
      subst h
      simp [ha.eval h1, Sees.vals ha h2]
    · cases h

def zeroRow (z : Value) (m : Nat) : Array Value := (Array.range m).map (z.cells[· % z.cells.size]!)

/-- A slice literal. -/
theorem O.bsl {t e : TypeId} {s by' : Nat} {z : Value} {len : Nat} {ps : List (Nat × Operand)} {vs : List (Nat × Value)} {cs : List Value} (hi : l[i]? = some ⟨some d, .buildSlice t len ps.toArray, ty, pos, af, gd⟩)
    (hg : guardOn l r gd = true) (hd : Nat.blt d n = true) (T : SlT P t e s by' z) (hv : vals r ps = some vs) (hlt : len * s ≤ 1024)
    (hf : Instr.fill (fun i => some (i * s, s)) (bif Nat.beq (len * s) 0 then #[] else zeroRow z (len * s)) vs = some cs.toArray)
    (h : ∀ H', Made H H' cs.toArray e → C H' ∧ Pl P B f Q n l C k p ((d, .slice (some ⟨H.size, 0, none⟩) len len) :: r) H') : Pl P B f Q n l C k ((i, 2) :: p) r H :=
  Pl.loudV hi rfl hg hd (fun u H' => u = .slice (some ⟨H.size, 0, none⟩) len len ∧ Made H H' cs.toArray e)
    (fun a d' ha => by
      refine ⟨_, H.push (.cells cs.toArray e), d', ?_, rfl, made_push _ _ _⟩
      have hvs := ha.vals hv
      have h2 : (ps.toArray.map fun x => (x.1, a.eval x.2)).toList = vs := by simpa using hvs
      have hlim : ¬ (len * s > 2 ^ 24) := by omega
      have hz := T.zero
      simp only [execOp, Instr.buildSlice, Sem.run_bind, run_und T.und, Result.andThen_ok, T.sz _, Sem.run_ite, if_neg hlim, Sem.run_pure, hz _, h2]
      by_cases h0 : len * s = 0
      · have hb : Nat.beq (len * s) 0 = true := by rw [h0]; rfl
        rw [hb, cond_true] at hf
        simp only [if_pos h0]
        have he : (Array.range (len * s)).map (fun x => (#[] : Array Value)[x % (#[] : Array Value).size]!) = #[] := by rw [h0]; simp
        rw [he, hf]
        rfl
      · have hb : Nat.beq (len * s) 0 = false := by
          cases hb : Nat.beq (len * s) 0 with
          | false => rfl
          | true => exact absurd (Nat.eq_of_beq_eq_true hb) h0
        rw [hb, cond_false] at hf
        unfold zeroRow at hf
        simp only [if_neg h0, hf]
        rfl)
    (fun u H' hu => by obtain ⟨rfl, hm⟩ := hu; exact h H' hm)

/-- make([]T, j, c). -/
theorem O.mks {t e : TypeId} {s by' : Nat} {z : Value} {x y : Operand} {j c : Nat} {kx ky : IntKind} {a b : Int} (hi : l[i]? = some ⟨some d, .makeSlice t x y, ty, pos, af, gd⟩)
    (hg : guardOn l r gd = true) (hd : Nat.blt d n = true) (T : SlT P t e s by' z) (hx : ev r x = some (.int kx a)) (hy : ev r y = some (.int ky b)) (hxj : a = (j : Int)) (hyc : b = (c : Int)) (hjc : j ≤ c) (hb : by' * c ≤ 140737488355328) (h63 : c < 9223372036854775808)
    (h : ∀ H', Made H H' (zeroRow z (c * s)) e → C H' ∧ Pl P B f Q n l C k p ((d, .slice (some ⟨H.size, 0, none⟩) j c) :: r) H') : Pl P B f Q n l C k ((i, 2) :: p) r H :=
  Pl.loudV hi rfl hg hd (fun u H' => u = .slice (some ⟨H.size, 0, none⟩) j c ∧ Made H H' (zeroRow z (c * s)) e)
    (fun a' d' ha => by
      subst hxj; subst hyc
      refine ⟨_, H.push (.cells (zeroRow z (c * s)) e), d', ?_, rfl, made_push _ _ _⟩
      obtain ⟨inf, hinf, hby⟩ := T.bytes
      have w1 : IntKind.i64.wrap (j : Int) = (j : Int) := wrap_id (by omega)
      have w2 : IntKind.i64.wrap (c : Int) = (c : Int) := wrap_id (by omega)
      have t0 : ¬ ((inf.bytes : Int) * (c : Int) > 2 ^ 48) := by
        rw [hby, ← Int.natCast_mul]
        have : (2 : Int) ^ 48 = 281474976710656 := by decide
        rw [this]
        omega
      have t1 : (decide ((c : Int) < 0) || decide ((inf.bytes : Int) * (c : Int) > 2 ^ 48)) = false := by
        rw [decide_eq_false t0, decide_eq_false (by omega : ¬ ((c : Int) < 0))]; rfl
      have t2 : ¬ ((j : Int) < 0) := by omega
      have t3 : ¬ ((j : Int) > (c : Int)) := by omega
      have hg2 : ((decide ((c : Int) < 0) || decide ((inf.bytes : Int) * (c : Int) > 2 ^ 48)) || decide ((j : Int) < 0) || decide ((j : Int) > (c : Int))) = false := by
        rw [t1, decide_eq_false t2, decide_eq_false t3]; rfl
      simp only [execOp, Instr.makeSlice, Sem.run_bind, run_und T.und, Result.andThen_ok, ha.eval hx, ha.eval hy, asInt, asIntOf, Sem.run_pure, hinf, w1, w2, Sem.run_ite]
      rw [hg2]
      simp only [Bool.false_eq_true, if_false, Result.andThen_ok, run_askRoom, T.sz _, Int.toNat_natCast]
      by_cases h0 : c * s = 0
      · simp only [if_pos h0, Result.andThen_ok]
        have he : (Array.range (c * s)).map (fun x => (#[] : Array Value)[x % (#[] : Array Value).size]!) = zeroRow z (c * s) := by rw [h0]; simp [zeroRow]
        rw [he]
        rfl
      · simp only [if_neg h0, Result.andThen_ok, T.zero _]
        rfl)
    (fun u H' hu => by obtain ⟨rfl, hm⟩ := hu; exact h H' hm)

theorem zeroRow_size (z : Value) (m : Nat) : (zeroRow z m).size = m := by simp [zeroRow]

/-- A struct literal. -/
structure StT (P : Program) (t : TypeId) (pl : List (Nat × Nat)) (z : List Value) : Prop where
  places : ∃ fs, P.underlying t = some (.struct fs) ∧ ∀ w, (fs.mapM (m := Sem) fun f => do pure (f.offset, ← sizeOf f.type)).run P w = .ok pl.toArray w
  zero : Zero P t (.agg z.toArray)

theorem O.bld {t : TypeId} {pl : List (Nat × Nat)} {z cs : List Value} {ps : List (Nat × Operand)} {vs : List (Nat × Value)} (hi : l[i]? = some ⟨some d, .build t ps.toArray, ty, pos, af, gd⟩) (hk : Nat.blt kd 2 = true)
    (hg : guardOn l r gd = true) (hd : Nat.blt d n = true) (T : StT P t pl z) (hv : vals r ps = some vs) (hf : Instr.fill (fun i => pl.toArray[i]?) z.toArray vs = some cs.toArray)
    (h : Pl P B f Q n l C k p ((d, .agg cs.toArray) :: r) H) : Pl P B f Q n l C k ((i, kd) :: p) r H :=
  Pl.quiet hi hk hg hd (fun a H' d' ha _ => by
    obtain ⟨⟨fs, hu, hm⟩, hz⟩ := T
    have hvs := ha.vals hv
    have h2 : (ps.toArray.map fun x => (x.1, a.eval x.2)).toList = vs := by simpa using hvs
    have hc : (Value.agg z.toArray).cells = z.toArray := rfl
    simp only [execOp, Instr.build, Sem.run_bind, hz _, Result.andThen_ok, run_und hu, hm _, h2, hc, hf]
    rfl) h

theorem O.mki {t : TypeId} {x : Operand} {v : Value} {td : TypeDesc} (hi : l[i]? = some ⟨some d, .makeInterface t x, ty, pos, af, gd⟩) (hk : Nat.blt kd 2 = true) (hg : guardOn l r gd = true) (hd : Nat.blt d n = true)
    (hu : P.underlying t = some td) (hn : (match td with | .interface _ => false | _ => true) = true) (hx : ev r x = some v) (h : Pl P B f Q n l C k p ((d, .iface t v) :: r) H) : Pl P B f Q n l C k ((i, kd) :: p) r H :=
  Pl.quiet hi hk hg hd (fun a H' d' ha _ => by
    simp only [execOp, Instr.makeInterface, Sem.run_bind, run_und hu, Result.andThen_ok, ha.eval hx]
    cases td <;> simp_all) h

/-- An assertion that only looks at types. -/
theorem O.tya {t u : TypeId} {x : Operand} {c : Bool} {v w : Value} (hi : l[i]? = some ⟨some d, .typeAssert x t u c, ty, pos, af, gd⟩) (hk : Nat.blt kd 2 = true) (hg : guardOn l r gd = true) (hd : Nat.blt d n = true)
    (hx : ev r x = some v) (hr : ∀ W, (Instr.typeAssert v t u c).run P W = .ok w W) (h : Pl P B f Q n l C k p ((d, w) :: r) H) : Pl P B f Q n l C k ((i, kd) :: p) r H :=
  Pl.quiet hi hk hg hd (fun a H' d' ha _ => by simp [execOp, ha.eval hx, hr]) h

theorem O.mkf {fn : Go.Fn} {xs ys : List Operand} {us vs : List Value} (hi : l[i]? = some ⟨some d, .makeFunc fn xs.toArray ys.toArray, ty, pos, af, gd⟩) (hk : Nat.blt kd 2 = true) (hg : guardOn l r gd = true) (hd : Nat.blt d n = true)
    (hx : evs r xs = some us) (hy : evs r ys = some vs) (h : Pl P B f Q n l C k p ((d, .func fn us.toArray vs.toArray) :: r) H) : Pl P B f Q n l C k ((i, kd) :: p) r H :=
  Pl.quiet hi hk hg hd (fun a H' d' ha _ => by
    have h1 := ha.evals hx
    have h2 := ha.evals hy
    simp only [execOp, Sem.run_bind, Instr.makeFunc, Sem.run_pure, Result.andThen_ok]
    rw [← h1, ← h2]; simp) h

/-- A field of a struct value. -/
theorem O.fld {s : TypeId} {x : Operand} {ix : Nat} {cs : Array Value} {v : Value} (hi : l[i]? = some ⟨some d, .field s x ix, ty, pos, af, gd⟩) (hk : Nat.blt kd 2 = true) (hg : guardOn l r gd = true) (hd : Nat.blt d n = true)
    (hx : ev r x = some (.agg cs)) (hr : ∀ W, (Instr.field s (.agg cs) ix).run P W = .ok v W) (h : Pl P B f Q n l C k p ((d, v) :: r) H) : Pl P B f Q n l C k ((i, kd) :: p) r H :=
  Pl.quiet hi hk hg hd (fun a H' d' ha _ => by simp [execOp, ha.eval hx, hr]) h
theorem run_field_flat {s : TypeId} {ix off : Nat} {cs : Array Value} {v : Value} {t : TypeId} (hf : ∃ fs fd, P.underlying s = some (.struct fs) ∧ fs[ix]? = some fd ∧ fd.offset = off ∧ fd.type = t) (ht : Flat P t) (hv : cs[off]? = some v) (W : World) :
    (Instr.field s (.agg cs) ix).run P W = .ok v W := by
  obtain ⟨fs, fd, h1, h2, rfl, rfl⟩ := hf
  simp only [Instr.field, Sem.run_bind, run_und h1, Result.andThen_ok, h2, asAgg, Sem.run_pure, part, (ht _).1, Bool.false_eq_true, if_false, hv]
theorem run_field_agg {s : TypeId} {ix off sz : Nat} {cs : Array Value} {t : TypeId} (hf : ∃ fs fd, P.underlying s = some (.struct fs) ∧ fs[ix]? = some fd ∧ fd.offset = off ∧ fd.type = t) (ht : AggT P t sz) (W : World) :
    (Instr.field s (.agg cs) ix).run P W = .ok (.agg (cs.extract off (off + sz))) W := by
  obtain ⟨fs, fd, h1, h2, rfl, rfl⟩ := hf
  simp only [Instr.field, Sem.run_bind, run_und h1, Result.andThen_ok, h2, asAgg, Sem.run_pure, part, (ht _).1, (ht _).2, if_true]
end

/-! ### An assertion that fails: the type has no methods -/
theorem missing_one (n : String) (sig : TypeId) : ∃ m, Instr.missingMethod #[(n, sig)] #[] = some m := by
  unfold Instr.missingMethod
  simp [List.partition, List.partition.loop, Instr.least]
  cases decide (Char.ofNat 46 ∈ n.toList) <;> simp
theorem run_assert_no {P : Program} {t u a : TypeId} {v z : Value} {n : String} {sig : TypeId} {i : TypeInfo} (hu : P.underlying a = some (.interface #[(n, sig)])) (hi : ∀ w, (typeInfo t).run P w = .ok i w) (hm : i.methods = #[])
    (hz : Zero P a z) (w : World) : (Instr.typeAssert (.iface t v) u a true).run P w = .ok (.tuple #[z, .bool false]) w := by
  obtain ⟨m, hm'⟩ := missing_one n sig
  simp only [Instr.typeAssert, Sem.run_bind, run_und hu, Result.andThen_ok, hi, hm, hm', if_true, hz w, Sem.run_pure]
theorem run_assert_no' {P : Program} {t u a : TypeId} {v z : Value} {n : String} {sig : TypeId} {i : TypeInfo} (hu : P.underlying a = some (.interface #[(n, sig)])) (hi : ∀ w, (typeInfo t).run P w = .ok i w) (hm : i.methods = #[])
    (hz : Zero P a z) : ∀ w : World, (Instr.typeAssert (.iface t v) u a true).run P w = .ok (.tuple #[z, .bool false]) w := run_assert_no hu hi hm hz
end Go.Bt
