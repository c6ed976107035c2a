/- Room for a list; numbers of other sizes; slices against nil. Conditions: none. -/
import Derived.Test.YtknkmaigdgfhlaaTr
namespace Go.Bt
open Go
set_option linter.unusedVariables false
section
variable {P : Program} {B : World} {H : Mem}
/-- append(nil, make([]T, m)...). -/
theorem run_append_zeros {t t2 e ty : TypeId} {s by' : Nat} {z : Value} {kk : IntKind} (T : SlT P t e s by' z) (h2 : P.underlying t2 = some (.int kk)) {a : Option Addr} {m : Nat} (hb : m * by' ≤ 140737488355328) (h63 : m < 9223372036854775808) (hm : 0 < m)
    (d : Nat) : ∃ cap' H' d', (Builtin.append_ #[t, t2] ty #[.slice a 0 0, .int .i64 (m : Int)]).run P (mk B H d) = .ok (.slice (some ⟨H.size, 0, none⟩) m cap') (mk B H' d') ∧ m ≤ cap' ∧ Wr H' H.size 0 (cap' * s) ∧ Fr nowhere H H' ∧ H'.size = H.size + 1 := by
  obtain ⟨inf, hinf, hby⟩ := T.bytes
  have hcap : ((Question.appendCap m 0 e).cut ((mk B H d).tape (mk B H d).drawn (.appendCap m 0 e))) = grownCap (mk B H d) m 0 e := rfl
  generalize hG : grownCap (mk B H d) m 0 e = G at *
  have hge : m ≤ G := by rw [← hG]; exact Nat.le_add_right _ _
  have hfit : ¬ (281474976710656 < Builtin.nextslicecap m 0 * inf.bytes) := by
    have := growslice_fits (need := m) (old := 0) (bytes := by') (by omega) hb
    rw [hby]; omega
  have hmade := made_push H (Builtin.zeroCells z.cells m ++ Builtin.zeroCells z.cells (G - m)) e
  have hsize : (Builtin.zeroCells z.cells m ++ Builtin.zeroCells z.cells (G - m)).size = G * s := by
    simp only [Array.size_append, zeroCells_size, T.zs, ← Nat.add_mul]
    congr 1
    omega
  refine ⟨G, H.push (.cells (Builtin.zeroCells z.cells m ++ Builtin.zeroCells z.cells (G - m)) e), d + 1, ?_, hge, hmade.wr _ (by rw [hsize]; exact Nat.le_refl _) T.lt, hmade.fr _, hmade.size⟩
  have hi : IntKind.i64.max = 9223372036854775807 := rfl
  have hw : IntKind.i64.wrap (m : Int) = (m : Int) := wrap_id ⟨by omega, by omega⟩
  have hq : (choose (.appendCap m 0 e)).run P (mk B H d) = .ok G (mk B H (d + 1)) := by
    rw [run_choose]
    simp only [Question.forced, Bool.false_eq_true, if_false]
    rw [hcap]; rfl
  have hz := T.zero (mk B H (d + 1))
  have hroom : ¬ (m ≤ 0) := by omega
  have hneg : ¬ ((m : Int) < 0) := by omega
  have hbig : ¬ ((281474976710656 : Int) < (m : Int) * (inf.bytes : Int)) := by
    rw [hby]
    have : ((m * by' : Nat) : Int) ≤ 140737488355328 := by omega
    push_cast at this
    omega
  have hms : ¬ (m * s = 0) := fun h => by
    have := Nat.mul_pos hm T.pos
    omega
  have hg2 : ¬ ((m : Int) > IntKind.i64.max ∧ (True ∨ inf.bytes = 0)) := fun h => by have := h.1; rw [hi] at this; omega
  have hg3 : ¬ (Builtin.nextslicecap m 0 * inf.bytes > 2 ^ 48) := by simpa using hfit
  have hg4 : ¬ ((9223372036854775807 : Int) < (m : Int)) := by omega
  simp [Builtin.append_, run_und T.und, run_und h2, T.sz _, asInt, asIntOf, hw, hneg, hi, hg4, hfit, hbig, hinf, hms, run_askRoom, run_firstCells_empty, newRow, show ∀ w, (zeroValue e).run P w = .ok z w from T.zero, show m ≠ 0 by omega, Question.forced, hcap]
  exact ⟨rfl, rfl⟩
end
section
variable {P : Program} {B : World} {f : FuncId} {Q : Value → Mem → Prop} {n : Nat} {r : Env} {k : List Item} {H : Mem} {l : List Oper} {C : Mem → Prop} {p : List (Nat × Nat)}
variable {i kd d : Nat} {ty : TypeId} {pos : String} {af : Array Edge} {gd : Option (Nat × Bool)}
theorem O.appZ {t t2 e : TypeId} {s by' : Nat} {z : Value} {kk : IntKind} {x y : Operand} {a : Option Addr} {m : Nat} (hi : l[i]? = some ⟨some d, .call ⟨.builtin .append, #[x, y], #[t, t2]⟩, ty, pos, af, gd⟩)
    (hg : guardOn l r gd = true) (hd : Nat.blt d n = true) (T : SlT P t e s by' z) (h2 : P.underlying t2 = some (.int kk)) (hx : ev r x = some (.slice a 0 0)) (hy : ev r y = some (.int .i64 (m : Int)))
    (hb : m * by' ≤ 140737488355328) (h63 : m < 9223372036854775808) (hm : 0 < m)
    (h : ∀ cap' H', m ≤ cap' → Wr H' H.size 0 (cap' * s) → Fr nowhere H H' → H'.size = H.size + 1 → C H' ∧ Pl P B f Q n l C k p ((d, .slice (some ⟨H.size, 0, none⟩) m cap') :: r) H') : Pl P B f Q n l C k ((i, 2) :: p) r H :=
  Pl.loudV hi rfl hg hd (fun u H' => ∃ cap', u = .slice (some ⟨H.size, 0, none⟩) m cap' ∧ m ≤ cap' ∧ Wr H' H.size 0 (cap' * s) ∧ Fr nowhere H H' ∧ H'.size = H.size + 1)
    (fun a2 d' ha => by
      obtain ⟨cap', H', d'', h1, h3⟩ := run_append_zeros (a := a) (ty := ty) T h2 hb h63 hm d'
      refine ⟨_, H', d'', ?_, cap', rfl, h3⟩
      simp only [execOp, resolve, List.map_toArray, List.map_cons, List.map_nil, ha.eval hx, ha.eval hy, Sem.run_bind, Sem.run_pure, Result.andThen_ok, invoke, builtin]
      rw [h1]; rfl)
    (fun u H' hu => by obtain ⟨cap', rfl, h1, h2, h3, h4⟩ := hu; exact h cap' H' h1 h2 h3 h4)
theorem O.cvi {src dst : TypeId} {x : Operand} {k1 : IntKind} {z v : Int} (hi : l[i]? = some ⟨some d, .convert src dst x, ty, pos, af, gd⟩) (hg : guardOn l r gd = true) (hd : Nat.blt d n = true)
    (hs : (P.underlying src).isSome = true) (hu : P.underlying dst = some (.int (P.intKind dst))) (hk : P.intKind dst = .i64) (hx : ev r x = some (.int k1 z)) (hv : IntKind.i64.wrap z = v) (hC : C H)
    (h : Pl P B f Q n l C k p ((d, .int .i64 v) :: r) H) : Pl P B f Q n l C k ((i, 2) :: p) r H :=
  Pl.loudV hi rfl hg hd (fun u H' => u = .int .i64 v ∧ H' = H)
    (fun a d' ha => ⟨_, H, d', by
      have hc : (convert src dst (.int k1 z)).run P (mk B H d') = .ok (.int .i64 v) (mk B H d') := by rw [run_convert_int _ src dst k1 z hs hu, hk, hv]
      simp [execOp, ha.eval hx, hc], rfl, rfl⟩)
    (fun u H' hu => by obtain ⟨rfl, rfl⟩ := hu; exact ⟨hC, h⟩)
theorem run_equalIn_sl {P : Program} {t e : TypeId} (hu : P.underlying t = some (.slice e)) (k : Nat) (a : Option Addr) (m c : Nat) (w : World) : (Op.equalIn (k + 1) t (.slice a m c) (.slice none 0 0)).run P w = .ok a.isNone w := by
  cases a <;> simp [Op.equalIn, run_und hu]
theorem O.slNil {t t' e : TypeId} {x y : Operand} {a : Option Addr} {m c : Nat} (hi : l[i]? = some ⟨some d, .binOp .eql t x y t', ty, pos, af, gd⟩) (hk : Nat.blt kd 2 = true) (hg : guardOn l r gd = true) (hd : Nat.blt d n = true)
    (hu : P.underlying t = some (.slice e)) (hx : ev r x = some (.slice a m c)) (hy : ev r y = some (.slice none 0 0)) (h : Pl P B f Q n l C k p ((d, .bool a.isNone) :: r) H) : Pl P B f Q n l C k ((i, kd) :: p) r H :=
  O.bin hi hk hg hd hx hy (fun w => ⟨by unfold eqGuard; simp, by
    have h1 := run_equalIn_sl hu 9999 a m c w
    have h2 : binOp .eql t (.slice a m c) (.slice none 0 0) = (do pure (.bool (← Op.equal t (.slice a m c) (.slice none 0 0)))) := by cases a <;> rfl
    rw [h2]
    simp only [Op.equal, Op.maxDepth, Sem.run_bind, h1, Result.andThen_ok, Sem.run_pure]⟩) h
end
end Go.Bt
