/- Values of size 0: they are kept in cells that there are none of. Conditions: none. -/
import Derived.Test.YtknkmaigdgfhlaaAc
namespace Go.Bt
open Go
set_option linter.unusedVariables false
theorem Go'.mono {P : Program} {B : World} {f : FuncId} {Q Q' : Value → Mem → Prop} {n : Nat} {r : Env} {k : List Item} {H : Mem} (hq : ∀ v H', Q v H' → Q' v H') (h : Go' P B f Q n r k H) : Go' P B f Q' n r k H :=
  fun d a ha b cs hb hk =>
    let ⟨v, w'', fr, h1, h2, h3, h4⟩ := h d a ha b cs hb hk
    ⟨v, w'', fr, by obtain ⟨H', d', e, q⟩ := h1; exact ⟨H', d', e, hq _ _ q⟩, h2, h3, h4⟩
theorem Wr.nil (H : Mem) (b o : Nat) : Wr H b o 0 := fun i hi => absurd hi (Nat.not_lt_zero i)
section
variable {P : Program} {B : World} {f : FuncId} {Q : Value → Mem → Prop} {n : Nat} {r : Env} {k : List Item} {H : Mem} {l : List Oper} {C : Mem → Prop} {p : List (Nat × Nat)}
variable {i kd d : Nat} {ty : TypeId} {pos : String} {af : Array Edge} {gd : Option (Nat × Bool)}
theorem O.st0 {t : TypeId} {x y : Operand} {b o : Nat} {v : Value} (hi : l[i]? = some ⟨none, .store t x y, ty, pos, af, gd⟩) (hg : guardOn l r gd = true) (ht : Sz P t 0)
    (hx : ev r x = some (.pointer (some ⟨b, o, none⟩))) (hy : ev r y = some v) (hv : v.cells = #[]) (hC : C H) (h : Pl P B f Q n l C k p r H) : Pl P B f Q n l C k ((i, 2) :: p) r H :=
  Pl.loudN hi rfl hg (fun H' => H' = H)
    (fun a d' ha => ⟨H, d', by simp [execOp, ha.eval hx, ha.eval hy, Instr.storeAt, Instr.sureAddr, run_storeVar (vs := []) ht hv rfl rfl (Wr.nil _ _ _), setcs], rfl⟩) (fun H' e => by subst e; exact ⟨hC, h⟩)
theorem O.st03 {t : TypeId} {x y : Operand} {b o : Nat} {v : Value} (hi : l[i]? = some ⟨none, .store t x y, ty, pos, af, gd⟩) (hg : guardOn l r gd = true) (ht : Sz P t 0)
    (hx : ev r x = some (.pointer (some ⟨b, o, none⟩))) (hy : ev r y = some v) (hv : v.cells = #[]) (h : Pl P B f Q n l C k p r H) : Pl P B f Q n l C k ((i, 3) :: p) r H :=
  Pl.lastN hi rfl hg (fun H' => H' = H)
    (fun a d' ha => ⟨H, d', by simp [execOp, ha.eval hx, ha.eval hy, Instr.storeAt, Instr.sureAddr, run_storeVar (vs := []) ht hv rfl rfl (Wr.nil _ _ _), setcs], rfl⟩) (fun H' e => by subst e; exact h)
/-- Of every cell of a variable of one of these types it is known at which byte it lies. -/
def tyOk (P : Program) : Bool := (List.range 1000).all fun e => (List.range (P.cellsOf e)).all fun r => (byteOfCell P P.depth e r).isSome
theorem tyOk_at {P : Program} (h : tyOk P = true) {e : Nat} (he : e < 1000) (o : Nat) (hs : P.cellsOf e ≠ 0) : ∃ b, byteOfCell P P.depth e (o % P.cellsOf e) = some b := by
  unfold tyOk at h
  rw [List.all_eq_true] at h
  have h1 := h e (List.mem_range.2 he)
  rw [List.all_eq_true] at h1
  have h2 := h1 (o % P.cellsOf e) (List.mem_range.2 (Nat.mod_lt _ (Nat.pos_of_ne_zero hs)))
  exact Option.isSome_iff_exists.1 h2
theorem run_byteOf {P : Program} (hT : tyOk P = true) {B : World} {H : Mem} {d b o : Nat} (hw : Wr H b o 1) : ∃ n, (byteOf ⟨b, o, none⟩).run P (mk B H d) = .ok n (mk B H d) := by
  obtain ⟨⟨v, hv⟩, _, e, m, hs, he⟩ := hw 0 (by omega)
  have hsh : (mk B H d).shape? b = some (e, m) := by
    unfold shp at hs
    unfold World.shape? mk
    simp only
    cases hb : H[b]? with
    | none => rw [hb] at hs; cases hs
    | some x =>
      rw [hb] at hs
      cases x <;> simp_all
  by_cases hz : P.cellsOf e = 0
  · exact ⟨0, by simp [byteOf, noView, viewAt, hsh, hz]⟩
  · obtain ⟨n, hn⟩ := tyOk_at hT he o hz
    exact ⟨o / P.cellsOf e * P.bytesOf e + n, by simp [byteOf, noView, viewAt, hsh, hz, hn]⟩
/-- The address of a field of size 0 that lies where the struct begins. -/
def FieldZ (P : Program) (s : TypeId) (f : Nat) : Prop := ∃ fs fd, P.underlying s = some (.struct fs) ∧ fs[f]? = some fd ∧ fd.offset = 0 ∧ fd.byteOffset = 0 ∧ Sz P fd.type 0
theorem run_fieldZ {P : Program} (hT : tyOk P = true) {B : World} {H : Mem} {d b o f : Nat} {s : TypeId} (h : FieldZ P s f) (hw : Wr H b o 1) : (Instr.fieldAt s (.pointer (some ⟨b, o, none⟩)) f).run P (mk B H d) = .ok (.pointer (some ⟨b, o, none⟩)) (mk B H d) := by
  obtain ⟨fs, fd, h1, h2, h3, h4, h5⟩ := h
  obtain ⟨n, hn⟩ := run_byteOf hT (B := B) (d := d) hw
  simp [Instr.fieldAt, run_und h1, h2, Instr.sureAddr, fieldPlace, h5 _, partAt, hn, h3, h4]
theorem O.fz1 {s : TypeId} {x : Operand} {b o fld : Nat} (hi : l[i]? = some ⟨some d, .fieldAddr s x fld, ty, pos, af, gd⟩) (hg : guardOn l r gd = true) (hd : Nat.blt d n = true) (hT : tyOk P = true) (hf : FieldZ P s fld)
    (hx : ev r x = some (.pointer (some ⟨b, o, none⟩))) (hw : Wr H b o 1) (h : Pl P B f Q n l C k p ((d, .pointer (some ⟨b, o, none⟩)) :: r) H) : Pl P B f Q n l C k ((i, 1) :: p) r H :=
  Pl.quiet hi rfl hg hd (fun a H' d' ha hH => by
    obtain rfl : H' = H := hH.elim (fun h => absurd h.1 (by decide)) (fun h => h.2)
    simp [execOp, ha.eval hx, run_fieldZ hT hf hw]) h
theorem O.fz1C {s : TypeId} {x : Operand} {b o fld : Nat} (hi : l[i]? = some ⟨some d, .fieldAddr s x fld, ty, pos, af, gd⟩) (hg : guardOn l r gd = true) (hd : Nat.blt d n = true) (hT : tyOk P = true) (hf : FieldZ P s fld)
    (hx : ev r x = some (.pointer (some ⟨b, o, none⟩))) (hw : ∀ H', C H' → Wr H' b o 1) (h : Pl P B f Q n l C k p ((d, .pointer (some ⟨b, o, none⟩)) :: r) H) : Pl P B f Q n l C k ((i, 0) :: p) r H :=
  Pl.quiet hi rfl hg hd (fun a H' d' ha hH => by
    have hC : C H' := hH.elim (fun h => h.2) (fun h => absurd h.1 (by decide))
    simp [execOp, ha.eval hx, run_fieldZ hT hf (hw H' hC)]) h
end
end Go.Bt
