/- Contracts of functions of the program, proved by walking through their code. Conditions: those that each theorem names. -/
import Derived.Test.YtmboghgpakhceaaTogD
import Derived.Test.YtmboghgpakhceaaToHi
namespace Go.Bt.FG
open Go Go.Proofs
set_option maxRecDepth 20000
set_option maxHeartbeats 4000000
set_option linter.unusedVariables false
set_option linter.unusedSectionVars false
variable [Inhabited Cx]

end Go.Bt.FG
namespace Go.Bt.FG
open Go Go.Proofs
set_option maxRecDepth 20000
set_option maxHeartbeats 4000000
set_option linter.unusedVariables false
set_option linter.unusedSectionVars false
variable [Inhabited Cx]

/-- A tree in memory: its items in order; its cells are all in the blocks S. -/
structure MapM (H : Mem) (tr : Nat) (P : Ps) (S : Nat → Prop) (l : List (Int × Int)) : Prop where
  tc : TrC H tr P.iso P.mx P.mn
  srt : Pl.Srt OI l
  cnt : cl H tr 3 = some (.int .i64 (l.length : Int))
  own : S tr
  lt : ∀ b, S b → b < H.size
  bs : ∀ b, S b → b = tr ∨ cx.base ≤ b
  rt : (l = [] ∧ cl H tr 2 = some (.pointer none)) ∨ ∃ h, ∃ t : Gt EJ h, Gt.Good H P h t ∧ 1 ≤ (Gt.X h t).length ∧ Gt.L h t = l ∧ cl H tr 2 = some (ptr (Gt.p h t)) ∧ (∀ b o, Gt.af h t b o → cx.base ≤ b) ∧ ∀ b o, Gt.af h t b o → S b
theorem MapM.fr {H H' : Mem} {Z : Nat → Nat → Prop} {tr : Nat} {P : Ps} {S : Nat → Prop} {l : List (Int × Int)} (h : MapM H tr P S l) (hf : Fr Z H H') (hz : ∀ b o, S b ∨ (b < cx.base ∧ cx.own b) → ¬ Z b o) : MapM H' tr P S l where
  tc := h.tc.fr hf fun b o hb _ => hz b o (.inr hb)
  srt := h.srt
  cnt := hf.keep h.cnt (hz _ _ (.inl h.own))
  own := h.own
  lt := fun b hb => Nat.lt_of_lt_of_le (h.lt b hb) hf.size
  bs := h.bs
  rt := h.rt.elim (fun ⟨e, k⟩ => .inl ⟨e, hf.keep k (hz _ _ (.inl h.own))⟩) fun ⟨hh, t, g, x1, e, k, n, s⟩ => .inr ⟨hh, t, g.fr hf fun b o hb => hz b o (.inl (s b o hb)), x1, e, hf.keep k (hz _ _ (.inl h.own)), n, s⟩
end Go.Bt.FG
namespace Go.Bt.FG
open Go Go.Proofs
set_option maxRecDepth 20000
set_option maxHeartbeats 4000000
set_option linter.unusedVariables false
set_option linter.unusedSectionVars false
variable [Inhabited Cx]

/-- A path hint in memory. -/
structure HintM (H : Mem) (hb : Nat) : Prop where
  us : ∀ i, i < 8 → ∃ b, cl H hb i = some (.bool b)
  ps : ∀ i, i < 8 → ∃ n : Nat, n < 256 ∧ cl H hb (8 + i) = some (.int .u8 (n : Int))
  wr : Wr H hb 0 16
theorem HintM.fr {H H' : Mem} {hb : Nat} {Z : Nat → Nat → Prop} (h : HintM H hb) (hf : Fr Z H H') (hz : ∀ o, ¬ Z hb o) : HintM H' hb where
  us := fun i hi => have ⟨b, hb⟩ := h.us i hi; ⟨b, hf.keep hb (hz _)⟩
  ps := fun i hi => have ⟨n, hn, hb⟩ := h.ps i hi; ⟨n, hn, hf.keep hb (hz _)⟩
  wr := hf.wr h.wr
theorem HintM.setU {H H' : Mem} {hb i : Nat} {b : Bool} (h : HintM H hb) (W : Wrote H H' hb i [.bool b]) (hi : i < 8) : HintM H' hb where
  us := fun j hj => by
    by_cases e : j = i
    · subst e; exact ⟨b, W.at⟩
    · obtain ⟨c, hc⟩ := h.us j hj; exact ⟨c, W.keep1 hc (by omega)⟩
  ps := fun j hj => by obtain ⟨n, hn, hc⟩ := h.ps j hj; exact ⟨n, hn, W.keep1 hc (by omega)⟩
  wr := W.fr.wr h.wr
theorem HintM.setP {H H' : Mem} {hb i n : Nat} (h : HintM H hb) (W : Wrote H H' hb (8 + i) [.int .u8 (n : Int)]) (hi : i < 8) (hn : n < 256) : HintM H' hb where
  us := fun j hj => by obtain ⟨c, hc⟩ := h.us j hj; exact ⟨c, W.keep1 hc (by omega)⟩
  ps := fun j hj => by
    by_cases e : j = i
    · subst e; exact ⟨n, hn, W.at⟩
    · obtain ⟨m, hm, hc⟩ := h.ps j hj; exact ⟨m, hm, W.keep1 hc (by omega)⟩
  wr := W.fr.wr h.wr
/-- The argument hint: nil, or a hint in a block of its own (hz: its block). -/
def HintOk (H : Mem) (v : Value) (hz : Nat → Prop) : Prop := (v = .pointer none ∧ ∀ b, ¬ hz b) ∨ ∃ hb, v = .pointer (some ⟨hb, 0, none⟩) ∧ (∀ b, hz b ↔ b = hb) ∧ hb < H.size ∧ ¬ (hb < cx.base ∧ cx.own hb) ∧ HintM H hb
theorem HintOk.fr {H H' : Mem} {v : Value} {hz : Nat → Prop} {Z : Nat → Nat → Prop} (h : HintOk H v hz) (hf : Fr Z H H') (hd : ∀ b o, hz b → ¬ Z b o) : HintOk H' v hz :=
  h.imp id fun ⟨hb, h1, h2, h3, h4, h5⟩ => ⟨hb, h1, h2, Nat.lt_of_lt_of_le h3 hf.size, h4, h5.fr hf fun o => hd hb o ((h2 hb).2 rfl)⟩
theorem HintOk.base {H : Mem} {v : Value} {hz : Nat → Prop} (h : HintOk H v hz) : ∀ b, hz b → ¬ (b < cx.base ∧ cx.own b) ∧ b < H.size := fun b hb => by
  rcases h with ⟨_, h⟩ | ⟨h0, _, h2, h3, h4, _⟩
  · exact absurd hb (h b)
  · rw [(h2 b).1 hb]; exact ⟨h4, h3⟩

theorem Less_spec {B : World} {H : Mem} {tr id mx mn : Nat} (tc : TrC H tr id mx mn) (x y : Int × Int) :
    Fn Try.prog B 77 [.pointer (some ⟨tr, 0, none⟩), .agg (EJ.enc x).toArray, .agg (EJ.enc y).toArray] H (fun r H' => r = .bool (OI.lt x y) ∧ Fr nowhere H H') := by
  refine fn_of Try.func77 rfl Try.ntmps77 ?_
  refine (show Go' _ _ _ _ 14 [(0, _), (1, _), (2, _)] [.code _] _ from ?_)
  refine Go'.seq ?_
  -- region 0 (btreeg.go:73)
  refine Go'.region [(0, 2), (1, 2), (2, 0)] rfl ?_
  refine O.box rfl rfl rfl rfl ?_
  intro H1 M1
  refine ⟨trivial, ?_⟩
  have hf1 := M1.fr nowhere
  replace tc := tc.fr hf1 (fun _ _ _ _ => nw)
  have mi : Rd H1 H.size 0 (EJ.enc x) := M1.rd _ [] (by simp [Value.cells])
  refine O.box rfl rfl rfl rfl ?_
  intro H2 M2
  refine ⟨trivial, ?_⟩
  have hf2 := hf1.trans (M2.fr nowhere)
  replace tc := tc.fr (M2.fr nowhere) (fun _ _ _ _ => nw)
  replace mi := (M2.fr nowhere).rd mi (fun _ _ => nw)
  have mj : Rd H2 H1.size 0 (EJ.enc y) := M2.rd _ [] (by simp [Value.cells])
  refine O.asg rfl rfl rfl rfl rfl ?_
  refine Pl.fin [(0, _), (4, _), (5, _), (6, _)] ⟨rfl, rfl, rfl, rfl, trivial⟩ ?_
  refine Go'.seq ?_
  -- region 1 (btreeg.go:74)
  refine Go'.draw (fun _ => True) [(0, 0), (1, 0), (2, 0), (3, 1), (4, 1), (5, 1), (6, 2), (7, 0)] (by kernel_rfl) (by kernel_rfl) (trivial) ?_
  refine O.mv rfl rfl rfl rfl rfl ?_
  refine O.nc rfl rfl rfl rfl rfl ?_
  refine O.fa0 (off := 6) rfl rfl rfl rfl ⟨_, _, _, Try.underlying158, rfl, rfl, Try.sizeOf88⟩ rfl ?_
  refine O.ld rfl rfl rfl (fun w => ⟨Try.isAgg88 w, Try.sizeOf88 w⟩) rfl tc.le ?_
  refine O.lds rfl rfl rfl (fun w => ⟨Try.isAgg27 w, Try.sizeOf27 w⟩) rfl rfl mi ?_
  refine O.lds rfl rfl rfl (fun w => ⟨Try.isAgg27 w, Try.sizeOf27 w⟩) rfl rfl mj ?_
  refine O.callC rfl rfl rfl rfl Try.call170 rfl (less_spec tc x y) ?_
  rintro _ H3 ⟨rfl, hF3⟩
  refine ⟨trivial, ?_⟩
  refine O.asg rfl rfl rfl rfl rfl ?_
  refine Pl.fin [(6, _)] ⟨rfl, trivial⟩ ?_
  refine Go'.ret (vs := [_]) Try.func77 Try.results77 ⟨rfl, trivial⟩ ?_
  exact ⟨rfl, hf2.trans hF3⟩

end Go.Bt.FG
