/- Contracts of functions of the program, proved by walking through their code. Conditions: those that each theorem names. -/
import Derived.Test.YtknkmaigdgfhlaazG
namespace Go.Bt.FZ
open Go Go.Proofs
set_option maxRecDepth 20000
set_option maxHeartbeats 4000000
set_option linter.unusedVariables false

theorem st138 : StT Try.prog 138 [(0, 0), (0, 1)] [.int .i64 0] := ⟨⟨_, Try.underlying138, fun w => by simp [Array.mapM_eq_mapM_toList, Try.sizeOf3, Try.sizeOf136]⟩, Try.zeroValue138⟩
/-- A map in memory: its items in order; its cells are all in the blocks S. -/
structure MapM (H : Mem) (tr : Nat) (P : Ps) (S : Nat → Prop) (l : List Int) : Prop where
  tc : TrC H tr P.iso P.mx P.mn
  srt : Pl.Srt OI l
  cnt : cl H tr 3 = some (.int .i64 (l.length : Int))
  own : S tr
  lt : ∀ b, S b → b < H.size
  rt : (l = [] ∧ cl H tr 2 = some (.pointer none)) ∨ ∃ h, ∃ t : Gt EI h, Gt.Good H P h t ∧ 1 ≤ (Gt.X h t).length ∧ Gt.L h t = l ∧ cl H tr 2 = some (ptr (Gt.p h t)) ∧ (∀ o, ¬ Gt.af h t tr o) ∧ ∀ b o, Gt.af h t b o → S b
theorem MapM.fr {H H' : Mem} {Z : Nat → Nat → Prop} {tr : Nat} {P : Ps} {S : Nat → Prop} {l : List Int} (h : MapM H tr P S l) (hf : Fr Z H H') (hz : ∀ b o, S b → ¬ Z b o) : MapM H' tr P S l where
  tc := h.tc.fr hf fun o _ _ => hz _ _ h.own
  srt := h.srt
  cnt := hf.keep h.cnt (hz _ _ h.own)
  own := h.own
  lt := fun b hb => Nat.lt_of_lt_of_le (h.lt b hb) hf.size
  rt := h.rt.elim (fun ⟨e, k⟩ => .inl ⟨e, hf.keep k (hz _ _ h.own)⟩) fun ⟨hh, t, g, x1, e, k, n, s⟩ => .inr ⟨hh, t, g.fr hf fun b o hb => hz b o (s b o hb), x1, e, hf.keep k (hz _ _ h.own), n, s⟩
/-- What a change of a map does: the items are these; only the map's own cells were written; its blocks are old ones and new ones. -/
def MapTo (H H' : Mem) (tr : Nat) (P : Ps) (S : Nat → Prop) (l' : List Int) : Prop := ∃ S', MapM H' tr P S' l' ∧ Fr (fun b _ => S b) H H' ∧ ∀ b, S' b → S b ∨ H.size ≤ b

/-- A map that nothing was done to. -/
structure MapZ (H : Mem) (tr : Nat) : Prop where
  h0 : cl H tr 0 = some (.int .u64 0)
  h2 : cl H tr 2 = some (.pointer none)
  h3 : cl H tr 3 = some (.int .i64 0)
  he : Rd H tr 4 [.int .i64 0]
  h6 : cl H tr 5 = some (.int .i64 0)
  h8 : cl H tr 7 = some (.bool false)
  h9 : cl H tr 8 = some (.bool false)
  hw : Wr H tr 0 9
theorem MapZ.fr {H H' : Mem} {Z : Nat → Nat → Prop} {tr : Nat} (h : MapZ H tr) (hf : Fr Z H H') (hz : ∀ o, ¬ Z tr o) : MapZ H' tr :=
  ⟨hf.keep h.h0 (hz _), hf.keep h.h2 (hz _), hf.keep h.h3 (hz _), hf.rd h.he fun _ _ => hz _, hf.keep h.h6 (hz _), hf.keep h.h8 (hz _), hf.keep h.h9 (hz _), hf.wr h.hw⟩

theorem init_again {B : World} {H : Mem} {tr id mx mn : Nat} {d : Int} (ht : TrC H tr id mx mn) (h1 : 1 ≤ mn) :
    Fn Try.prog B 159 [.pointer (some ⟨tr, 0, none⟩), .int .i64 d] H (fun v H' => v = resVal [] ∧ H' = H) := by
  refine fn_of Go.Proofs.Try.func159 rfl Go.Proofs.Try.ntmps159 ?_
  refine (show Go' _ _ _ _ 51 [(0, _), (1, _)] [.code _] _ from ?_)
  refine Go'.seq ?_
  refine Go'.seq ?_
  -- region 0 (map.go:149)
  refine Go'.region [(0, 0), (1, 0), (2, 0), (3, 1), (4, 0)] rfl ?_
  refine O.mv rfl rfl rfl rfl rfl ?_
  refine O.nc rfl rfl rfl rfl rfl ?_
  refine O.fa0 (off := 5) rfl rfl rfl rfl ⟨_, _, _, Go.Proofs.Try.underlying140, rfl, rfl, Go.Proofs.Try.sizeOf3⟩ rfl ?_
  refine O.ld rfl rfl rfl (fun w => ⟨Go.Proofs.Try.isAgg3 w, Go.Proofs.Try.sizeOf3 w⟩) rfl ht.mn' ?_
  refine O.cmp rfl rfl rfl rfl rfl rfl (neqT (by omega)) ?_
  refine Pl.fin [(0, _), (1, _), (8, _)] ⟨rfl, rfl, rfl, trivial⟩ ?_
  refine Go'.condT rfl ?_
  refine Go'.ret Go.Proofs.Try.func159 Go.Proofs.Try.results159 (vs := []) trivial ?_
  exact ⟨rfl, rfl⟩

theorem init_new {B : World} {H : Mem} {tr : Nat} (h0 : cl H tr 0 = some (.int .u64 0)) (h2 : cl H tr 2 = some (.pointer none)) (h3 : cl H tr 3 = some (.int .i64 0)) (he : Rd H tr 4 [.int .i64 0])
    (h6 : cl H tr 5 = some (.int .i64 0)) (h8 : cl H tr 7 = some (.bool false)) (h9 : cl H tr 8 = some (.bool false)) (hw : Wr H tr 0 9) :
    Fn Try.prog B 159 [.pointer (some ⟨tr, 0, none⟩), .int .i64 0] H (fun v H' => v = resVal [] ∧ H'.size = H.size ∧ Fr (fun b _ => b = tr) H H' ∧ MapM H' tr ⟨0, 63, 31⟩ (fun b => b = tr) [] ∧ cl H' tr 2 = some (.pointer none)) := by
  have htl : tr < H.size := cl_lt h0
  have hF : Fr (fun b _ => b = tr) H H := Fr.refl _ _
  have hS : H.size = H.size := rfl
  refine fn_of Go.Proofs.Try.func159 rfl Go.Proofs.Try.ntmps159 ?_
  refine (show Go' _ _ _ _ 51 [(0, _), (1, _)] [.code _] _ from ?_)
  refine Go'.seq ?_
  refine Go'.seq ?_
  -- region 0 (map.go:149)
  refine Go'.region [(0, 0), (1, 0), (2, 0), (3, 1), (4, 0)] rfl ?_
  refine O.mv rfl rfl rfl rfl rfl ?_
  refine O.nc rfl rfl rfl rfl rfl ?_
  refine O.fa0 (off := 5) rfl rfl rfl rfl ⟨_, _, _, Go.Proofs.Try.underlying140, rfl, rfl, Go.Proofs.Try.sizeOf3⟩ rfl ?_
  refine O.ld rfl rfl rfl (fun w => ⟨Go.Proofs.Try.isAgg3 w, Go.Proofs.Try.sizeOf3 w⟩) rfl h6 ?_
  refine O.cmp rfl rfl rfl rfl rfl rfl (neqF (by omega)) ?_
  refine Pl.fin [(0, _), (1, _), (8, _)] ⟨rfl, rfl, rfl, trivial⟩ ?_
  refine Go'.condF rfl ?_
  refine Go'.skip ?_
  refine Go'.seq ?_
  -- region 1 (map.go:152)
  refine Go'.region [(0, 0), (1, 0), (2, 0), (3, 2), (4, 0), (5, 0), (6, 0), (7, 0), (8, 0), (9, 2), (10, 0), (11, 0), (12, 2)] rfl ?_
  refine O.mv rfl rfl rfl rfl rfl ?_
  refine O.mv rfl rfl rfl rfl rfl ?_
  refine O.mv rfl rfl rfl rfl rfl ?_
  refine O.callQ rfl rfl rfl Go.Proofs.Try.call157 rfl deg0_spec trivial ?_
  refine O.mv rfl rfl rfl rfl rfl ?_
  refine O.ext rfl rfl rfl rfl rfl rfl ?_
  refine O.ext rfl rfl rfl rfl rfl rfl ?_
  refine O.nc rfl rfl rfl rfl rfl ?_
  refine O.fa0 (off := 5) rfl rfl rfl rfl ⟨_, _, _, Go.Proofs.Try.underlying140, rfl, rfl, Go.Proofs.Try.sizeOf3⟩ rfl ?_
  refine O.st rfl rfl Go.Proofs.Try.sizeOf3 rfl rfl rfl rfl rfl (hw.at0 5 1 (by omega)) ?_
  intro H1 W1
  have hsW1 := W1.size
  replace h0 := W1.keep1 h0 (by omega)
  replace h2 := W1.keep1 h2 (by omega)
  replace h3 := W1.keep1 h3 (by omega)
  replace he := W1.fr.rd he (fun i hi => nr (by simp only [List.length_cons, List.length_nil] at hi ⊢; omega))
  replace h6 := W1.at
  replace h8 := W1.keep1 h8 (by omega)
  replace h9 := W1.keep1 h9 (by omega)
  replace hw := W1.fr.wr hw
  replace hF := hF.trans' W1.fr (fun _ _ _ h => h) (fun b o _ h => h.1)
  refine ⟨trivial, ?_⟩
  refine O.nc rfl rfl rfl rfl rfl ?_
  refine O.fa0 (off := 6) rfl rfl rfl rfl ⟨_, _, _, Go.Proofs.Try.underlying140, rfl, rfl, Go.Proofs.Try.sizeOf3⟩ rfl ?_
  refine O.st rfl rfl Go.Proofs.Try.sizeOf3 rfl rfl rfl rfl rfl (hw.at0 6 1 (by omega)) ?_
  intro H2 W2
  have hsW2 := W2.size
  replace h0 := W2.keep1 h0 (by omega)
  replace h2 := W2.keep1 h2 (by omega)
  replace h3 := W2.keep1 h3 (by omega)
  replace he := W2.fr.rd he (fun i hi => nr (by simp only [List.length_cons, List.length_nil] at hi ⊢; omega))
  replace h6 := W2.keep1 h6 (by omega)
  replace h8 := W2.keep1 h8 (by omega)
  replace h9 := W2.keep1 h9 (by omega)
  replace hw := W2.fr.wr hw
  replace hF := hF.trans' W2.fr (fun _ _ _ h => h) (fun b o _ h => h.1)
  have h7 := W2.at
  refine ⟨trivial, ?_⟩
  refine Pl.fin [(0, _)] ⟨rfl, trivial⟩ ?_
  refine Go'.seq ?_
  -- region 2 (map.go:153)
  refine Go'.region [(0, 0), (1, 0), (2, 0), (3, 0), (4, 1), (5, 1), (6, 0), (7, 0), (8, 0), (9, 0), (10, 0), (11, 0), (12, 0), (13, 2)] rfl ?_
  refine O.mv rfl rfl rfl rfl rfl ?_
  refine O.mv rfl rfl rfl rfl rfl ?_
  refine O.nc rfl rfl rfl rfl rfl ?_
  refine O.fa0 (off := 4) rfl rfl rfl rfl ⟨_, _, _, Go.Proofs.Try.underlying140, rfl, rfl, Go.Proofs.Try.sizeOf138⟩ rfl ?_
  refine O.fz1 rfl rfl rfl ty ⟨_, _, Go.Proofs.Try.underlying138, rfl, rfl, rfl, Go.Proofs.Try.sizeOf136⟩ rfl (hw.at0 4 1 (by omega)) ?_
  refine O.lds rfl rfl rfl (fun w => ⟨Go.Proofs.Try.isAgg136 w, Go.Proofs.Try.sizeOf136 w⟩) rfl rfl (Rd.nil _ _ _) ?_
  refine O.mki rfl rfl rfl rfl Go.Proofs.Try.underlying136 rfl rfl ?_
  refine O.tya rfl rfl rfl rfl rfl (run_assert_no' Go.Proofs.Try.underlying238 Go.Proofs.Try.typeInfo136 rfl Go.Proofs.Try.zeroValue238) ?_
  refine O.mv rfl rfl rfl rfl rfl ?_
  refine O.ext rfl rfl rfl rfl rfl rfl ?_
  refine O.ext rfl rfl rfl rfl rfl rfl ?_
  refine O.nc rfl rfl rfl rfl rfl ?_
  refine O.fa0 (off := 7) rfl rfl rfl rfl ⟨_, _, _, Go.Proofs.Try.underlying140, rfl, rfl, Go.Proofs.Try.sizeOf4⟩ rfl ?_
  refine O.st rfl rfl Go.Proofs.Try.sizeOf4 rfl rfl rfl rfl rfl (hw.at0 7 1 (by omega)) ?_
  intro H3 W3
  have hsW3 := W3.size
  replace h0 := W3.keep1 h0 (by omega)
  replace h2 := W3.keep1 h2 (by omega)
  replace h3 := W3.keep1 h3 (by omega)
  replace he := W3.fr.rd he (fun i hi => nr (by simp only [List.length_cons, List.length_nil] at hi ⊢; omega))
  replace h6 := W3.keep1 h6 (by omega)
  replace h8 := W3.at
  replace h9 := W3.keep1 h9 (by omega)
  replace h7 := W3.keep1 h7 (by omega)
  replace hw := W3.fr.wr hw
  replace hF := hF.trans' W3.fr (fun _ _ _ h => h) (fun b o _ h => h.1)
  refine ⟨trivial, ?_⟩
  refine Pl.fin [(0, _)] ⟨rfl, trivial⟩ ?_
  refine Go'.seq ?_
  -- region 3 (map.go:154)
  refine Go'.region [(0, 0), (1, 0), (2, 0), (3, 1), (4, 0)] rfl ?_
  refine O.mv rfl rfl rfl rfl rfl ?_
  refine O.nc rfl rfl rfl rfl rfl ?_
  refine O.fa0 (off := 7) rfl rfl rfl rfl ⟨_, _, _, Go.Proofs.Try.underlying140, rfl, rfl, Go.Proofs.Try.sizeOf4⟩ rfl ?_
  refine O.ld rfl rfl rfl (fun w => ⟨Go.Proofs.Try.isAgg4 w, Go.Proofs.Try.sizeOf4 w⟩) rfl h8 ?_
  refine O.not rfl rfl rfl rfl rfl ?_
  refine Pl.fin [(0, _), (37, _)] ⟨rfl, rfl, trivial⟩ ?_
  refine Go'.condT rfl ?_
  -- region 4 (map.go:155)
  refine Go'.region [(0, 0), (1, 0), (2, 0), (3, 0), (4, 1), (5, 1), (6, 0), (7, 0), (8, 0), (9, 0), (10, 0), (11, 0), (12, 0), (13, 2)] rfl ?_
  refine O.mv rfl rfl rfl rfl rfl ?_
  refine O.mv rfl rfl rfl rfl rfl ?_
  refine O.nc rfl rfl rfl rfl rfl ?_
  refine O.fa0 (off := 4) rfl rfl rfl rfl ⟨_, _, _, Go.Proofs.Try.underlying140, rfl, rfl, Go.Proofs.Try.sizeOf138⟩ rfl ?_
  refine O.fz1 rfl rfl rfl ty ⟨_, _, Go.Proofs.Try.underlying138, rfl, rfl, rfl, Go.Proofs.Try.sizeOf136⟩ rfl (hw.at0 4 1 (by omega)) ?_
  refine O.lds rfl rfl rfl (fun w => ⟨Go.Proofs.Try.isAgg136 w, Go.Proofs.Try.sizeOf136 w⟩) rfl rfl (Rd.nil _ _ _) ?_
  refine O.mki rfl rfl rfl rfl Go.Proofs.Try.underlying136 rfl rfl ?_
  refine O.tya rfl rfl rfl rfl rfl (run_assert_no' Go.Proofs.Try.underlying241 Go.Proofs.Try.typeInfo136 rfl Go.Proofs.Try.zeroValue241) ?_
  refine O.mv rfl rfl rfl rfl rfl ?_
  refine O.ext rfl rfl rfl rfl rfl rfl ?_
  refine O.ext rfl rfl rfl rfl rfl rfl ?_
  refine O.nc rfl rfl rfl rfl rfl ?_
  refine O.fa0 (off := 8) rfl rfl rfl rfl ⟨_, _, _, Go.Proofs.Try.underlying140, rfl, rfl, Go.Proofs.Try.sizeOf4⟩ rfl ?_
  refine O.st rfl rfl Go.Proofs.Try.sizeOf4 rfl rfl rfl rfl rfl (hw.at0 8 1 (by omega)) ?_
  intro H4 W4
  have hsW4 := W4.size
  replace h0 := W4.keep1 h0 (by omega)
  replace h2 := W4.keep1 h2 (by omega)
  replace h3 := W4.keep1 h3 (by omega)
  replace he := W4.fr.rd he (fun i hi => nr (by simp only [List.length_cons, List.length_nil] at hi ⊢; omega))
  replace h6 := W4.keep1 h6 (by omega)
  replace h8 := W4.keep1 h8 (by omega)
  replace h9 := W4.at
  replace h7 := W4.keep1 h7 (by omega)
  replace hw := W4.fr.wr hw
  replace hF := hF.trans' W4.fr (fun _ _ _ h => h) (fun b o _ h => h.1)
  refine ⟨trivial, ?_⟩
  refine Pl.fin [] trivial ?_
  refine Go'.fall Go.Proofs.Try.func159 Go.Proofs.Try.results159 (vs := []) trivial ?_
  exact ⟨rfl, by omega, hF, ⟨⟨h0, he, h6, h7, h8, h9, hw⟩, List.Pairwise.nil, h3, rfl, fun b hb => by subst hb; omega, .inl ⟨rfl, h2⟩⟩, h2⟩

end Go.Bt.FZ