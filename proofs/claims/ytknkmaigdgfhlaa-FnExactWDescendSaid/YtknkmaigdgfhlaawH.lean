/- Contracts of functions of the program, proved by walking through their code. Conditions: those that each theorem names. -/
import Derived.Test.YtknkmaigdgfhlaawG
namespace Go.Bt.FW
open Go Go.Proofs
set_option maxRecDepth 20000
set_option maxHeartbeats 4000000
set_option linter.unusedVariables false

theorem st113 : StT Try.prog 113 [(0, 1), (1, 1)] [.int .i64 0, .string ⟨#[]⟩] := ⟨⟨_, Try.underlying113, fun w => by simp [Array.mapM_eq_mapM_toList, Try.sizeOf3, Try.sizeOf9]⟩, Try.zeroValue113⟩
/-- A map in memory: its items in order; its cells are all in the blocks S. -/
structure MapM (H : Mem) (tr : Nat) (P : Ps) (S : Nat → Prop) (l : List (Wk × Int)) : Prop where
  tc : TrC H tr P.iso P.mx P.mn
  srt : Pl.Srt OI l
  cnt : cl H tr 3 = some (.int .i64 (l.length : Int))
  own : S tr
  lt : ∀ b, S b → b < H.size
  rt : (l = [] ∧ cl H tr 2 = some (.pointer none)) ∨ ∃ h, ∃ t : Gt EI h, Gt.Good H P h t ∧ 1 ≤ (Gt.X h t).length ∧ Gt.L h t = l ∧ cl H tr 2 = some (ptr (Gt.p h t)) ∧ (∀ o, ¬ Gt.af h t tr o) ∧ ∀ b o, Gt.af h t b o → S b
theorem MapM.fr {H H' : Mem} {Z : Nat → Nat → Prop} {tr : Nat} {P : Ps} {S : Nat → Prop} {l : List (Wk × Int)} (h : MapM H tr P S l) (hf : Fr Z H H') (hz : ∀ b o, S b → ¬ Z b o) : MapM H' tr P S l where
  tc := h.tc.fr hf fun o _ _ => hz _ _ h.own
  srt := h.srt
  cnt := hf.keep h.cnt (hz _ _ h.own)
  own := h.own
  lt := fun b hb => Nat.lt_of_lt_of_le (h.lt b hb) hf.size
  rt := h.rt.elim (fun ⟨e, k⟩ => .inl ⟨e, hf.keep k (hz _ _ h.own)⟩) fun ⟨hh, t, g, x1, e, k, n, s⟩ => .inr ⟨hh, t, g.fr hf fun b o hb => hz b o (s b o hb), x1, e, hf.keep k (hz _ _ h.own), n, s⟩
/-- What a change of a map does: the items are these; only the map's own cells were written; its blocks are old ones and new ones. -/
def MapTo (H H' : Mem) (tr : Nat) (P : Ps) (S : Nat → Prop) (l' : List (Wk × Int)) : Prop := ∃ S', MapM H' tr P S' l' ∧ Fr (fun b _ => S b) H H' ∧ ∀ b, S' b → S b ∨ H.size ≤ b

theorem init_again {B : World} {H : Mem} {tr id mx mn : Nat} {d : Int} (ht : TrC H tr id mx mn) (h1 : 1 ≤ mn) :
    Fn Try.prog B 129 [.pointer (some ⟨tr, 0, none⟩), .int .i64 d] H (fun v H' => v = resVal [] ∧ H' = H) := by
  refine fn_of Go.Proofs.Try.func129 rfl Go.Proofs.Try.ntmps129 ?_
  refine (show Go' _ _ _ _ 51 [(0, _), (1, _)] [.code _] _ from ?_)
  refine Go'.seq ?_
  refine Go'.seq ?_
  -- region 0 (map.go:149)
  refine Go'.region [(0, 0), (1, 0), (2, 0), (3, 1), (4, 0)] rfl ?_
  refine O.mv rfl rfl rfl rfl rfl ?_
  refine O.nc rfl rfl rfl rfl rfl ?_
  refine O.fa0 (off := 6) rfl rfl rfl rfl ⟨_, _, _, Go.Proofs.Try.underlying165, rfl, rfl, Go.Proofs.Try.sizeOf3⟩ rfl ?_
  refine O.ld rfl rfl rfl (fun w => ⟨Go.Proofs.Try.isAgg3 w, Go.Proofs.Try.sizeOf3 w⟩) rfl ht.mn' ?_
  refine O.cmp rfl rfl rfl rfl rfl rfl (neqT (by omega)) ?_
  refine Pl.fin [(0, _), (1, _), (8, _)] ⟨rfl, rfl, rfl, trivial⟩ ?_
  refine Go'.condT rfl ?_
  refine Go'.ret Go.Proofs.Try.func129 Go.Proofs.Try.results129 (vs := []) trivial ?_
  exact ⟨rfl, rfl⟩

theorem init_new {B : World} {H : Mem} {tr d : Nat} (hd : 2 ≤ d ∧ d ≤ 128) (h0 : cl H tr 0 = some (.int .u64 0)) (h2 : cl H tr 2 = some (.pointer none)) (h3 : cl H tr 3 = some (.int .i64 0)) (he : Rd H tr 4 [.int .i64 0, .string ⟨#[]⟩])
    (h6 : cl H tr 6 = some (.int .i64 0)) (h8 : cl H tr 8 = some (.bool false)) (h9 : cl H tr 9 = some (.bool false)) (hw : Wr H tr 0 10) :
    Fn Try.prog B 129 [.pointer (some ⟨tr, 0, none⟩), .int .i64 (d : Int)] H (fun v H' => v = resVal [] ∧ H'.size = H.size ∧ Fr (fun b _ => b = tr) H H' ∧ MapM H' tr ⟨0, 2 * d - 1, d - 1⟩ (fun b => b = tr) []) := by
  have htl : tr < H.size := cl_lt h0
  have hF : Fr (fun b _ => b = tr) H H := Fr.refl _ _
  have hS : H.size = H.size := rfl
  refine fn_of Go.Proofs.Try.func129 rfl Go.Proofs.Try.ntmps129 ?_
  refine (show Go' _ _ _ _ 51 [(0, _), (1, _)] [.code _] _ from ?_)
  refine Go'.seq ?_
  refine Go'.seq ?_
  -- region 0 (map.go:149)
  refine Go'.region [(0, 0), (1, 0), (2, 0), (3, 1), (4, 0)] rfl ?_
  refine O.mv rfl rfl rfl rfl rfl ?_
  refine O.nc rfl rfl rfl rfl rfl ?_
  refine O.fa0 (off := 6) rfl rfl rfl rfl ⟨_, _, _, Go.Proofs.Try.underlying165, rfl, rfl, Go.Proofs.Try.sizeOf3⟩ rfl ?_
  refine O.ld rfl rfl rfl (fun w => ⟨Go.Proofs.Try.isAgg3 w, Go.Proofs.Try.sizeOf3 w⟩) rfl h6 ?_
  refine O.cmp rfl rfl rfl rfl rfl rfl (neqF (by omega)) ?_
  refine Pl.fin [(0, _), (1, _), (8, _)] ⟨rfl, rfl, rfl, trivial⟩ ?_
  refine Go'.condF rfl ?_
  refine Go'.skip ?_
  refine Go'.seq ?_
  -- region 1 (map.go:152)
  refine Go'.region [(0, 0), (1, 0), (2, 0), (3, 2), (4, 0), (5, 0), (6, 0), (7, 0), (8, 0), (9, 2), (10, 0), (11, 0), (12, 2)] rfl ?_
  refine O.mv rfl rfl rfl rfl rfl ?_
  refine O.mv rfl rfl rfl rfl rfl ?_
  refine O.mv rfl rfl rfl rfl rfl ?_
  refine O.callQ rfl rfl rfl Go.Proofs.Try.call157 rfl (deg_spec hd) trivial ?_
  refine O.mv rfl rfl rfl rfl rfl ?_
  refine O.ext rfl rfl rfl rfl rfl rfl ?_
  refine O.ext rfl rfl rfl rfl rfl rfl ?_
  refine O.nc rfl rfl rfl rfl rfl ?_
  refine O.fa0 (off := 6) rfl rfl rfl rfl ⟨_, _, _, Go.Proofs.Try.underlying165, rfl, rfl, Go.Proofs.Try.sizeOf3⟩ rfl ?_
  refine O.st rfl rfl Go.Proofs.Try.sizeOf3 rfl rfl rfl rfl rfl (hw.at0 6 1 (by omega)) ?_
  intro H1 W1
  have hsW1 := W1.size
  replace h0 := W1.keep1 h0 (by omega)
  replace h2 := W1.keep1 h2 (by omega)
  replace h3 := W1.keep1 h3 (by omega)
  replace he := W1.fr.rd he (fun i hi => nr (by simp only [List.length_cons, List.length_nil] at hi ⊢; omega))
  replace h6 := W1.at
  replace h8 := W1.keep1 h8 (by omega)
  replace h9 := W1.keep1 h9 (by omega)
  replace hw := W1.fr.wr hw
  replace hF := hF.trans' W1.fr (fun _ _ _ h => h) (fun b o _ h => h.1)
  refine ⟨trivial, ?_⟩
  refine O.nc rfl rfl rfl rfl rfl ?_
  refine O.fa0 (off := 7) rfl rfl rfl rfl ⟨_, _, _, Go.Proofs.Try.underlying165, rfl, rfl, Go.Proofs.Try.sizeOf3⟩ rfl ?_
  refine O.st rfl rfl Go.Proofs.Try.sizeOf3 rfl rfl rfl rfl rfl (hw.at0 7 1 (by omega)) ?_
  intro H2 W2
  have hsW2 := W2.size
  replace h0 := W2.keep1 h0 (by omega)
  replace h2 := W2.keep1 h2 (by omega)
  replace h3 := W2.keep1 h3 (by omega)
  replace he := W2.fr.rd he (fun i hi => nr (by simp only [List.length_cons, List.length_nil] at hi ⊢; omega))
  replace h6 := W2.keep1 h6 (by omega)
  replace h8 := W2.keep1 h8 (by omega)
  replace h9 := W2.keep1 h9 (by omega)
  replace hw := W2.fr.wr hw
  replace hF := hF.trans' W2.fr (fun _ _ _ h => h) (fun b o _ h => h.1)
  have h7 := W2.at
  refine ⟨trivial, ?_⟩
  refine Pl.fin [(0, _)] ⟨rfl, trivial⟩ ?_
  refine Go'.seq ?_
  -- region 2 (map.go:153)
  refine Go'.region [(0, 0), (1, 0), (2, 0), (3, 0), (4, 0), (5, 1), (6, 0), (7, 0), (8, 0), (9, 0), (10, 0), (11, 0), (12, 0), (13, 2)] rfl ?_
  refine O.mv rfl rfl rfl rfl rfl ?_
  refine O.mv rfl rfl rfl rfl rfl ?_
  refine O.nc rfl rfl rfl rfl rfl ?_
  refine O.fa0 (off := 4) rfl rfl rfl rfl ⟨_, _, _, Go.Proofs.Try.underlying165, rfl, rfl, Go.Proofs.Try.sizeOf113⟩ rfl ?_
  refine O.faz rfl rfl rfl rfl ⟨_, _, _, Go.Proofs.Try.underlying113, rfl, rfl, Go.Proofs.Try.sizeOf3⟩ rfl ?_
  refine O.ld rfl rfl rfl (fun w => ⟨Go.Proofs.Try.isAgg3 w, Go.Proofs.Try.sizeOf3 w⟩) rfl (he 0 _ rfl) ?_
  refine O.mki rfl rfl rfl rfl Go.Proofs.Try.underlying3 rfl rfl ?_
  refine O.tya rfl rfl rfl rfl rfl (run_assert_no' Go.Proofs.Try.underlying214 Go.Proofs.Try.typeInfo3 rfl Go.Proofs.Try.zeroValue214) ?_
  refine O.mv rfl rfl rfl rfl rfl ?_
  refine O.ext rfl rfl rfl rfl rfl rfl ?_
  refine O.ext rfl rfl rfl rfl rfl rfl ?_
  refine O.nc rfl rfl rfl rfl rfl ?_
  refine O.fa0 (off := 8) rfl rfl rfl rfl ⟨_, _, _, Go.Proofs.Try.underlying165, rfl, rfl, Go.Proofs.Try.sizeOf4⟩ rfl ?_
  refine O.st rfl rfl Go.Proofs.Try.sizeOf4 rfl rfl rfl rfl rfl (hw.at0 8 1 (by omega)) ?_
  intro H3 W3
  have hsW3 := W3.size
  replace h0 := W3.keep1 h0 (by omega)
  replace h2 := W3.keep1 h2 (by omega)
  replace h3 := W3.keep1 h3 (by omega)
  replace he := W3.fr.rd he (fun i hi => nr (by simp only [List.length_cons, List.length_nil] at hi ⊢; omega))
  replace h6 := W3.keep1 h6 (by omega)
  replace h8 := W3.at
  replace h9 := W3.keep1 h9 (by omega)
  replace h7 := W3.keep1 h7 (by omega)
  replace hw := W3.fr.wr hw
  replace hF := hF.trans' W3.fr (fun _ _ _ h => h) (fun b o _ h => h.1)
  refine ⟨trivial, ?_⟩
  refine Pl.fin [(0, _)] ⟨rfl, trivial⟩ ?_
  refine Go'.seq ?_
  -- region 3 (map.go:154)
  refine Go'.region [(0, 0), (1, 0), (2, 0), (3, 1), (4, 0)] rfl ?_
  refine O.mv rfl rfl rfl rfl rfl ?_
  refine O.nc rfl rfl rfl rfl rfl ?_
  refine O.fa0 (off := 8) rfl rfl rfl rfl ⟨_, _, _, Go.Proofs.Try.underlying165, rfl, rfl, Go.Proofs.Try.sizeOf4⟩ rfl ?_
  refine O.ld rfl rfl rfl (fun w => ⟨Go.Proofs.Try.isAgg4 w, Go.Proofs.Try.sizeOf4 w⟩) rfl h8 ?_
  refine O.not rfl rfl rfl rfl rfl ?_
  refine Pl.fin [(0, _), (37, _)] ⟨rfl, rfl, trivial⟩ ?_
  refine Go'.condT rfl ?_
  -- region 4 (map.go:155)
  refine Go'.region [(0, 0), (1, 0), (2, 0), (3, 0), (4, 0), (5, 1), (6, 0), (7, 0), (8, 0), (9, 0), (10, 0), (11, 0), (12, 0), (13, 2)] rfl ?_
  refine O.mv rfl rfl rfl rfl rfl ?_
  refine O.mv rfl rfl rfl rfl rfl ?_
  refine O.nc rfl rfl rfl rfl rfl ?_
  refine O.fa0 (off := 4) rfl rfl rfl rfl ⟨_, _, _, Go.Proofs.Try.underlying165, rfl, rfl, Go.Proofs.Try.sizeOf113⟩ rfl ?_
  refine O.faz rfl rfl rfl rfl ⟨_, _, _, Go.Proofs.Try.underlying113, rfl, rfl, Go.Proofs.Try.sizeOf3⟩ rfl ?_
  refine O.ld rfl rfl rfl (fun w => ⟨Go.Proofs.Try.isAgg3 w, Go.Proofs.Try.sizeOf3 w⟩) rfl (he 0 _ rfl) ?_
  refine O.mki rfl rfl rfl rfl Go.Proofs.Try.underlying3 rfl rfl ?_
  refine O.tya rfl rfl rfl rfl rfl (run_assert_no' Go.Proofs.Try.underlying217 Go.Proofs.Try.typeInfo3 rfl Go.Proofs.Try.zeroValue217) ?_
  refine O.mv rfl rfl rfl rfl rfl ?_
  refine O.ext rfl rfl rfl rfl rfl rfl ?_
  refine O.ext rfl rfl rfl rfl rfl rfl ?_
  refine O.nc rfl rfl rfl rfl rfl ?_
  refine O.fa0 (off := 9) rfl rfl rfl rfl ⟨_, _, _, Go.Proofs.Try.underlying165, rfl, rfl, Go.Proofs.Try.sizeOf4⟩ rfl ?_
  refine O.st rfl rfl Go.Proofs.Try.sizeOf4 rfl rfl rfl rfl rfl (hw.at0 9 1 (by omega)) ?_
  intro H4 W4
  have hsW4 := W4.size
  replace h0 := W4.keep1 h0 (by omega)
  replace h2 := W4.keep1 h2 (by omega)
  replace h3 := W4.keep1 h3 (by omega)
  replace he := W4.fr.rd he (fun i hi => nr (by simp only [List.length_cons, List.length_nil] at hi ⊢; omega))
  replace h6 := W4.keep1 h6 (by omega)
  replace h8 := W4.keep1 h8 (by omega)
  replace h9 := W4.at
  replace h7 := W4.keep1 h7 (by omega)
  replace hw := W4.fr.wr hw
  replace hF := hF.trans' W4.fr (fun _ _ _ h => h) (fun b o _ h => h.1)
  refine ⟨trivial, ?_⟩
  refine Pl.fin [] trivial ?_
  refine Go'.fall Go.Proofs.Try.func129 Go.Proofs.Try.results129 (vs := []) trivial ?_
  exact ⟨rfl, by omega, hF, ⟨⟨h0, he, h6, h7, h8, h9, hw⟩, List.Pairwise.nil, h3, rfl, fun b hb => by subst hb; omega, .inl ⟨rfl, h2⟩⟩⟩

theorem newMap_spec {B : World} {H : Mem} {d : Nat} (hd : 2 ≤ d ∧ d ≤ 128) :
    Fn Try.prog B 113 [.int .i64 (d : Int)] H (fun v H' => v = ptr H.size ∧ H'.size = H.size + 1 ∧ Fr nowhere H H' ∧ MapM H' H.size ⟨0, 2 * d - 1, d - 1⟩ (fun b => b = H.size) []) := by
  refine fn_of Go.Proofs.Try.func113 rfl Go.Proofs.Try.ntmps113 ?_
  refine (show Go' _ _ _ _ 9 [(0, _)] [.code _] _ from ?_)
  refine Go'.seq ?_
  -- region 0 (map.go:56)
  refine Go'.region [(0, 0)] rfl ?_
  refine O.asg rfl rfl rfl rfl rfl ?_
  refine Pl.fin [(0, _), (2, _)] ⟨rfl, rfl, trivial⟩ ?_
  refine Go'.seq ?_
  -- region 1 (map.go:57)
  refine Go'.region [(0, 2), (1, 0)] rfl ?_
  refine O.alloc rfl rfl rfl Go.Proofs.Try.zeroValue165 ?_
  intro H1 M1
  refine ⟨trivial, ?_⟩
  have hs1 := M1.size
  refine O.asg rfl rfl rfl rfl rfl ?_
  refine Pl.fin [(0, _), (2, _), (3, _)] ⟨rfl, rfl, rfl, trivial⟩ ?_
  refine Go'.seq ?_
  -- region 2 (map.go:58)
  refine Go'.region [(0, 0), (1, 0), (2, 2)] rfl ?_
  refine O.mv rfl rfl rfl rfl rfl ?_
  refine O.mv rfl rfl rfl rfl rfl ?_
  refine O.call rfl rfl rfl Go.Proofs.Try.call129 rfl (init_new hd ((M1.cl 0).trans rfl) ((M1.cl 2).trans rfl) ((M1.cl 3).trans rfl) (fun i v h => by
    match i, h with
    | 0, h => exact (M1.cl 4).trans h
    | 1, h => exact (M1.cl (4 + 1)).trans h
    | i + 2, h => simp at h) ((M1.cl 6).trans rfl) ((M1.cl 8).trans rfl) ((M1.cl 9).trans rfl) (M1.wr 10 (by decide))) ?_
  rintro _ H2 ⟨rfl, hs2, hF2, hM⟩
  refine ⟨trivial, ?_⟩
  refine Pl.fin [(2, _), (3, _)] ⟨rfl, rfl, trivial⟩ ?_
  refine Go'.seq ?_
  -- region 3 (map.go:59)
  refine Go'.region [(0, 0), (1, 0)] rfl ?_
  refine O.mv rfl rfl rfl rfl rfl ?_
  refine O.asg rfl rfl rfl rfl rfl ?_
  refine Pl.fin [(2, _)] ⟨rfl, trivial⟩ ?_
  refine Go'.ret (vs := [_]) Go.Proofs.Try.func113 Go.Proofs.Try.results113 ⟨rfl, trivial⟩ ?_
  exact ⟨rfl, by omega, (M1.fr nowhere).trans' hF2 (fun _ _ _ h => h) (fun b o hb h => by have h' : b = H.size := h; omega), hM⟩

end Go.Bt.FW