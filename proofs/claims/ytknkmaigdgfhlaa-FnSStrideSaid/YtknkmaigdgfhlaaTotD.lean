/- Contracts of functions of the program, proved by walking through their code. Conditions: those that each theorem names. -/
import Derived.Laws.StructEq
import Derived.Test.YtknkmaigdgfhlaaTozI
import Derived.Test.YtknkmaigdgfhlaaTotC
import Derived.Test.YtknkmaigdgfhlaaToSo
import Derived.Test.YtknkmaigdgfhlaaToKb
namespace Go.Bt.FZ
open Go Go.Proofs
set_option maxRecDepth 20000
set_option maxHeartbeats 4000000
set_option linter.unusedVariables false

theorem st136 : StT Try.prog 136 [] [] := ⟨⟨_, Try.underlying136, fun w => by simp⟩, Try.zeroValue136⟩
abbrev P0 : Ps := ⟨0, 63, 31⟩
theorem P0_ok : PsOk P0 := ⟨rfl, by decide, by decide⟩
/-- A set in memory: one that nothing was done to, or a map. -/
def MapU (H : Mem) (tr : Nat) (S : Nat → Prop) (l : List Int) : Prop := (l = [] ∧ MapZ H tr ∧ S tr ∧ ∀ b, S b → b < H.size) ∨ MapM H tr P0 S l
theorem MapU.fr {H H' : Mem} {Z : Nat → Nat → Prop} {tr : Nat} {S : Nat → Prop} {l : List Int} (h : MapU H tr S l) (hf : Fr Z H H') (hz : ∀ b o, S b → ¬ Z b o) : MapU H' tr S l :=
  h.imp (fun ⟨e, h, s, lt⟩ => ⟨e, h.fr hf (fun o => hz tr o s), s, fun b hb => Nat.lt_of_lt_of_le (lt b hb) hf.size⟩) (fun h => h.fr hf hz)
theorem MapU.lt {H : Mem} {tr : Nat} {S : Nat → Prop} {l : List Int} (h : MapU H tr S l) : ∀ b, S b → b < H.size := h.elim (fun h => h.2.2.2) (fun h => h.lt)
theorem MapU.own {H : Mem} {tr : Nat} {S : Nat → Prop} {l : List Int} (h : MapU H tr S l) : S tr := h.elim (fun h => h.2.2.1) (fun h => h.own)
theorem MapU.cnt {H : Mem} {tr : Nat} {S : Nat → Prop} {l : List Int} (h : MapU H tr S l) : cl H tr 3 = some (.int .i64 (l.length : Int)) := h.elim (fun h => by rw [h.1]; exact h.2.1.h3) (fun h => h.cnt)
theorem MapU.wr {H : Mem} {tr : Nat} {S : Nat → Prop} {l : List Int} (h : MapU H tr S l) : Wr H tr 0 9 := h.elim (fun h => h.2.1.hw) (fun h => h.tc.wr)
theorem MapU.cases {H : Mem} {tr : Nat} {S : Nat → Prop} {l : List Int} (h : MapU H tr S l) : (l = [] ∧ cl H tr 2 = some (.pointer none)) ∨ (TrC H tr 0 63 31 ∧ Pl.Srt OI l ∧ ∃ h, ∃ t : Gt EI h, Gt.Good H P0 h t ∧ 1 ≤ (Gt.X h t).length ∧ Gt.L h t = l ∧ cl H tr 2 = some (ptr (Gt.p h t)) ∧ (∀ o, ¬ Gt.af h t tr o) ∧ ∀ b o, Gt.af h t b o → S b) := by
  rcases h with ⟨e, h, _⟩ | ⟨tc, srt, cnt, own, lt, hr⟩
  · exact .inl ⟨e, h.h2⟩
  · rcases hr with ⟨e, k⟩ | ⟨h, t, r⟩
    · exact .inl ⟨e, k⟩
    · exact .inr ⟨tc, srt, h, t, r⟩

theorem mset_u {B : World} {H : Mem} {tr : Nat} {S : Nat → Prop} {l : List Int} {x : Int} (hU : MapU H tr S l) (hlen : l.length < 2305843009213693952) :
    Fn Try.prog B 135 [.pointer (some ⟨tr, 0, none⟩), .int .i64 x, .agg #[]] H (fun r H' => r = .tuple #[.agg #[], .bool (Pl.fnd OI x l)] ∧ ∃ S', MapU H' tr S' (Pl.put OI x l) ∧ Fr (fun b _ => S b) H H' ∧ ∀ b, S' b → S b ∨ H.size ≤ b) := by
  rcases hU with ⟨rfl, h, s, _⟩ | h
  · refine (mset_zero (x := x) h).mono fun r H' ⟨e, S', hM, hF, hS⟩ => ⟨e, S', .inr hM, hF.mono fun b o _ hb => ?_, fun b hb => (hS b hb).imp (fun hb => ?_) id⟩
    · have hb' : b = tr := hb
      rw [hb']; exact s
    · rw [hb]; exact s
  · exact (mset_spec P0_ok (x := x) h hlen).mono fun r H' ⟨e, S', hM, hF, hS⟩ => ⟨e, S', .inr hM, hF, hS⟩

theorem insert_spec {B : World} {H : Mem} {tr : Nat} {S : Nat → Prop} {l : List Int} {x : Int} (hU : MapU H tr S l) (hlen : l.length < 2305843009213693952) :
    Fn Try.prog B 96 [.pointer (some ⟨tr, 0, none⟩), .int .i64 x] H (fun r H' => ∃ S', MapU H' tr S' (Pl.put OI x l) ∧ Fr (fun b _ => S b) H H' ∧ ∀ b, S' b → S b ∨ H.size ≤ b) := by
  refine fn_of Go.Proofs.Try.func96 rfl Go.Proofs.Try.ntmps96 ?_
  refine (show Go' _ _ _ _ 10 [(0, _), (1, _)] [.code _] _ from ?_)
  -- region 0 (set.go:22)
  refine Go'.region [(0, 0), (1, 0), (2, 0), (3, 0), (4, 0), (5, 2)] rfl ?_
  refine O.mv rfl rfl rfl rfl rfl ?_
  refine O.nc rfl rfl rfl rfl rfl ?_
  refine O.faz rfl rfl rfl rfl ⟨_, _, _, Go.Proofs.Try.underlying142, rfl, rfl, Go.Proofs.Try.sizeOf140⟩ rfl ?_
  refine O.mv rfl rfl rfl rfl rfl ?_
  refine O.bld (cs := []) rfl rfl rfl rfl (st136) rfl (by kernel_rfl) ?_
  refine O.call rfl rfl rfl Go.Proofs.Try.call135 rfl (mset_u hU hlen) ?_
  rintro _ H2 ⟨rfl, h2⟩
  refine ⟨trivial, ?_⟩
  refine Pl.fin [] trivial ?_
  refine Go'.fall Go.Proofs.Try.func96 Go.Proofs.Try.results96 (vs := []) trivial ?_
  exact h2

theorem growSet_spec {B : World} {H : Mem} {u : Value} {l : List Int} (hi : InS EN H u l) (hll : l.length ≤ 4294967296) :
    Fn Try.prog B 55 [u] H (fun r H' => ∃ tr S, r = ptr tr ∧ MapU H' tr S (Pl.puts OI l) ∧ Fr nowhere H H' ∧ ∀ b, S b → H.size ≤ b) := by
  obtain ⟨a, c, hu⟩ := hi.len
  subst hu
  refine fn_of Go.Proofs.Try.func55 rfl Go.Proofs.Try.ntmps55 ?_
  refine (show Go' _ _ _ _ 18 [(0, _)] [.code _] _ from ?_)
  refine Go'.seq ?_
  -- region 0 (set.go:92)
  refine Go'.region [(0, 0)] rfl ?_
  refine O.asg rfl rfl rfl rfl rfl ?_
  refine Pl.fin [(0, _), (2, _)] ⟨rfl, rfl, trivial⟩ ?_
  refine Go'.seq ?_
  -- region 1 (set.go:93)
  refine Go'.region [(0, 2), (1, 0)] rfl ?_
  refine O.alloc rfl rfl rfl Go.Proofs.Try.zeroValue142 ?_
  intro H1 M1
  refine ⟨trivial, ?_⟩
  have hF1 := M1.fr nowhere
  have hs1 := M1.size
  have hU1 : MapU H1 H.size (fun b => b = H.size) [] := .inl ⟨rfl, ⟨(M1.cl 0).trans rfl, (M1.cl 2).trans rfl, (M1.cl 3).trans rfl, fun i v h => (by
    match i, h with
    | 0, h => exact (M1.cl 4).trans h
    | i + 1, h => simp at h), (M1.cl 5).trans rfl, (M1.cl 7).trans rfl, (M1.cl 8).trans rfl, M1.wr 9 (by decide)⟩, rfl, fun b hb => by subst hb; omega⟩
  refine O.asg rfl rfl rfl rfl rfl ?_
  refine Pl.fin [(0, _), (2, _), (3, _)] ⟨rfl, rfl, rfl, trivial⟩ ?_
  refine Go'.seq ?_
  refine Go'.seq ?_
  -- region 2 (set.go:94)
  refine Go'.region [(0, 0), (1, 0), (2, 0)] rfl ?_
  refine O.mv rfl rfl rfl rfl rfl ?_
  refine O.len rfl rfl rfl rfl Go.Proofs.Try.underlying22 rfl ?_
  refine O.mv rfl rfl rfl rfl rfl ?_
  refine Pl.fin [(2, _), (3, _), (7, _), (8, _), (9, _)] ⟨rfl, rfl, rfl, rfl, rfl, trivial⟩ ?_
  refine Go'.block ?_
  refine Go'.loop ?_
  refine Go'.keep [(3, _), (7, _), (8, _), (9, _)] ⟨rfl, rfl, rfl, rfl, trivial⟩ ?_
  refine Go'.ind (σ := Nat) (fun j => l.length - j) (fun j H' => Fr nowhere H H' ∧ j ≤ l.length ∧ ∃ S, MapU H' H.size S (Pl.puts OI (l.take j)) ∧ ∀ b, S b → H.size ≤ b)
    (fun j => [(3, .pointer (some ⟨H.size, 0, none⟩)), (7, .slice a l.length c), (8, .int .i64 (l.length : Int)), (9, .int .i64 (j : Int))]) 0 ⟨hF1, Nat.zero_le _, _, hU1, fun b hb => by subst hb; exact Nat.le_refl _⟩ rfl ?_
  rintro j H2 ⟨hF, hjl, S, hM, hS⟩ ih
  have hi2 := hi.fr hF
  refine Go'.seq ?_
  by_cases hlt : j < l.length
  · skip
    obtain ⟨y, hy⟩ : ∃ y, l[j]? = some y := ⟨l[j], List.getElem?_eq_getElem hlt⟩
    obtain ⟨b, o, c', e, hr⟩ := hi2.at hy
    cases e
    have hpl := Pl.puts_length OI (l.take j)
    have hsz := hF.size
    rw [List.length_take] at hpl
    -- region 3 (set.go:94)
    refine Go'.region [(0, 0)] rfl ?_
    refine O.cmp rfl rfl rfl rfl rfl rfl (lssT (by omega)) ?_
    refine Pl.fin [(3, _), (7, _), (8, _), (9, _), (10, _)] ⟨rfl, rfl, rfl, rfl, rfl, trivial⟩ ?_
    refine Go'.seq ?_
    refine Go'.condT rfl ?_
    refine Go'.skip ?_
    refine Go'.seq ?_
    refine Go'.block ?_
    refine Go'.seq ?_
    -- region 4 (set.go:94)
    refine Go'.region [(0, 0), (1, 1), (2, 0)] rfl ?_
    refine O.ix (j := j) rfl rfl rfl rfl Go.Proofs.Try.underlying22 Go.Proofs.Try.sizeOf3 rfl rfl (by omega) hlt ?_
    refine O.ld rfl rfl rfl (fun w => ⟨Go.Proofs.Try.isAgg3 w, Go.Proofs.Try.sizeOf3 w⟩) rfl (hr 0 _ rfl) ?_
    refine O.asg rfl rfl rfl rfl rfl ?_
    refine Pl.fin [(3, _), (5, _), (7, _), (8, _), (9, _), (10, _)] ⟨rfl, rfl, rfl, rfl, rfl, rfl, trivial⟩ ?_
    -- region 5 (set.go:95)
    refine Go'.region [(0, 0), (1, 0), (2, 2)] rfl ?_
    refine O.mv rfl rfl rfl rfl rfl ?_
    refine O.mv rfl rfl rfl rfl rfl ?_
    refine O.call rfl rfl rfl Go.Proofs.Try.call96 rfl (insert_spec (x := y) hM (by omega)) ?_
    rintro _ H5 ⟨S', hM', hF', hS'⟩
    refine ⟨trivial, ?_⟩
    refine Pl.fin [(3, _), (5, _), (7, _), (8, _), (9, _), (10, _)] ⟨rfl, rfl, rfl, rfl, rfl, rfl, trivial⟩ ?_
    refine Go'.inBlock ?_
    -- region 6 (set.go:94)
    refine Go'.region [(0, 0), (1, 0)] rfl ?_
    refine O.add (((j + 1 : Nat) : Int)) rfl rfl rfl rfl rfl rfl (by omega) (by omega) ?_
    refine O.mv rfl rfl rfl rfl rfl ?_
    refine Pl.fin [(3, _), (5, _), (7, _), (8, _), (9, _), (10, _)] ⟨rfl, rfl, rfl, rfl, rfl, rfl, trivial⟩ ?_
    refine Go'.keep [(3, _), (7, _), (8, _), (9, _)] ⟨rfl, rfl, rfl, rfl, trivial⟩ ?_
    refine Go'.inLoop ?_
    exact ih (j + 1) H5 ⟨hF.trans' hF' (fun _ _ _ h => h) (fun b o hb hz => by have h1 := hS b hz; omega), hlt, S', by
      rw [List.take_add_one, hy]
      rw [← Pl.puts_snoc] at hM'
      exact hM', fun b hb => (hS' b hb).elim (hS b) (fun h => by omega)⟩ (by omega)
  · skip
    obtain rfl : j = l.length := by omega
    -- region 3 (set.go:94)
    refine Go'.region [(0, 0)] rfl ?_
    refine O.cmp rfl rfl rfl rfl rfl rfl (lssF (by omega)) ?_
    refine Pl.fin [(3, _), (7, _), (8, _), (9, _), (10, _)] ⟨rfl, rfl, rfl, rfl, rfl, trivial⟩ ?_
    refine Go'.seq ?_
    refine Go'.condF rfl ?_
    refine Go'.exit rfl ?_
    refine Go'.seq ?_
    -- region 7 (set.go:97)
    refine Go'.region [(0, 0), (1, 0)] rfl ?_
    refine O.mv rfl rfl rfl rfl rfl ?_
    refine O.asg rfl rfl rfl rfl rfl ?_
    refine Pl.fin [(2, _)] ⟨rfl, trivial⟩ ?_
    refine Go'.ret (vs := [_]) Go.Proofs.Try.func55 Go.Proofs.Try.results55 ⟨rfl, trivial⟩ ?_
    rw [List.take_length] at hM
    exact ⟨H.size, S, rfl, hM, hF, hS⟩

/-- A key that was found. -/
def kvs : Option Int → List Value
  | some y => [.int .i64 y, .bool true]
  | none => [.int .i64 0, .bool false]
def KV (o : Option Int) : Value := .agg (kvs o).toArray
theorem st63 : StT Try.prog 63 [(0, 1), (1, 1)] [.int .i64 0, .bool false] := ⟨⟨_, Try.underlying63, fun w => by simp [Array.mapM_eq_mapM_toList, Try.sizeOf3, Try.sizeOf4]⟩, Try.zeroValue63⟩
def ok1 (x : Int) : Bool → Option Int
  | true => some x
  | false => none
theorem key_spec {B : World} {H : Mem} {x : Int} {ok : Bool} : Fn Try.prog B 83 [.int .i64 x, .bool ok] H (fun r H' => r = KV (ok1 x ok) ∧ Fr nowhere H H') := by
  have hF : Fr nowhere H H := Fr.refl _ _
  refine fn_of Go.Proofs.Try.func83 rfl Go.Proofs.Try.ntmps83 ?_
  refine (show Go' _ _ _ _ 10 [(0, _), (1, _)] [.code _] _ from ?_)
  refine Go'.seq ?_
  -- region 0 (set.go:101)
  refine Go'.region [(0, 2)] rfl ?_
  refine O.alloc rfl rfl rfl Go.Proofs.Try.zeroValue63 ?_
  intro H2 M2
  refine ⟨trivial, ?_⟩
  have hs2 := M2.size
  
  replace hF := hF.trans' (M2.fr nowhere) (fun _ _ _ h => h) (fun _ _ _ h => h.elim)
  have m4 : Wr H2 H.size 0 2 := M2.wr 2 (by decide)
  refine Pl.fin [(0, _), (1, _), (4, _)] ⟨rfl, rfl, rfl, trivial⟩ ?_
  refine Go'.seq ?_
  refine Go'.seq ?_
  -- region 1 (set.go:102)
  refine Go'.region [(0, 0), (1, 0)] rfl ?_
  refine O.mv rfl rfl rfl rfl rfl ?_
  refine O.not rfl rfl rfl rfl rfl ?_
  refine Pl.fin [(0, _), (4, _), (6, _)] ⟨rfl, rfl, rfl, trivial⟩ ?_
  cases ok
  · skip
    refine Go'.condT rfl ?_
    refine Go'.seq ?_
    -- region 2 (set.go:103)
    refine Go'.region [(0, 0), (1, 2)] rfl ?_
    refine O.bld (cs := (kvs none)) rfl rfl rfl rfl (st63) rfl (by kernel_rfl) ?_
    refine O.st rfl rfl Go.Proofs.Try.sizeOf63 rfl rfl rfl rfl rfl m4 ?_
    intro H5 W5
    replace hF := hF.trans' W5.fr (fun _ _ _ h => h) (fun b o hb hz => by have h1 := hz.1; omega)
    refine ⟨trivial, ?_⟩
    refine Pl.fin [(0, _), (4, _)] ⟨rfl, rfl, trivial⟩ ?_
    refine Go'.ret (vs := [_]) Go.Proofs.Try.func83 Go.Proofs.Try.results83 ⟨⟨_, _, rfl, fun _ _ => run_loadVar_agg (fun w => ⟨Go.Proofs.Try.isAgg63 w, Go.Proofs.Try.sizeOf63 w⟩) rfl W5.all⟩, trivial⟩ ?_
    exact ⟨rfl, hF⟩
  · skip
    refine Go'.condF rfl ?_
    refine Go'.skip ?_
    refine Go'.seq ?_
    -- region 3 (set.go:105)
    refine Go'.region [(0, 0), (1, 0), (2, 2)] rfl ?_
    refine O.mv rfl rfl rfl rfl rfl ?_
    refine O.bld (cs := (kvs (some x))) rfl rfl rfl rfl (st63) rfl (by kernel_rfl) ?_
    refine O.st rfl rfl Go.Proofs.Try.sizeOf63 rfl rfl rfl rfl rfl m4 ?_
    intro H5 W5
    replace hF := hF.trans' W5.fr (fun _ _ _ h => h) (fun b o hb hz => by have h1 := hz.1; omega)
    refine ⟨trivial, ?_⟩
    refine Pl.fin [(4, _)] ⟨rfl, trivial⟩ ?_
    refine Go'.ret (vs := [_]) Go.Proofs.Try.func83 Go.Proofs.Try.results83 ⟨⟨_, _, rfl, fun _ _ => run_loadVar_agg (fun w => ⟨Go.Proofs.Try.isAgg63 w, Go.Proofs.Try.sizeOf63 w⟩) rfl W5.all⟩, trivial⟩ ?_
    exact ⟨rfl, hF⟩

end Go.Bt.FZ
namespace Go.Bt.FZ
open Go Go.Proofs
set_option maxRecDepth 20000
set_option maxHeartbeats 4000000
set_option linter.unusedVariables false

theorem fieldsK : Try.prog.underlying 63 = some (.struct (Try.prog.fieldsOf 63)) := by unfold Program.fieldsOf; rw [Try.underlying63]
theorem key_eq (o : Option Int) (x y : Operand) (w : World) : (eqGuard .eql 63 x y (.agg (kvs o).toArray) (.agg (kvs o).toArray)).run Try.prog w = .ok () w ∧ (binOp .eql 63 (.agg (kvs o).toArray) (.agg (kvs o).toArray)).run Try.prog w = .ok (.bool true) w := by
  refine ⟨run_eqGuard_agg w _ _ _ _ _ _ Try.eqGuardType63, ?_⟩
  rw [run_eql_struct, run_equalIn_agg w 9999 63 _ _ fieldsK Try.stoodInHeld63]
  have hb : ∀ b : Bool, (Op.equalIn 9999 4 (.bool b) (.bool b)).run Try.prog w = .ok true w := fun b => by
    have := run_equalIn_bool' w 9998 4 b b Try.underlying4
    simpa using this
  cases o with
  | none => simp [kvs, Op.eqFields, Program.fieldsOf, Try.underlying63, part, Try.isAgg3, Try.isAgg4, run_equalIn_int w 9998 3 _ _ _ _ Try.underlying3, hb]
  | some y => simp [kvs, Op.eqFields, Program.fieldsOf, Try.underlying63, part, Try.isAgg3, Try.isAgg4, run_equalIn_int w 9998 3 _ _ _ _ Try.underlying3, hb]

end Go.Bt.FZ
namespace Go.Bt
open Go Go.Proofs
set_option maxRecDepth 20000
set_option maxHeartbeats 4000000
set_option linter.unusedVariables false

end Go.Bt
