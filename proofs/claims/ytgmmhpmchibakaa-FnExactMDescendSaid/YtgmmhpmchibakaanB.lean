/- Contracts of functions of the program, proved by walking through their code. Conditions: those that each theorem names. -/
import Derived.Test.YtgmmhpmchibakaanA
import Derived.Laws.StructEq
namespace Go.Bt
open Go Go.Proofs
set_option maxRecDepth 20000
set_option maxHeartbeats 4000000
set_option linter.unusedVariables false

theorem fields35 : Try.prog.underlying 35 = some (.struct (Try.prog.fieldsOf 35)) := by unfold Program.fieldsOf; rw [Try.underlying35]
theorem fields37 : Try.prog.underlying 37 = some (.struct (Try.prog.fieldsOf 37)) := by unfold Program.fieldsOf; rw [Try.underlying37]
theorem item_eq (d : Nat) (x : Int × Int) (w : World) : (Op.equalIn (d + 2) 35 (.agg #[.int .i64 x.1, .int .i64 x.2]) (.agg #[.int .i64 x.1, .int .i64 x.2])).run Try.prog w = .ok true w := by
  rw [run_equalIn_agg w (d + 1) 35 _ _ fields35 Try.stoodInHeld35]
  simp [Op.eqFields, Program.fieldsOf, Try.underlying35, part, Try.isAgg3, run_equalIn_int w d 3 _ _ _ _ Try.underlying3]
theorem found_eq (o : Option (Int × Int)) (x y : Operand) (w : World) : (eqGuard .eql 37 x y (.agg (fvs o).toArray) (.agg (fvs o).toArray)).run Try.prog w = .ok () w ∧ (binOp .eql 37 (.agg (fvs o).toArray) (.agg (fvs o).toArray)).run Try.prog w = .ok (.bool true) w := by
  refine ⟨run_eqGuard_agg w _ _ _ _ _ _ Try.eqGuardType37, ?_⟩
  rw [run_eql_struct, run_equalIn_agg w 9999 37 _ _ fields37 Try.stoodInHeld37]
  have h : ∀ x y : Int, (Op.equalIn 9999 35 (.agg #[.int .i64 x, .int .i64 y]) (.agg #[.int .i64 x, .int .i64 y])).run Try.prog w = .ok true w := fun x y => item_eq 9997 (x, y) w
  have hb : ∀ b : Bool, (Op.equalIn 9999 4 (.bool b) (.bool b)).run Try.prog w = .ok true w := fun b => by
    have := run_equalIn_bool' w 9998 4 b b Try.underlying4
    simpa using this
  cases o with
  | none => simp [fvs, Op.eqFields, Program.fieldsOf, Try.underlying37, part, Try.isAgg35, Try.sizeOf35, Try.isAgg4, h, hb]
  | some y => simp [fvs, Op.eqFields, Program.fieldsOf, Try.underlying37, part, Try.isAgg35, Try.sizeOf35, Try.isAgg4, h, hb]

theorem st58 : StT Try.prog 58 [(0, 1), (1, 1), (2, 1)] [.slice none 0 0, .int .i64 0, .bool false] := ⟨⟨_, Try.underlying58, fun w => by simp [Array.mapM_eq_mapM_toList, Try.sizeOf3, Try.sizeOf4, Try.sizeOf39]⟩, Try.zeroValue58⟩
theorem lawMMin_spec {B : World} {H : Mem} {d : Nat} {u : Value} {l : List (Int × Int)} (hd : 2 ≤ d ∧ d ≤ 128) (hi : InS EJ H u l) (hll : l.length ≤ 4294967296) :
    Fn Try.prog B 14 [.int .i64 (d : Int), u] H (fun r H' => r = .bool true ∧ Fr nowhere H H') := by
  have hF : Fr nowhere H H := Fr.refl _ _
  have hi0 := hi
  refine fn_of Go.Proofs.Try.func14 rfl Go.Proofs.Try.ntmps14 ?_
  refine (show Go' _ _ _ _ 16 [(0, _), (1, _)] [.code _] _ from ?_)
  refine Go'.seq ?_
  -- region 0 (exact.go:1234)
  refine Go'.region [(0, 0)] rfl ?_
  refine O.asg rfl rfl rfl rfl rfl ?_
  refine Pl.fin [(0, _), (1, _), (4, _)] ⟨rfl, rfl, rfl, trivial⟩ ?_
  refine Go'.seq ?_
  -- region 1 (exact.go:1235)
  refine Go'.region [(0, 0), (1, 0), (2, 2), (3, 2), (4, 2)] rfl ?_
  refine O.mv rfl rfl rfl rfl rfl ?_
  refine O.mv rfl rfl rfl rfl rfl ?_
  refine O.call rfl rfl rfl Go.Proofs.Try.call44 rfl (mmin_spec hd hi hll) ?_
  rintro _ H1 ⟨rfl, hF1⟩
  have hs1 := hF1.size
  replace hi := hi.fr hF1
  replace hF := hF.trans' hF1 (fun _ _ _ h => h) (fun _ _ _ h => h.elim)
  refine ⟨trivial, ?_⟩
  refine O.alloc rfl rfl rfl Go.Proofs.Try.zeroValue37 ?_
  intro H2 M2
  refine ⟨trivial, ?_⟩
  have hs2 := M2.size
  replace hi := hi.fr (M2.fr nowhere)
  replace hF := hF.trans' (M2.fr nowhere) (fun _ _ _ h => h) (fun _ _ _ h => h.elim)
  have m5 : Wr H2 H1.size 0 3 := M2.wr 3 (by decide)
  rw [FV_eq (Pl.puts OI l)[0]?]
  refine O.st (vs := (fvs (Pl.puts OI l)[0]?)) rfl rfl Go.Proofs.Try.sizeOf37 rfl rfl rfl (by cases (Pl.puts OI l)[0]? <;> rfl) (by cases (Pl.puts OI l)[0]? <;> rfl) m5 ?_
  intro H3 W3
  have hs3 := W3.size
  have hf3 : Fr nowhere H H3 := hF.trans' W3.fr (fun _ _ _ h => h) (fun b o hb hz => by have h1 := hz.1; have := hF1.size; omega)
  replace hi := hi0.fr hf3
  clear hF
  have hF := hf3
  have r5 : Rd H3 H1.size 0 (fvs (Pl.puts OI l)[0]?) := W3.all
  refine ⟨trivial, ?_⟩
  refine Pl.fin [(1, _), (4, _), (5, _)] ⟨rfl, rfl, rfl, trivial⟩ ?_
  refine Go'.seq ?_
  -- region 2 (exact.go:1236)
  refine Go'.region [(0, 0), (1, 0), (2, 2), (3, 2), (4, 2)] rfl ?_
  refine O.bld (cs := [.slice none 0 0, .int .i64 0, .bool false]) rfl rfl rfl rfl (st58) rfl (by kernel_rfl) ?_
  refine O.mv rfl rfl rfl rfl rfl ?_
  refine O.call rfl rfl rfl Go.Proofs.Try.call45 rfl (gmin_spec (ord := []) (InS.nil EN H3) (by simp) hi hll) ?_
  rintro _ H4 ⟨rfl, hF4⟩
  rw [OO_nil]
  have hs4 := hF4.size
  replace r5 := hF4.rd r5 (fun _ _ => nw)
  replace hF := hF.trans' hF4 (fun _ _ _ h => h) (fun _ _ _ h => h.elim)
  refine ⟨trivial, ?_⟩
  refine O.alloc rfl rfl rfl Go.Proofs.Try.zeroValue37 ?_
  intro H5 M5
  refine ⟨trivial, ?_⟩
  have hs5 := M5.size
  replace r5 := (M5.fr nowhere).rd r5 (fun _ _ => nw)
  replace hF := hF.trans' (M5.fr nowhere) (fun _ _ _ h => h) (fun _ _ _ h => h.elim)
  have m6 : Wr H5 H4.size 0 3 := M5.wr 3 (by decide)
  rw [FV_eq (Pl.puts OI l)[0]?]
  refine O.st (vs := (fvs (Pl.puts OI l)[0]?)) rfl rfl Go.Proofs.Try.sizeOf37 rfl rfl rfl (by cases (Pl.puts OI l)[0]? <;> rfl) (by cases (Pl.puts OI l)[0]? <;> rfl) m6 ?_
  intro H6 W6
  have hs6 := W6.size
  replace r5 := W6.fr.rd r5 (fun _ _ => nr (.inl (by omega)))
  replace hF := hF.trans' W6.fr (fun _ _ _ h => h) (fun b o hb hz => by have h1 := hz.1; have := hF.size; omega)
  have r6 : Rd H6 H4.size 0 (fvs (Pl.puts OI l)[0]?) := W6.all
  refine ⟨trivial, ?_⟩
  refine Pl.fin [(4, _), (5, _), (6, _)] ⟨rfl, rfl, rfl, trivial⟩ ?_
  refine Go'.seq ?_
  -- region 3 (exact.go:1237)
  refine Go'.region [(0, 1), (1, 1), (2, 0), (3, 0)] rfl ?_
  refine O.lds rfl rfl rfl (fun w => ⟨Go.Proofs.Try.isAgg37 w, Go.Proofs.Try.sizeOf37 w⟩) rfl (by cases (Pl.puts OI l)[0]? <;> rfl) r5 ?_
  refine O.lds rfl rfl rfl (fun w => ⟨Go.Proofs.Try.isAgg37 w, Go.Proofs.Try.sizeOf37 w⟩) rfl (by cases (Pl.puts OI l)[0]? <;> rfl) r6 ?_
  refine O.bin rfl rfl rfl rfl rfl rfl (found_eq (Pl.puts OI l)[0]? _ _) ?_
  refine O.asg rfl rfl rfl rfl rfl ?_
  refine Pl.fin [(4, _)] ⟨rfl, trivial⟩ ?_
  refine Go'.ret (vs := [_]) Go.Proofs.Try.func14 Go.Proofs.Try.results14 ⟨rfl, trivial⟩ ?_
  exact ⟨rfl, hF⟩

def exl : List (Int × Int) := [(5, 1), (3, 2), (9, 3), (3, 4), (1, 5), (7, 6), (8, 7)]
theorem exItems_spec {B : World} {H : Mem} : Fn Try.prog B 15 [] H (fun r H' => InS EJ H' r exl ∧ Fr nowhere H H') := by
  refine fn_of Go.Proofs.Try.func15 rfl Go.Proofs.Try.ntmps15 ?_
  refine (show Go' _ _ _ _ 9 [] [.code _] _ from ?_)
  refine Go'.seq ?_
  -- region 0 (help.go:72)
  refine Go'.region [(0, 0)] rfl ?_
  refine O.asg rfl rfl rfl rfl rfl ?_
  refine Pl.fin [(0, _)] ⟨rfl, trivial⟩ ?_
  refine Go'.seq ?_
  -- region 1 (help.go:73)
  refine Go'.region [(0, 0), (1, 0), (2, 0), (3, 0), (4, 0), (5, 0), (6, 0), (7, 2), (8, 0)] rfl ?_
  refine O.bld (cs := [.int .i64 5, .int .i64 1]) rfl rfl rfl rfl (st35) rfl (by kernel_rfl) ?_
  refine O.bld (cs := [.int .i64 3, .int .i64 2]) rfl rfl rfl rfl (st35) rfl (by kernel_rfl) ?_
  refine O.bld (cs := [.int .i64 9, .int .i64 3]) rfl rfl rfl rfl (st35) rfl (by kernel_rfl) ?_
  refine O.bld (cs := [.int .i64 3, .int .i64 4]) rfl rfl rfl rfl (st35) rfl (by kernel_rfl) ?_
  refine O.bld (cs := [.int .i64 1, .int .i64 5]) rfl rfl rfl rfl (st35) rfl (by kernel_rfl) ?_
  refine O.bld (cs := [.int .i64 7, .int .i64 6]) rfl rfl rfl rfl (st35) rfl (by kernel_rfl) ?_
  refine O.bld (cs := [.int .i64 8, .int .i64 7]) rfl rfl rfl rfl (st35) rfl (by kernel_rfl) ?_
  refine O.bsl (cs := (row EJ exl)) rfl rfl rfl ⟨Go.Proofs.Try.underlying22, Go.Proofs.Try.sizeOf35, Go.Proofs.Try.zeroValue35, ⟨_, Go.Proofs.Try.typeInfo35, rfl⟩, rfl, by decide⟩ rfl (by decide) (by kernel_rfl) ?_
  intro H1 M1
  refine ⟨trivial, ?_⟩
  refine O.asg rfl rfl rfl rfl rfl ?_
  refine Pl.fin [(0, _)] ⟨rfl, trivial⟩ ?_
  refine Go'.ret (vs := [_]) Go.Proofs.Try.func15 Go.Proofs.Try.results15 ⟨rfl, trivial⟩ ?_
  exact ⟨.inl ⟨H.size, 0, 7, rfl, by decide, M1.rd _ [] (by simp)⟩, M1.fr nowhere⟩

def fitsb (z : Int) : Bool := decide (z = 0) || (decide (2 ≤ z) && decide (z ≤ 128))
theorem fits_spec {B : World} {H : Mem} {z : Int} : Fn Try.prog B 16 [.int .i64 z] H (fun r H' => r = .bool (fitsb z) ∧ H' = H) := by
  refine fn_of Go.Proofs.Try.func16 rfl Go.Proofs.Try.ntmps16 ?_
  refine (show Go' _ _ _ _ 13 [(0, _)] [.code _] _ from ?_)
  refine Go'.seq ?_
  -- region 0 (tree.go:291)
  refine Go'.region [(0, 0)] rfl ?_
  refine O.asg rfl rfl rfl rfl rfl ?_
  refine Pl.fin [(0, _), (2, _)] ⟨rfl, rfl, trivial⟩ ?_
  refine Go'.seq ?_
  by_cases h0 : z = 0
  · skip
    -- region 1 (tree.go:291)
    refine Go'.region [(0, 0), (1, 0), (2, 0), (3, 0), (4, 0), (5, 0), (6, 0), (7, 0), (8, 0), (9, 0), (10, 0)] rfl ?_
    refine O.mv rfl rfl rfl rfl rfl ?_
    refine O.cmp rfl rfl rfl rfl rfl rfl (eqlT (by omega)) ?_
    refine O.mv rfl rfl rfl rfl rfl ?_
    refine Pl.pass rfl rfl rfl rfl ?_
    refine Pl.pass rfl rfl rfl rfl ?_
    refine Pl.pass rfl rfl rfl rfl ?_
    refine Pl.pass rfl rfl rfl rfl ?_
    refine Pl.pass rfl rfl rfl rfl ?_
    refine Pl.pass rfl rfl rfl rfl ?_
    refine O.pick rfl rfl rfl rfl rfl rfl ?_
    refine O.asg rfl rfl rfl rfl rfl ?_
    refine Pl.fin [(2, _)] ⟨rfl, trivial⟩ ?_
    refine Go'.ret (vs := [_]) Go.Proofs.Try.func16 Go.Proofs.Try.results16 ⟨rfl, trivial⟩ ?_
    subst h0; exact ⟨rfl, rfl⟩
  by_cases h2 : 2 ≤ z
  · skip
    by_cases h3 : z ≤ 128
    · skip
      -- region 1 (tree.go:291)
      refine Go'.region [(0, 0), (1, 0), (2, 0), (3, 0), (4, 0), (5, 0), (6, 0), (7, 0), (8, 0), (9, 0), (10, 0)] rfl ?_
      refine O.mv rfl rfl rfl rfl rfl ?_
      refine O.cmp rfl rfl rfl rfl rfl rfl (eqlF (by omega)) ?_
      refine O.mv rfl rfl rfl rfl rfl ?_
      refine O.mv rfl rfl rfl rfl rfl ?_
      refine O.cmp rfl rfl rfl rfl rfl rfl (geqT (by omega)) ?_
      refine O.mv rfl rfl rfl rfl rfl ?_
      refine O.mv rfl rfl rfl rfl rfl ?_
      refine O.cmp rfl rfl rfl rfl rfl rfl (leqT (by omega)) ?_
      refine O.pick rfl rfl rfl rfl rfl rfl ?_
      refine O.pick rfl rfl rfl rfl rfl rfl ?_
      refine O.asg rfl rfl rfl rfl rfl ?_
      refine Pl.fin [(2, _)] ⟨rfl, trivial⟩ ?_
      refine Go'.ret (vs := [_]) Go.Proofs.Try.func16 Go.Proofs.Try.results16 ⟨rfl, trivial⟩ ?_
      exact ⟨by unfold fitsb; rw [decide_eq_false h0, decide_eq_true h2, decide_eq_true h3]; rfl, rfl⟩
    · skip
      -- region 1 (tree.go:291)
      refine Go'.region [(0, 0), (1, 0), (2, 0), (3, 0), (4, 0), (5, 0), (6, 0), (7, 0), (8, 0), (9, 0), (10, 0)] rfl ?_
      refine O.mv rfl rfl rfl rfl rfl ?_
      refine O.cmp rfl rfl rfl rfl rfl rfl (eqlF (by omega)) ?_
      refine O.mv rfl rfl rfl rfl rfl ?_
      refine O.mv rfl rfl rfl rfl rfl ?_
      refine O.cmp rfl rfl rfl rfl rfl rfl (geqT (by omega)) ?_
      refine O.mv rfl rfl rfl rfl rfl ?_
      refine O.mv rfl rfl rfl rfl rfl ?_
      refine O.cmp rfl rfl rfl rfl rfl rfl (leqF (by omega)) ?_
      refine O.pick rfl rfl rfl rfl rfl rfl ?_
      refine O.pick rfl rfl rfl rfl rfl rfl ?_
      refine O.asg rfl rfl rfl rfl rfl ?_
      refine Pl.fin [(2, _)] ⟨rfl, trivial⟩ ?_
      refine Go'.ret (vs := [_]) Go.Proofs.Try.func16 Go.Proofs.Try.results16 ⟨rfl, trivial⟩ ?_
      exact ⟨by unfold fitsb; rw [decide_eq_false h0, decide_eq_true h2, decide_eq_false h3]; rfl, rfl⟩
  · skip
    -- region 1 (tree.go:291)
    refine Go'.region [(0, 0), (1, 0), (2, 0), (3, 0), (4, 0), (5, 0), (6, 0), (7, 0), (8, 0), (9, 0), (10, 0)] rfl ?_
    refine O.mv rfl rfl rfl rfl rfl ?_
    refine O.cmp rfl rfl rfl rfl rfl rfl (eqlF (by omega)) ?_
    refine O.mv rfl rfl rfl rfl rfl ?_
    refine O.mv rfl rfl rfl rfl rfl ?_
    refine O.cmp rfl rfl rfl rfl rfl rfl (geqF (by omega)) ?_
    refine O.mv rfl rfl rfl rfl rfl ?_
    refine Pl.pass rfl rfl rfl rfl ?_
    refine Pl.pass rfl rfl rfl rfl ?_
    refine O.pick rfl rfl rfl rfl rfl rfl ?_
    refine O.pick rfl rfl rfl rfl rfl rfl ?_
    refine O.asg rfl rfl rfl rfl rfl ?_
    refine Pl.fin [(2, _)] ⟨rfl, trivial⟩ ?_
    refine Go'.ret (vs := [_]) Go.Proofs.Try.func16 Go.Proofs.Try.results16 ⟨rfl, trivial⟩ ?_
    exact ⟨by unfold fitsb; rw [decide_eq_false h0, decide_eq_false h2]; rfl, rfl⟩

end Go.Bt