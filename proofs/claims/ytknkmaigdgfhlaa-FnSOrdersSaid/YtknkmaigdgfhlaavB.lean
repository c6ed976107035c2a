/- Contracts of functions of the program, proved by walking through their code. Conditions: those that each theorem names. -/
import Derived.Test.YtknkmaigdgfhlaavA
import Derived.Laws.StructEq
namespace Go.Bt.FZ
open Go Go.Proofs
set_option maxRecDepth 20000
set_option maxHeartbeats 4000000
set_option linter.unusedVariables false

def kinj (k : Int) : Int × Int := (k, 0)
theorem OO_kinj (x y : Int) : (OO []).lt (kinj x) (kinj y) = OI.lt x y := rfl
theorem puts_kinj (l : List Int) : Pl.puts (OO []) (l.map kinj) = (Pl.puts OI l).map kinj := Pl.puts_map OO_kinj l
theorem stM : StT Try.prog 73 [(0, 1), (1, 1), (2, 1)] [.slice none 0 0, .int .i64 0, .bool false] := ⟨⟨_, Try.underlying73, fun w => by simp [Array.mapM_eq_mapM_toList, Try.sizeOf3, Try.sizeOf4, Try.sizeOf22]⟩, Try.zeroValue73⟩

theorem specItems_spec {B : World} {H : Mem} {u : Value} {l : List Int} (hi : InS EN H u l) (hll : l.length ≤ 4294967296) :
    Fn Try.prog B 43 [u] H (fun r H' => Acc EJ (fun b => H.size ≤ b) H' r (l.map kinj) ∧ Fr nowhere H H') := by
  obtain ⟨a, c, hu⟩ := hi.len
  subst hu
  refine fn_of Go.Proofs.Try.func43 rfl Go.Proofs.Try.ntmps43 ?_
  refine (show Go' _ _ _ _ 19 [(0, _)] [.code _] _ from ?_)
  refine Go'.seq ?_
  -- region 0 (list.go:192)
  refine Go'.region [(0, 0)] rfl ?_
  refine O.asg rfl rfl rfl rfl rfl ?_
  refine Pl.fin [(0, _), (2, _)] ⟨rfl, rfl, trivial⟩ ?_
  refine Go'.seq ?_
  -- region 1 (list.go:193)
  refine Go'.region [(0, 0)] rfl ?_
  refine O.asg rfl rfl rfl rfl rfl ?_
  refine Pl.fin [(0, _), (2, _), (3, _)] ⟨rfl, rfl, rfl, trivial⟩ ?_
  refine Go'.seq ?_
  refine Go'.seq ?_
  -- region 2 (list.go:194)
  refine Go'.region [(0, 0), (1, 0), (2, 0)] rfl ?_
  refine O.mv rfl rfl rfl rfl rfl ?_
  refine O.len rfl rfl rfl rfl Go.Proofs.Try.underlying22 rfl ?_
  refine O.mv rfl rfl rfl rfl rfl ?_
  refine Pl.fin [(2, _), (3, _), (6, _), (7, _), (8, _)] ⟨rfl, rfl, rfl, rfl, rfl, trivial⟩ ?_
  refine Go'.block ?_
  refine Go'.loop ?_
  refine Go'.keep [(3, _), (6, _), (7, _), (8, _)] ⟨rfl, rfl, rfl, rfl, trivial⟩ ?_
  refine Go'.ind (σ := Nat × Value) (fun s => l.length - s.1) (fun s H' => Fr nowhere H H' ∧ s.1 ≤ l.length ∧ Acc EJ (fun b => H.size ≤ b) H' s.2 ((l.take s.1).map kinj))
    (fun s => [(3, s.2), (6, .slice a l.length c), (7, .int .i64 (l.length : Int)), (8, .int .i64 (s.1 : Int))]) (0, .slice none 0 0) ⟨Fr.refl _ _, Nat.zero_le _, Acc.nil _ _ _⟩ rfl ?_
  rintro ⟨j, sv⟩ H2 ⟨hF, hjl, hA⟩ ih
  simp only at hjl hA
  have hi2 := hi.fr hF
  refine Go'.seq ?_
  by_cases hlt : j < l.length
  · skip
    obtain ⟨y, hy⟩ : ∃ y, l[j]? = some y := ⟨l[j], List.getElem?_eq_getElem hlt⟩
    obtain ⟨b, o, c', e, hr⟩ := hi2.at hy
    cases e
    have hsz := hF.size
    have hx : (l.take (j + 1)).map kinj = (l.take j).map kinj ++ [kinj y] := by rw [List.take_add_one, hy, List.map_append]; rfl
    have hlout : ((l.take j).map kinj).length = j := by rw [List.length_map, List.length_take]; omega
    -- region 3 (list.go:194)
    refine Go'.region [(0, 0)] rfl ?_
    refine O.cmp rfl rfl rfl rfl rfl rfl (lssT (by omega)) ?_
    refine Pl.fin [(3, _), (6, _), (7, _), (8, _), (9, _)] ⟨rfl, rfl, rfl, rfl, rfl, trivial⟩ ?_
    refine Go'.seq ?_
    refine Go'.condT rfl ?_
    refine Go'.skip ?_
    refine Go'.seq ?_
    refine Go'.block ?_
    refine Go'.seq ?_
    -- region 4 (list.go:194)
    refine Go'.region [(0, 0), (1, 1), (2, 0)] rfl ?_
    refine O.ix (j := j) rfl rfl rfl rfl Go.Proofs.Try.underlying22 Go.Proofs.Try.sizeOf3 rfl rfl (by omega) hlt ?_
    refine O.ld rfl rfl rfl (fun w => ⟨Go.Proofs.Try.isAgg3 w, Go.Proofs.Try.sizeOf3 w⟩) rfl (hr 0 _ rfl) ?_
    refine O.asg rfl rfl rfl rfl rfl ?_
    refine Pl.fin [(3, _), (5, _), (6, _), (7, _), (8, _), (9, _)] ⟨rfl, rfl, rfl, rfl, rfl, rfl, trivial⟩ ?_
    -- region 5 (list.go:195)
    refine Go'.region [(0, 0), (1, 0), (2, 0), (3, 2), (4, 2), (5, 0)] rfl ?_
    refine O.mv rfl rfl rfl rfl rfl ?_
    refine O.mv rfl rfl rfl rfl rfl ?_
    refine O.bld (cs := (EJ.enc (kinj y))) rfl rfl rfl rfl (st68) rfl (by kernel_rfl) ?_
    refine O.bsl (cs := (EJ.enc (kinj y))) rfl rfl rfl ⟨Go.Proofs.Try.underlying74, Go.Proofs.Try.sizeOf68, Go.Proofs.Try.zeroValue68, ⟨_, Go.Proofs.Try.typeInfo68, rfl⟩, rfl, by decide, by decide⟩ rfl (by decide) (by kernel_rfl) ?_
    intro H5 M5
    have hs5 := M5.size
    have hA5 := hA.fr (M5.fr nowhere) (fun _ _ _ _ => nw)
    have m5 : Rd H5 H2.size 0 (row EJ [kinj y]) := M5.rd _ [] (by simp [row, EJ])
    refine ⟨trivial, ?_⟩
    refine O.appA (E := EJ) (Y := [kinj y]) rfl rfl rfl ⟨Go.Proofs.Try.underlying74, Go.Proofs.Try.sizeOf68, Go.Proofs.Try.zeroValue68, ⟨_, Go.Proofs.Try.typeInfo68, rfl⟩, rfl, by decide, by decide⟩ rfl hA5 rfl ⟨_, _, _, rfl, m5⟩ (Nat.succ_pos _) (by rw [hlout]; exact Nat.le_trans (Nat.mul_le_mul_left _ (Nat.le_of_ble_eq_true (n := _) (m := 4096) rfl)) (by simp only [List.length_cons, List.length_nil]; omega)) (by rw [hlout]; simp only [List.length_cons, List.length_nil]; omega) ?_
    intro v6 H6 hA6 hF6 hs6
    rw [← hx] at hA6
    refine ⟨trivial, ?_⟩
    refine O.asg rfl rfl rfl rfl rfl ?_
    refine Pl.fin [(3, _), (5, _), (6, _), (7, _), (8, _), (9, _)] ⟨rfl, rfl, rfl, rfl, rfl, rfl, trivial⟩ ?_
    refine Go'.inBlock ?_
    -- region 6 (list.go:194)
    refine Go'.region [(0, 0), (1, 0)] rfl ?_
    refine O.add (((j + 1 : Nat) : Int)) rfl rfl rfl rfl rfl rfl (by omega) (by omega) ?_
    refine O.mv rfl rfl rfl rfl rfl ?_
    refine Pl.fin [(3, _), (5, _), (6, _), (7, _), (8, _), (9, _)] ⟨rfl, rfl, rfl, rfl, rfl, rfl, trivial⟩ ?_
    refine Go'.keep [(3, _), (6, _), (7, _), (8, _)] ⟨rfl, rfl, rfl, rfl, trivial⟩ ?_
    refine Go'.inLoop ?_
    exact ih (j + 1, v6) H6 ⟨(hF.trans (M5.fr nowhere)).trans' hF6 (fun _ _ _ h => h) (fun b o hb hz => by have hz' : H.size ≤ b := hz; omega), hlt, hA6.mono (fun b hb hz => hz.elim id (fun h => by omega))⟩ (by simp only; omega)
  · skip
    obtain rfl : j = l.length := by omega
    rw [List.take_length] at hA
    -- region 3 (list.go:194)
    refine Go'.region [(0, 0)] rfl ?_
    refine O.cmp rfl rfl rfl rfl rfl rfl (lssF (by omega)) ?_
    refine Pl.fin [(3, _), (6, _), (7, _), (8, _), (9, _)] ⟨rfl, rfl, rfl, rfl, rfl, trivial⟩ ?_
    refine Go'.seq ?_
    refine Go'.condF rfl ?_
    refine Go'.exit rfl ?_
    refine Go'.seq ?_
    -- region 7 (list.go:197)
    refine Go'.region [(0, 0), (1, 0)] rfl ?_
    refine O.mv rfl rfl rfl rfl rfl ?_
    refine O.asg rfl rfl rfl rfl rfl ?_
    refine Pl.fin [(2, _)] ⟨rfl, trivial⟩ ?_
    refine Go'.ret (vs := [_]) Go.Proofs.Try.func43 Go.Proofs.Try.results43 ⟨rfl, trivial⟩ ?_
    exact ⟨hA, hF⟩

theorem keyOf_spec {B : World} {H : Mem} {o : Option (Int × Int)} : Fn Try.prog B 41 [.agg (fvs o).toArray] H (fun r H' => r = KV (o.map (·.1)) ∧ Fr nowhere H H') := by
  have hF : Fr nowhere H H := Fr.refl _ _
  cases o with
  | none =>
    refine fn_of Go.Proofs.Try.func41 rfl Go.Proofs.Try.ntmps41 ?_
    refine (show Go' _ _ _ _ 9 [(0, _)] [.code _] _ from ?_)
    refine Go'.seq ?_
    -- region 0 (help.go:49)
    refine Go'.region [(0, 2), (1, 2)] rfl ?_
    refine O.box rfl rfl rfl rfl ?_
    intro H1 M1
    refine ⟨trivial, ?_⟩
    have hs1 := M1.size
    
    replace hF := hF.trans' (M1.fr nowhere) (fun _ _ _ h => h) (fun _ _ _ h => h.elim)
    have mi : Rd H1 H.size 0 (fvs none) := M1.rd _ [] (by simp [fvs, Value.cells])
    refine O.alloc rfl rfl rfl Go.Proofs.Try.zeroValue63 ?_
    intro H2 M2
    refine ⟨trivial, ?_⟩
    have hs2 := M2.size
    replace mi := (M2.fr nowhere).rd mi (fun _ _ => nw)
    replace hF := hF.trans' (M2.fr nowhere) (fun _ _ _ h => h) (fun _ _ _ h => h.elim)
    have m2 : Wr H2 H1.size 0 2 := M2.wr 2 (by decide)
    refine Pl.fin [(1, _), (2, _)] ⟨rfl, rfl, trivial⟩ ?_
    refine Go'.seq ?_
    -- region 1 (help.go:49)
    refine Go'.region [(0, 0), (1, 0), (2, 1), (3, 0), (4, 1), (5, 0), (6, 2)] rfl ?_
    refine O.faz rfl rfl rfl rfl ⟨_, _, _, Go.Proofs.Try.underlying70, rfl, rfl, Go.Proofs.Try.sizeOf68⟩ rfl ?_
    refine O.faz rfl rfl rfl rfl ⟨_, _, _, Go.Proofs.Try.underlying68, rfl, rfl, Go.Proofs.Try.sizeOf3⟩ rfl ?_
    refine O.ld rfl rfl rfl (fun w => ⟨Go.Proofs.Try.isAgg3 w, Go.Proofs.Try.sizeOf3 w⟩) rfl (mi 0 _ rfl) ?_
    refine O.fa0 (off := 2) rfl rfl rfl rfl ⟨_, _, _, Go.Proofs.Try.underlying70, rfl, rfl, Go.Proofs.Try.sizeOf4⟩ rfl ?_
    refine O.ld rfl rfl rfl (fun w => ⟨Go.Proofs.Try.isAgg4 w, Go.Proofs.Try.sizeOf4 w⟩) rfl (mi 2 _ rfl) ?_
    refine O.bld (cs := (kvs none)) rfl rfl rfl rfl (st63) rfl (by kernel_rfl) ?_
    refine O.st (vs := (kvs none)) rfl rfl Go.Proofs.Try.sizeOf63 rfl rfl rfl rfl rfl m2 ?_
    intro H5 W5
    replace hF := hF.trans' W5.fr (fun _ _ _ h => h) (fun b o hb hz => by have h1 := hz.1; omega)
    refine ⟨trivial, ?_⟩
    refine Pl.fin [(2, _)] ⟨rfl, trivial⟩ ?_
    refine Go'.ret (vs := [_]) Go.Proofs.Try.func41 Go.Proofs.Try.results41 ⟨⟨_, _, rfl, fun _ _ => run_loadVar_agg (fun w => ⟨Go.Proofs.Try.isAgg63 w, Go.Proofs.Try.sizeOf63 w⟩) rfl W5.all⟩, trivial⟩ ?_
    exact ⟨rfl, hF⟩
  | some y =>
    refine fn_of Go.Proofs.Try.func41 rfl Go.Proofs.Try.ntmps41 ?_
    refine (show Go' _ _ _ _ 9 [(0, _)] [.code _] _ from ?_)
    refine Go'.seq ?_
    -- region 0 (help.go:49)
    refine Go'.region [(0, 2), (1, 2)] rfl ?_
    refine O.box rfl rfl rfl rfl ?_
    intro H1 M1
    refine ⟨trivial, ?_⟩
    have hs1 := M1.size
    
    replace hF := hF.trans' (M1.fr nowhere) (fun _ _ _ h => h) (fun _ _ _ h => h.elim)
    have mi : Rd H1 H.size 0 (fvs (some y)) := M1.rd _ [] (by simp [fvs, Value.cells])
    refine O.alloc rfl rfl rfl Go.Proofs.Try.zeroValue63 ?_
    intro H2 M2
    refine ⟨trivial, ?_⟩
    have hs2 := M2.size
    replace mi := (M2.fr nowhere).rd mi (fun _ _ => nw)
    replace hF := hF.trans' (M2.fr nowhere) (fun _ _ _ h => h) (fun _ _ _ h => h.elim)
    have m2 : Wr H2 H1.size 0 2 := M2.wr 2 (by decide)
    refine Pl.fin [(1, _), (2, _)] ⟨rfl, rfl, trivial⟩ ?_
    refine Go'.seq ?_
    -- region 1 (help.go:49)
    refine Go'.region [(0, 0), (1, 0), (2, 1), (3, 0), (4, 1), (5, 0), (6, 2)] rfl ?_
    refine O.faz rfl rfl rfl rfl ⟨_, _, _, Go.Proofs.Try.underlying70, rfl, rfl, Go.Proofs.Try.sizeOf68⟩ rfl ?_
    refine O.faz rfl rfl rfl rfl ⟨_, _, _, Go.Proofs.Try.underlying68, rfl, rfl, Go.Proofs.Try.sizeOf3⟩ rfl ?_
    refine O.ld rfl rfl rfl (fun w => ⟨Go.Proofs.Try.isAgg3 w, Go.Proofs.Try.sizeOf3 w⟩) rfl (mi 0 _ rfl) ?_
    refine O.fa0 (off := 2) rfl rfl rfl rfl ⟨_, _, _, Go.Proofs.Try.underlying70, rfl, rfl, Go.Proofs.Try.sizeOf4⟩ rfl ?_
    refine O.ld rfl rfl rfl (fun w => ⟨Go.Proofs.Try.isAgg4 w, Go.Proofs.Try.sizeOf4 w⟩) rfl (mi 2 _ rfl) ?_
    refine O.bld (cs := (kvs (some y.1))) rfl rfl rfl rfl (st63) rfl (by kernel_rfl) ?_
    refine O.st (vs := (kvs (some y.1))) rfl rfl Go.Proofs.Try.sizeOf63 rfl rfl rfl rfl rfl m2 ?_
    intro H5 W5
    replace hF := hF.trans' W5.fr (fun _ _ _ h => h) (fun b o hb hz => by have h1 := hz.1; omega)
    refine ⟨trivial, ?_⟩
    refine Pl.fin [(2, _)] ⟨rfl, trivial⟩ ?_
    refine Go'.ret (vs := [_]) Go.Proofs.Try.func41 Go.Proofs.Try.results41 ⟨⟨_, _, rfl, fun _ _ => run_loadVar_agg (fun w => ⟨Go.Proofs.Try.isAgg63 w, Go.Proofs.Try.sizeOf63 w⟩) rfl W5.all⟩, trivial⟩ ?_
    exact ⟨rfl, hF⟩

theorem fieldsK : Try.prog.underlying 63 = some (.struct (Try.prog.fieldsOf 63)) := by unfold Program.fieldsOf; rw [Try.underlying63]
theorem key_eq (o : Option Int) (x y : Operand) (w : World) : (eqGuard .eql 63 x y (.agg (kvs o).toArray) (.agg (kvs o).toArray)).run Try.prog w = .ok () w ∧ (binOp .eql 63 (.agg (kvs o).toArray) (.agg (kvs o).toArray)).run Try.prog w = .ok (.bool true) w := by
  refine ⟨run_eqGuard_agg w _ _ _ _ _ _ Try.eqGuardType63, ?_⟩
  rw [run_eql_struct, run_equalIn_agg w 9999 63 _ _ fieldsK Try.stoodInHeld63]
  have hb : ∀ b : Bool, (Op.equalIn 9999 4 (.bool b) (.bool b)).run Try.prog w = .ok true w := fun b => by
    have := run_equalIn_bool' w 9998 4 b b Try.underlying4
    simpa using this
  cases o with
  | none => simp [kvs, Op.eqFields, Program.fieldsOf, Try.underlying63, part, Try.isAgg3, Try.isAgg4, run_equalIn_int w 9998 3 _ _ _ _ Try.underlying3, hb]
  | some y => simp [kvs, Op.eqFields, Program.fieldsOf, Try.underlying63, part, Try.isAgg3, Try.isAgg4, run_equalIn_int w 9998 3 _ _ _ _ Try.underlying3, hb]

theorem lawSMin_spec {B : World} {H : Mem} {u : Value} {l : List Int} (hi : InS EN H u l) (hll : l.length ≤ 4294967296) :
    Fn Try.prog B 14 [u] H (fun r H' => r = .bool true ∧ Fr nowhere H H') := by
  have hF : Fr nowhere H H := Fr.refl _ _
  have hi0 := hi
  have hlm : (l.map kinj).length ≤ 4294967296 := by rw [List.length_map]; exact hll
  have hmm : ((Pl.puts (OO []) (l.map kinj))[0]?).map (fun x => x.1) = (Pl.puts OI l)[0]? := by
    rw [puts_kinj, List.getElem?_map, Option.map_map]
    cases (Pl.puts OI l)[0]? <;> rfl
  refine fn_of Go.Proofs.Try.func14 rfl Go.Proofs.Try.ntmps14 ?_
  refine (show Go' _ _ _ _ 15 [(0, _)] [.code _] _ from ?_)
  refine Go'.seq ?_
  -- region 0 (exact.go:1740)
  refine Go'.region [(0, 0)] rfl ?_
  refine O.asg rfl rfl rfl rfl rfl ?_
  refine Pl.fin [(0, _), (2, _)] ⟨rfl, rfl, trivial⟩ ?_
  refine Go'.seq ?_
  -- region 1 (exact.go:1741)
  refine Go'.region [(0, 0), (1, 2), (2, 2), (3, 2)] rfl ?_
  refine O.mv rfl rfl rfl rfl rfl ?_
  refine O.call rfl rfl rfl Go.Proofs.Try.call40 rfl (simplMin_spec hi hll) ?_
  rintro _ H1 ⟨rfl, hF1⟩
  have hs1 := hF1.size
  replace hi := hi.fr hF1
  replace hF := hF.trans' hF1 (fun _ _ _ h => h) (fun _ _ _ h => h.elim)
  refine ⟨trivial, ?_⟩
  refine O.alloc rfl rfl rfl Go.Proofs.Try.zeroValue63 ?_
  intro H2 M2
  refine ⟨trivial, ?_⟩
  have hs2 := M2.size
  replace hi := hi.fr (M2.fr nowhere)
  replace hF := hF.trans' (M2.fr nowhere) (fun _ _ _ h => h) (fun _ _ _ h => h.elim)
  have m3 : Wr H2 H1.size 0 2 := M2.wr 2 (by decide)
  unfold KV
  refine O.st (vs := (kvs ((Pl.puts OI l)[0]?))) rfl rfl Go.Proofs.Try.sizeOf63 rfl rfl rfl (by cases ((Pl.puts OI l)[0]?) <;> rfl) (by cases ((Pl.puts OI l)[0]?) <;> rfl) m3 ?_
  intro H3 W3
  have hs3 := W3.size
  replace hF := hF.trans' W3.fr (fun _ _ _ h => h) (fun b o hb hz => by have h1 := hz.1; omega)
  replace hi := hi0.fr hF
  have r3 : Rd H3 H1.size 0 (kvs ((Pl.puts OI l)[0]?)) := W3.all
  refine ⟨trivial, ?_⟩
  refine Pl.fin [(0, _), (2, _), (3, _)] ⟨rfl, rfl, rfl, trivial⟩ ?_
  refine Go'.seq ?_
  -- region 2 (exact.go:1742)
  refine Go'.region [(0, 0), (1, 0), (2, 2), (3, 2), (4, 2), (5, 2), (6, 2)] rfl ?_
  refine O.bld (cs := [.slice none 0 0, .int .i64 0, .bool false]) rfl rfl rfl rfl (stM) rfl (by kernel_rfl) ?_
  refine O.mv rfl rfl rfl rfl rfl ?_
  refine O.call rfl rfl rfl Go.Proofs.Try.call43 rfl (specItems_spec hi hll) ?_
  rintro v4 H4 ⟨hA, hF4⟩
  have hs4 := hF4.size
  replace r3 := hF4.rd r3 (fun _ _ => nw)
  replace hF := hF.trans' hF4 (fun _ _ _ h => h) (fun _ _ _ h => h.elim)
  refine ⟨trivial, ?_⟩
  refine O.call rfl rfl rfl Go.Proofs.Try.call42 rfl (gmin_spec (ord := []) (InS.nil EN H4) (by simp) hA.inS hlm) ?_
  rintro _ H5 ⟨rfl, hF5⟩
  have hs5 := hF5.size
  replace r3 := hF5.rd r3 (fun _ _ => nw)
  replace hF := hF.trans' hF5 (fun _ _ _ h => h) (fun _ _ _ h => h.elim)
  rw [FV_eq]
  refine ⟨trivial, ?_⟩
  refine O.call rfl rfl rfl Go.Proofs.Try.call41 rfl (keyOf_spec (o := (Pl.puts (OO []) (l.map kinj))[0]?)) ?_
  rintro _ H6 ⟨rfl, hF6⟩
  have hs6 := hF6.size
  replace r3 := hF6.rd r3 (fun _ _ => nw)
  replace hF := hF.trans' hF6 (fun _ _ _ h => h) (fun _ _ _ h => h.elim)
  rw [hmm]
  unfold KV
  refine ⟨trivial, ?_⟩
  refine O.alloc rfl rfl rfl Go.Proofs.Try.zeroValue63 ?_
  intro H7 M7
  refine ⟨trivial, ?_⟩
  have hs7 := M7.size
  replace r3 := (M7.fr nowhere).rd r3 (fun _ _ => nw)
  replace hF := hF.trans' (M7.fr nowhere) (fun _ _ _ h => h) (fun _ _ _ h => h.elim)
  have m4 : Wr H7 H6.size 0 2 := M7.wr 2 (by decide)
  refine O.st (vs := (kvs ((Pl.puts OI l)[0]?))) rfl rfl Go.Proofs.Try.sizeOf63 rfl rfl rfl (by cases ((Pl.puts OI l)[0]?) <;> rfl) (by cases ((Pl.puts OI l)[0]?) <;> rfl) m4 ?_
  intro H8 W8
  replace r3 := W8.fr.rd r3 (fun _ _ => nr (.inl (by omega)))
  replace hF := hF.trans' W8.fr (fun _ _ _ h => h) (fun b o hb hz => by have h1 := hz.1; omega)
  have r4 : Rd H8 H6.size 0 (kvs ((Pl.puts OI l)[0]?)) := W8.all
  refine ⟨trivial, ?_⟩
  refine Pl.fin [(2, _), (3, _), (4, _)] ⟨rfl, rfl, rfl, trivial⟩ ?_
  refine Go'.seq ?_
  -- region 3 (exact.go:1743)
  refine Go'.region [(0, 1), (1, 1), (2, 0), (3, 0)] rfl ?_
  refine O.lds rfl rfl rfl (fun w => ⟨Go.Proofs.Try.isAgg63 w, Go.Proofs.Try.sizeOf63 w⟩) rfl (by cases ((Pl.puts OI l)[0]?) <;> rfl) r3 ?_
  refine O.lds rfl rfl rfl (fun w => ⟨Go.Proofs.Try.isAgg63 w, Go.Proofs.Try.sizeOf63 w⟩) rfl (by cases ((Pl.puts OI l)[0]?) <;> rfl) r4 ?_
  refine O.bin rfl rfl rfl rfl rfl rfl (key_eq ((Pl.puts OI l)[0]?) _ _) ?_
  refine O.asg rfl rfl rfl rfl rfl ?_
  refine Pl.fin [(2, _)] ⟨rfl, trivial⟩ ?_
  refine Go'.ret (vs := [_]) Go.Proofs.Try.func14 Go.Proofs.Try.results14 ⟨rfl, trivial⟩ ?_
  exact ⟨rfl, hF⟩

def exks : List Int := [5, 3, 9, 3, 1]
theorem fnExactSMin {B : World} {H : Mem} {u : Value} {l : List Int} (hi : InS EN H u l) :
    Fn Try.prog B 3 [u] H (fun r H' => r = .bool true ∧ Fr nowhere H H') := by
  obtain ⟨a, c, hu⟩ := hi.len
  subst hu
  have hi0 := hi
  refine fn_of Go.Proofs.Try.func3 rfl Go.Proofs.Try.ntmps3 ?_
  refine (show Go' _ _ _ _ 12 [(0, _)] [.code _] _ from ?_)
  refine Go'.seq ?_
  -- region 0 (exact.go:1733)
  refine Go'.region [(0, 0)] rfl ?_
  refine O.asg rfl rfl rfl rfl rfl ?_
  refine Pl.fin [(0, _), (2, _)] ⟨rfl, rfl, trivial⟩ ?_
  refine Go'.seq ?_
  refine Go'.seq ?_
  by_cases hbig : (2147483647 : Int) < (l.length : Int)
  · skip
    -- region 1 (exact.go:1734)
    refine Go'.region [(0, 0), (1, 0), (2, 0)] rfl ?_
    refine O.mv rfl rfl rfl rfl rfl ?_
    refine O.len rfl rfl rfl rfl Go.Proofs.Try.underlying22 rfl ?_
    refine O.cmp rfl rfl rfl rfl rfl rfl (gtrT (by omega)) ?_
    refine Pl.fin [(0, _), (2, _), (5, _)] ⟨rfl, rfl, rfl, trivial⟩ ?_
    refine Go'.condT rfl ?_
    refine Go'.seq ?_
    -- region 2 (exact.go:1735)
    refine Go'.region [(0, 0)] rfl ?_
    refine O.asg rfl rfl rfl rfl rfl ?_
    refine Pl.fin [(0, _), (2, _)] ⟨rfl, rfl, trivial⟩ ?_
    refine Go'.ret (vs := [_]) Go.Proofs.Try.func3 Go.Proofs.Try.results3 ⟨rfl, trivial⟩ ?_
    exact ⟨rfl, Fr.refl _ _⟩
  · skip
    -- region 1 (exact.go:1734)
    refine Go'.region [(0, 0), (1, 0), (2, 0)] rfl ?_
    refine O.mv rfl rfl rfl rfl rfl ?_
    refine O.len rfl rfl rfl rfl Go.Proofs.Try.underlying22 rfl ?_
    refine O.cmp rfl rfl rfl rfl rfl rfl (gtrF (by omega)) ?_
    refine Pl.fin [(0, _), (2, _), (5, _)] ⟨rfl, rfl, rfl, trivial⟩ ?_
    refine Go'.condF rfl ?_
    refine Go'.skip ?_
    refine Go'.seq ?_
    -- region 3 (exact.go:1737)
    refine Go'.region [(0, 2), (1, 2), (2, 0), (3, 0), (4, 2), (5, 0), (6, 0)] rfl ?_
    refine O.bsl (cs := (row EN exks)) rfl rfl rfl ⟨Go.Proofs.Try.underlying22, Go.Proofs.Try.sizeOf3, Go.Proofs.Try.zeroValue3, ⟨_, Go.Proofs.Try.typeInfo3, rfl⟩, rfl, by decide, by decide⟩ rfl (by decide) (by kernel_rfl) ?_
    intro H1 M1
    have hev : InS EN H1 (.slice (some ⟨H.size, 0, none⟩) 5 5) exks := .inl ⟨H.size, 0, 5, rfl, by decide, M1.rd _ [] (by simp)⟩
    refine ⟨trivial, ?_⟩
    refine O.call rfl rfl rfl Go.Proofs.Try.call14 rfl (lawSMin_spec hev (by decide)) ?_
    rintro _ H2 ⟨rfl, hF2⟩
    have hF := (M1.fr nowhere).trans hF2
    have hi2 := hi0.fr hF
    refine ⟨trivial, ?_⟩
    refine O.mv rfl rfl rfl rfl rfl ?_
    refine O.mv rfl rfl rfl rfl rfl ?_
    refine O.call rfl rfl rfl Go.Proofs.Try.call14 rfl (lawSMin_spec hi2 (by omega)) ?_
    rintro _ H3 ⟨rfl, hF3⟩
    replace hF := hF.trans hF3
    refine ⟨trivial, ?_⟩
    refine O.pick rfl rfl rfl rfl rfl rfl ?_
    refine O.asg rfl rfl rfl rfl rfl ?_
    refine Pl.fin [(2, _)] ⟨rfl, trivial⟩ ?_
    refine Go'.ret (vs := [_]) Go.Proofs.Try.func3 Go.Proofs.Try.results3 ⟨rfl, trivial⟩ ?_
    exact ⟨rfl, hF⟩

end Go.Bt.FZ