/- Contracts of functions of the program, proved by walking through their code. Conditions: those that each theorem names. -/
import Derived.Laws.StructEq
import Derived.Test.YtnlempnbagoipaaTokC
import Derived.Test.YtnlempnbagoipaaToCc
import Derived.Test.YtnlempnbagoipaaToKs
namespace Go.Bt.FB
open Go Go.Proofs Go.Proofs.Try
set_option maxRecDepth 20000
set_option maxHeartbeats 4000000
set_option linter.unusedVariables false
set_option linter.unusedSectionVars false

@[reducible] def nilCx : Inhabited Cx := ⟨⟨[],0,0,.bool false,0,fun _ => False⟩⟩
def exl : List (Int × Int) := [(5,1),(3,2),(9,3),(3,4),(1,5),(7,6),(8,7)]
theorem exItems_spec {B : World} {H : Mem} : Fn Try.prog B 14 [] H (fun r H' => InS EJ H' r exl ∧ Fr nowhere H H') := by
  refine fn_of func14 rfl ntmps14 ?_
  refine (show Go' _ _ _ _ 9 [] [.code _] _ from ?_)
  refine Go'.seq ?_
  refine Go'.region [(0,0)] rfl ?_
  refine O.asg rfl rfl rfl rfl rfl ?_
  refine Pl.fin [(0,_)] ⟨rfl,trivial⟩ ?_
  refine Go'.seq ?_
  refine Go'.region [(0,0),(1,0),(2,0),(3,0),(4,0),(5,0),(6,0),(7,2),(8,0)] rfl ?_
  refine O.bld (cs := [.int .i64 5,.int .i64 1]) rfl rfl rfl rfl (st35) rfl (by kernel_rfl) ?_
  refine O.bld (cs := [.int .i64 3,.int .i64 2]) rfl rfl rfl rfl (st35) rfl (by kernel_rfl) ?_
  refine O.bld (cs := [.int .i64 9,.int .i64 3]) rfl rfl rfl rfl (st35) rfl (by kernel_rfl) ?_
  refine O.bld (cs := [.int .i64 3,.int .i64 4]) rfl rfl rfl rfl (st35) rfl (by kernel_rfl) ?_
  refine O.bld (cs := [.int .i64 1,.int .i64 5]) rfl rfl rfl rfl (st35) rfl (by kernel_rfl) ?_
  refine O.bld (cs := [.int .i64 7,.int .i64 6]) rfl rfl rfl rfl (st35) rfl (by kernel_rfl) ?_
  refine O.bld (cs := [.int .i64 8,.int .i64 7]) rfl rfl rfl rfl (st35) rfl (by kernel_rfl) ?_
  refine O.bsl (cs := (row EJ exl)) rfl rfl rfl ⟨underlying25,sizeOf35,zeroValue35,⟨_,typeInfo35,rfl⟩,rfl,by decide,by decide⟩ rfl (by decide) (by kernel_rfl) ?_
  intro H1 M1
  refine ⟨trivial,?_⟩
  refine O.asg rfl rfl rfl rfl rfl ?_
  refine Pl.fin [(0,_)] ⟨rfl,trivial⟩ ?_
  refine Go'.ret (vs := [_]) func14 results14 ⟨rfl,trivial⟩ ?_
  exact ⟨.inl ⟨H.size,0,7,rfl,by decide,M1.rd _ [] (by simp)⟩,M1.fr nowhere⟩

def fitsb (z : Int) : Bool := decide (z = 0) || (decide (2 ≤ z) && decide (z ≤ 128))
theorem fits_spec {B : World} {H : Mem} {z : Int} : Fn Try.prog B 15 [.int .i64 z] H (fun r H' => r = .bool (fitsb z) ∧ H' = H) := by
  refine fn_of func15 rfl ntmps15 ?_
  refine (show Go' _ _ _ _ 13 [(0,_)] [.code _] _ from ?_)
  refine Go'.seq ?_
  refine Go'.region [(0,0)] rfl ?_
  refine O.asg rfl rfl rfl rfl rfl ?_
  refine Pl.fin [(0,_),(2,_)] ⟨rfl,rfl,trivial⟩ ?_
  refine Go'.seq ?_
  by_cases h0 : z = 0
  · skip
    refine Go'.region [(0,0),(1,0),(2,0),(3,0),(4,0),(5,0),(6,0),(7,0),(8,0),(9,0),(10,0)] rfl ?_
    refine O.mv rfl rfl rfl rfl rfl ?_
    refine O.cmp rfl rfl rfl rfl rfl rfl (eqlT (by omega)) ?_
    refine O.mv rfl rfl rfl rfl rfl ?_
    refine Pl.pass rfl rfl rfl rfl ?_
    refine Pl.pass rfl rfl rfl rfl ?_
    refine Pl.pass rfl rfl rfl rfl ?_
    refine Pl.pass rfl rfl rfl rfl ?_
    refine Pl.pass rfl rfl rfl rfl ?_
    refine Pl.pass rfl rfl rfl rfl ?_
    refine O.pick rfl rfl rfl rfl rfl rfl ?_
    refine O.asg rfl rfl rfl rfl rfl ?_
    refine Pl.fin [(2,_)] ⟨rfl,trivial⟩ ?_
    refine Go'.ret (vs := [_]) func15 results15 ⟨rfl,trivial⟩ ?_
    subst h0; exact ⟨rfl,rfl⟩
  by_cases h2 : 2 ≤ z
  · skip
    by_cases h3 : z ≤ 128
    · skip
      refine Go'.region [(0,0),(1,0),(2,0),(3,0),(4,0),(5,0),(6,0),(7,0),(8,0),(9,0),(10,0)] rfl ?_
      refine O.mv rfl rfl rfl rfl rfl ?_
      refine O.cmp rfl rfl rfl rfl rfl rfl (eqlF (by omega)) ?_
      refine O.mv rfl rfl rfl rfl rfl ?_
      refine O.mv rfl rfl rfl rfl rfl ?_
      refine O.cmp rfl rfl rfl rfl rfl rfl (geqT (by omega)) ?_
      refine O.mv rfl rfl rfl rfl rfl ?_
      refine O.mv rfl rfl rfl rfl rfl ?_
      refine O.cmp rfl rfl rfl rfl rfl rfl (leqT (by omega)) ?_
      refine O.pick rfl rfl rfl rfl rfl rfl ?_
      refine O.pick rfl rfl rfl rfl rfl rfl ?_
      refine O.asg rfl rfl rfl rfl rfl ?_
      refine Pl.fin [(2,_)] ⟨rfl,trivial⟩ ?_
      refine Go'.ret (vs := [_]) func15 results15 ⟨rfl,trivial⟩ ?_
      exact ⟨by unfold fitsb; rw [decide_eq_false h0,decide_eq_true h2,decide_eq_true h3]; rfl,rfl⟩
    · skip
      refine Go'.region [(0,0),(1,0),(2,0),(3,0),(4,0),(5,0),(6,0),(7,0),(8,0),(9,0),(10,0)] rfl ?_
      refine O.mv rfl rfl rfl rfl rfl ?_
      refine O.cmp rfl rfl rfl rfl rfl rfl (eqlF (by omega)) ?_
      refine O.mv rfl rfl rfl rfl rfl ?_
      refine O.mv rfl rfl rfl rfl rfl ?_
      refine O.cmp rfl rfl rfl rfl rfl rfl (geqT (by omega)) ?_
      refine O.mv rfl rfl rfl rfl rfl ?_
      refine O.mv rfl rfl rfl rfl rfl ?_
      refine O.cmp rfl rfl rfl rfl rfl rfl (leqF (by omega)) ?_
      refine O.pick rfl rfl rfl rfl rfl rfl ?_
      refine O.pick rfl rfl rfl rfl rfl rfl ?_
      refine O.asg rfl rfl rfl rfl rfl ?_
      refine Pl.fin [(2,_)] ⟨rfl,trivial⟩ ?_
      refine Go'.ret (vs := [_]) func15 results15 ⟨rfl,trivial⟩ ?_
      exact ⟨by unfold fitsb; rw [decide_eq_false h0,decide_eq_true h2,decide_eq_false h3]; rfl,rfl⟩
  · skip
    refine Go'.region [(0,0),(1,0),(2,0),(3,0),(4,0),(5,0),(6,0),(7,0),(8,0),(9,0),(10,0)] rfl ?_
    refine O.mv rfl rfl rfl rfl rfl ?_
    refine O.cmp rfl rfl rfl rfl rfl rfl (eqlF (by omega)) ?_
    refine O.mv rfl rfl rfl rfl rfl ?_
    refine O.mv rfl rfl rfl rfl rfl ?_
    refine O.cmp rfl rfl rfl rfl rfl rfl (geqF (by omega)) ?_
    refine O.mv rfl rfl rfl rfl rfl ?_
    refine Pl.pass rfl rfl rfl rfl ?_
    refine Pl.pass rfl rfl rfl rfl ?_
    refine O.pick rfl rfl rfl rfl rfl rfl ?_
    refine O.pick rfl rfl rfl rfl rfl rfl ?_
    refine O.asg rfl rfl rfl rfl rfl ?_
    refine Pl.fin [(2,_)] ⟨rfl,trivial⟩ ?_
    refine Go'.ret (vs := [_]) func15 results15 ⟨rfl,trivial⟩ ?_
    exact ⟨by unfold fitsb; rw [decide_eq_false h0,decide_eq_false h2]; rfl,rfl⟩

theorem fits_spec' {B : World} {H : Mem} {z : Int} {b : Bool} (h : fitsb z = b) : Fn Try.prog B 15 [.int .i64 z] H (fun r H' => r = .bool b ∧ H' = H) := h ▸ fits_spec
theorem fitsb_nat {z : Int} (h : fitsb z = true) : ∃ d : Nat,z = (d : Int) ∧ (d = 0 ∨ 2 ≤ d ∧ d ≤ 128) := by
  unfold fitsb at h
  simp only [Bool.or_eq_true,Bool.and_eq_true,decide_eq_true_eq] at h
  exact ⟨z.toNat,by omega,by omega⟩

theorem st24 : StT Try.prog 24 [(0,1),(1,1),(2,1)] [.slice none 0 0,.int .i64 0,.bool false] := ⟨⟨_,underlying24,fun w => by simp [Array.mapM_eq_mapM_toList,sizeOf3,sizeOf4,sizeOf22]⟩,zeroValue24⟩

theorem exMake_spec {B : World} {H : Mem} : Fn Try.prog B 13 [] H (fun r H' => r = .agg #[.slice none 0 0,.int .i64 ((2 : Nat) : Int),.bool false] ∧ Fr nowhere H H') := by
  refine fn_of func13 rfl ntmps13 ?_
  refine (show Go' _ _ _ _ 2 [] [.code _] _ from ?_)
  refine Go'.seq ?_
  refine Go'.region [(0,2)] rfl ?_
  refine O.alloc rfl rfl rfl zeroValue24 ?_
  intro H1 M1
  refine ⟨trivial,?_⟩
  have mw : Wr H1 H.size 0 3 := M1.wr 3 (by decide)
  refine Pl.fin [(0,_)] ⟨rfl,trivial⟩ ?_
  refine Go'.seq ?_
  refine Go'.region [(0,0),(1,2)] rfl ?_
  refine O.bld (cs := [.slice none 0 0,.int .i64 ((2 : Nat) : Int),.bool false]) rfl rfl rfl rfl (st24) rfl (by kernel_rfl) ?_
  refine O.st rfl rfl sizeOf24 rfl rfl rfl rfl rfl mw ?_
  intro H2 W2
  refine ⟨trivial,?_⟩
  refine Pl.fin [(0,_)] ⟨rfl,trivial⟩ ?_
  refine Go'.ret (vs := [_]) func13 results13 ⟨⟨_,_,rfl,fun _ _ => run_loadVar_agg (fun w => ⟨isAgg24 w,sizeOf24 w⟩) rfl W2.all⟩,trivial⟩ ?_
  exact ⟨rfl,(M1.fr nowhere).trans' W2.fr (fun _ _ _ h => h) (fun b o hb h => by have h' := h.1; omega)⟩

theorem zzFits1_spec {B : World} {H : Mem} {v : Value} {z : Int} {nl : Bool} {ord : List Int} {b : Bool} (ho : InS EN H v ord) (hb : decide (ord.length ≤ 2147483647) = b) : Fn Try.prog B 11 [.agg #[v,.int .i64 z,.bool nl]] H (fun r H' => r = .bool b ∧ Fr nowhere H H') := by
  obtain ⟨av,cv,hv⟩ := ho.len
  generalize hmv : ord.length = mv at *
  subst hv
  have hF : Fr nowhere H H := Fr.refl _ _
  refine fn_of func11 rfl ntmps11 ?_
  refine (show Go' _ _ _ _ 7 [(0,_)] [.code _] _ from ?_)
  refine Go'.seq ?_
  refine Go'.region [(0,2),(1,0)] rfl ?_
  refine O.box rfl rfl rfl rfl ?_
  intro B1 MB1
  refine ⟨trivial,?_⟩
  have hsB1 := MB1.size
  replace hF := hF.trans (MB1.fr nowhere)
  have mx : Rd B1 H.size 0 [.slice av mv cv,.int .i64 z,.bool nl] := MB1.rd _ [] (by simp [Value.cells])
  have mx0 : cl B1 H.size 0 = some (.slice av mv cv) := mx 0 _ rfl
  have mx1 : cl B1 H.size (0 + 1) = some (.int .i64 z) := mx 1 _ rfl
  refine O.asg rfl rfl rfl rfl rfl ?_
  refine Pl.fin [(1,_),(2,_)] ⟨rfl,rfl,trivial⟩ ?_
  refine Go'.seq ?_
  refine Go'.seq ?_
  cases b
  · skip
    refine Go'.region [(0,0),(1,1),(2,0),(3,0)] rfl ?_
    refine O.faz rfl rfl rfl rfl ⟨_,_,_,underlying24,rfl,rfl,sizeOf22⟩ rfl ?_
    refine O.ld rfl rfl rfl (fun w => ⟨isAgg22 w,sizeOf22 w⟩) rfl mx0 ?_
    refine O.len rfl rfl rfl rfl underlying22 rfl ?_
    refine O.cmp rfl rfl rfl rfl rfl rfl (gtrT (by have := of_decide_eq_false hb; omega)) ?_
    refine Pl.fin [(2,_),(6,_)] ⟨rfl,rfl,trivial⟩ ?_
    refine Go'.condT rfl ?_
    refine Go'.seq ?_
    refine Go'.region [(0,0)] rfl ?_
    refine O.asg rfl rfl rfl rfl rfl ?_
    refine Pl.fin [(2,_)] ⟨rfl,trivial⟩ ?_
    refine Go'.ret (vs := [_]) func11 results11 ⟨rfl,trivial⟩ ?_
    exact ⟨rfl,hF⟩
  · skip
    refine Go'.region [(0,0),(1,1),(2,0),(3,0)] rfl ?_
    refine O.faz rfl rfl rfl rfl ⟨_,_,_,underlying24,rfl,rfl,sizeOf22⟩ rfl ?_
    refine O.ld rfl rfl rfl (fun w => ⟨isAgg22 w,sizeOf22 w⟩) rfl mx0 ?_
    refine O.len rfl rfl rfl rfl underlying22 rfl ?_
    refine O.cmp rfl rfl rfl rfl rfl rfl (gtrF (by have := of_decide_eq_true hb; omega)) ?_
    refine Pl.fin [(2,_),(6,_)] ⟨rfl,rfl,trivial⟩ ?_
    refine Go'.condF rfl ?_
    refine Go'.skip ?_
    refine Go'.seq ?_
    refine Go'.region [(0,0)] rfl ?_
    refine O.asg rfl rfl rfl rfl rfl ?_
    refine Pl.fin [(2,_)] ⟨rfl,trivial⟩ ?_
    refine Go'.ret (vs := [_]) func11 results11 ⟨rfl,trivial⟩ ?_
    exact ⟨rfl,hF⟩

theorem foundAny_spec {B : World} {H : Mem} (o : Option (Int × Int)) : Fn Try.prog B 56 [PV o] H (fun r H' => r = FV o ∧ Fr nowhere H H') := by
  have hF : Fr nowhere H H := Fr.refl _ _
  cases o with
  | none =>
    show Fn _ _ _ [.nilIface] _ _
    refine fn_of func56 rfl ntmps56 ?_
    refine (show Go' _ _ _ _ 9 [(0,_)] [.code _] _ from ?_)
    refine Go'.seq ?_
    refine Go'.region [(0,2)] rfl ?_
    refine O.alloc rfl rfl rfl zeroValue44 ?_
    intro B1 MB1
    refine ⟨trivial,?_⟩
    have hsB1 := MB1.size
    replace hF := hF.trans (MB1.fr nowhere)
    have mw0 : Wr B1 H.size 0 3 := MB1.wr 3 (by decide)
    refine Pl.fin [(0,_),(2,_)] ⟨rfl,rfl,trivial⟩ ?_
    refine Go'.seq ?_
    refine Go'.seq ?_
    refine Go'.region [(0,0),(1,0)] rfl ?_
    refine O.mv rfl rfl rfl rfl rfl ?_
    refine O.bin rfl rfl rfl rfl rfl rfl (run_eqNil_nil underlying20) ?_
    refine Pl.fin [(0,_),(2,_),(4,_)] ⟨rfl,rfl,rfl,trivial⟩ ?_
    refine Go'.condT rfl ?_
    refine Go'.seq ?_
    refine Go'.region [(0,0),(1,2)] rfl ?_
    refine O.bld (cs := [.int .i64 0,.int .i64 0,.bool false]) rfl rfl rfl rfl (st44) rfl (by kernel_rfl) ?_
    refine O.st (vs := (fvs none)) rfl rfl sizeOf44 rfl rfl rfl rfl rfl mw0 ?_
    intro H3 W3
    replace hF := hF.trans' W3.fr (fun _ _ _ h => h) (fun b o hb h => by have h' := h.1; omega)
    replace mw0 := W3.fr.wr mw0
    refine ⟨trivial,?_⟩
    refine Pl.fin [(0,_),(2,_)] ⟨rfl,rfl,trivial⟩ ?_
    refine Go'.ret (vs := [_]) func56 results56 ⟨⟨_,_,rfl,fun _ _ => run_loadVar_agg (fun w => ⟨isAgg44 w,sizeOf44 w⟩) rfl W3.all⟩,trivial⟩ ?_
    exact ⟨rfl,hF⟩
  | some y =>
    show Fn _ _ _ [iv y] _ _
    refine fn_of func56 rfl ntmps56 ?_
    refine (show Go' _ _ _ _ 9 [(0,_)] [.code _] _ from ?_)
    refine Go'.seq ?_
    refine Go'.region [(0,2)] rfl ?_
    refine O.alloc rfl rfl rfl zeroValue44 ?_
    intro B1 MB1
    refine ⟨trivial,?_⟩
    have hsB1 := MB1.size
    replace hF := hF.trans (MB1.fr nowhere)
    have mw0 : Wr B1 H.size 0 3 := MB1.wr 3 (by decide)
    refine Pl.fin [(0,_),(2,_)] ⟨rfl,rfl,trivial⟩ ?_
    refine Go'.seq ?_
    refine Go'.seq ?_
    refine Go'.region [(0,0),(1,0)] rfl ?_
    refine O.mv rfl rfl rfl rfl rfl ?_
    refine O.bin rfl rfl rfl rfl rfl rfl (run_eqNil_iface underlying20) ?_
    refine Pl.fin [(0,_),(2,_),(4,_)] ⟨rfl,rfl,rfl,trivial⟩ ?_
    refine Go'.condF rfl ?_
    refine Go'.skip ?_
    refine Go'.seq ?_
    refine Go'.region [(0,0),(1,0),(2,0),(3,2)] rfl ?_
    refine O.mv rfl rfl rfl rfl rfl ?_
    refine O.tya rfl rfl rfl rfl rfl (run_assert_is underlying35 rfl) ?_
    refine O.bld (cs := [.int .i64 y.1,.int .i64 y.2,.bool true]) rfl rfl rfl rfl (st44) rfl (by kernel_rfl) ?_
    refine O.st (vs := (fvs (some y))) rfl rfl sizeOf44 rfl rfl rfl rfl rfl mw0 ?_
    intro H3 W3
    replace hF := hF.trans' W3.fr (fun _ _ _ h => h) (fun b o hb h => by have h' := h.1; omega)
    replace mw0 := W3.fr.wr mw0
    refine ⟨trivial,?_⟩
    refine Pl.fin [(2,_)] ⟨rfl,trivial⟩ ?_
    refine Go'.ret (vs := [_]) func56 results56 ⟨⟨_,_,rfl,fun _ _ => run_loadVar_agg (fun w => ⟨isAgg44 w,sizeOf44 w⟩) rfl W3.all⟩,trivial⟩ ?_
    exact ⟨rfl,hF⟩

end Go.Bt.FB
namespace Go.Bt.FB
open Go Go.Proofs Go.Proofs.Try
set_option maxRecDepth 20000
set_option maxHeartbeats 4000000
set_option linter.unusedVariables false
set_option linter.unusedSectionVars false

theorem fields35 : Try.prog.underlying 35 = some (.struct (Try.prog.fieldsOf 35)) := by unfold Program.fieldsOf; rw [underlying35]
theorem fields44 : Try.prog.underlying 44 = some (.struct (Try.prog.fieldsOf 44)) := by unfold Program.fieldsOf; rw [underlying44]
theorem item_eq (d : Nat) (x : Int × Int) (w : World) : (Op.equalIn (d + 2) 35 (.agg #[.int .i64 x.1,.int .i64 x.2]) (.agg #[.int .i64 x.1,.int .i64 x.2])).run Try.prog w = .ok true w := by
  rw [run_equalIn_agg w (d + 1) 35 _ _ fields35 Try.stoodInHeld35]
  simp [Op.eqFields,Program.fieldsOf,underlying35,part,isAgg3,run_equalIn_int w d 3 _ _ _ _ underlying3]
theorem found_eq (o : Option (Int × Int)) (x y : Operand) (w : World) : (eqGuard .eql 44 x y (.agg (fvs o).toArray) (.agg (fvs o).toArray)).run Try.prog w = .ok () w ∧ (binOp .eql 44 (.agg (fvs o).toArray) (.agg (fvs o).toArray)).run Try.prog w = .ok (.bool true) w := by
  refine ⟨run_eqGuard_agg w _ _ _ _ _ _ Try.eqGuardType44,?_⟩
  rw [run_eql_struct,run_equalIn_agg w 9999 44 _ _ fields44 Try.stoodInHeld44]
  have h : ∀ x y : Int,(Op.equalIn 9999 35 (.agg #[.int .i64 x,.int .i64 y]) (.agg #[.int .i64 x,.int .i64 y])).run Try.prog w = .ok true w := fun x y => item_eq 9997 (x,y) w
  have hb : ∀ b : Bool,(Op.equalIn 9999 4 (.bool b) (.bool b)).run Try.prog w = .ok true w := fun b => by
    have := run_equalIn_bool' w 9998 4 b b underlying4
    simpa using this
  cases o with
  | none => simp [fvs,Op.eqFields,Program.fieldsOf,underlying44,part,isAgg35,sizeOf35,isAgg4,h,hb]
  | some y => simp [fvs,Op.eqFields,Program.fieldsOf,underlying44,part,isAgg35,sizeOf35,isAgg4,h,hb]

theorem found_neq (o : Option (Int × Int)) (a b : Operand) (w : World) : (eqGuard .neq 44 a b (.agg (fvs o).toArray) (.agg (fvs o).toArray)).run Try.prog w = .ok () w ∧ (binOp .neq 44 (.agg (fvs o).toArray) (.agg (fvs o).toArray)).run Try.prog w = .ok (.bool false) w := by
  refine ⟨run_eqGuard_agg w _ _ _ _ _ _ Try.eqGuardType44,?_⟩
  rw [run_neq_struct]
  have h := (found_eq o a b w).2
  rw [run_eql_struct] at h
  have h2 : (Op.equalIn 10000 44 (.agg (fvs o).toArray) (.agg (fvs o).toArray)).run Try.prog w = .ok true w := by
    cases hh : (Op.equalIn 10000 44 (.agg (fvs o).toArray) (.agg (fvs o).toArray)).run Try.prog w with
    | ok x w2 => rw [hh] at h; simp [Result.andThen] at h; obtain ⟨h1,h2⟩ := h; rw [h1,h2]
    | _ => rw [hh] at h; simp [Result.andThen] at h
  rw [h2]; rfl

theorem eqFounds_spec {B : World} {H : Mem} {u v : Value} {l : List (Option (Int × Int))} (hu : InS EF H u l) (hv : InS EF H v l) (hll : l.length ≤ 4294967296) :
    Fn Try.prog B 35 [u,v] H (fun r H' => r = .bool true ∧ H' = H) := by
  obtain ⟨a,c,e⟩ := hu.len
  subst e
  obtain ⟨a',c',e⟩ := hv.len
  subst e
  refine fn_of func35 rfl ntmps35 ?_
  refine (show Go' _ _ _ _ 26 [(0,_),(1,_)] [.code _] _ from ?_)
  refine Go'.seq ?_
  refine Go'.region [(0,0)] rfl ?_
  refine O.asg rfl rfl rfl rfl rfl ?_
  refine Pl.fin [(0,_),(1,_),(4,_)] ⟨rfl,rfl,rfl,trivial⟩ ?_
  refine Go'.seq ?_
  refine Go'.seq ?_
  refine Go'.region [(0,0),(1,0),(2,0),(3,0),(4,0)] rfl ?_
  refine O.mv rfl rfl rfl rfl rfl ?_
  refine O.len rfl rfl rfl rfl underlying48 rfl ?_
  refine O.mv rfl rfl rfl rfl rfl ?_
  refine O.len rfl rfl rfl rfl underlying48 rfl ?_
  refine O.cmp rfl rfl rfl rfl rfl rfl (neqF (by omega)) ?_
  refine Pl.fin [(0,_),(1,_),(4,_),(10,_)] ⟨rfl,rfl,rfl,rfl,trivial⟩ ?_
  refine Go'.condF rfl ?_
  refine Go'.skip ?_
  refine Go'.seq ?_
  refine Go'.seq ?_
  refine Go'.region [(0,0),(1,0),(2,0)] rfl ?_
  refine O.mv rfl rfl rfl rfl rfl ?_
  refine O.len rfl rfl rfl rfl underlying48 rfl ?_
  refine O.mv rfl rfl rfl rfl rfl ?_
  refine Pl.fin [(0,_),(1,_),(4,_),(12,_),(13,_)] ⟨rfl,rfl,rfl,rfl,rfl,trivial⟩ ?_
  refine Go'.block ?_
  refine Go'.loop ?_
  refine Go'.keep [(0,_),(1,_),(4,_),(12,_),(13,_)] ⟨rfl,rfl,rfl,rfl,rfl,trivial⟩ ?_
  refine Go'.ind (σ := Nat) (fun j => l.length - j) (fun j H' => H' = H ∧ j ≤ l.length)
    (fun j => [(0,.slice a l.length c),(1,.slice a' l.length c'),(4,.bool false),(12,.int .i64 (l.length : Int)),(13,.int .i64 (j : Int))]) 0 ⟨rfl,Nat.zero_le _⟩ rfl ?_
  rintro j H2 ⟨hHH,hjl⟩ ih
  have eH : H = H2 := hHH.symm
  subst eH
  clear hHH
  refine Go'.seq ?_
  by_cases hlt : j < l.length
  · skip
    obtain ⟨y,hy⟩ : ∃ y,l[j]? = some y := ⟨l[j],List.getElem?_eq_getElem hlt⟩
    obtain ⟨b,o,cc,e,hr⟩ := hu.at hy
    cases e
    obtain ⟨b',o',cc',e,hr'⟩ := hv.at hy
    cases e
    refine Go'.region [(0,0)] rfl ?_
    refine O.cmp rfl rfl rfl rfl rfl rfl (lssT (by omega)) ?_
    refine Pl.fin [(0,_),(1,_),(4,_),(12,_),(13,_),(14,_)] ⟨rfl,rfl,rfl,rfl,rfl,rfl,trivial⟩ ?_
    refine Go'.seq ?_
    refine Go'.condT rfl ?_
    refine Go'.skip ?_
    refine Go'.seq ?_
    refine Go'.block ?_
    refine Go'.seq ?_
    refine Go'.region [(0,0),(1,0)] rfl ?_
    refine O.mv rfl rfl rfl rfl rfl ?_
    refine O.asg rfl rfl rfl rfl rfl ?_
    refine Pl.fin [(0,_),(1,_),(4,_),(5,_),(12,_),(13,_),(14,_)] ⟨rfl,rfl,rfl,rfl,rfl,rfl,rfl,trivial⟩ ?_
    refine Go'.seq ?_
    refine Go'.draw (fun _ => True) [(0,0),(1,0),(2,0),(3,1),(4,0),(5,0),(6,0),(7,1),(8,0)] (by kernel_rfl) (by kernel_rfl) (trivial) ?_
    refine O.mv rfl rfl rfl rfl rfl ?_
    refine O.mv rfl rfl rfl rfl rfl ?_
    refine O.ix (j := j) rfl rfl rfl rfl underlying48 sizeOf44 rfl rfl (by omega) hlt ?_
    refine O.lds rfl rfl rfl (fun w => ⟨isAgg44 w,sizeOf44 w⟩) rfl (by cases y <;> rfl) hr ?_
    refine O.mv rfl rfl rfl rfl rfl ?_
    refine O.mv rfl rfl rfl rfl rfl ?_
    refine O.ix (j := j) rfl rfl rfl rfl underlying48 sizeOf44 rfl rfl (by omega) hlt ?_
    refine O.lds rfl rfl rfl (fun w => ⟨isAgg44 w,sizeOf44 w⟩) rfl (by cases y <;> rfl) hr' ?_
    refine O.bin rfl rfl rfl rfl rfl rfl (found_neq y _ _) ?_
    refine Pl.fin [(0,_),(1,_),(4,_),(5,_),(12,_),(13,_),(14,_),(24,_)] ⟨rfl,rfl,rfl,rfl,rfl,rfl,rfl,rfl,trivial⟩ ?_
    refine Go'.condF rfl ?_
    refine Go'.skip ?_
    refine Go'.inBlock ?_
    refine Go'.region [(0,0),(1,0)] rfl ?_
    refine O.add (((j + 1 : Nat) : Int)) rfl rfl rfl rfl rfl rfl (by omega) (by omega) ?_
    refine O.mv rfl rfl rfl rfl rfl ?_
    refine Pl.fin [(0,_),(1,_),(4,_),(5,_),(12,_),(13,_),(14,_),(24,_)] ⟨rfl,rfl,rfl,rfl,rfl,rfl,rfl,rfl,trivial⟩ ?_
    refine Go'.keep [(0,_),(1,_),(4,_),(12,_),(13,_)] ⟨rfl,rfl,rfl,rfl,rfl,trivial⟩ ?_
    refine Go'.inLoop ?_
    exact ih (j + 1) H ⟨rfl,hlt⟩ (by omega)
  · skip
    refine Go'.region [(0,0)] rfl ?_
    refine O.cmp rfl rfl rfl rfl rfl rfl (lssF (by omega)) ?_
    refine Pl.fin [(0,_),(1,_),(4,_),(12,_),(13,_),(14,_)] ⟨rfl,rfl,rfl,rfl,rfl,rfl,trivial⟩ ?_
    refine Go'.seq ?_
    refine Go'.condF rfl ?_
    refine Go'.exit rfl ?_
    refine Go'.seq ?_
    refine Go'.region [(0,0)] rfl ?_
    refine O.asg rfl rfl rfl rfl rfl ?_
    refine Pl.fin [(4,_)] ⟨rfl,trivial⟩ ?_
    refine Go'.ret (vs := [_]) func35 results35 ⟨rfl,trivial⟩ ?_
    exact ⟨rfl,rfl⟩

theorem FVe (o : Option (Int × Int)) : FV o = .agg (fvs o).toArray := FV_eq o
theorem fvs_len (o : Option (Int × Int)) : (fvs o).length = 3 := by cases o <;> rfl
theorem fvs_ones (o : Option (Int × Int)) : ones (fvs o) = true := by cases o <;> rfl

end Go.Bt.FB
namespace Go.Bt.FB
open Go Go.Proofs Go.Proofs.Try
set_option maxRecDepth 20000
set_option maxHeartbeats 4000000
set_option linter.unusedVariables false
set_option linter.unusedSectionVars false

section
variable [Inhabited Cx]

theorem Gt.Good.some {H : Mem} {P : Ps} : ∀ {h : Nat} {t : Gt EA h},Gt.Good H P h t → 1 ≤ (Gt.X h t).length → 1 ≤ (Gt.L h t).length
  | 0,_,_,h1 => h1
  | h + 1,(g,X,K),hg,h1 => Nat.le_trans h1 (Pl.sublist_inter X (K.map (Gt.L h)) (by have := hg.2.2.2.2.2.1; simp only at this; rw [List.length_map,this]; omega)).length_le

theorem minMut_spec {B : World} {H : Mem} {tr : Nat} {P : Ps} (hP : PsOk P) {S : Nat → Prop} {l : List (Int × Int)} (hM : MapM H tr P S l) (mt : Bool) :
    Fn Try.prog B 107 [.pointer (some ⟨tr,0,none⟩),.bool mt] H (fun r H' => r = .tuple #[PV l.head?,.bool l.head?.isSome] ∧ H' = H) := by
  have hh1 := hP.h1
  obtain ⟨tc,srt,cnt,own,lt,bs,hr⟩ := hM
  rcases hr with ⟨rfl,hptr⟩ | ⟨h,t,hg,hx1,e,hc,hnt,hown⟩
  · skip
    refine fn_of func107 rfl ntmps107 ?_
    refine (show Go' _ _ _ _ 45 [(0,_),(1,_)] [.code _] _ from ?_)
    refine Go'.seq ?_
    refine Go'.region [(0,0),(1,0)] rfl ?_
    refine O.asg rfl rfl rfl rfl rfl ?_
    refine O.asg rfl rfl rfl rfl rfl ?_
    refine Pl.fin [(0,_),(1,_),(4,_),(5,_)] ⟨rfl,rfl,rfl,rfl,trivial⟩ ?_
    refine Go'.seq ?_
    refine Go'.seq ?_
    refine Go'.region [(0,0),(1,0),(2,2)] rfl ?_
    refine O.mv rfl rfl rfl rfl rfl ?_
    refine O.mv rfl rfl rfl rfl rfl ?_
    refine O.callQ rfl rfl rfl call111 rfl lock_spec trivial ?_
    refine Pl.fin [(0,_),(1,_),(4,_),(5,_),(9,_)] ⟨rfl,rfl,rfl,rfl,rfl,trivial⟩ ?_
    refine Go'.condF rfl ?_
    refine Go'.skip ?_
    refine Go'.seq ?_
    refine Go'.seq ?_
    refine Go'.region [(0,0),(1,0),(2,0),(3,1),(4,0)] rfl ?_
    refine O.mv rfl rfl rfl rfl rfl ?_
    refine O.nc rfl rfl rfl rfl rfl ?_
    refine O.fa0 (off := 2) rfl rfl rfl rfl ⟨_,_,_,underlying138,rfl,rfl,sizeOf96⟩ rfl ?_
    refine O.ld rfl rfl rfl (fun w => ⟨isAgg96 w,sizeOf96 w⟩) rfl hptr ?_
    refine O.isNil rfl rfl rfl rfl underlying96 rfl rfl ?_
    refine Pl.fin [(0,_),(1,_),(4,_),(5,_),(16,_)] ⟨rfl,rfl,rfl,rfl,rfl,trivial⟩ ?_
    refine Go'.condT rfl ?_
    refine Go'.seq ?_
    refine Go'.region [(0,0),(1,0),(2,0),(3,1),(4,0),(5,0)] rfl ?_
    refine O.mv rfl rfl rfl rfl rfl ?_
    refine O.nc rfl rfl rfl rfl rfl ?_
    refine O.fa0 (off := 7) rfl rfl rfl rfl ⟨_,_,_,underlying138,rfl,rfl,sizeOf20⟩ rfl ?_
    refine O.ld rfl rfl rfl (fun w => ⟨isAgg20 w,sizeOf20 w⟩) rfl ((tc.emp) 0 _ rfl) ?_
    refine O.asg rfl rfl rfl rfl rfl ?_
    refine O.asg rfl rfl rfl rfl rfl ?_
    refine Pl.fin [(0,_),(1,_),(4,_),(5,_)] ⟨rfl,rfl,rfl,rfl,trivial⟩ ?_
    refine Go'.ret (vs := [_,_]) func107 results107 ⟨rfl,rfl,trivial⟩ ?_
    exact ⟨rfl,rfl⟩
  · skip
    obtain ⟨kp,hN⟩ := hg.node
    have hc0 := hN.c0
    rw [hg.isoe] at hc0
    have hptr : cl H tr 2 = some (.pointer (some ⟨Gt.p h t,0,none⟩)) := hc
    refine fn_of func107 rfl ntmps107 ?_
    refine (show Go' _ _ _ _ 45 [(0,_),(1,_)] [.code _] _ from ?_)
    refine Go'.seq ?_
    refine Go'.region [(0,0),(1,0)] rfl ?_
    refine O.asg rfl rfl rfl rfl rfl ?_
    refine O.asg rfl rfl rfl rfl rfl ?_
    refine Pl.fin [(0,_),(1,_),(4,_),(5,_)] ⟨rfl,rfl,rfl,rfl,trivial⟩ ?_
    refine Go'.seq ?_
    refine Go'.seq ?_
    refine Go'.region [(0,0),(1,0),(2,2)] rfl ?_
    refine O.mv rfl rfl rfl rfl rfl ?_
    refine O.mv rfl rfl rfl rfl rfl ?_
    refine O.callQ rfl rfl rfl call111 rfl lock_spec trivial ?_
    refine Pl.fin [(0,_),(1,_),(4,_),(5,_),(9,_)] ⟨rfl,rfl,rfl,rfl,rfl,trivial⟩ ?_
    refine Go'.condF rfl ?_
    refine Go'.skip ?_
    refine Go'.seq ?_
    refine Go'.seq ?_
    refine Go'.region [(0,0),(1,0),(2,0),(3,1),(4,0)] rfl ?_
    refine O.mv rfl rfl rfl rfl rfl ?_
    refine O.nc rfl rfl rfl rfl rfl ?_
    refine O.fa0 (off := 2) rfl rfl rfl rfl ⟨_,_,_,underlying138,rfl,rfl,sizeOf96⟩ rfl ?_
    refine O.ld rfl rfl rfl (fun w => ⟨isAgg96 w,sizeOf96 w⟩) rfl hptr ?_
    refine O.isNil rfl rfl rfl rfl underlying96 rfl rfl ?_
    refine Pl.fin [(0,_),(1,_),(4,_),(5,_),(16,_)] ⟨rfl,rfl,rfl,rfl,rfl,trivial⟩ ?_
    refine Go'.condF rfl ?_
    refine Go'.skip ?_
    refine Go'.seq ?_
    refine Go'.region [(0,0),(1,0),(2,0),(3,0),(4,0),(5,2),(6,0)] rfl ?_
    refine O.mv rfl rfl rfl rfl rfl ?_
    refine O.mv rfl rfl rfl rfl rfl ?_
    refine O.nc rfl rfl rfl rfl rfl ?_
    refine O.fa0 (off := 2) rfl rfl rfl rfl ⟨_,_,_,underlying138,rfl,rfl,sizeOf96⟩ rfl ?_
    refine O.mv rfl rfl rfl rfl rfl ?_
    refine O.callQ rfl rfl rfl call114 rfl (isoLoad_spec mt hc hc0 tc.iso) trivial ?_
    refine O.asg rfl rfl rfl rfl rfl ?_
    refine Pl.fin [(0,_),(1,_),(4,_),(5,_),(6,_)] ⟨rfl,rfl,rfl,rfl,rfl,trivial⟩ ?_
    refine Go'.block ?_
    refine Go'.loop ?_
    refine Go'.keep [(0,_),(1,_),(4,_),(5,_),(6,_)] ⟨rfl,rfl,rfl,rfl,rfl,trivial⟩ ?_
    refine Go'.ind (σ := (h : Nat) × Gt EA h) (fun s => s.1) (fun s H' => H' = H ∧ Gt.Good H P s.1 s.2 ∧ 1 ≤ (Gt.X s.1 s.2).length ∧ (Gt.L s.1 s.2).head? = l.head?)
      (fun s => [(0,.pointer (some ⟨tr,0,none⟩)),(1,.bool mt),(4,.nilIface),(5,.bool false),(6,.pointer (some ⟨Gt.p s.1 s.2,0,none⟩))]) ⟨h,t⟩ ⟨rfl,hg,hx1,by rw [e]⟩ rfl ?_
    clear hg hx1 e hc hnt hown hN hc0 hptr t h kp
    rintro ⟨h,t⟩ H2 ⟨hHH,hg,hx1,hL⟩ ih
    have eH : H = H2 := hHH.symm
    subst eH
    simp only at hg hx1 hL
    clear hHH
    refine Go'.block ?_
    refine Go'.seq ?_
    refine Go'.seq ?_
    rcases h with _ | h
    · -- a leaf
      obtain ⟨g,X⟩ := t
      have hN : NodeM EA H g X (.pointer none) := hg.1
      replace hx1 : 1 ≤ X.length := hx1
      replace hL : X.head? = l.head? := hL
      obtain ⟨y,hy⟩ : ∃ y,X[0]? = some y := ⟨X[0],List.getElem?_eq_getElem (by omega)⟩
      rw [← hL,List.head?_eq_getElem?,hy]
      refine Go'.region [(0,0),(1,2)] rfl ?_
      refine O.mv rfl rfl rfl rfl rfl ?_
      refine O.callQ rfl rfl rfl call115 rfl (leaf_spec hN.c3) trivial ?_
      refine Pl.fin [(0,_),(1,_),(4,_),(5,_),(6,_),(28,_)] ⟨rfl,rfl,rfl,rfl,rfl,rfl,trivial⟩ ?_
      refine Go'.condT rfl ?_
      refine Go'.seq ?_
      refine Go'.region [(0,0),(1,0),(2,0),(3,1),(4,0),(5,1),(6,0),(7,0)] rfl ?_
      refine O.mv rfl rfl rfl rfl rfl ?_
      refine O.nc rfl rfl rfl rfl rfl ?_
      refine O.fa0 (off := 2) rfl rfl rfl rfl ⟨_,_,_,underlying144,rfl,rfl,sizeOf141⟩ rfl ?_
      refine O.ld rfl rfl rfl (fun w => ⟨isAgg141 w,sizeOf141 w⟩) rfl hN.c2 ?_
      refine O.ix (j := 0) rfl rfl rfl rfl underlying141 sizeOf20 rfl rfl rfl (by omega) ?_
      refine O.ld rfl rfl rfl (fun w => ⟨isAgg20 w,sizeOf20 w⟩) rfl (((hN.sl.item hy)) 0 _ rfl) ?_
      refine O.asg rfl rfl rfl rfl rfl ?_
      refine O.asg rfl rfl rfl rfl rfl ?_
      refine Pl.fin [(0,_),(1,_),(4,_),(5,_),(6,_),(28,_)] ⟨rfl,rfl,rfl,rfl,rfl,rfl,trivial⟩ ?_
      refine Go'.ret (vs := [_,_]) func107 results107 ⟨rfl,rfl,trivial⟩ ?_
      exact ⟨rfl,rfl⟩
    · -- an inner node
      obtain ⟨g,X,K⟩ := t
      have hI : Inn H P h g X ((Gt.ps h K).map some) K := hg.inn
      have hKl : K.length = X.length + 1 := hg.2.2.2.2.2.1
      obtain ⟨k,hkk⟩ : ∃ k,K[0]? = some k := ⟨K[0],List.getElem?_eq_getElem (by omega)⟩
      obtain ⟨hgk,hmk,_⟩ := hI.c.1 k (List.mem_of_getElem? hkk)
      obtain ⟨kp,hNk⟩ := hgk.node
      have hc0 := hNk.c0
      rw [hgk.isoe] at hc0
      have hol : ((Gt.ps h K).map some).length = X.length + 1 := by rw [List.length_map,Gt.ps,List.length_map]; exact hKl
      have hok : ((Gt.ps h K).map some)[0]? = some (some (Gt.p h k)) := by rw [Gt.ps,List.map_map,List.getElem?_map,hkk]; rfl
      have hck := hI.k.at hok
      have hLk : (Gt.L h k).head? = l.head? := by
        rw [← hL]
        show _ = (Pl.inter X (K.map (Gt.L h))).head?
        have h1 := Gt.Good.some hgk (by omega)
        have e := Pl.inter_self (X := X) (K := K.map (Gt.L h)) (i := 0) (k := Gt.L h k) (by rw [List.length_map]; exact hKl) (by rw [List.getElem?_map,hkk]; rfl)
        rw [e]
        cases hk : Gt.L h k with
        | nil => rw [hk] at h1; simp at h1
        | cons y z => simp [Pl.pre]
      refine Go'.region [(0,0),(1,2)] rfl ?_
      refine O.mv rfl rfl rfl rfl rfl ?_
      refine O.callQ rfl rfl rfl call115 rfl (leaf_spec hI.n.c3) trivial ?_
      refine Pl.fin [(0,_),(1,_),(4,_),(5,_),(6,_),(28,_)] ⟨rfl,rfl,rfl,rfl,rfl,rfl,trivial⟩ ?_
      refine Go'.condF rfl ?_
      refine Go'.skip ?_
      refine Go'.region [(0,0),(1,0),(2,0),(3,0),(4,1),(5,0),(6,1),(7,0),(8,0),(9,2),(10,0)] rfl ?_
      refine O.mv rfl rfl rfl rfl rfl ?_
      refine O.mv rfl rfl rfl rfl rfl ?_
      refine O.nc rfl rfl rfl rfl rfl ?_
      refine O.fa0 (off := 3) rfl rfl rfl rfl ⟨_,_,_,underlying144,rfl,rfl,sizeOf142⟩ rfl ?_
      refine O.ld rfl rfl rfl (fun w => ⟨isAgg142 w,sizeOf142 w⟩) rfl hI.n.c3 ?_
      refine O.nc rfl rfl rfl rfl rfl ?_
      refine O.ld rfl rfl rfl (fun w => ⟨isAgg145 w,sizeOf145 w⟩) rfl hI.k.c ?_
      refine O.ix (j := 0) rfl rfl rfl rfl underlying145 sizeOf96 rfl rfl rfl (by omega) ?_
      refine O.mv rfl rfl rfl rfl rfl ?_
      refine O.callQ rfl rfl rfl call114 rfl (isoLoad_spec mt hck hc0 tc.iso) trivial ?_
      refine O.asg rfl rfl rfl rfl rfl ?_
      refine Pl.fin [(0,_),(1,_),(4,_),(5,_),(6,_),(28,_)] ⟨rfl,rfl,rfl,rfl,rfl,rfl,trivial⟩ ?_
      refine Go'.inBlock ?_
      refine Go'.keep [(0,_),(1,_),(4,_),(5,_),(6,_)] ⟨rfl,rfl,rfl,rfl,rfl,trivial⟩ ?_
      refine Go'.inLoop ?_
      exact ih ⟨h,k⟩ H ⟨rfl,hgk,Nat.le_trans hh1 hmk,hLk⟩ (Nat.lt_succ_self h)

theorem MinMut_spec {B : World} {H : Mem} {tr : Nat} {P : Ps} (hP : PsOk P) {S : Nat → Prop} {l : List (Int × Int)} (hM : MapM H tr P S l) :
    Fn Try.prog B 83 [.pointer (some ⟨tr,0,none⟩)] H (fun r H' => r = .tuple #[PV l.head?,.bool l.head?.isSome] ∧ H' = H) := by
  refine fn_of func83 rfl ntmps83 ?_
  refine (show Go' _ _ _ _ 8 [(0,_)] [.code _] _ from ?_)
  refine Go'.seq ?_
  refine Go'.region [(0,0),(1,0)] rfl ?_
  refine O.asg rfl rfl rfl rfl rfl ?_
  refine O.asg rfl rfl rfl rfl rfl ?_
  refine Pl.fin [(0,_),(2,_),(3,_)] ⟨rfl,rfl,rfl,trivial⟩ ?_
  refine Go'.seq ?_
  refine Go'.region [(0,0),(1,2),(2,0),(3,0),(4,0),(5,0)] rfl ?_
  refine O.mv rfl rfl rfl rfl rfl ?_
  refine O.callQ rfl rfl rfl call107 rfl (minMut_spec hP hM true) trivial ?_
  refine O.ext rfl rfl rfl rfl rfl rfl ?_
  refine O.ext rfl rfl rfl rfl rfl rfl ?_
  refine O.asg rfl rfl rfl rfl rfl ?_
  refine O.asg rfl rfl rfl rfl rfl ?_
  refine Pl.fin [(2,_),(3,_)] ⟨rfl,rfl,trivial⟩ ?_
  refine Go'.ret (vs := [_,_]) func83 results83 ⟨rfl,rfl,trivial⟩ ?_
  exact ⟨rfl,rfl⟩

theorem bMinMut_spec {B : World} {H : Mem} {tr bt : Nat} {P : Ps} (hP : PsOk P) {S : Nat → Prop} {l : List (Int × Int)} (hM : MapM H tr P S l) (hb : cl H bt 0 = some (ptr tr)) :
    Fn Try.prog B 57 [ptr bt] H (fun r H' => r = PV l.head? ∧ H' = H) := by
  unfold ptr at hb ⊢
  refine fn_of func57 rfl ntmps57 ?_
  refine (show Go' _ _ _ _ 16 [(0,_)] [.code _] _ from ?_)
  refine Go'.seq ?_
  refine Go'.region [(0,0)] rfl ?_
  refine O.asg rfl rfl rfl rfl rfl ?_
  refine Pl.fin [(0,_),(2,_)] ⟨rfl,rfl,trivial⟩ ?_
  refine Go'.seq ?_
  refine Go'.region [(0,0),(1,0),(2,0),(3,1),(4,2),(5,0),(6,0),(7,0),(8,0),(9,0)] rfl ?_
  refine O.mv rfl rfl rfl rfl rfl ?_
  refine O.nc rfl rfl rfl rfl rfl ?_
  refine O.faz rfl rfl rfl rfl ⟨_,_,_,underlying115,rfl,rfl,sizeOf95⟩ rfl ?_
  refine O.ld rfl rfl rfl (fun w => ⟨isAgg95 w,sizeOf95 w⟩) rfl hb ?_
  refine O.callQ rfl rfl rfl call83 rfl (MinMut_spec hP hM) trivial ?_
  refine O.mv rfl rfl rfl rfl rfl ?_
  refine O.ext rfl rfl rfl rfl rfl rfl ?_
  refine O.ext rfl rfl rfl rfl rfl rfl ?_
  refine O.asg rfl rfl rfl rfl rfl ?_
  refine O.asg rfl rfl rfl rfl rfl ?_
  refine Pl.fin [(2,_),(3,_),(4,_)] ⟨rfl,rfl,rfl,trivial⟩ ?_
  refine Go'.seq ?_
  refine Go'.seq ?_
  cases hg : l.head? with
  | none =>
    refine Go'.region [(0,0),(1,0)] rfl ?_
    refine O.mv rfl rfl rfl rfl rfl ?_
    refine O.not rfl rfl rfl rfl rfl ?_
    refine Pl.fin [(2,_),(3,_),(14,_)] ⟨rfl,rfl,rfl,trivial⟩ ?_
    refine Go'.condT rfl ?_
    refine Go'.seq ?_
    refine Go'.region [(0,0)] rfl ?_
    refine O.asg rfl rfl rfl rfl rfl ?_
    refine Pl.fin [(2,_),(3,_)] ⟨rfl,rfl,trivial⟩ ?_
    refine Go'.ret (vs := [_]) func57 results57 ⟨rfl,trivial⟩ ?_
    exact ⟨rfl,rfl⟩
  | some y =>
    refine Go'.region [(0,0),(1,0)] rfl ?_
    refine O.mv rfl rfl rfl rfl rfl ?_
    refine O.not rfl rfl rfl rfl rfl ?_
    refine Pl.fin [(2,_),(3,_),(14,_)] ⟨rfl,rfl,rfl,trivial⟩ ?_
    refine Go'.condF rfl ?_
    refine Go'.skip ?_
    refine Go'.seq ?_
    refine Go'.region [(0,0),(1,0)] rfl ?_
    refine O.mv rfl rfl rfl rfl rfl ?_
    refine O.asg rfl rfl rfl rfl rfl ?_
    refine Pl.fin [(2,_)] ⟨rfl,trivial⟩ ?_
    refine Go'.ret (vs := [_]) func57 results57 ⟨rfl,trivial⟩ ?_
    exact ⟨rfl,rfl⟩
end
theorem ibminmut_spec {B : World} {H : Mem} {d : Nat} {nl : Bool} {v u : Value} {ord : List Int} {l : List (Int × Int)} (hd : d = 0 ∨ 2 ≤ d ∧ d ≤ 128) (ho : InS EN H v ord) (hol : ord.length ≤ 4294967296) (hi : InS EJ H u l) (hll : l.length ≤ 4294967296) :
    Fn Try.prog B 31 [.agg #[v,.int .i64 (d : Int),.bool nl],u] H (fun r H' => r = FV (Pl.puts (OO ord) l).head? ∧ Fr nowhere H H') := by
  obtain ⟨a,c,hu⟩ := hi.len
  subst hu
  obtain ⟨av,mv,cv,hv⟩ := InS.form ho
  subst hv
  have hF : Fr nowhere H H := Fr.refl _ _
  have hP := PD_ok hd
  refine fn_of func31 rfl ntmps31 ?_
  refine (show Go' _ _ _ _ 10 [(0,_),(1,_)] [.code _] _ from ?_)
  refine Go'.seq ?_
  refine Go'.region [(0,2),(1,2)] rfl ?_
  refine O.box rfl rfl rfl rfl ?_
  intro B1 MB1
  refine ⟨trivial,?_⟩
  have hsB1 := MB1.size
  replace hF := hF.trans (MB1.fr nowhere)
  have mm : Rd B1 H.size 0 [.slice av mv cv,.int .i64 (d : Int),.bool nl] := MB1.rd _ [] (by simp [Value.cells])
  have mm0 : cl B1 H.size 0 = some (.slice av mv cv) := mm 0 _ rfl
  have mm1 : cl B1 H.size (0 + 1) = some (.int .i64 (d : Int)) := mm 1 _ rfl
  refine O.alloc rfl rfl rfl zeroValue44 ?_
  intro B2 MB2
  refine ⟨trivial,?_⟩
  have hsB2 := MB2.size
  replace hF := hF.trans (MB2.fr nowhere)
  replace mm := (MB2.fr nowhere).rd mm (fun _ _ => nw)
  replace mm0 := (MB2.fr nowhere).keep mm0 nw
  replace mm1 := (MB2.fr nowhere).keep mm1 nw
  have mw0 : Wr B2 B1.size 0 3 := MB2.wr 3 (by decide)
  refine Pl.fin [(1,_),(2,_),(4,_)] ⟨rfl,rfl,rfl,trivial⟩ ?_
  refine Go'.seq ?_
  refine Go'.region [(0,1),(1,0),(2,2),(3,2),(4,2),(5,2)] rfl ?_
  refine O.lds rfl rfl rfl (fun w => ⟨isAgg24 w,sizeOf24 w⟩) rfl rfl mm ?_
  refine O.mv rfl rfl rfl rfl rfl ?_
  refine O.call rfl rfl rfl call51 rfl (grow_spec hd (ho.fr hF) hol (hi.fr hF) hll) ?_
  rintro _ H3 ⟨I,hIo,hIw,hIb,tr,S,bt,rfl,hM,hbt,hbl,hbu,hbS,hF3,hS⟩
  have hs3 := hF3.size
  replace hF := hF.trans hF3
  replace mm := hF3.rd mm (fun _ _ => nw)
  replace mm0 := hF3.keep mm0 nw
  replace mm1 := hF3.keep mm1 nw
  replace mw0 := hF3.wr mw0
  have hSb : ∀ b,S b ∨ (b < cx.base ∧ cx.own b) → B2.size ≤ b := fun b hb => hb.elim (hS b) (fun h => hIw b h.2)
  have hbg := hbl
  have hOO : OO ord = OI := by rw [← hIo]; rfl
  have hpl := Pl.puts_length OI l
  have hSlt := hM.lt
  have hbs := hM.tc.hb
  unfold ptr
  refine ⟨trivial,?_⟩
  refine O.callQ rfl rfl rfl call57 rfl (bMinMut_spec hP hM hbt) trivial ?_
  refine O.call rfl rfl rfl call56 rfl (foundAny_spec _) ?_
  rintro _ H5 ⟨rfl,hF5⟩
  have hs5 := hF5.size
  replace hF := hF.trans hF5
  replace mm := hF5.rd mm (fun _ _ => nw)
  replace mm0 := hF5.keep mm0 nw
  replace mm1 := hF5.keep mm1 nw
  replace mw0 := hF5.wr mw0
  rw [← hOO,FVe]
  refine ⟨trivial,?_⟩
  refine O.st (vs := (fvs (Pl.puts (OO ord) l).head?)) rfl rfl sizeOf44 rfl rfl rfl (fvs_len _) (fvs_ones _) mw0 ?_
  intro H6 W6
  have hs6 := W6.size
  replace hF := hF.trans' W6.fr (fun _ _ _ h => h) (fun b o hb h => by have h' := h.1; omega)
  replace mm := W6.fr.rd mm (fun _ _ => nr (.inl (by omega)))
  replace mm0 := W6.fr.keep mm0 (nr (.inl (by omega)))
  replace mm1 := W6.fr.keep mm1 (nr (.inl (by omega)))
  replace mw0 := W6.fr.wr mw0
  refine ⟨trivial,?_⟩
  refine Pl.fin [(4,_)] ⟨rfl,trivial⟩ ?_
  refine Go'.ret (vs := [_]) func31 results31 ⟨⟨_,_,rfl,fun _ _ => run_loadVar_agg (fun w => ⟨isAgg44 w,sizeOf44 w⟩) (fvs_len _) W6.all⟩,trivial⟩ ?_
  exact ⟨rfl,hF⟩

theorem sgmin_spec {B : World} {H : Mem} {z : Int} {nl : Bool} {v u : Value} {ord : List Int} {l : List (Int × Int)} (ho : InS EN H v ord) (hol : ord.length ≤ 4294967296) (hi : InS EJ H u l) (hll : l.length ≤ 4294967296) :
    Fn Try.prog B 32 [.agg #[v,.int .i64 z,.bool nl],u] H (fun r H' => r = FV (Pl.puts (OO ord) l).head? ∧ Fr nowhere H H') := by
  have hpl := Pl.puts_length (OO ord) l
  obtain ⟨a,c,hu⟩ := hi.len
  subst hu
  obtain ⟨av,mv,cv,hv⟩ := InS.form ho
  subst hv
  have hF : Fr nowhere H H := Fr.refl _ _
  have eh : ath (Pl.puts (OO ord) l) ((0 : Nat) : Int) = (Pl.puts (OO ord) l).head? := by rw [ath_nat,List.head?_eq_getElem?]
  refine fn_of func32 rfl ntmps32 ?_
  refine (show Go' _ _ _ _ 10 [(0,_),(1,_)] [.code _] _ from ?_)
  refine Go'.seq ?_
  refine Go'.region [(0,2),(1,2)] rfl ?_
  refine O.box rfl rfl rfl rfl ?_
  intro B1 MB1
  refine ⟨trivial,?_⟩
  have hsB1 := MB1.size
  replace hF := hF.trans (MB1.fr nowhere)
  have mm : Rd B1 H.size 0 [.slice av mv cv,.int .i64 z,.bool nl] := MB1.rd _ [] (by simp [Value.cells])
  have mm0 : cl B1 H.size 0 = some (.slice av mv cv) := mm 0 _ rfl
  have mm1 : cl B1 H.size (0 + 1) = some (.int .i64 z) := mm 1 _ rfl
  refine O.alloc rfl rfl rfl zeroValue44 ?_
  intro B2 MB2
  refine ⟨trivial,?_⟩
  have hsB2 := MB2.size
  replace hF := hF.trans (MB2.fr nowhere)
  replace mm := (MB2.fr nowhere).rd mm (fun _ _ => nw)
  replace mm0 := (MB2.fr nowhere).keep mm0 nw
  replace mm1 := (MB2.fr nowhere).keep mm1 nw
  have mw0 : Wr B2 B1.size 0 3 := MB2.wr 3 (by decide)
  refine Pl.fin [(1,_),(2,_),(4,_)] ⟨rfl,rfl,rfl,trivial⟩ ?_
  refine Go'.seq ?_
  refine Go'.region [(0,0),(1,1),(2,0),(3,2),(4,2),(5,2)] rfl ?_
  refine O.faz rfl rfl rfl rfl ⟨_,_,_,underlying24,rfl,rfl,sizeOf22⟩ rfl ?_
  refine O.ld rfl rfl rfl (fun w => ⟨isAgg22 w,sizeOf22 w⟩) rfl mm0 ?_
  refine O.mv rfl rfl rfl rfl rfl ?_
  refine O.call rfl rfl rfl call48 rfl (tree_spec (ho.fr hF) (by omega) (hi.fr hF) hll) ?_
  rintro tv H4 ⟨hA4,hF4⟩
  replace hF := hF.trans hF4
  replace mm := hF4.rd mm (fun _ _ => nw)
  replace mm0 := hF4.keep mm0 nw
  replace mm1 := hF4.keep mm1 nw
  replace mw0 := hF4.wr mw0
  have hT := hA4.inS
  obtain ⟨ta,tc,rfl⟩ := hT.len
  have hs4 := hF4.size
  refine ⟨trivial,?_⟩
  refine O.call rfl rfl rfl call58 rfl (at_spec ((0 : Nat) : Int) hT (by omega)) ?_
  rintro _ H5 ⟨rfl,hF5⟩
  have hs5 := hF5.size
  replace hF := hF.trans hF5
  replace mm := hF5.rd mm (fun _ _ => nw)
  replace mm0 := hF5.keep mm0 nw
  replace mm1 := hF5.keep mm1 nw
  replace mw0 := hF5.wr mw0
  rw [eh,FVe]
  refine ⟨trivial,?_⟩
  refine O.st (vs := (fvs (Pl.puts (OO ord) l).head?)) rfl rfl sizeOf44 rfl rfl rfl (fvs_len _) (fvs_ones _) mw0 ?_
  intro H6 W6
  have hs6 := W6.size
  replace hF := hF.trans' W6.fr (fun _ _ _ h => h) (fun b o hb h => by have h' := h.1; omega)
  replace mm := W6.fr.rd mm (fun _ _ => nr (.inl (by omega)))
  replace mm0 := W6.fr.keep mm0 (nr (.inl (by omega)))
  replace mm1 := W6.fr.keep mm1 (nr (.inl (by omega)))
  replace mw0 := W6.fr.wr mw0
  refine ⟨trivial,?_⟩
  refine Pl.fin [(4,_)] ⟨rfl,trivial⟩ ?_
  refine Go'.ret (vs := [_]) func32 results32 ⟨⟨_,_,rfl,fun _ _ => run_loadVar_agg (fun w => ⟨isAgg44 w,sizeOf44 w⟩) (fvs_len _) W6.all⟩,trivial⟩ ?_
  exact ⟨rfl,hF⟩

theorem lawBMinMut_spec {B : World} {H : Mem} {d : Nat} {nl : Bool} {v u : Value} {ord : List Int} {l : List (Int × Int)} (hd : d = 0 ∨ 2 ≤ d ∧ d ≤ 128) (ho : InS EN H v ord) (hol : ord.length ≤ 4294967296) (hi : InS EJ H u l) (hll : l.length ≤ 4294967296) :
    Fn Try.prog B 12 [.agg #[v,.int .i64 (d : Int),.bool nl],u] H (fun r H' => r = .bool true ∧ Fr nowhere H H') := by
  obtain ⟨a,c,hu⟩ := hi.len
  subst hu
  obtain ⟨av,mv,cv,hv⟩ := InS.form ho
  subst hv
  have hF : Fr nowhere H H := Fr.refl _ _
  have hP := PD_ok hd
  refine fn_of func12 rfl ntmps12 ?_
  refine (show Go' _ _ _ _ 16 [(0,_),(1,_)] [.code _] _ from ?_)
  refine Go'.seq ?_
  refine Go'.region [(0,2),(1,0)] rfl ?_
  refine O.box rfl rfl rfl rfl ?_
  intro B1 MB1
  refine ⟨trivial,?_⟩
  have hsB1 := MB1.size
  replace hF := hF.trans (MB1.fr nowhere)
  have mm : Rd B1 H.size 0 [.slice av mv cv,.int .i64 (d : Int),.bool nl] := MB1.rd _ [] (by simp [Value.cells])
  have mm0 : cl B1 H.size 0 = some (.slice av mv cv) := mm 0 _ rfl
  have mm1 : cl B1 H.size (0 + 1) = some (.int .i64 (d : Int)) := mm 1 _ rfl
  refine O.asg rfl rfl rfl rfl rfl ?_
  refine Pl.fin [(1,_),(2,_),(4,_)] ⟨rfl,rfl,rfl,trivial⟩ ?_
  refine Go'.seq ?_
  refine Go'.region [(0,1),(1,0),(2,2),(3,2),(4,2)] rfl ?_
  refine O.lds rfl rfl rfl (fun w => ⟨isAgg24 w,sizeOf24 w⟩) rfl rfl mm ?_
  refine O.mv rfl rfl rfl rfl rfl ?_
  refine O.call rfl rfl rfl call31 rfl (ibminmut_spec hd (ho.fr hF) hol (hi.fr hF) hll) ?_
  rintro _ H3 ⟨rfl,hF3⟩
  have hs3 := hF3.size
  replace hF := hF.trans hF3
  replace mm := hF3.rd mm (fun _ _ => nw)
  replace mm0 := hF3.keep mm0 nw
  replace mm1 := hF3.keep mm1 nw
  rw [FVe]
  refine ⟨trivial,?_⟩
  refine O.alloc rfl rfl rfl zeroValue44 ?_
  intro H4 M4
  refine ⟨trivial,?_⟩
  have hs4 := M4.size
  replace hF := hF.trans (M4.fr nowhere)
  replace mm := (M4.fr nowhere).rd mm (fun _ _ => nw)
  replace mm0 := (M4.fr nowhere).keep mm0 nw
  replace mm1 := (M4.fr nowhere).keep mm1 nw
  have mc0 : Wr H4 H3.size 0 3 := M4.wr 3 (by decide)
  refine O.st (vs := (fvs (Pl.puts (OO ord) l).head?)) rfl rfl sizeOf44 rfl rfl rfl (fvs_len _) (fvs_ones _) mc0 ?_
  intro H5 W5
  have hs5 := W5.size
  have hsF0 := hF.size
  replace hF := hF.trans' W5.fr (fun _ _ _ h => h) (fun b o hb h => by have h' := h.1; omega)
  replace mm := W5.fr.rd mm (fun _ _ => nr (.inl (by omega)))
  replace mm0 := W5.fr.keep mm0 (nr (.inl (by omega)))
  replace mm1 := W5.fr.keep mm1 (nr (.inl (by omega)))
  have mr0 : Rd H5 H3.size 0 (fvs (Pl.puts (OO ord) l).head?) := W5.all
  refine ⟨trivial,?_⟩
  refine Pl.fin [(1,_),(2,_),(4,_),(5,_)] ⟨rfl,rfl,rfl,rfl,trivial⟩ ?_
  refine Go'.seq ?_
  refine Go'.region [(0,1),(1,0),(2,2),(3,2),(4,2)] rfl ?_
  refine O.lds rfl rfl rfl (fun w => ⟨isAgg24 w,sizeOf24 w⟩) rfl rfl mm ?_
  refine O.mv rfl rfl rfl rfl rfl ?_
  refine O.call rfl rfl rfl call32 rfl (sgmin_spec (ho.fr hF) hol (hi.fr hF) hll) ?_
  rintro _ H6 ⟨rfl,hF6⟩
  have hs6 := hF6.size
  replace hF := hF.trans hF6
  replace mm := hF6.rd mm (fun _ _ => nw)
  replace mm0 := hF6.keep mm0 nw
  replace mm1 := hF6.keep mm1 nw
  replace mr0 := hF6.rd mr0 (fun _ _ => nw)
  rw [FVe]
  refine ⟨trivial,?_⟩
  refine O.alloc rfl rfl rfl zeroValue44 ?_
  intro H7 M7
  refine ⟨trivial,?_⟩
  have hs7 := M7.size
  replace hF := hF.trans (M7.fr nowhere)
  replace mm := (M7.fr nowhere).rd mm (fun _ _ => nw)
  replace mm0 := (M7.fr nowhere).keep mm0 nw
  replace mm1 := (M7.fr nowhere).keep mm1 nw
  replace mr0 := (M7.fr nowhere).rd mr0 (fun _ _ => nw)
  have mc1 : Wr H7 H6.size 0 3 := M7.wr 3 (by decide)
  refine O.st (vs := (fvs (Pl.puts (OO ord) l).head?)) rfl rfl sizeOf44 rfl rfl rfl (fvs_len _) (fvs_ones _) mc1 ?_
  intro H8 W8
  have hs8 := W8.size
  have hsF1 := hF.size
  replace hF := hF.trans' W8.fr (fun _ _ _ h => h) (fun b o hb h => by have h' := h.1; omega)
  replace mm := W8.fr.rd mm (fun _ _ => nr (.inl (by omega)))
  replace mm0 := W8.fr.keep mm0 (nr (.inl (by omega)))
  replace mm1 := W8.fr.keep mm1 (nr (.inl (by omega)))
  replace mr0 := W8.fr.rd mr0 (fun _ _ => nr (.inl (by omega)))
  have mr1 : Rd H8 H6.size 0 (fvs (Pl.puts (OO ord) l).head?) := W8.all
  refine ⟨trivial,?_⟩
  refine Pl.fin [(4,_),(5,_),(6,_)] ⟨rfl,rfl,rfl,trivial⟩ ?_
  refine Go'.seq ?_
  refine Go'.region [(0,1),(1,1),(2,0),(3,0)] rfl ?_
  refine O.lds rfl rfl rfl (fun w => ⟨isAgg44 w,sizeOf44 w⟩) rfl (fvs_len _) mr0 ?_
  refine O.lds rfl rfl rfl (fun w => ⟨isAgg44 w,sizeOf44 w⟩) rfl (fvs_len _) mr1 ?_
  refine O.bin rfl rfl rfl rfl rfl rfl (found_eq (Pl.puts (OO ord) l).head? _ _) ?_
  refine O.asg rfl rfl rfl rfl rfl ?_
  refine Pl.fin [(4,_)] ⟨rfl,trivial⟩ ?_
  refine Go'.ret (vs := [_]) func12 results12 ⟨rfl,trivial⟩ ?_
  exact ⟨rfl,hF⟩

theorem fnExactBMinMut {B : World} {H : Mem} {z : Int} {nl : Bool} {v u : Value} {ord : List Int} {l : List (Int × Int)} (ho : InS EN H v ord) (hi : InS EJ H u l) :
    Fn Try.prog B 3 [.agg #[v,.int .i64 z,.bool nl],u] H (fun r H' => r = .bool true ∧ Fr nowhere H H') := by
  obtain ⟨a,c,hu⟩ := hi.len
  subst hu
  obtain ⟨av,mv,cv,hv⟩ := InS.form ho
  subst hv
  have hF : Fr nowhere H H := Fr.refl _ _
  refine fn_of func3 rfl ntmps3 ?_
  refine (show Go' _ _ _ _ 27 [(0,_),(1,_)] [.code _] _ from ?_)
  refine Go'.seq ?_
  refine Go'.region [(0,2),(1,0)] rfl ?_
  refine O.box rfl rfl rfl rfl ?_
  intro B1 MB1
  refine ⟨trivial,?_⟩
  have hsB1 := MB1.size
  replace hF := hF.trans (MB1.fr nowhere)
  have mm : Rd B1 H.size 0 [.slice av mv cv,.int .i64 z,.bool nl] := MB1.rd _ [] (by simp [Value.cells])
  have mm0 : cl B1 H.size 0 = some (.slice av mv cv) := mm 0 _ rfl
  have mm1 : cl B1 H.size (0 + 1) = some (.int .i64 z) := mm 1 _ rfl
  refine O.asg rfl rfl rfl rfl rfl ?_
  refine Pl.fin [(1,_),(2,_),(4,_)] ⟨rfl,rfl,rfl,trivial⟩ ?_
  refine Go'.seq ?_
  refine Go'.seq ?_
  cases hoz : decide (ord.length ≤ 2147483647)
  · skip
    refine Go'.region [(0,1),(1,2),(2,0),(3,0),(4,0),(5,0),(6,0),(7,0)] rfl ?_
    refine O.lds rfl rfl rfl (fun w => ⟨isAgg24 w,sizeOf24 w⟩) rfl rfl mm ?_
    refine O.call rfl rfl rfl call11 rfl (zzFits1_spec (ho.fr hF) hoz) ?_
    rintro _ H1 ⟨rfl,hF1⟩
    replace hF := hF.trans hF1
    replace mm := hF1.rd mm (fun _ _ => nw)
    replace mm0 := hF1.keep mm0 nw
    replace mm1 := hF1.keep mm1 nw
    refine ⟨trivial,?_⟩
    refine O.not rfl rfl rfl rfl rfl ?_
    refine O.mv rfl rfl rfl rfl rfl ?_
    refine Pl.pass rfl rfl rfl rfl ?_
    refine Pl.pass rfl rfl rfl rfl ?_
    refine Pl.pass rfl rfl rfl rfl ?_
    refine O.pick rfl rfl rfl rfl rfl rfl ?_
    refine Pl.fin [(1,_),(2,_),(4,_),(12,_)] ⟨rfl,rfl,rfl,rfl,trivial⟩ ?_
    refine Go'.condT rfl ?_
    refine Go'.seq ?_
    refine Go'.region [(0,0)] rfl ?_
    refine O.asg rfl rfl rfl rfl rfl ?_
    refine Pl.fin [(1,_),(2,_),(4,_)] ⟨rfl,rfl,rfl,trivial⟩ ?_
    refine Go'.ret (vs := [_]) func3 results3 ⟨rfl,trivial⟩ ?_
    exact ⟨rfl,hF⟩
  · skip
    have hoz2 := of_decide_eq_true hoz
    by_cases hb_lenl : (2147483647 : Int) < (l.length : Int)
    · skip
      refine Go'.region [(0,1),(1,2),(2,0),(3,0),(4,0),(5,0),(6,0),(7,0)] rfl ?_
      refine O.lds rfl rfl rfl (fun w => ⟨isAgg24 w,sizeOf24 w⟩) rfl rfl mm ?_
      refine O.call rfl rfl rfl call11 rfl (zzFits1_spec (ho.fr hF) hoz) ?_
      rintro _ H1 ⟨rfl,hF1⟩
      replace hF := hF.trans hF1
      replace mm := hF1.rd mm (fun _ _ => nw)
      replace mm0 := hF1.keep mm0 nw
      replace mm1 := hF1.keep mm1 nw
      refine ⟨trivial,?_⟩
      refine O.not rfl rfl rfl rfl rfl ?_
      refine O.mv rfl rfl rfl rfl rfl ?_
      refine O.mv rfl rfl rfl rfl rfl ?_
      refine O.len rfl rfl rfl rfl underlying25 rfl ?_
      refine O.cmp rfl rfl rfl rfl rfl rfl (gtrT (by omega)) ?_
      refine O.pick rfl rfl rfl rfl rfl rfl ?_
      refine Pl.fin [(1,_),(2,_),(4,_),(12,_)] ⟨rfl,rfl,rfl,rfl,trivial⟩ ?_
      refine Go'.condT rfl ?_
      refine Go'.seq ?_
      refine Go'.region [(0,0)] rfl ?_
      refine O.asg rfl rfl rfl rfl rfl ?_
      refine Pl.fin [(1,_),(2,_),(4,_)] ⟨rfl,rfl,rfl,trivial⟩ ?_
      refine Go'.ret (vs := [_]) func3 results3 ⟨rfl,trivial⟩ ?_
      exact ⟨rfl,hF⟩
    · skip
      refine Go'.region [(0,1),(1,2),(2,0),(3,0),(4,0),(5,0),(6,0),(7,0)] rfl ?_
      refine O.lds rfl rfl rfl (fun w => ⟨isAgg24 w,sizeOf24 w⟩) rfl rfl mm ?_
      refine O.call rfl rfl rfl call11 rfl (zzFits1_spec (ho.fr hF) hoz) ?_
      rintro _ H1 ⟨rfl,hF1⟩
      replace hF := hF.trans hF1
      replace mm := hF1.rd mm (fun _ _ => nw)
      replace mm0 := hF1.keep mm0 nw
      replace mm1 := hF1.keep mm1 nw
      refine ⟨trivial,?_⟩
      refine O.not rfl rfl rfl rfl rfl ?_
      refine O.mv rfl rfl rfl rfl rfl ?_
      refine O.mv rfl rfl rfl rfl rfl ?_
      refine O.len rfl rfl rfl rfl underlying25 rfl ?_
      refine O.cmp rfl rfl rfl rfl rfl rfl (gtrF (by omega)) ?_
      refine O.pick rfl rfl rfl rfl rfl rfl ?_
      refine Pl.fin [(1,_),(2,_),(4,_),(12,_)] ⟨rfl,rfl,rfl,rfl,trivial⟩ ?_
      refine Go'.condF rfl ?_
      refine Go'.skip ?_
      refine Go'.seq ?_
      cases hfz : fitsb z
      · skip
        refine Go'.region [(0,2),(1,2),(2,2),(3,0),(4,0),(5,1),(6,2),(7,0),(8,0),(9,1),(10,0),(11,2),(12,0),(13,0),(14,0)] rfl ?_
        refine O.call rfl rfl rfl call13 rfl exMake_spec ?_
        rintro _ H2 ⟨rfl,hF2⟩
        replace hF := hF.trans hF2
        replace mm := hF2.rd mm (fun _ _ => nw)
        replace mm0 := hF2.keep mm0 nw
        replace mm1 := hF2.keep mm1 nw
        refine ⟨trivial,?_⟩
        refine O.call rfl rfl rfl call14 rfl exItems_spec ?_
        rintro ev H3 ⟨hev,hF3⟩
        replace hF := hF.trans hF3
        replace mm := hF3.rd mm (fun _ _ => nw)
        replace mm0 := hF3.keep mm0 nw
        replace mm1 := hF3.keep mm1 nw
        refine ⟨trivial,?_⟩
        refine O.call rfl rfl rfl call12 rfl (lawBMinMut_spec (d := 2) (by decide) (InS.nil EN _) (by decide) hev (by decide)) ?_
        rintro _ H4 ⟨rfl,hF4⟩
        replace hF := hF.trans hF4
        replace mm := hF4.rd mm (fun _ _ => nw)
        replace mm0 := hF4.keep mm0 nw
        replace mm1 := hF4.keep mm1 nw
        refine ⟨trivial,?_⟩
        refine O.mv rfl rfl rfl rfl rfl ?_
        refine O.fa0 (off := 1) rfl rfl rfl rfl ⟨_,_,_,underlying24,rfl,rfl,sizeOf3⟩ rfl ?_
        refine O.ld rfl rfl rfl (fun w => ⟨isAgg3 w,sizeOf3 w⟩) rfl mm1 ?_
        refine O.callQ rfl rfl rfl call15 rfl (fits_spec' hfz) trivial ?_
        refine O.not rfl rfl rfl rfl rfl ?_
        refine O.mv rfl rfl rfl rfl rfl ?_
        refine Pl.pass rfl rfl rfl rfl ?_
        refine Pl.pass rfl rfl rfl rfl ?_
        refine Pl.pass2 rfl rfl rfl rfl trivial ?_
        refine O.pick rfl rfl rfl rfl rfl rfl ?_
        refine O.pick rfl rfl rfl rfl rfl rfl ?_
        refine O.asg rfl rfl rfl rfl rfl ?_
        refine Pl.fin [(4,_)] ⟨rfl,trivial⟩ ?_
        refine Go'.ret (vs := [_]) func3 results3 ⟨rfl,trivial⟩ ?_
        exact ⟨rfl,hF⟩
      · skip
        obtain ⟨d,rfl,hd⟩ := fitsb_nat hfz
        refine Go'.region [(0,2),(1,2),(2,2),(3,0),(4,0),(5,1),(6,2),(7,0),(8,0),(9,1),(10,0),(11,2),(12,0),(13,0),(14,0)] rfl ?_
        refine O.call rfl rfl rfl call13 rfl exMake_spec ?_
        rintro _ H2 ⟨rfl,hF2⟩
        replace hF := hF.trans hF2
        replace mm := hF2.rd mm (fun _ _ => nw)
        replace mm0 := hF2.keep mm0 nw
        replace mm1 := hF2.keep mm1 nw
        refine ⟨trivial,?_⟩
        refine O.call rfl rfl rfl call14 rfl exItems_spec ?_
        rintro ev H3 ⟨hev,hF3⟩
        replace hF := hF.trans hF3
        replace mm := hF3.rd mm (fun _ _ => nw)
        replace mm0 := hF3.keep mm0 nw
        replace mm1 := hF3.keep mm1 nw
        refine ⟨trivial,?_⟩
        refine O.call rfl rfl rfl call12 rfl (lawBMinMut_spec (d := 2) (by decide) (InS.nil EN _) (by decide) hev (by decide)) ?_
        rintro _ H4 ⟨rfl,hF4⟩
        replace hF := hF.trans hF4
        replace mm := hF4.rd mm (fun _ _ => nw)
        replace mm0 := hF4.keep mm0 nw
        replace mm1 := hF4.keep mm1 nw
        refine ⟨trivial,?_⟩
        refine O.mv rfl rfl rfl rfl rfl ?_
        refine O.fa0 (off := 1) rfl rfl rfl rfl ⟨_,_,_,underlying24,rfl,rfl,sizeOf3⟩ rfl ?_
        refine O.ld rfl rfl rfl (fun w => ⟨isAgg3 w,sizeOf3 w⟩) rfl mm1 ?_
        refine O.callQ rfl rfl rfl call15 rfl (fits_spec' hfz) trivial ?_
        refine O.not rfl rfl rfl rfl rfl ?_
        refine O.mv rfl rfl rfl rfl rfl ?_
        refine O.lds rfl rfl rfl (fun w => ⟨isAgg24 w,sizeOf24 w⟩) rfl rfl mm ?_
        refine O.mv rfl rfl rfl rfl rfl ?_
        refine O.call rfl rfl rfl call12 rfl (lawBMinMut_spec hd (ho.fr hF) (by omega) (hi.fr hF) (by omega)) ?_
        rintro _ H5 ⟨rfl,hF5⟩
        replace hF := hF.trans hF5
        replace mm := hF5.rd mm (fun _ _ => nw)
        replace mm0 := hF5.keep mm0 nw
        replace mm1 := hF5.keep mm1 nw
        refine ⟨trivial,?_⟩
        refine O.pick rfl rfl rfl rfl rfl rfl ?_
        refine O.pick rfl rfl rfl rfl rfl rfl ?_
        refine O.asg rfl rfl rfl rfl rfl ?_
        refine Pl.fin [(4,_)] ⟨rfl,trivial⟩ ?_
        refine Go'.ret (vs := [_]) func3 results3 ⟨rfl,trivial⟩ ?_
        exact ⟨rfl,hF⟩

end Go.Bt.FB
