/- Contracts of functions of the program, proved by walking through their code. Conditions: those that each theorem names. -/
import Derived.Laws.StructEq
import Derived.Test.YtmboghgpakhceaaTohA
import Derived.Test.YtmboghgpakhceaaToAe
namespace Go.Bt
open Go Go.Proofs Go.Proofs.Try
set_option maxRecDepth 20000
set_option maxHeartbeats 4000000
set_option linter.unusedVariables false

end Go.Bt
namespace Go.Bt
open Go Go.Proofs Go.Proofs.Try
set_option maxRecDepth 20000
set_option maxHeartbeats 4000000
set_option linter.unusedVariables false

end Go.Bt
namespace Go.Bt.FG
open Go Go.Proofs Go.Proofs.Try
set_option maxRecDepth 20000
set_option maxHeartbeats 4000000
set_option linter.unusedVariables false
set_option linter.unusedSectionVars false

@[reducible] def nilCx : Inhabited Cx := ⟨⟨[],0,.bool false,0,fun _ => False⟩⟩
def exl : List (Int × Int) := [(5,1),(3,2),(9,3),(3,4),(1,5),(7,6),(8,7)]
theorem exItems_spec {B : World} {H : Mem} : Fn Try.prog B 32 [] H (fun r H' => InS EJ H' r exl ∧ Fr nowhere H H') := by
  refine fn_of func32 rfl ntmps32 ?_
  refine (show Go' _ _ _ _ 9 [] [.code _] _ from ?_)
  refine Go'.seq ?_
  refine Go'.region [(0,0)] rfl ?_
  refine O.asg rfl rfl rfl rfl rfl ?_
  refine Pl.fin [(0,_)] ⟨rfl,trivial⟩ ?_
  refine Go'.seq ?_
  refine Go'.region [(0,0),(1,0),(2,0),(3,0),(4,0),(5,0),(6,0),(7,2),(8,0)] rfl ?_
  refine O.bld (cs := [.int .i64 5,.int .i64 1]) rfl rfl rfl rfl (st27) rfl (by kernel_rfl) ?_
  refine O.bld (cs := [.int .i64 3,.int .i64 2]) rfl rfl rfl rfl (st27) rfl (by kernel_rfl) ?_
  refine O.bld (cs := [.int .i64 9,.int .i64 3]) rfl rfl rfl rfl (st27) rfl (by kernel_rfl) ?_
  refine O.bld (cs := [.int .i64 3,.int .i64 4]) rfl rfl rfl rfl (st27) rfl (by kernel_rfl) ?_
  refine O.bld (cs := [.int .i64 1,.int .i64 5]) rfl rfl rfl rfl (st27) rfl (by kernel_rfl) ?_
  refine O.bld (cs := [.int .i64 7,.int .i64 6]) rfl rfl rfl rfl (st27) rfl (by kernel_rfl) ?_
  refine O.bld (cs := [.int .i64 8,.int .i64 7]) rfl rfl rfl rfl (st27) rfl (by kernel_rfl) ?_
  refine O.bsl (cs := (row EJ exl)) rfl rfl rfl ⟨underlying25,sizeOf27,zeroValue27,⟨_,typeInfo27,rfl⟩,rfl,by decide,by decide⟩ rfl (by decide) (by kernel_rfl) ?_
  intro H1 M1
  refine ⟨trivial,?_⟩
  refine O.asg rfl rfl rfl rfl rfl ?_
  refine Pl.fin [(0,_)] ⟨rfl,trivial⟩ ?_
  refine Go'.ret (vs := [_]) func32 results32 ⟨rfl,trivial⟩ ?_
  exact ⟨.inl ⟨H.size,0,7,rfl,by decide,M1.rd _ [] (by simp)⟩,M1.fr nowhere⟩

def fitsb (z : Int) : Bool := decide (z = 0) || (decide (2 ≤ z) && decide (z ≤ 128))
theorem fits_spec {B : World} {H : Mem} {z : Int} : Fn Try.prog B 33 [.int .i64 z] H (fun r H' => r = .bool (fitsb z) ∧ H' = H) := by
  refine fn_of func33 rfl ntmps33 ?_
  refine (show Go' _ _ _ _ 13 [(0,_)] [.code _] _ from ?_)
  refine Go'.seq ?_
  refine Go'.region [(0,0)] rfl ?_
  refine O.asg rfl rfl rfl rfl rfl ?_
  refine Pl.fin [(0,_),(2,_)] ⟨rfl,rfl,trivial⟩ ?_
  refine Go'.seq ?_
  by_cases h0 : z = 0
  · skip
    refine Go'.region [(0,0),(1,0),(2,0),(3,0),(4,0),(5,0),(6,0),(7,0),(8,0),(9,0),(10,0)] rfl ?_
    refine O.mv rfl rfl rfl rfl rfl ?_
    refine O.cmp rfl rfl rfl rfl rfl rfl (eqlT (by omega)) ?_
    refine O.mv rfl rfl rfl rfl rfl ?_
    refine Pl.pass rfl rfl rfl rfl ?_
    refine Pl.pass rfl rfl rfl rfl ?_
    refine Pl.pass rfl rfl rfl rfl ?_
    refine Pl.pass rfl rfl rfl rfl ?_
    refine Pl.pass rfl rfl rfl rfl ?_
    refine Pl.pass rfl rfl rfl rfl ?_
    refine O.pick rfl rfl rfl rfl rfl rfl ?_
    refine O.asg rfl rfl rfl rfl rfl ?_
    refine Pl.fin [(2,_)] ⟨rfl,trivial⟩ ?_
    refine Go'.ret (vs := [_]) func33 results33 ⟨rfl,trivial⟩ ?_
    subst h0; exact ⟨rfl,rfl⟩
  by_cases h2 : 2 ≤ z
  · skip
    by_cases h3 : z ≤ 128
    · skip
      refine Go'.region [(0,0),(1,0),(2,0),(3,0),(4,0),(5,0),(6,0),(7,0),(8,0),(9,0),(10,0)] rfl ?_
      refine O.mv rfl rfl rfl rfl rfl ?_
      refine O.cmp rfl rfl rfl rfl rfl rfl (eqlF (by omega)) ?_
      refine O.mv rfl rfl rfl rfl rfl ?_
      refine O.mv rfl rfl rfl rfl rfl ?_
      refine O.cmp rfl rfl rfl rfl rfl rfl (geqT (by omega)) ?_
      refine O.mv rfl rfl rfl rfl rfl ?_
      refine O.mv rfl rfl rfl rfl rfl ?_
      refine O.cmp rfl rfl rfl rfl rfl rfl (leqT (by omega)) ?_
      refine O.pick rfl rfl rfl rfl rfl rfl ?_
      refine O.pick rfl rfl rfl rfl rfl rfl ?_
      refine O.asg rfl rfl rfl rfl rfl ?_
      refine Pl.fin [(2,_)] ⟨rfl,trivial⟩ ?_
      refine Go'.ret (vs := [_]) func33 results33 ⟨rfl,trivial⟩ ?_
      exact ⟨by unfold fitsb; rw [decide_eq_false h0,decide_eq_true h2,decide_eq_true h3]; rfl,rfl⟩
    · skip
      refine Go'.region [(0,0),(1,0),(2,0),(3,0),(4,0),(5,0),(6,0),(7,0),(8,0),(9,0),(10,0)] rfl ?_
      refine O.mv rfl rfl rfl rfl rfl ?_
      refine O.cmp rfl rfl rfl rfl rfl rfl (eqlF (by omega)) ?_
      refine O.mv rfl rfl rfl rfl rfl ?_
      refine O.mv rfl rfl rfl rfl rfl ?_
      refine O.cmp rfl rfl rfl rfl rfl rfl (geqT (by omega)) ?_
      refine O.mv rfl rfl rfl rfl rfl ?_
      refine O.mv rfl rfl rfl rfl rfl ?_
      refine O.cmp rfl rfl rfl rfl rfl rfl (leqF (by omega)) ?_
      refine O.pick rfl rfl rfl rfl rfl rfl ?_
      refine O.pick rfl rfl rfl rfl rfl rfl ?_
      refine O.asg rfl rfl rfl rfl rfl ?_
      refine Pl.fin [(2,_)] ⟨rfl,trivial⟩ ?_
      refine Go'.ret (vs := [_]) func33 results33 ⟨rfl,trivial⟩ ?_
      exact ⟨by unfold fitsb; rw [decide_eq_false h0,decide_eq_true h2,decide_eq_false h3]; rfl,rfl⟩
  · skip
    refine Go'.region [(0,0),(1,0),(2,0),(3,0),(4,0),(5,0),(6,0),(7,0),(8,0),(9,0),(10,0)] rfl ?_
    refine O.mv rfl rfl rfl rfl rfl ?_
    refine O.cmp rfl rfl rfl rfl rfl rfl (eqlF (by omega)) ?_
    refine O.mv rfl rfl rfl rfl rfl ?_
    refine O.mv rfl rfl rfl rfl rfl ?_
    refine O.cmp rfl rfl rfl rfl rfl rfl (geqF (by omega)) ?_
    refine O.mv rfl rfl rfl rfl rfl ?_
    refine Pl.pass rfl rfl rfl rfl ?_
    refine Pl.pass rfl rfl rfl rfl ?_
    refine O.pick rfl rfl rfl rfl rfl rfl ?_
    refine O.pick rfl rfl rfl rfl rfl rfl ?_
    refine O.asg rfl rfl rfl rfl rfl ?_
    refine Pl.fin [(2,_)] ⟨rfl,trivial⟩ ?_
    refine Go'.ret (vs := [_]) func33 results33 ⟨rfl,trivial⟩ ?_
    exact ⟨by unfold fitsb; rw [decide_eq_false h0,decide_eq_false h2]; rfl,rfl⟩

theorem fits_spec' {B : World} {H : Mem} {z : Int} {b : Bool} (h : fitsb z = b) : Fn Try.prog B 33 [.int .i64 z] H (fun r H' => r = .bool b ∧ H' = H) := h ▸ fits_spec
theorem fitsb_nat {z : Int} (h : fitsb z = true) : ∃ d : Nat,z = (d : Int) ∧ (d = 0 ∨ 2 ≤ d ∧ d ≤ 128) := by
  unfold fitsb at h
  simp only [Bool.or_eq_true,Bool.and_eq_true,decide_eq_true_eq] at h
  exact ⟨z.toNat,by omega,by omega⟩

theorem st24 : StT Try.prog 24 [(0,1),(1,1),(2,1)] [.slice none 0 0,.int .i64 0,.bool false] := ⟨⟨_,underlying24,fun w => by simp [Array.mapM_eq_mapM_toList,sizeOf3,sizeOf4,sizeOf22]⟩,zeroValue24⟩

theorem exMake_spec {B : World} {H : Mem} : Fn Try.prog B 30 [] H (fun r H' => r = .agg #[.slice none 0 0,.int .i64 ((2 : Nat) : Int),.bool false] ∧ Fr nowhere H H') := by
  refine fn_of func30 rfl ntmps30 ?_
  refine (show Go' _ _ _ _ 2 [] [.code _] _ from ?_)
  refine Go'.seq ?_
  refine Go'.region [(0,2)] rfl ?_
  refine O.alloc rfl rfl rfl zeroValue24 ?_
  intro H1 M1
  refine ⟨trivial,?_⟩
  have mw : Wr H1 H.size 0 3 := M1.wr 3 (by decide)
  refine Pl.fin [(0,_)] ⟨rfl,trivial⟩ ?_
  refine Go'.seq ?_
  refine Go'.region [(0,0),(1,2)] rfl ?_
  refine O.bld (cs := [.slice none 0 0,.int .i64 ((2 : Nat) : Int),.bool false]) rfl rfl rfl rfl (st24) rfl (by kernel_rfl) ?_
  refine O.st rfl rfl sizeOf24 rfl rfl rfl rfl rfl mw ?_
  intro H2 W2
  refine ⟨trivial,?_⟩
  refine Pl.fin [(0,_)] ⟨rfl,trivial⟩ ?_
  refine Go'.ret (vs := [_]) func30 results30 ⟨⟨_,_,rfl,fun _ _ => run_loadVar_agg (fun w => ⟨isAgg24 w,sizeOf24 w⟩) rfl W2.all⟩,trivial⟩ ?_
  exact ⟨rfl,(M1.fr nowhere).trans' W2.fr (fun _ _ _ h => h) (fun b o hb h => by have h' := h.1; omega)⟩

theorem ifound_spec {B : World} {H : Mem} {o : Option (Int × Int)} : Fn Try.prog B 104 [PV o,.bool o.isSome] H (fun r H' => r = FV o ∧ Fr nowhere H H') := by
  have hF : Fr nowhere H H := Fr.refl _ _
  unfold PV
  cases o with
  | none =>
    refine fn_of func104 rfl ntmps104 ?_
    refine (show Go' _ _ _ _ 10 [(0,_),(1,_)] [.code _] _ from ?_)
    refine Go'.seq ?_
    refine Go'.region [(0,2),(1,2)] rfl ?_
    refine O.box rfl rfl rfl rfl ?_
    intro B1 MB1
    refine ⟨trivial,?_⟩
    have hsB1 := MB1.size
    replace hF := hF.trans (MB1.fr nowhere)
    have mx : Rd B1 H.size 0 (EJ.enc ((none : Option (Int × Int)).getD (0,0))) := MB1.rd _ [] (by simp [Value.cells])
    refine O.alloc rfl rfl rfl zeroValue68 ?_
    intro B2 MB2
    refine ⟨trivial,?_⟩
    have hsB2 := MB2.size
    replace hF := hF.trans (MB2.fr nowhere)
    replace mx := (MB2.fr nowhere).rd mx (fun _ _ => nw)
    have mw0 : Wr B2 B1.size 0 3 := MB2.wr 3 (by decide)
    refine Pl.fin [(1,_),(2,_),(4,_)] ⟨rfl,rfl,rfl,trivial⟩ ?_
    refine Go'.seq ?_
    refine Go'.seq ?_
    refine Go'.region [(0,0),(1,0)] rfl ?_
    refine O.mv rfl rfl rfl rfl rfl ?_
    refine O.not rfl rfl rfl rfl rfl ?_
    refine Pl.fin [(2,_),(4,_),(6,_)] ⟨rfl,rfl,rfl,trivial⟩ ?_
    refine Go'.condT rfl ?_
    refine Go'.seq ?_
    refine Go'.region [(0,0),(1,2)] rfl ?_
    refine O.bld (cs := [.int .i64 0,.int .i64 0,.bool false]) rfl rfl rfl rfl (st68) rfl (by kernel_rfl) ?_
    refine O.st (vs := (fvs none)) rfl rfl sizeOf68 rfl rfl rfl rfl rfl mw0 ?_
    intro H3 W3
    replace hF := hF.trans' W3.fr (fun _ _ _ h => h) (fun b o hb h => by have h' := h.1; omega)
    replace mx := W3.fr.rd mx (fun _ _ => nr (.inl (by omega)))
    replace mw0 := W3.fr.wr mw0
    refine ⟨trivial,?_⟩
    refine Pl.fin [(2,_),(4,_)] ⟨rfl,rfl,trivial⟩ ?_
    refine Go'.ret (vs := [_]) func104 results104 ⟨⟨_,_,rfl,fun _ _ => run_loadVar_agg (fun w => ⟨isAgg68 w,sizeOf68 w⟩) rfl W3.all⟩,trivial⟩ ?_
    exact ⟨rfl,hF⟩
  | some y =>
    refine fn_of func104 rfl ntmps104 ?_
    refine (show Go' _ _ _ _ 10 [(0,_),(1,_)] [.code _] _ from ?_)
    refine Go'.seq ?_
    refine Go'.region [(0,2),(1,2)] rfl ?_
    refine O.box rfl rfl rfl rfl ?_
    intro B1 MB1
    refine ⟨trivial,?_⟩
    have hsB1 := MB1.size
    replace hF := hF.trans (MB1.fr nowhere)
    have mx : Rd B1 H.size 0 (EJ.enc ((some y).getD (0,0))) := MB1.rd _ [] (by simp [Value.cells])
    refine O.alloc rfl rfl rfl zeroValue68 ?_
    intro B2 MB2
    refine ⟨trivial,?_⟩
    have hsB2 := MB2.size
    replace hF := hF.trans (MB2.fr nowhere)
    replace mx := (MB2.fr nowhere).rd mx (fun _ _ => nw)
    have mw0 : Wr B2 B1.size 0 3 := MB2.wr 3 (by decide)
    refine Pl.fin [(1,_),(2,_),(4,_)] ⟨rfl,rfl,rfl,trivial⟩ ?_
    refine Go'.seq ?_
    refine Go'.seq ?_
    refine Go'.region [(0,0),(1,0)] rfl ?_
    refine O.mv rfl rfl rfl rfl rfl ?_
    refine O.not rfl rfl rfl rfl rfl ?_
    refine Pl.fin [(2,_),(4,_),(6,_)] ⟨rfl,rfl,rfl,trivial⟩ ?_
    refine Go'.condF rfl ?_
    refine Go'.skip ?_
    refine Go'.seq ?_
    refine Go'.region [(0,1),(1,0),(2,2)] rfl ?_
    refine O.lds rfl rfl rfl (fun w => ⟨isAgg27 w,sizeOf27 w⟩) rfl rfl mx ?_
    refine O.bld (cs := [.int .i64 y.1,.int .i64 y.2,.bool true]) rfl rfl rfl rfl (st68) rfl (by kernel_rfl) ?_
    refine O.st (vs := (fvs (some y))) rfl rfl sizeOf68 rfl rfl rfl rfl rfl mw0 ?_
    intro H3 W3
    replace hF := hF.trans' W3.fr (fun _ _ _ h => h) (fun b o hb h => by have h' := h.1; omega)
    replace mx := W3.fr.rd mx (fun _ _ => nr (.inl (by omega)))
    replace mw0 := W3.fr.wr mw0
    refine ⟨trivial,?_⟩
    refine Pl.fin [(4,_)] ⟨rfl,trivial⟩ ?_
    refine Go'.ret (vs := [_]) func104 results104 ⟨⟨_,_,rfl,fun _ _ => run_loadVar_agg (fun w => ⟨isAgg68 w,sizeOf68 w⟩) rfl W3.all⟩,trivial⟩ ?_
    exact ⟨rfl,hF⟩

end Go.Bt.FG
namespace Go.Bt.FG
open Go Go.Proofs Go.Proofs.Try
set_option maxRecDepth 20000
set_option maxHeartbeats 4000000
set_option linter.unusedVariables false
set_option linter.unusedSectionVars false

theorem fields27 : Try.prog.underlying 27 = some (.struct (Try.prog.fieldsOf 27)) := by unfold Program.fieldsOf; rw [underlying27]
theorem fields68 : Try.prog.underlying 68 = some (.struct (Try.prog.fieldsOf 68)) := by unfold Program.fieldsOf; rw [underlying68]
theorem item_eq (d : Nat) (x : Int × Int) (w : World) : (Op.equalIn (d + 2) 27 (.agg #[.int .i64 x.1,.int .i64 x.2]) (.agg #[.int .i64 x.1,.int .i64 x.2])).run Try.prog w = .ok true w := by
  rw [run_equalIn_agg w (d + 1) 27 _ _ fields27 Try.stoodInHeld27]
  simp [Op.eqFields,Program.fieldsOf,underlying27,part,isAgg3,run_equalIn_int w d 3 _ _ _ _ underlying3]
theorem found_eq (o : Option (Int × Int)) (x y : Operand) (w : World) : (eqGuard .eql 68 x y (.agg (fvs o).toArray) (.agg (fvs o).toArray)).run Try.prog w = .ok () w ∧ (binOp .eql 68 (.agg (fvs o).toArray) (.agg (fvs o).toArray)).run Try.prog w = .ok (.bool true) w := by
  refine ⟨run_eqGuard_agg w _ _ _ _ _ _ Try.eqGuardType68,?_⟩
  rw [run_eql_struct,run_equalIn_agg w 9999 68 _ _ fields68 Try.stoodInHeld68]
  have h : ∀ x y : Int,(Op.equalIn 9999 27 (.agg #[.int .i64 x,.int .i64 y]) (.agg #[.int .i64 x,.int .i64 y])).run Try.prog w = .ok true w := fun x y => item_eq 9997 (x,y) w
  have hb : ∀ b : Bool,(Op.equalIn 9999 4 (.bool b) (.bool b)).run Try.prog w = .ok true w := fun b => by
    have := run_equalIn_bool' w 9998 4 b b underlying4
    simpa using this
  cases o with
  | none => simp [fvs,Op.eqFields,Program.fieldsOf,underlying68,part,isAgg27,sizeOf27,isAgg4,h,hb]
  | some y => simp [fvs,Op.eqFields,Program.fieldsOf,underlying68,part,isAgg27,sizeOf27,isAgg4,h,hb]

theorem found_neq (o : Option (Int × Int)) (a b : Operand) (w : World) : (eqGuard .neq 68 a b (.agg (fvs o).toArray) (.agg (fvs o).toArray)).run Try.prog w = .ok () w ∧ (binOp .neq 68 (.agg (fvs o).toArray) (.agg (fvs o).toArray)).run Try.prog w = .ok (.bool false) w := by
  refine ⟨run_eqGuard_agg w _ _ _ _ _ _ Try.eqGuardType68,?_⟩
  rw [run_neq_struct]
  have h := (found_eq o a b w).2
  rw [run_eql_struct] at h
  have h2 : (Op.equalIn 10000 68 (.agg (fvs o).toArray) (.agg (fvs o).toArray)).run Try.prog w = .ok true w := by
    cases hh : (Op.equalIn 10000 68 (.agg (fvs o).toArray) (.agg (fvs o).toArray)).run Try.prog w with
    | ok x w2 => rw [hh] at h; simp [Result.andThen] at h; obtain ⟨h1,h2⟩ := h; rw [h1,h2]
    | _ => rw [hh] at h; simp [Result.andThen] at h
  rw [h2]; rfl

end Go.Bt.FG
namespace Go.Bt.FG
open Go Go.Proofs Go.Proofs.Try
set_option maxRecDepth 20000
set_option maxHeartbeats 4000000
set_option linter.unusedVariables false
set_option linter.unusedSectionVars false

theorem FVe (o : Option (Int × Int)) : FV o = .agg (fvs o).toArray := FV_eq o
theorem Gt.Good.some {H : Mem} {P : Ps} : ∀ {h : Nat} {t : Gt EJ h},Gt.Good H P h t → 1 ≤ (Gt.X h t).length → 1 ≤ (Gt.L h t).length
  | 0,_,_,h1 => h1
  | h + 1,(g,X,K),hg,h1 => Nat.le_trans h1 (Pl.sublist_inter X (K.map (Gt.L h)) (by have := hg.2.2.2.2.2.1; simp only at this; rw [List.length_map,this]; omega)).length_le
section
variable [Inhabited Cx]
end
end Go.Bt.FG
