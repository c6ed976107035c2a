/- Contracts of functions of the program, proved by walking through their code. Conditions: those that each theorem names. -/
import Derived.Laws.StructEq
import Derived.Test.YtmboghgpakhceaaTogM
import Derived.Test.YtmboghgpakhceaaToHi
namespace Go.Bt.FG
open Go Go.Proofs Go.Proofs.Try
set_option maxRecDepth 20000
set_option maxHeartbeats 4000000
set_option linter.unusedVariables false
set_option linter.unusedSectionVars false

theorem fields27 : Try.prog.underlying 27 = some (.struct (Try.prog.fieldsOf 27)) := by unfold Program.fieldsOf; rw [underlying27]
theorem item_eq (d : Nat) (x : Int × Int) (w : World) : (Op.equalIn (d + 2) 27 (.agg #[.int .i64 x.1,.int .i64 x.2]) (.agg #[.int .i64 x.1,.int .i64 x.2])).run Try.prog w = .ok true w := by
  rw [run_equalIn_agg w (d + 1) 27 _ _ fields27 Try.stoodInHeld27]
  simp [Op.eqFields,Program.fieldsOf,underlying27,part,isAgg3,run_equalIn_int w d 3 _ _ _ _ underlying3]
theorem item_neq (x : Int × Int) (a b : Operand) (w : World) : (eqGuard .neq 27 a b (.agg (EJ.enc x).toArray) (.agg (EJ.enc x).toArray)).run Try.prog w = .ok () w ∧ (binOp .neq 27 (.agg (EJ.enc x).toArray) (.agg (EJ.enc x).toArray)).run Try.prog w = .ok (.bool false) w := by
  refine ⟨run_eqGuard_agg w _ _ _ _ _ _ Try.eqGuardType27,?_⟩
  rw [run_neq_struct]
  have h : (Op.equalIn 10000 27 (.agg (EJ.enc x).toArray) (.agg (EJ.enc x).toArray)).run Try.prog w = .ok true w := item_eq 9998 x w
  rw [h]; rfl
theorem eqItems_spec {B : World} {H : Mem} {u v : Value} {l : List (Int × Int)} (hu : InS EJ H u l) (hv : InS EJ H v l) (hll : l.length ≤ 4294967296) :
    Fn Try.prog B 28 [u,v] H (fun r H' => r = .bool true ∧ H' = H) := by
  obtain ⟨a,c,e⟩ := hu.len
  subst e
  obtain ⟨a',c',e⟩ := hv.len
  subst e
  refine fn_of func28 rfl ntmps28 ?_
  refine (show Go' _ _ _ _ 26 [(0,_),(1,_)] [.code _] _ from ?_)
  refine Go'.seq ?_
  refine Go'.region [(0,0)] rfl ?_
  refine O.asg rfl rfl rfl rfl rfl ?_
  refine Pl.fin [(0,_),(1,_),(4,_)] ⟨rfl,rfl,rfl,trivial⟩ ?_
  refine Go'.seq ?_
  refine Go'.seq ?_
  refine Go'.region [(0,0),(1,0),(2,0),(3,0),(4,0)] rfl ?_
  refine O.mv rfl rfl rfl rfl rfl ?_
  refine O.len rfl rfl rfl rfl underlying25 rfl ?_
  refine O.mv rfl rfl rfl rfl rfl ?_
  refine O.len rfl rfl rfl rfl underlying25 rfl ?_
  refine O.cmp rfl rfl rfl rfl rfl rfl (neqF (by omega)) ?_
  refine Pl.fin [(0,_),(1,_),(4,_),(10,_)] ⟨rfl,rfl,rfl,rfl,trivial⟩ ?_
  refine Go'.condF rfl ?_
  refine Go'.skip ?_
  refine Go'.seq ?_
  refine Go'.seq ?_
  refine Go'.region [(0,0),(1,0),(2,0)] rfl ?_
  refine O.mv rfl rfl rfl rfl rfl ?_
  refine O.len rfl rfl rfl rfl underlying25 rfl ?_
  refine O.mv rfl rfl rfl rfl rfl ?_
  refine Pl.fin [(0,_),(1,_),(4,_),(12,_),(13,_)] ⟨rfl,rfl,rfl,rfl,rfl,trivial⟩ ?_
  refine Go'.block ?_
  refine Go'.loop ?_
  refine Go'.keep [(0,_),(1,_),(4,_),(12,_),(13,_)] ⟨rfl,rfl,rfl,rfl,rfl,trivial⟩ ?_
  refine Go'.ind (σ := Nat) (fun j => l.length - j) (fun j H' => H' = H ∧ j ≤ l.length)
    (fun j => [(0,.slice a l.length c),(1,.slice a' l.length c'),(4,.bool false),(12,.int .i64 (l.length : Int)),(13,.int .i64 (j : Int))]) 0 ⟨rfl,Nat.zero_le _⟩ rfl ?_
  rintro j H2 ⟨hHH,hjl⟩ ih
  have eH : H = H2 := hHH.symm
  subst eH
  clear hHH
  refine Go'.seq ?_
  by_cases hlt : j < l.length
  · skip
    obtain ⟨y,hy⟩ : ∃ y,l[j]? = some y := ⟨l[j],List.getElem?_eq_getElem hlt⟩
    obtain ⟨b,o,cc,e,hr⟩ := hu.at hy
    cases e
    obtain ⟨b',o',cc',e,hr'⟩ := hv.at hy
    cases e
    refine Go'.region [(0,0)] rfl ?_
    refine O.cmp rfl rfl rfl rfl rfl rfl (lssT (by omega)) ?_
    refine Pl.fin [(0,_),(1,_),(4,_),(12,_),(13,_),(14,_)] ⟨rfl,rfl,rfl,rfl,rfl,rfl,trivial⟩ ?_
    refine Go'.seq ?_
    refine Go'.condT rfl ?_
    refine Go'.skip ?_
    refine Go'.seq ?_
    refine Go'.block ?_
    refine Go'.seq ?_
    refine Go'.region [(0,0),(1,0)] rfl ?_
    refine O.mv rfl rfl rfl rfl rfl ?_
    refine O.asg rfl rfl rfl rfl rfl ?_
    refine Pl.fin [(0,_),(1,_),(4,_),(5,_),(12,_),(13,_),(14,_)] ⟨rfl,rfl,rfl,rfl,rfl,rfl,rfl,trivial⟩ ?_
    refine Go'.seq ?_
    refine Go'.draw (fun _ => True) [(0,0),(1,0),(2,0),(3,1),(4,0),(5,0),(6,0),(7,1),(8,0)] (by kernel_rfl) (by kernel_rfl) (trivial) ?_
    refine O.mv rfl rfl rfl rfl rfl ?_
    refine O.mv rfl rfl rfl rfl rfl ?_
    refine O.ix (j := j) rfl rfl rfl rfl underlying25 sizeOf27 rfl rfl (by omega) hlt ?_
    refine O.lds rfl rfl rfl (fun w => ⟨isAgg27 w,sizeOf27 w⟩) rfl rfl hr ?_
    refine O.mv rfl rfl rfl rfl rfl ?_
    refine O.mv rfl rfl rfl rfl rfl ?_
    refine O.ix (j := j) rfl rfl rfl rfl underlying25 sizeOf27 rfl rfl (by omega) hlt ?_
    refine O.lds rfl rfl rfl (fun w => ⟨isAgg27 w,sizeOf27 w⟩) rfl rfl hr' ?_
    refine O.bin rfl rfl rfl rfl rfl rfl (item_neq y _ _) ?_
    refine Pl.fin [(0,_),(1,_),(4,_),(5,_),(12,_),(13,_),(14,_),(24,_)] ⟨rfl,rfl,rfl,rfl,rfl,rfl,rfl,rfl,trivial⟩ ?_
    refine Go'.condF rfl ?_
    refine Go'.skip ?_
    refine Go'.inBlock ?_
    refine Go'.region [(0,0),(1,0)] rfl ?_
    refine O.add (((j + 1 : Nat) : Int)) rfl rfl rfl rfl rfl rfl (by omega) (by omega) ?_
    refine O.mv rfl rfl rfl rfl rfl ?_
    refine Pl.fin [(0,_),(1,_),(4,_),(5,_),(12,_),(13,_),(14,_),(24,_)] ⟨rfl,rfl,rfl,rfl,rfl,rfl,rfl,rfl,trivial⟩ ?_
    refine Go'.keep [(0,_),(1,_),(4,_),(12,_),(13,_)] ⟨rfl,rfl,rfl,rfl,rfl,trivial⟩ ?_
    refine Go'.inLoop ?_
    exact ih (j + 1) H ⟨rfl,hlt⟩ (by omega)
  · skip
    refine Go'.region [(0,0)] rfl ?_
    refine O.cmp rfl rfl rfl rfl rfl rfl (lssF (by omega)) ?_
    refine Pl.fin [(0,_),(1,_),(4,_),(12,_),(13,_),(14,_)] ⟨rfl,rfl,rfl,rfl,rfl,rfl,trivial⟩ ?_
    refine Go'.seq ?_
    refine Go'.condF rfl ?_
    refine Go'.exit rfl ?_
    refine Go'.seq ?_
    refine Go'.region [(0,0)] rfl ?_
    refine O.asg rfl rfl rfl rfl rfl ?_
    refine Pl.fin [(4,_)] ⟨rfl,trivial⟩ ?_
    refine Go'.ret (vs := [_]) func28 results28 ⟨rfl,trivial⟩ ?_
    exact ⟨rfl,rfl⟩

end Go.Bt.FG
namespace Go.Bt.FG
open Go Go.Proofs Go.Proofs.Try
set_option maxRecDepth 20000
set_option maxHeartbeats 4000000
set_option linter.unusedVariables false
set_option linter.unusedSectionVars false

theorem Gt.Good.some {H : Mem} {P : Ps} : ∀ {h : Nat} {t : Gt EJ h},Gt.Good H P h t → 1 ≤ (Gt.X h t).length → 1 ≤ (Gt.L h t).length
  | 0,_,_,h1 => h1
  | h + 1,(g,X,K),hg,h1 => Nat.le_trans h1 (Pl.sublist_inter X (K.map (Gt.L h)) (by have := hg.2.2.2.2.2.1; simp only at this; rw [List.length_map,this]; omega)).length_le
section
variable [Inhabited Cx]
end
end Go.Bt.FG
