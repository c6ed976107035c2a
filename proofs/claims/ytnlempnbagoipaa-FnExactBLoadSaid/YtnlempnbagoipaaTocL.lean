/- Contracts of functions of the program, proved by walking through their code. Conditions: those that each theorem names. -/
import Derived.Test.YtnlempnbagoipaaTobK
import Derived.Test.YtnlempnbagoipaaToRb
import Derived.Test.YtnlempnbagoipaaToCc
import Derived.Test.YtnlempnbagoipaaToMv
import Derived.Test.YtnlempnbagoipaaTobG
namespace Go.Bt.FB
open Go Go.Proofs Go.Proofs.Try
set_option maxRecDepth 20000
set_option maxHeartbeats 4000000
set_option linter.unusedVariables false
set_option linter.unusedSectionVars false

/-- A degree's value: 0 stands for the default. -/
def dg (d : Nat) : Nat := if d = 0 then 32 else d
def PD (d : Nat) : Ps := ⟨1,2 * dg d - 1,dg d - 1⟩
theorem dg_ok {d : Nat} (hd : d = 0 ∨ 2 ≤ d ∧ d ≤ 128) : 2 ≤ dg d ∧ dg d ≤ 128 := by unfold dg; split <;> omega
theorem PD_ok {d : Nat} (hd : d = 0 ∨ 2 ≤ d ∧ d ≤ 128) : PsOk (PD d) := by
  have := dg_ok hd
  exact ⟨by show 2 * dg d - 1 = 2 * (dg d - 1) + 1; omega,by show 1 ≤ dg d - 1; omega,by show 2 * dg d - 1 ≤ 255; omega⟩
/-- A tree header. -/
structure TrN (H : Mem) (tr id mx mn : Nat) (lv : Value) : Prop where
  iso : cl H tr 0 = some (.int .u64 (id : Int))
  rt : cl H tr 2 = some (.pointer none)
  cnt : cl H tr 3 = some (.int .i64 0)
  emp : Rd H tr 7 [.nilIface]
  mn' : cl H tr 9 = some (.int .i64 (mn : Int))
  mx' : cl H tr 8 = some (.int .i64 (mx : Int))
  cv : cl H tr 4 = some (.bool false)
  icv : cl H tr 5 = some (.bool false)
  le : cl H tr 6 = some lv
  wr : Wr H tr 0 10
theorem TrN.fr {H H' : Mem} {tr id mx mn : Nat} {lv : Value} {Z : Nat → Nat → Prop} (h : TrN H tr id mx mn lv) (hf : Fr Z H H') (hz : ∀ o,¬ Z tr o) : TrN H' tr id mx mn lv :=
  ⟨hf.keep h.iso (hz _),hf.keep h.rt (hz _),hf.keep h.cnt (hz _),hf.rd h.emp (fun _ _ => hz _),hf.keep h.mn' (hz _),hf.keep h.mx' (hz _),hf.keep h.cv (hz _),hf.keep h.icv (hz _),hf.keep h.le (hz _),hf.wr h.wr⟩
theorem st112 : StT Try.prog 112 [(0,1),(1,1)] [.int .i64 0,.bool false] := ⟨⟨_,underlying112,fun w => by simp [Array.mapM_eq_mapM_toList,sizeOf3,sizeOf4]⟩,zeroValue112⟩

theorem degG_spec {B : World} {H : Mem} {d : Nat} (hd : d = 0 ∨ 2 ≤ d ∧ d ≤ 128) :
    Fn Try.prog B 138 [.int .i64 (d : Int)] H (fun v H' => v = .tuple #[.int .i64 ((dg d - 1 : Nat) : Int),.int .i64 ((2 * dg d - 1 : Nat) : Int)] ∧ H' = H) := by
  rcases hd with rfl | hd
  rotate_left
  · rw [show dg d = d by unfold dg; rw [if_neg (by omega)]]; haveI : Inhabited Cx := ⟨⟨[],0,0,.bool false,0,fun _ => False⟩⟩; exact deg_spec hd
  refine fn_of func138 rfl ntmps138 ?_
  refine (show Go' _ _ _ _ 15 [(0,_)] [.code _] _ from ?_)
  refine Go'.seq ?_
  refine Go'.region [(0,0),(1,0)] rfl ?_
  refine O.asg rfl rfl rfl rfl rfl ?_
  refine O.asg rfl rfl rfl rfl rfl ?_
  refine Pl.fin [(0,_),(2,_),(3,_)] ⟨rfl,rfl,rfl,trivial⟩ ?_
  refine Go'.seq ?_
  refine Go'.seq ?_
  refine Go'.region [(0,0),(1,0)] rfl ?_
  refine O.mv rfl rfl rfl rfl rfl ?_
  refine O.cmp rfl rfl rfl rfl rfl rfl (leqT (by omega)) ?_
  refine Pl.fin [(0,_),(2,_),(3,_),(5,_)] ⟨rfl,rfl,rfl,rfl,trivial⟩ ?_
  refine Go'.condT rfl ?_
  refine Go'.region [(0,0)] rfl ?_
  refine O.asg rfl rfl rfl rfl rfl ?_
  refine Pl.fin [(0,_),(2,_),(3,_)] ⟨rfl,rfl,rfl,trivial⟩ ?_
  refine Go'.seq ?_
  refine Go'.region [(0,0),(1,0),(2,0),(3,0)] rfl ?_
  refine O.mv rfl rfl rfl rfl rfl ?_
  refine O.mul (((64 : Nat) : Int)) rfl rfl rfl rfl rfl rfl (by omega) (by omega) ?_
  refine O.sub (((63 : Nat) : Int)) rfl rfl rfl rfl rfl rfl (by omega) (by omega) ?_
  refine O.asg rfl rfl rfl rfl rfl ?_
  refine Pl.fin [(2,_),(3,_)] ⟨rfl,rfl,trivial⟩ ?_
  refine Go'.seq ?_
  refine Go'.region [(0,0),(1,0),(2,0)] rfl ?_
  refine O.mv rfl rfl rfl rfl rfl ?_
  refine O.quo (((31 : Nat) : Int)) rfl rfl rfl rfl rfl rfl (by decide) rfl (by omega) ?_
  refine O.asg rfl rfl rfl rfl rfl ?_
  refine Pl.fin [(2,_),(3,_)] ⟨rfl,rfl,trivial⟩ ?_
  refine Go'.seq ?_
  refine Go'.region [(0,0),(1,0),(2,0),(3,0)] rfl ?_
  refine O.mv rfl rfl rfl rfl rfl ?_
  refine O.mv rfl rfl rfl rfl rfl ?_
  refine O.asg rfl rfl rfl rfl rfl ?_
  refine O.asg rfl rfl rfl rfl rfl ?_
  refine Pl.fin [(2,_),(3,_)] ⟨rfl,rfl,trivial⟩ ?_
  refine Go'.ret (vs := [_,_]) func138 results138 ⟨rfl,rfl,trivial⟩ ?_
  exact ⟨rfl,rfl⟩

theorem init_new {B : World} {H : Mem} {tr id d : Nat} {lv : Value} (hd : d = 0 ∨ 2 ≤ d ∧ d ≤ 128) (h : TrN H tr id 0 0 lv) :
    Fn Try.prog B 125 [.pointer (some ⟨tr,0,none⟩),.int .i64 (d : Int)] H (fun v H' => v = resVal [] ∧ H'.size = H.size ∧ Fr (fun b _ => b = tr) H H' ∧ TrN H' tr id (2 * dg d - 1) (dg d - 1) lv) := by
  obtain ⟨h0,h2,h3,he,h6,h7,h8,h9,hle,hw⟩ := h
  have htl : tr < H.size := cl_lt h0
  have hF : Fr (fun b _ => b = tr) H H := Fr.refl _ _
  refine fn_of func125 rfl ntmps125 ?_
  refine (show Go' _ _ _ _ 47 [(0,_),(1,_)] [.code _] _ from ?_)
  refine Go'.seq ?_
  refine Go'.seq ?_
  refine Go'.region [(0,0),(1,0),(2,0),(3,1),(4,0)] rfl ?_
  refine O.mv rfl rfl rfl rfl rfl ?_
  refine O.nc rfl rfl rfl rfl rfl ?_
  refine O.fa0 (off := 9) rfl rfl rfl rfl ⟨_,_,_,underlying138,rfl,rfl,sizeOf3⟩ rfl ?_
  refine O.ld rfl rfl rfl (fun w => ⟨isAgg3 w,sizeOf3 w⟩) rfl h6 ?_
  refine O.cmp rfl rfl rfl rfl rfl rfl (neqF (by omega)) ?_
  refine Pl.fin [(0,_),(1,_),(8,_)] ⟨rfl,rfl,rfl,trivial⟩ ?_
  refine Go'.condF rfl ?_
  refine Go'.skip ?_
  refine Go'.seq ?_
  refine Go'.region [(0,0),(1,0),(2,0),(3,2),(4,0),(5,0),(6,0),(7,0),(8,0),(9,2),(10,0),(11,0),(12,2)] rfl ?_
  refine O.mv rfl rfl rfl rfl rfl ?_
  refine O.mv rfl rfl rfl rfl rfl ?_
  refine O.mv rfl rfl rfl rfl rfl ?_
  refine O.callQ rfl rfl rfl call138 rfl (degG_spec hd) trivial ?_
  refine O.mv rfl rfl rfl rfl rfl ?_
  refine O.ext rfl rfl rfl rfl rfl rfl ?_
  refine O.ext rfl rfl rfl rfl rfl rfl ?_
  refine O.nc rfl rfl rfl rfl rfl ?_
  refine O.fa0 (off := 9) rfl rfl rfl rfl ⟨_,_,_,underlying138,rfl,rfl,sizeOf3⟩ rfl ?_
  refine O.st rfl rfl sizeOf3 rfl rfl rfl rfl rfl (hw.at0 9 1 (by omega)) ?_
  intro H1 W1
  have hsW1 := W1.size
  replace h0 := W1.keep1 h0 (by omega)
  replace h2 := W1.keep1 h2 (by omega)
  replace h3 := W1.keep1 h3 (by omega)
  replace he := W1.fr.rd he (fun i hi => nr (by simp only [List.length_cons,List.length_nil] at hi ⊢; omega))
  replace h6 := W1.at
  replace h7 := W1.keep1 h7 (by omega)
  replace h8 := W1.keep1 h8 (by omega)
  replace h9 := W1.keep1 h9 (by omega)
  replace hle := W1.keep1 hle (by omega)
  replace hw := W1.fr.wr hw
  replace hF := hF.trans' W1.fr (fun _ _ _ h => h) (fun b o _ h => h.1)
  refine ⟨trivial,?_⟩
  refine O.nc rfl rfl rfl rfl rfl ?_
  refine O.fa0 (off := 8) rfl rfl rfl rfl ⟨_,_,_,underlying138,rfl,rfl,sizeOf3⟩ rfl ?_
  refine O.st rfl rfl sizeOf3 rfl rfl rfl rfl rfl (hw.at0 8 1 (by omega)) ?_
  intro H2 W2
  have hsW2 := W2.size
  replace h0 := W2.keep1 h0 (by omega)
  replace h2 := W2.keep1 h2 (by omega)
  replace h3 := W2.keep1 h3 (by omega)
  replace he := W2.fr.rd he (fun i hi => nr (by simp only [List.length_cons,List.length_nil] at hi ⊢; omega))
  replace h6 := W2.keep1 h6 (by omega)
  replace h7 := W2.at
  replace h8 := W2.keep1 h8 (by omega)
  replace h9 := W2.keep1 h9 (by omega)
  replace hle := W2.keep1 hle (by omega)
  replace hw := W2.fr.wr hw
  replace hF := hF.trans' W2.fr (fun _ _ _ h => h) (fun b o _ h => h.1)
  refine ⟨trivial,?_⟩
  refine Pl.fin [(0,_)] ⟨rfl,trivial⟩ ?_
  refine Go'.seq ?_
  refine Go'.region [(0,0),(1,0),(2,0),(3,0),(4,1),(5,0),(6,0),(7,0),(8,0),(9,0),(10,0),(11,2)] rfl ?_
  refine O.mv rfl rfl rfl rfl rfl ?_
  refine O.mv rfl rfl rfl rfl rfl ?_
  refine O.nc rfl rfl rfl rfl rfl ?_
  refine O.fa0 (off := 7) rfl rfl rfl rfl ⟨_,_,_,underlying138,rfl,rfl,sizeOf20⟩ rfl ?_
  refine O.ld rfl rfl rfl (fun w => ⟨isAgg20 w,sizeOf20 w⟩) rfl ((he) 0 _ rfl) ?_
  refine O.tya rfl rfl rfl rfl rfl (run_assert_nil underlying164 zeroValue164) ?_
  refine O.mv rfl rfl rfl rfl rfl ?_
  refine O.ext rfl rfl rfl rfl rfl rfl ?_
  refine O.ext rfl rfl rfl rfl rfl rfl ?_
  refine O.nc rfl rfl rfl rfl rfl ?_
  refine O.fa0 (off := 4) rfl rfl rfl rfl ⟨_,_,_,underlying138,rfl,rfl,sizeOf4⟩ rfl ?_
  refine O.st rfl rfl sizeOf4 rfl rfl rfl rfl rfl (hw.at0 4 1 (by omega)) ?_
  intro H3 W3
  have hsW3 := W3.size
  replace h0 := W3.keep1 h0 (by omega)
  replace h2 := W3.keep1 h2 (by omega)
  replace h3 := W3.keep1 h3 (by omega)
  replace he := W3.fr.rd he (fun i hi => nr (by simp only [List.length_cons,List.length_nil] at hi ⊢; omega))
  replace h6 := W3.keep1 h6 (by omega)
  replace h7 := W3.keep1 h7 (by omega)
  replace h8 := W3.at
  replace h9 := W3.keep1 h9 (by omega)
  replace hle := W3.keep1 hle (by omega)
  replace hw := W3.fr.wr hw
  replace hF := hF.trans' W3.fr (fun _ _ _ h => h) (fun b o _ h => h.1)
  refine ⟨trivial,?_⟩
  refine Pl.fin [(0,_)] ⟨rfl,trivial⟩ ?_
  refine Go'.seq ?_
  refine Go'.region [(0,0),(1,0),(2,0),(3,1),(4,0)] rfl ?_
  refine O.mv rfl rfl rfl rfl rfl ?_
  refine O.nc rfl rfl rfl rfl rfl ?_
  refine O.fa0 (off := 4) rfl rfl rfl rfl ⟨_,_,_,underlying138,rfl,rfl,sizeOf4⟩ rfl ?_
  refine O.ld rfl rfl rfl (fun w => ⟨isAgg4 w,sizeOf4 w⟩) rfl h8 ?_
  refine O.not rfl rfl rfl rfl rfl ?_
  refine Pl.fin [(0,_),(35,_)] ⟨rfl,rfl,trivial⟩ ?_
  refine Go'.condT rfl ?_
  refine Go'.region [(0,0),(1,0),(2,0),(3,0),(4,1),(5,0),(6,0),(7,0),(8,0),(9,0),(10,0),(11,2)] rfl ?_
  refine O.mv rfl rfl rfl rfl rfl ?_
  refine O.mv rfl rfl rfl rfl rfl ?_
  refine O.nc rfl rfl rfl rfl rfl ?_
  refine O.fa0 (off := 7) rfl rfl rfl rfl ⟨_,_,_,underlying138,rfl,rfl,sizeOf20⟩ rfl ?_
  refine O.ld rfl rfl rfl (fun w => ⟨isAgg20 w,sizeOf20 w⟩) rfl ((he) 0 _ rfl) ?_
  refine O.tya rfl rfl rfl rfl rfl (run_assert_nil underlying167 zeroValue167) ?_
  refine O.mv rfl rfl rfl rfl rfl ?_
  refine O.ext rfl rfl rfl rfl rfl rfl ?_
  refine O.ext rfl rfl rfl rfl rfl rfl ?_
  refine O.nc rfl rfl rfl rfl rfl ?_
  refine O.fa0 (off := 5) rfl rfl rfl rfl ⟨_,_,_,underlying138,rfl,rfl,sizeOf4⟩ rfl ?_
  refine O.st rfl rfl sizeOf4 rfl rfl rfl rfl rfl (hw.at0 5 1 (by omega)) ?_
  intro H4 W4
  have hsW4 := W4.size
  replace h0 := W4.keep1 h0 (by omega)
  replace h2 := W4.keep1 h2 (by omega)
  replace h3 := W4.keep1 h3 (by omega)
  replace he := W4.fr.rd he (fun i hi => nr (by simp only [List.length_cons,List.length_nil] at hi ⊢; omega))
  replace h6 := W4.keep1 h6 (by omega)
  replace h7 := W4.keep1 h7 (by omega)
  replace h8 := W4.keep1 h8 (by omega)
  replace h9 := W4.at
  replace hle := W4.keep1 hle (by omega)
  replace hw := W4.fr.wr hw
  replace hF := hF.trans' W4.fr (fun _ _ _ h => h) (fun b o _ h => h.1)
  refine ⟨trivial,?_⟩
  refine Pl.fin [] trivial ?_
  refine Go'.fall func125 results125 (vs := []) trivial ?_
  exact ⟨rfl,by omega,hF,⟨h0,h2,h3,he,h6,h7,h8,h9,hle,hw⟩⟩

theorem newIso_spec {B : World} {H : Mem} {c : Nat} (hc : cl H c 0 = some (.int .u64 0)) (hw : Wr H c 0 1) :
    Fn Try.prog B 124 [.pointer (some ⟨c,0,none⟩)] H (fun v H' => v = .int .u64 ((1 : Nat) : Int) ∧ Fr (fun b _ => b = c) H H') := by
  refine fn_of func124 rfl ntmps124 ?_
  refine (show Go' _ _ _ _ 11 [(0,_)] [.code _] _ from ?_)
  refine Go'.seq ?_
  refine Go'.region [(0,0)] rfl ?_
  refine O.asg rfl rfl rfl rfl rfl ?_
  refine Pl.fin [(0,_),(2,_)] ⟨rfl,rfl,trivial⟩ ?_
  refine Go'.seq ?_
  refine Go'.region [(0,0),(1,0),(2,1),(3,0),(4,0),(5,2)] rfl ?_
  refine O.mv rfl rfl rfl rfl rfl ?_
  refine O.nc rfl rfl rfl rfl rfl ?_
  refine O.ld rfl rfl rfl (fun w => ⟨isAgg135 w,sizeOf135 w⟩) rfl hc ?_
  refine O.bin rfl rfl rfl rfl rfl rfl (fun w => ⟨run_eqGuard_int _ _ _ _ _ _ _ _ w,rfl⟩) ?_
  refine O.nc rfl rfl rfl rfl rfl ?_
  refine O.st rfl rfl sizeOf135 rfl rfl rfl rfl rfl hw ?_
  intro H1 W1
  refine ⟨trivial,?_⟩
  refine Pl.fin [(0,_),(2,_)] ⟨rfl,rfl,trivial⟩ ?_
  refine Go'.seq ?_
  refine Go'.region [(0,0),(1,0),(2,1),(3,0)] rfl ?_
  refine O.mv rfl rfl rfl rfl rfl ?_
  refine O.nc rfl rfl rfl rfl rfl ?_
  refine O.ld rfl rfl rfl (fun w => ⟨isAgg135 w,sizeOf135 w⟩) rfl W1.at ?_
  refine O.asg rfl rfl rfl rfl rfl ?_
  refine Pl.fin [(2,_)] ⟨rfl,trivial⟩ ?_
  refine Go'.ret (vs := [_]) func124 results124 ⟨rfl,trivial⟩ ?_
  exact ⟨rfl,W1.fr.mono fun b o _ h => h.1⟩

theorem newTree_spec {B : World} {H : Mem} {d : Nat} {nl : Bool} {g : FuncId} {ob : Nat} (hd : d = 0 ∨ 2 ≤ d ∧ d ≤ 128) :
    Fn Try.prog B 99 [.func (.func g) #[] #[ptr ob],.agg #[.int .i64 (d : Int),.bool nl]] H (fun r H' => ∃ tr,r = ptr tr ∧ H.size ≤ tr ∧ tr < H'.size ∧ Fr nowhere H H' ∧ TrN H' tr 1 (2 * dg d - 1) (dg d - 1) (.func (.func g) #[] #[ptr ob])) := by
  refine fn_of func99 rfl ntmps99 ?_
  refine (show Go' _ _ _ _ 28 [(0,_),(1,_)] [.code _] _ from ?_)
  refine Go'.seq ?_
  refine Go'.region [(0,2),(1,0)] rfl ?_
  refine O.box rfl rfl rfl rfl ?_
  intro H0 M0
  refine ⟨trivial,?_⟩
  have hs0 := M0.size
  have mo : Rd H0 H.size 0 [.int .i64 (d : Int),.bool nl] := M0.rd _ [] (by simp [Value.cells])
  refine O.asg rfl rfl rfl rfl rfl ?_
  refine Pl.fin [(0,_),(3,_),(4,_)] ⟨rfl,rfl,rfl,trivial⟩ ?_
  refine Go'.seq ?_
  refine Go'.region [(0,2),(1,0)] rfl ?_
  refine O.alloc rfl rfl rfl zeroValue138 ?_
  intro H1 M1
  refine ⟨trivial,?_⟩
  have hs1 := M1.size
  replace mo := (M1.fr nowhere).rd mo (fun _ _ => nw)
  have hT0 : TrN H1 H0.size 0 0 0 _ := ⟨(M1.cl 0).trans rfl,(M1.cl 2).trans rfl,(M1.cl 3).trans rfl,fun i v h => by
      match i,h with
      | 0,h => exact (M1.cl 7).trans h
      | i + 1,h => simp at h,(M1.cl 9).trans rfl,(M1.cl 8).trans rfl,(M1.cl 4).trans rfl,(M1.cl 5).trans rfl,(M1.cl 6).trans rfl,M1.wr 10 (by decide)⟩
  refine O.asg rfl rfl rfl rfl rfl ?_
  refine Pl.fin [(0,_),(3,_),(4,_),(5,_)] ⟨rfl,rfl,rfl,rfl,trivial⟩ ?_
  refine Go'.seq ?_
  refine Go'.region [(0,0),(1,2),(2,0),(3,0),(4,2)] rfl ?_
  refine O.mv rfl rfl rfl rfl rfl ?_
  refine O.alloc rfl rfl rfl zeroValue135 ?_
  intro H2 M2
  refine ⟨trivial,?_⟩
  have hs2 := M2.size
  replace mo := (M2.fr nowhere).rd mo (fun _ _ => nw)
  replace hT0 := hT0.fr (M2.fr nowhere) (fun _ => nw)
  have hc0 : cl H2 H1.size 0 = some (.int .u64 0) := (M2.cl 0).trans rfl
  have hcw : Wr H2 H1.size 0 1 := M2.wr 1 (by decide)
  refine O.nc rfl rfl rfl rfl rfl ?_
  refine O.fa0 (off := 1) rfl rfl rfl rfl ⟨_,_,_,underlying138,rfl,rfl,sizeOf136⟩ rfl ?_
  refine O.st rfl rfl sizeOf136 rfl rfl rfl rfl rfl (hT0.wr.at0 1 1 (by omega)) ?_
  intro H3 W3
  have hs3 := W3.size
  replace mo := W3.fr.rd mo (fun _ _ => nr (.inl (by omega)))
  replace hc0 := W3.keep1 hc0 (by omega)
  replace hcw := W3.fr.wr hcw
  have hct : cl H3 H0.size 1 = some (.pointer (some ⟨H1.size,0,none⟩)) := W3.at
  have hT0 : TrN H3 H0.size 0 0 0 _ := ⟨(W3.keep1 hT0.iso (by omega)),(W3.keep1 hT0.rt (by omega)),(W3.keep1 hT0.cnt (by omega)),(W3.fr.rd hT0.emp (fun i hi => nr (by simp only [List.length_cons,List.length_nil] at hi ⊢; omega))),(W3.keep1 hT0.mn' (by omega)),(W3.keep1 hT0.mx' (by omega)),(W3.keep1 hT0.cv (by omega)),(W3.keep1 hT0.icv (by omega)),(W3.keep1 hT0.le (by omega)),(W3.fr.wr hT0.wr)⟩
  refine ⟨trivial,?_⟩
  refine Pl.fin [(0,_),(3,_),(4,_),(5,_)] ⟨rfl,rfl,rfl,rfl,trivial⟩ ?_
  refine Go'.seq ?_
  refine Go'.region [(0,0),(1,0),(2,0),(3,0),(4,1),(5,2),(6,0),(7,0),(8,2)] rfl ?_
  refine O.mv rfl rfl rfl rfl rfl ?_
  refine O.mv rfl rfl rfl rfl rfl ?_
  refine O.nc rfl rfl rfl rfl rfl ?_
  refine O.fa0 (off := 1) rfl rfl rfl rfl ⟨_,_,_,underlying138,rfl,rfl,sizeOf136⟩ rfl ?_
  refine O.ld rfl rfl rfl (fun w => ⟨isAgg136 w,sizeOf136 w⟩) rfl hct ?_
  refine O.call rfl rfl rfl call124 rfl (newIso_spec hc0 hcw) ?_
  rintro _ H4 ⟨rfl,hF4⟩
  have hs4 := hF4.size
  replace mo := hF4.rd mo (fun _ _ e => by have e' : H.size = H1.size := e; omega)
  replace hT0 := hT0.fr hF4 (fun _ e => by have e' : H0.size = H1.size := e; omega)
  refine ⟨trivial,?_⟩
  refine O.nc rfl rfl rfl rfl rfl ?_
  refine O.faz rfl rfl rfl rfl ⟨_,_,_,underlying138,rfl,rfl,sizeOf135⟩ rfl ?_
  refine O.st rfl rfl sizeOf135 rfl rfl rfl rfl rfl (hT0.wr.at0 0 1 (by omega)) ?_
  intro H5 W5
  have hs5 := W5.size
  replace mo := W5.fr.rd mo (fun _ _ => nr (.inl (by omega)))
  have hT0 : TrN H5 H0.size 1 0 0 _ := ⟨W5.at,(W5.keep1 hT0.rt (by omega)),(W5.keep1 hT0.cnt (by omega)),(W5.fr.rd hT0.emp (fun i hi => nr (by simp only [List.length_cons,List.length_nil] at hi ⊢; omega))),(W5.keep1 hT0.mn' (by omega)),(W5.keep1 hT0.mx' (by omega)),(W5.keep1 hT0.cv (by omega)),(W5.keep1 hT0.icv (by omega)),(W5.keep1 hT0.le (by omega)),(W5.fr.wr hT0.wr)⟩
  refine ⟨trivial,?_⟩
  refine Pl.fin [(0,_),(3,_),(4,_),(5,_)] ⟨rfl,rfl,rfl,rfl,trivial⟩ ?_
  refine Go'.seq ?_
  refine Go'.region [(0,0),(1,0),(2,0),(3,0),(4,2)] rfl ?_
  refine O.mv rfl rfl rfl rfl rfl ?_
  refine O.mv rfl rfl rfl rfl rfl ?_
  refine O.nc rfl rfl rfl rfl rfl ?_
  refine O.fa0 (off := 6) rfl rfl rfl rfl ⟨_,_,_,underlying138,rfl,rfl,sizeOf109⟩ rfl ?_
  refine O.st rfl rfl sizeOf109 rfl rfl rfl rfl rfl (hT0.wr.at0 6 1 (by omega)) ?_
  intro H6 W6
  have hs6 := W6.size
  replace mo := W6.fr.rd mo (fun _ _ => nr (.inl (by omega)))
  have hT0 : TrN H6 H0.size 1 0 0 (.func (.func g) #[] #[ptr ob]) := ⟨(W6.keep1 hT0.iso (by omega)),(W6.keep1 hT0.rt (by omega)),(W6.keep1 hT0.cnt (by omega)),(W6.fr.rd hT0.emp (fun i hi => nr (by simp only [List.length_cons,List.length_nil] at hi ⊢; omega))),(W6.keep1 hT0.mn' (by omega)),(W6.keep1 hT0.mx' (by omega)),(W6.keep1 hT0.cv (by omega)),(W6.keep1 hT0.icv (by omega)),W6.at,(W6.fr.wr hT0.wr)⟩
  refine ⟨trivial,?_⟩
  refine Pl.fin [(3,_),(4,_),(5,_)] ⟨rfl,rfl,rfl,trivial⟩ ?_
  refine Go'.seq ?_
  refine Go'.region [(0,0),(1,0),(2,1),(3,2)] rfl ?_
  refine O.mv rfl rfl rfl rfl rfl ?_
  refine O.faz rfl rfl rfl rfl ⟨_,_,_,underlying112,rfl,rfl,sizeOf3⟩ rfl ?_
  refine O.ld rfl rfl rfl (fun w => ⟨isAgg3 w,sizeOf3 w⟩) rfl (mo 0 _ rfl) ?_
  refine O.call rfl rfl rfl call125 rfl (init_new hd hT0) ?_
  rintro _ H7 ⟨rfl,hs7,hF7,hT7⟩
  refine ⟨trivial,?_⟩
  refine Pl.fin [(4,_),(5,_)] ⟨rfl,rfl,trivial⟩ ?_
  refine Go'.seq ?_
  refine Go'.region [(0,0),(1,0)] rfl ?_
  refine O.mv rfl rfl rfl rfl rfl ?_
  refine O.asg rfl rfl rfl rfl rfl ?_
  refine Pl.fin [(4,_)] ⟨rfl,trivial⟩ ?_
  refine Go'.ret (vs := [_]) func99 results99 ⟨rfl,trivial⟩ ?_
  refine ⟨H0.size,rfl,by omega,by omega,?_,hT7⟩
  have f1 : Fr nowhere H H2 := ((M0.fr nowhere).trans (M1.fr nowhere)).trans (M2.fr nowhere)
  have f3 : Fr nowhere H H3 := f1.trans' W3.fr (fun _ _ _ h => h) (fun b o hb h => by have h' := h.1; omega)
  have f4 : Fr nowhere H H4 := f3.trans' hF4 (fun _ _ _ h => h) (fun b o hb h => by have h' : b = H1.size := h; omega)
  have f5 : Fr nowhere H H5 := f4.trans' W5.fr (fun _ _ _ h => h) (fun b o hb h => by have h' := h.1; omega)
  have f6 : Fr nowhere H H6 := f5.trans' W6.fr (fun _ _ _ h => h) (fun b o hb h => by have h' := h.1; omega)
  exact f6.trans' hF7 (fun _ _ _ h => h) (fun b o hb h => by have h' : b = H0.size := h; omega)

theorem cloneN_spec {B : World} {H : Mem} {v : Value} {l : List Int} (hi : InS EN H v l) (hll : l.length ≤ 4294967296) :
    Fn Try.prog B 126 [v] H (fun r H' => Acc EN (fun b => H.size ≤ b) H' r l ∧ Fr nowhere H H') := by
  obtain ⟨a,c,rfl⟩ := hi.len
  rcases a with _ | a
  · skip
    obtain rfl : l = [] := by
      rcases hi with ⟨b,o,c',e,_⟩ | ⟨e,_⟩
      · cases e
      · exact e
    refine fn_of func126 rfl ntmps126 ?_
    refine (show Go' _ _ _ _ 8 [(0,_)] [.code _] _ from ?_)
    refine Go'.seq ?_
    refine Go'.region [(0,0)] rfl ?_
    refine O.asg rfl rfl rfl rfl rfl ?_
    refine Pl.fin [(0,_),(2,_)] ⟨rfl,rfl,trivial⟩ ?_
    refine Go'.seq ?_
    refine Go'.seq ?_
    refine Go'.region [(0,0),(1,0)] rfl ?_
    refine O.mv rfl rfl rfl rfl rfl ?_
    refine O.slNil rfl rfl rfl rfl underlying22 rfl rfl ?_
    refine Pl.fin [(0,_),(2,_),(4,_)] ⟨rfl,rfl,rfl,trivial⟩ ?_
    refine Go'.condT rfl ?_
    refine Go'.seq ?_
    refine Go'.region [(0,0)] rfl ?_
    refine O.asg rfl rfl rfl rfl rfl ?_
    refine Pl.fin [(0,_),(2,_)] ⟨rfl,rfl,trivial⟩ ?_
    refine Go'.ret (vs := [_]) func126 results126 ⟨rfl,trivial⟩ ?_
    exact ⟨Acc.nil _ _ _,Fr.refl _ _⟩
  · skip
    refine fn_of func126 rfl ntmps126 ?_
    refine (show Go' _ _ _ _ 8 [(0,_)] [.code _] _ from ?_)
    refine Go'.seq ?_
    refine Go'.region [(0,0)] rfl ?_
    refine O.asg rfl rfl rfl rfl rfl ?_
    refine Pl.fin [(0,_),(2,_)] ⟨rfl,rfl,trivial⟩ ?_
    refine Go'.seq ?_
    refine Go'.seq ?_
    refine Go'.region [(0,0),(1,0)] rfl ?_
    refine O.mv rfl rfl rfl rfl rfl ?_
    refine O.slNil rfl rfl rfl rfl underlying22 rfl rfl ?_
    refine Pl.fin [(0,_),(2,_),(4,_)] ⟨rfl,rfl,rfl,trivial⟩ ?_
    refine Go'.condF rfl ?_
    refine Go'.skip ?_
    refine Go'.seq ?_
    refine Go'.region [(0,2),(1,0),(2,2),(3,0)] rfl ?_
    refine O.bsl (cs := []) rfl rfl rfl ⟨underlying22,sizeOf3,zeroValue3,⟨_,typeInfo3,rfl⟩,rfl,by decide,by decide⟩ rfl (by decide) (by kernel_rfl) ?_
    intro H1 M1
    have hs1 := M1.size
    have hA1 := AccN.made (E := EN) M1
    refine ⟨trivial,?_⟩
    refine O.mv rfl rfl rfl rfl rfl ?_
    refine O.appI (E := EN) rfl rfl rfl ⟨underlying22,sizeOf3,zeroValue3,⟨_,typeInfo3,rfl⟩,rfl,by decide,by decide⟩ rfl hA1 rfl (hi.fr (M1.fr nowhere)) (Nat.le_trans (Nat.mul_le_mul_left _ (Nat.le_of_ble_eq_true (n := _) (m := 4096) rfl)) (by simp only [List.length_nil]; omega)) (by simp only [List.length_nil]; omega) ?_
    intro v2 H2 hA2 hF2 hs2
    rw [List.nil_append] at hA2
    refine ⟨trivial,?_⟩
    refine O.asg rfl rfl rfl rfl rfl ?_
    refine Pl.fin [(2,_)] ⟨rfl,trivial⟩ ?_
    refine Go'.ret (vs := [_]) func126 results126 ⟨rfl,trivial⟩ ?_
    exact ⟨.inr (hA2.mono fun b _ hz => hz.elim id (fun h => by omega)),(M1.fr nowhere).trans' hF2 (fun _ _ _ h => h) (fun b o hb hz => by have hz' : H.size ≤ b := hz; omega)⟩

theorem ibefore_spec {B : World} {H : Mem} {v : Value} {ord : List Int} (ho : InS EN H v ord) (hl : ord.length ≤ 4294967296) :
    Fn Try.prog B 100 [v] H (fun r H' => ∃ ob ov,r = .func (.func 127) #[] #[ptr ob] ∧ cl H' ob 0 = some ov ∧ H.size ≤ ob ∧ ob < H'.size ∧ Acc EN (fun b => H.size ≤ b ∧ b ≠ ob) H' ov ord ∧ Fr nowhere H H') := by
  refine fn_of func100 rfl ntmps100 ?_
  refine (show Go' _ _ _ _ 7 [(0,_)] [.code _] _ from ?_)
  refine Go'.seq ?_
  refine Go'.region [(0,0)] rfl ?_
  refine O.asg rfl rfl rfl rfl rfl ?_
  refine Pl.fin [(0,_),(2,_)] ⟨rfl,rfl,trivial⟩ ?_
  refine Go'.seq ?_
  refine Go'.region [(0,0),(1,2),(2,2),(3,2)] rfl ?_
  refine O.mv rfl rfl rfl rfl rfl ?_
  refine O.call rfl rfl rfl call126 rfl (cloneN_spec ho hl) ?_
  rintro ov H1 ⟨hA,hF1⟩
  obtain ⟨oa,om,oc,rfl⟩ := hA.form
  refine ⟨trivial,?_⟩
  refine O.alloc rfl rfl rfl zeroValue22 ?_
  intro H2 M2
  refine ⟨trivial,?_⟩
  have hs2 := M2.size
  have hA2 := (hA.mono (Y := fun b => H.size ≤ b ∧ b ≠ H1.size) (fun b hb hz => ⟨hz,by omega⟩)).fr (M2.fr nowhere) (fun _ _ _ _ => nw)
  have mw : Wr H2 H1.size 0 1 := M2.wr 1 (by decide)
  refine O.st rfl rfl sizeOf22 rfl rfl rfl rfl rfl mw ?_
  intro H3 W3
  have hs3 := W3.size
  have hA3 := hA2.fr W3.fr (fun b o _ hz => nr (.inl hz.2))
  refine ⟨trivial,?_⟩
  refine Pl.fin [(2,_),(3,_)] ⟨rfl,rfl,trivial⟩ ?_
  refine Go'.seq ?_
  refine Go'.region [(0,0),(1,0)] rfl ?_
  refine O.mkf rfl rfl rfl rfl rfl rfl ?_
  refine O.asg rfl rfl rfl rfl rfl ?_
  refine Pl.fin [(2,_)] ⟨rfl,trivial⟩ ?_
  refine Go'.ret (vs := [_]) func100 results100 ⟨rfl,trivial⟩ ?_
  exact ⟨H1.size,_,rfl,W3.at,hF1.size,by omega,hA3,(hF1.trans (M2.fr nowhere)).trans' W3.fr (fun _ _ _ h => h) (fun b o hb h => by have h' := h.1; have := hF1.size; omega)⟩

theorem options_spec {B : World} {H : Mem} {v : Value} {d : Int} {nl : Bool} (hv : ∃ a m c,v = .slice a m c) :
    Fn Try.prog B 76 [.agg #[v,.int .i64 d,.bool nl]] H (fun r H' => r = .agg #[.int .i64 d,.bool nl] ∧ Fr nowhere H H') := by
  obtain ⟨a,m,c,rfl⟩ := hv
  refine fn_of func76 rfl ntmps76 ?_
  refine (show Go' _ _ _ _ 8 [(0,_)] [.code _] _ from ?_)
  refine Go'.seq ?_
  refine Go'.region [(0,2),(1,2)] rfl ?_
  refine O.box rfl rfl rfl rfl ?_
  intro H1 M1
  refine ⟨trivial,?_⟩
  have hs1 := M1.size
  have mo : Rd H1 H.size 0 [.slice a m c,.int .i64 d,.bool nl] := M1.rd _ [] (by simp [Value.cells])
  refine O.alloc rfl rfl rfl zeroValue112 ?_
  intro H2 M2
  refine ⟨trivial,?_⟩
  have hs2 := M2.size
  replace mo := (M2.fr nowhere).rd mo (fun _ _ => nw)
  have mw : Wr H2 H1.size 0 2 := M2.wr 2 (by decide)
  refine Pl.fin [(1,_),(2,_)] ⟨rfl,rfl,trivial⟩ ?_
  refine Go'.seq ?_
  refine Go'.region [(0,0),(1,1),(2,0),(3,1),(4,0),(5,2)] rfl ?_
  refine O.fa0 (off := 1) rfl rfl rfl rfl ⟨_,_,_,underlying24,rfl,rfl,sizeOf3⟩ rfl ?_
  refine O.ld rfl rfl rfl (fun w => ⟨isAgg3 w,sizeOf3 w⟩) rfl (mo 1 _ rfl) ?_
  refine O.fa0 (off := 2) rfl rfl rfl rfl ⟨_,_,_,underlying24,rfl,rfl,sizeOf4⟩ rfl ?_
  refine O.ld rfl rfl rfl (fun w => ⟨isAgg4 w,sizeOf4 w⟩) rfl (mo 2 _ rfl) ?_
  refine O.bld (cs := [.int .i64 d,.bool nl]) rfl rfl rfl rfl (st112) rfl (by kernel_rfl) ?_
  refine O.st rfl rfl sizeOf112 rfl rfl rfl rfl rfl mw ?_
  intro H3 W3
  refine ⟨trivial,?_⟩
  refine Pl.fin [(2,_)] ⟨rfl,trivial⟩ ?_
  refine Go'.ret (vs := [_]) func76 results76 ⟨⟨_,_,rfl,fun _ _ => run_loadVar_agg (fun w => ⟨isAgg112 w,sizeOf112 w⟩) rfl W3.all⟩,trivial⟩ ?_
  exact ⟨rfl,((M1.fr nowhere).trans (M2.fr nowhere)).trans' W3.fr (fun _ _ _ h => h) (fun b o hb h => by have h' := h.1; omega)⟩

theorem beforeAny_spec {B : World} {H : Mem} {v : Value} {ord : List Int} (ho : InS EN H v ord) (hl : ord.length ≤ 4294967296) :
    Fn Try.prog B 75 [v] H (fun r H' => ∃ ob qb ov,r = .func (.func 101) #[] #[ptr ob] ∧ cl H' ob 0 = some (.func (.func 127) #[] #[ptr qb]) ∧ cl H' qb 0 = some ov ∧ H.size ≤ qb ∧ qb < ob ∧ ob < H'.size ∧ Acc EN (fun b => H.size ≤ b ∧ b ≠ ob ∧ b ≠ qb) H' ov ord ∧ Fr nowhere H H') := by
  refine fn_of func75 rfl ntmps75 ?_
  refine (show Go' _ _ _ _ 7 [(0,_)] [.code _] _ from ?_)
  refine Go'.seq ?_
  refine Go'.region [(0,0)] rfl ?_
  refine O.asg rfl rfl rfl rfl rfl ?_
  refine Pl.fin [(0,_),(2,_)] ⟨rfl,rfl,trivial⟩ ?_
  refine Go'.seq ?_
  refine Go'.region [(0,0),(1,2),(2,2),(3,2)] rfl ?_
  refine O.mv rfl rfl rfl rfl rfl ?_
  refine O.call rfl rfl rfl call100 rfl (ibefore_spec ho hl) ?_
  rintro _ H1 ⟨qb,ov,rfl,hq,hq1,hq2,hA,hF1⟩
  refine ⟨trivial,?_⟩
  refine O.alloc rfl rfl rfl zeroValue126 ?_
  intro H2 M2
  refine ⟨trivial,?_⟩
  have hs2 := M2.size
  replace hq := M2.keep hq
  have hA2 := (hA.mono (Y := fun b => H.size ≤ b ∧ b ≠ H1.size ∧ b ≠ qb) (fun b hb hz => ⟨hz.1,by omega,hz.2⟩)).fr (M2.fr nowhere) (fun _ _ _ _ => nw)
  have mw : Wr H2 H1.size 0 1 := M2.wr 1 (by decide)
  refine O.st rfl rfl sizeOf126 rfl rfl rfl rfl rfl mw ?_
  intro H3 W3
  have hs3 := W3.size
  replace hq := W3.keep1 hq (by omega)
  have hA3 := hA2.fr W3.fr (fun b o _ hz => nr (.inl hz.2.1))
  refine ⟨trivial,?_⟩
  refine Pl.fin [(2,_),(3,_)] ⟨rfl,rfl,trivial⟩ ?_
  refine Go'.seq ?_
  refine Go'.region [(0,0),(1,0)] rfl ?_
  refine O.mkf rfl rfl rfl rfl rfl rfl ?_
  refine O.asg rfl rfl rfl rfl rfl ?_
  refine Pl.fin [(2,_)] ⟨rfl,trivial⟩ ?_
  refine Go'.ret (vs := [_]) func75 results75 ⟨rfl,trivial⟩ ?_
  exact ⟨H1.size,qb,_,rfl,W3.at,hq,hq1,hq2,by omega,hA3,(hF1.trans (M2.fr nowhere)).trans' W3.fr (fun _ _ _ h => h) (fun b o hb h => by have h' := h.1; have := hF1.size; omega)⟩

theorem st115 : StT Try.prog 115 [(0,1)] [.pointer none] := ⟨⟨_,underlying115,fun w => by simp [Array.mapM_eq_mapM_toList,sizeOf95]⟩,zeroValue115⟩
theorem newOptions_spec {B : World} {H : Mem} {d : Nat} {nl : Bool} {g : FuncId} {ob : Nat} (hd : d = 0 ∨ 2 ≤ d ∧ d ≤ 128) :
    Fn Try.prog B 74 [.func (.func g) #[] #[ptr ob],.agg #[.int .i64 (d : Int),.bool nl]] H (fun r H' => ∃ tr bt,r = ptr bt ∧ cl H' bt 0 = some (ptr tr) ∧ H.size ≤ tr ∧ tr < bt ∧ bt < H'.size ∧ Fr nowhere H H' ∧ TrN H' tr 1 (2 * dg d - 1) (dg d - 1) (.func (.func g) #[] #[ptr ob])) := by
  refine fn_of func74 rfl ntmps74 ?_
  refine (show Go' _ _ _ _ 13 [(0,_),(1,_)] [.code _] _ from ?_)
  refine Go'.seq ?_
  refine Go'.region [(0,2),(1,0)] rfl ?_
  refine O.box rfl rfl rfl rfl ?_
  intro H0 M0
  refine ⟨trivial,?_⟩
  have hs0 := M0.size
  have mo : Rd H0 H.size 0 [.int .i64 (d : Int),.bool nl] := M0.rd _ [] (by simp [Value.cells])
  refine O.asg rfl rfl rfl rfl rfl ?_
  refine Pl.fin [(0,_),(3,_),(4,_)] ⟨rfl,rfl,rfl,trivial⟩ ?_
  refine Go'.seq ?_
  refine Go'.seq ?_
  refine Go'.region [(0,0),(1,0)] rfl ?_
  refine O.mv rfl rfl rfl rfl rfl ?_
  refine O.bin rfl rfl rfl rfl rfl rfl (run_eqNil_func underlying109) ?_
  refine Pl.fin [(0,_),(3,_),(4,_),(6,_)] ⟨rfl,rfl,rfl,rfl,trivial⟩ ?_
  refine Go'.condF rfl ?_
  refine Go'.skip ?_
  refine Go'.seq ?_
  refine Go'.region [(0,0),(1,1),(2,2),(3,0),(4,2),(5,0)] rfl ?_
  refine O.mv rfl rfl rfl rfl rfl ?_
  refine O.lds rfl rfl rfl (fun w => ⟨isAgg112 w,sizeOf112 w⟩) rfl rfl mo ?_
  refine O.call rfl rfl rfl call99 rfl (newTree_spec hd) ?_
  rintro _ H1 ⟨tr,rfl,ht1,ht2,hF1,hT⟩
  have hs1 := hF1.size
  refine ⟨trivial,?_⟩
  refine O.bld (cs := [ptr tr]) rfl rfl rfl rfl (st115) rfl (by kernel_rfl) ?_
  refine O.box rfl rfl rfl rfl ?_
  intro H2 M2
  refine ⟨trivial,?_⟩
  have hs2 := M2.size
  have hT2 := hT.fr (M2.fr nowhere) (fun _ => nw)
  have hbt : cl H2 H1.size 0 = some (ptr tr) := (M2.cl 0).trans rfl
  refine O.asg rfl rfl rfl rfl rfl ?_
  refine Pl.fin [(4,_)] ⟨rfl,trivial⟩ ?_
  refine Go'.ret (vs := [_]) func74 results74 ⟨rfl,trivial⟩ ?_
  exact ⟨tr,H1.size,rfl,hbt,by omega,ht2,by omega,((M0.fr nowhere).trans hF1).trans (M2.fr nowhere),hT2⟩

section
variable [Inhabited Cx]
theorem bsetHint_spec {B : World} {H : Mem} {tr bt : Nat} {P : Ps} (hP : PsOk P) {S : Nat → Prop} {l : List (Int × Int)} {x : Int × Int} {hv : Value} {hz : Nat → Prop} (hM : MapM H tr P S l) (hb : cl H bt 0 = some (ptr tr)) (hlen : l.length < 2305843009213693952) (hk : HintOk H hv hz) (hzS : ∀ b,hz b → ¬ S b) :
    Fn Try.prog B 98 [ptr bt,iv x,hv] H (fun r H' => HintOk H' hv hz ∧ r = PV (Pl.got OI x l) ∧ ∃ S',MapM H' tr P S' (Pl.put OI x l) ∧ Fr (fun b _ => S b ∨ hz b) H H' ∧ ∀ b,S' b → S b ∨ H.size ≤ b) := by
  unfold ptr at hb ⊢
  refine fn_of func98 rfl ntmps98 ?_
  refine (show Go' _ _ _ _ 25 [(0,_),(1,_),(2,_)] [.code _] _ from ?_)
  refine Go'.seq ?_
  refine Go'.region [(0,0)] rfl ?_
  refine O.asg rfl rfl rfl rfl rfl ?_
  refine Pl.fin [(0,_),(1,_),(2,_),(6,_)] ⟨rfl,rfl,rfl,rfl,trivial⟩ ?_
  refine Go'.seq ?_
  refine Go'.seq ?_
  refine Go'.region [(0,0),(1,0)] rfl ?_
  refine O.mv rfl rfl rfl rfl rfl ?_
  refine O.bin rfl rfl rfl rfl rfl rfl (run_eqNil_iface underlying20) ?_
  refine Pl.fin [(0,_),(1,_),(2,_),(6,_),(10,_)] ⟨rfl,rfl,rfl,rfl,rfl,trivial⟩ ?_
  refine Go'.condF rfl ?_
  refine Go'.skip ?_
  refine Go'.seq ?_
  refine Go'.region [(0,0),(1,0),(2,0),(3,1),(4,0),(5,0),(6,2),(7,0),(8,0),(9,0),(10,0),(11,0)] rfl ?_
  refine O.mv rfl rfl rfl rfl rfl ?_
  refine O.nc rfl rfl rfl rfl rfl ?_
  refine O.faz rfl rfl rfl rfl ⟨_,_,_,underlying115,rfl,rfl,sizeOf95⟩ rfl ?_
  refine O.ld rfl rfl rfl (fun w => ⟨isAgg95 w,sizeOf95 w⟩) rfl hb ?_
  refine O.mv rfl rfl rfl rfl rfl ?_
  refine O.mv rfl rfl rfl rfl rfl ?_
  refine O.call rfl rfl rfl call123 rfl (setHint_spec hP (x := x) hM hlen hk hzS) ?_
  rintro _ H2 ⟨hk2,rfl,S',hM',hF',hS'⟩
  refine ⟨trivial,?_⟩
  refine O.mv rfl rfl rfl rfl rfl ?_
  refine O.ext rfl rfl rfl rfl rfl rfl ?_
  refine O.ext rfl rfl rfl rfl rfl rfl ?_
  refine O.asg rfl rfl rfl rfl rfl ?_
  refine O.asg rfl rfl rfl rfl rfl ?_
  refine Pl.fin [(6,_),(7,_),(8,_)] ⟨rfl,rfl,rfl,trivial⟩ ?_
  refine Go'.seq ?_
  refine Go'.seq ?_
  rw [← Pl.got_isSome OI]
  cases hg : Pl.got OI x l with
  | none =>
    refine Go'.region [(0,0),(1,0)] rfl ?_
    refine O.mv rfl rfl rfl rfl rfl ?_
    refine O.not rfl rfl rfl rfl rfl ?_
    refine Pl.fin [(6,_),(7,_),(23,_)] ⟨rfl,rfl,rfl,trivial⟩ ?_
    refine Go'.condT rfl ?_
    refine Go'.seq ?_
    refine Go'.region [(0,0)] rfl ?_
    refine O.asg rfl rfl rfl rfl rfl ?_
    refine Pl.fin [(6,_),(7,_)] ⟨rfl,rfl,trivial⟩ ?_
    refine Go'.ret (vs := [_]) func98 results98 ⟨rfl,trivial⟩ ?_
    exact ⟨hk2,rfl,S',hM',hF',hS'⟩
  | some y =>
    refine Go'.region [(0,0),(1,0)] rfl ?_
    refine O.mv rfl rfl rfl rfl rfl ?_
    refine O.not rfl rfl rfl rfl rfl ?_
    refine Pl.fin [(6,_),(7,_),(23,_)] ⟨rfl,rfl,rfl,trivial⟩ ?_
    refine Go'.condF rfl ?_
    refine Go'.skip ?_
    refine Go'.seq ?_
    refine Go'.region [(0,0),(1,0)] rfl ?_
    refine O.mv rfl rfl rfl rfl rfl ?_
    refine O.asg rfl rfl rfl rfl rfl ?_
    refine Pl.fin [(6,_)] ⟨rfl,trivial⟩ ?_
    refine Go'.ret (vs := [_]) func98 results98 ⟨rfl,trivial⟩ ?_
    exact ⟨hk2,rfl,S',hM',hF',hS'⟩

theorem bset_spec {B : World} {H : Mem} {tr bt : Nat} {P : Ps} (hP : PsOk P) {S : Nat → Prop} {l : List (Int × Int)} {x : Int × Int} (hM : MapM H tr P S l) (hb : cl H bt 0 = some (ptr tr)) (hlen : l.length < 2305843009213693952) :
    Fn Try.prog B 73 [ptr bt,iv x] H (fun r H' => r = PV (Pl.got OI x l) ∧ ∃ S',MapM H' tr P S' (Pl.put OI x l) ∧ Fr (fun b _ => S b) H H' ∧ ∀ b,S' b → S b ∨ H.size ≤ b) := by
  refine fn_of func73 rfl ntmps73 ?_
  refine (show Go' _ _ _ _ 8 [(0,_),(1,_)] [.code _] _ from ?_)
  refine Go'.seq ?_
  refine Go'.region [(0,0)] rfl ?_
  refine O.asg rfl rfl rfl rfl rfl ?_
  refine Pl.fin [(0,_),(1,_),(4,_)] ⟨rfl,rfl,rfl,trivial⟩ ?_
  refine Go'.seq ?_
  refine Go'.region [(0,0),(1,0),(2,2),(3,0)] rfl ?_
  refine O.mv rfl rfl rfl rfl rfl ?_
  refine O.mv rfl rfl rfl rfl rfl ?_
  refine O.call rfl rfl rfl call98 rfl (bsetHint_spec hP (x := x) (hz := fun _ => False) hM hb hlen (.inl ⟨rfl,fun _ h => h⟩) (fun _ h => h.elim)) ?_
  rintro _ H2 ⟨_,rfl,S',hM',hF',hS'⟩
  refine ⟨trivial,?_⟩
  refine O.asg rfl rfl rfl rfl rfl ?_
  refine Pl.fin [(4,_)] ⟨rfl,trivial⟩ ?_
  refine Go'.ret (vs := [_]) func73 results73 ⟨rfl,trivial⟩ ?_
  exact ⟨rfl,S',hM',hF'.mono (fun _ _ _ h => h.elim id (fun h => h.elim)),hS'⟩
end
/-- A tree header with its order,as the trees know it. -/
theorem TrN.mapM {H : Mem} {H0 tr id mx mn ob qb : Nat} {ov : Value} {ord : List Int} (h : TrN H tr id mx mn (.func (.func 101) #[] #[ptr ob])) (hob : cl H ob 0 = some (.func (.func 127) #[] #[ptr qb])) (hqb : cl H qb 0 = some ov) (hA : Acc EN (fun b => H0 ≤ b ∧ b ≠ ob ∧ b ≠ qb ∧ b ≠ tr) H ov ord) (hol : ord.length < 4611686018427387904) (h1 : H0 ≤ tr) (h2 : H0 ≤ ob) (h4 : H0 ≤ qb) (h3 : ob ≠ tr) (h5 : qb ≠ tr) (htl : tr < H.size) :
    ∃ I : Inhabited Cx,(@cx I).ord = ord ∧ (∀ b,(@cx I).own b ↔ H0 ≤ b) ∧ (@cx I).base = H.size ∧ @MapM I H tr ⟨id,mx,mn⟩ (fun b => b = tr) [] := by
  refine ⟨⟨⟨ord,ob,qb,ov,H.size,fun b => H0 ≤ b⟩⟩,rfl,fun _ => Iff.rfl,rfl,?_⟩
  letI I : Inhabited Cx := ⟨⟨ord,ob,qb,ov,H.size,fun b => H0 ≤ b⟩⟩
  refine @MapM.mk I _ _ _ _ _ (@TrC.mk I _ _ _ _ _ h.iso h.emp h.mn' h.mx' h.cv h.icv h.le h.wr hqb ?_ hol htl (cl_lt hob) h3 (Nat.le_refl _) h1 h2 hob (cl_lt hqb) h5 h4) List.Pairwise.nil h.cnt rfl (fun b hb => by rw [hb]; exact htl) (fun b hb => .inl hb) (.inl ⟨rfl,h.rt⟩)
  rcases hA with ⟨rfl,rfl⟩ | ⟨b,o,c,rfl,hz,hb,hs⟩
  · exact .inr ⟨rfl,none,0,rfl⟩
  · exact .inl ⟨b,o,c,rfl,hs.hle,hs.rd,hb,hz.1,hz.2.2.2⟩
/-- A slice header. -/
theorem InS.form {α : Type} {E : Elt α} {H : Mem} {v : Value} {l : List α} (h : InS E H v l) : ∃ a m c,v = .slice a m c := have ⟨a,c,e⟩ := h.len; ⟨a,_,c,e⟩

theorem grow_spec {B : World} {H : Mem} {d : Nat} {nl : Bool} {v u : Value} {ord : List Int} {l : List (Int × Int)} (hd : d = 0 ∨ 2 ≤ d ∧ d ≤ 128) (ho : InS EN H v ord) (hol : ord.length ≤ 4294967296) (hi : InS EJ H u l) (hll : l.length ≤ 4294967296) :
    Fn Try.prog B 51 [.agg #[v,.int .i64 (d : Int),.bool nl],u] H (fun r H' => ∃ I : Inhabited Cx,(@cx I).ord = ord ∧ (∀ b,(@cx I).own b → H.size ≤ b) ∧ H.size ≤ (@cx I).base ∧ ∃ tr S bt,r = ptr bt ∧ @MapM I H' tr (PD d) S (Pl.puts (@OI I) l) ∧ cl H' bt 0 = some (ptr tr) ∧ H.size ≤ bt ∧ bt < H'.size ∧ ¬ S bt ∧ Fr nowhere H H' ∧ ∀ b,S b → H.size ≤ b) := by
  have hP := PD_ok hd
  obtain ⟨a,c,hu⟩ := hi.len
  subst hu
  obtain ⟨av,mv,cv,hv⟩ := InS.form ho
  subst hv
  refine fn_of func51 rfl ntmps51 ?_
  refine (show Go' _ _ _ _ 26 [(0,_),(1,_)] [.code _] _ from ?_)
  refine Go'.seq ?_
  refine Go'.region [(0,2),(1,0)] rfl ?_
  refine O.box rfl rfl rfl rfl ?_
  intro H1 M1
  refine ⟨trivial,?_⟩
  have hs1 := M1.size
  have mo : Rd H1 H.size 0 [.slice av mv cv,.int .i64 (d : Int),.bool nl] := M1.rd _ [] (by simp [Value.cells])
  have ho1 := ho.fr (M1.fr nowhere)
  have mo0 : cl H1 H.size 0 = some (.slice av mv cv) := mo 0 _ rfl
  refine O.asg rfl rfl rfl rfl rfl ?_
  refine Pl.fin [(1,_),(2,_),(4,_)] ⟨rfl,rfl,rfl,trivial⟩ ?_
  refine Go'.seq ?_
  refine Go'.draw (fun H' => Rd H' H.size 0 [.slice av mv cv,.int .i64 (d : Int),.bool nl]) [(0,0),(1,1),(3,0),(2,2),(4,2),(5,2),(6,0)] (by kernel_rfl) (by kernel_rfl) (mo) ?_
  refine O.faz rfl rfl rfl rfl ⟨_,_,_,underlying24,rfl,rfl,sizeOf22⟩ rfl ?_
  refine O.ld rfl rfl rfl (fun w => ⟨isAgg22 w,sizeOf22 w⟩) rfl mo0 ?_
  refine O.ldsC rfl rfl rfl (fun w => ⟨isAgg24 w,sizeOf24 w⟩) rfl rfl (fun _ h => h) ?_
  refine O.call rfl rfl rfl call75 rfl (beforeAny_spec ho1 hol) ?_
  rintro _ H2 ⟨ob,qb,ov,rfl,hob,hqb,hob1,hob2,hob3,hA2,hF2⟩
  have hs2 := hF2.size
  replace mo := hF2.rd mo (fun _ _ => nw)
  replace mo0 := hF2.keep mo0 nw
  refine ⟨mo,?_⟩
  refine O.call rfl rfl rfl call76 rfl (options_spec ⟨_,_,_,rfl⟩) ?_
  rintro _ H3 ⟨rfl,hF3⟩
  have hs3 := hF3.size
  replace hob := hF3.keep hob nw
  replace hqb := hF3.keep hqb nw
  replace hA2 := hA2.fr hF3 (fun _ _ _ _ => nw)
  replace mo := hF3.rd mo (fun _ _ => nw)
  replace mo0 := hF3.keep mo0 nw
  refine ⟨mo,?_⟩
  refine O.call rfl rfl rfl call74 rfl (newOptions_spec hd) ?_
  rintro _ H4 ⟨tr,bt,rfl,hbt,htr1,htr2,htr3,hF4,hT⟩
  have hs4 := hF4.size
  replace mo := hF4.rd mo (fun _ _ => nw)
  replace mo0 := hF4.keep mo0 nw
  replace hob := hF4.keep hob nw
  replace hqb := hF4.keep hqb nw
  have hA3 := (hA2.mono (Y := fun b => H1.size ≤ b ∧ b ≠ ob ∧ b ≠ qb ∧ b ≠ tr) (fun b hb hz => ⟨hz.1,hz.2.1,hz.2.2,by omega⟩)).fr hF4 (fun _ _ _ _ => nw)
  have hFa : Fr nowhere H H4 := (((M1.fr nowhere).trans hF2).trans hF3).trans hF4
  obtain ⟨I,hIo,hIw,hIb,hM1⟩ := hT.mapM (H0 := H1.size) hob hqb hA3 (by omega) (by omega) (by omega) (by omega) (by omega) (by omega) (by omega)
  unfold ptr
  refine ⟨mo,?_⟩
  refine O.asg rfl rfl rfl rfl rfl ?_
  refine Pl.fin [(1,_),(4,_),(5,_)] ⟨rfl,rfl,rfl,trivial⟩ ?_
  refine Go'.seq ?_
  refine Go'.seq ?_
  clear hA2 hA3 hob hqb hT hF4 hF3 hF2 ho1
  have hOI : OO ord = OI := by rw [← hIo]; rfl
  have hPD : (⟨1,2 * dg d - 1,dg d - 1⟩ : Ps) = PD d := rfl
  rw [hPD] at hM1
  clear hPD
  refine Go'.region [(0,0),(1,0),(2,0)] rfl ?_
  refine O.mv rfl rfl rfl rfl rfl ?_
  refine O.len rfl rfl rfl rfl underlying25 rfl ?_
  refine O.mv rfl rfl rfl rfl rfl ?_
  refine Pl.fin [(4,_),(5,_),(14,_),(15,_),(16,_)] ⟨rfl,rfl,rfl,rfl,rfl,trivial⟩ ?_
  refine Go'.block ?_
  refine Go'.loop ?_
  refine Go'.keep [(4,_),(5,_),(14,_),(15,_),(16,_)] ⟨rfl,rfl,rfl,rfl,rfl,trivial⟩ ?_
  refine Go'.ind (σ := Nat) (fun j => l.length - j) (fun j H' => Fr nowhere H H' ∧ j ≤ l.length ∧ bt < H'.size ∧ cl H' bt 0 = some (ptr tr) ∧ ∃ S,MapM H' tr (PD d) S (Pl.puts OI (l.take j)) ∧ (∀ b,S b → H.size ≤ b) ∧ ¬ S bt)
    (fun j => [(4,.pointer none),(5,.pointer (some ⟨bt,0,none⟩)),(14,.slice a l.length c),(15,.int .i64 (l.length : Int)),(16,.int .i64 (j : Int))]) 0 ⟨hFa,Nat.zero_le _,htr3,hbt,_,hM1,fun b hb => by omega,fun hb => by omega⟩ rfl ?_
  clear hM1
  rintro j H2 ⟨hF,hjl,hbl,hbt,S,hM,hS,hSt⟩ ih
  have hi2 := hi.fr hF
  refine Go'.seq ?_
  by_cases hlt : j < l.length
  · skip
    obtain ⟨y,hy⟩ : ∃ y,l[j]? = some y := ⟨l[j],List.getElem?_eq_getElem hlt⟩
    obtain ⟨b,o,c',e,hr⟩ := hi2.at hy
    cases e
    have hpl := Pl.puts_length OI (l.take j)
    rw [List.length_take] at hpl
    have hlt2 := hM.lt
    have hbs := hM.tc.hb
    have hH2 := hF.size
    refine Go'.region [(0,0)] rfl ?_
    refine O.cmp rfl rfl rfl rfl rfl rfl (lssT (by omega)) ?_
    refine Pl.fin [(4,_),(5,_),(14,_),(15,_),(16,_),(17,_)] ⟨rfl,rfl,rfl,rfl,rfl,rfl,trivial⟩ ?_
    refine Go'.seq ?_
    refine Go'.condT rfl ?_
    refine Go'.skip ?_
    refine Go'.seq ?_
    refine Go'.block ?_
    refine Go'.seq ?_
    refine Go'.region [(0,0),(1,1),(2,2),(3,2)] rfl ?_
    refine O.ix (j := j) rfl rfl rfl rfl underlying25 sizeOf35 rfl rfl (by omega) hlt ?_
    refine O.lds rfl rfl rfl (fun w => ⟨isAgg35 w,sizeOf35 w⟩) rfl rfl hr ?_
    refine O.alloc rfl rfl rfl zeroValue35 ?_
    intro H5 M5
    refine ⟨trivial,?_⟩
    have hs5 := M5.size
    replace hM := hM.fr (M5.fr nowhere) (fun _ _ _ => nw)
    replace hbt := M5.keep hbt
    have m7 : Wr H5 H2.size 0 2 := M5.wr 2 (by decide)
    refine O.st (vs := (EJ.enc y)) rfl rfl sizeOf35 rfl rfl rfl rfl rfl m7 ?_
    intro H6 W6
    have hs6 := W6.size
    replace hM := hM.fr W6.fr (fun b o hb hz => by have h1 := hz.1; exact hb.elim (fun hb => by have h2 := hlt2 b hb; omega) (fun hb => by omega))
    replace hbt := W6.fr.keep hbt (nr (.inl (by omega)))
    have hf6 : Fr nowhere H H6 := hF.trans' ((M5.fr nowhere).trans' W6.fr (Z := nowhere) (fun _ _ _ h => h) (fun b o hb hz => by have h1 := hz.1; omega)) (fun _ _ _ h => h) (fun _ _ _ h => h)
    have k0 : Rd H6 H2.size 0 (EJ.enc y) := W6.all
    refine ⟨trivial,?_⟩
    refine Pl.fin [(4,_),(5,_),(7,_),(14,_),(15,_),(16,_),(17,_)] ⟨rfl,rfl,rfl,rfl,rfl,rfl,rfl,trivial⟩ ?_
    refine Go'.region [(0,0),(1,1),(2,0),(3,2)] rfl ?_
    refine O.mv rfl rfl rfl rfl rfl ?_
    refine O.lds rfl rfl rfl (fun w => ⟨isAgg35 w,sizeOf35 w⟩) rfl rfl k0 ?_
    refine O.mki rfl rfl rfl rfl underlying35 rfl rfl ?_
    refine O.call rfl rfl rfl call73 rfl (bset_spec hP (x := y) hM hbt (by omega)) ?_
    rintro _ H7 ⟨rfl,S',hM',hF',hS'⟩
    refine ⟨trivial,?_⟩
    refine Pl.fin [(4,_),(5,_),(7,_),(14,_),(15,_),(16,_),(17,_)] ⟨rfl,rfl,rfl,rfl,rfl,rfl,rfl,trivial⟩ ?_
    refine Go'.inBlock ?_
    refine Go'.region [(0,0),(1,0)] rfl ?_
    refine O.add (((j + 1 : Nat) : Int)) rfl rfl rfl rfl rfl rfl (by omega) (by omega) ?_
    refine O.mv rfl rfl rfl rfl rfl ?_
    refine Pl.fin [(4,_),(5,_),(7,_),(14,_),(15,_),(16,_),(17,_)] ⟨rfl,rfl,rfl,rfl,rfl,rfl,rfl,trivial⟩ ?_
    refine Go'.keep [(4,_),(5,_),(14,_),(15,_),(16,_)] ⟨rfl,rfl,rfl,rfl,rfl,trivial⟩ ?_
    refine Go'.inLoop ?_
    exact ih (j + 1) H7 ⟨hf6.trans' hF' (fun _ _ _ h => h) (fun b o hb hz => by have h1 := hS b hz; omega),hlt,by have := hF'.size; omega,hF'.keep hbt hSt,S',by
      rw [List.take_add_one,hy]
      rw [← Pl.puts_snoc] at hM'
      exact hM',fun b hb => (hS' b hb).elim (hS b) (fun h => by have := hf6.size; omega),fun hb => (hS' bt hb).elim hSt (fun h => by omega)⟩ (by omega)
  · skip
    obtain rfl : j = l.length := by omega
    refine Go'.region [(0,0)] rfl ?_
    refine O.cmp rfl rfl rfl rfl rfl rfl (lssF (by omega)) ?_
    refine Pl.fin [(4,_),(5,_),(14,_),(15,_),(16,_),(17,_)] ⟨rfl,rfl,rfl,rfl,rfl,rfl,trivial⟩ ?_
    refine Go'.seq ?_
    refine Go'.condF rfl ?_
    refine Go'.exit rfl ?_
    refine Go'.seq ?_
    refine Go'.region [(0,0),(1,0)] rfl ?_
    refine O.mv rfl rfl rfl rfl rfl ?_
    refine O.asg rfl rfl rfl rfl rfl ?_
    refine Pl.fin [(4,_)] ⟨rfl,trivial⟩ ?_
    refine Go'.ret (vs := [_]) func51 results51 ⟨rfl,trivial⟩ ?_
    rw [List.take_length] at hM
    exact ⟨I,hIo,fun b hb => by have := (hIw b).1 hb; omega,by rw [hIb]; omega,tr,S,bt,rfl,hM,hbt,by omega,hbl,hSt,hF,hS⟩

end Go.Bt.FB
namespace Go.Bt.FB
open Go Go.Proofs Go.Proofs.Try
set_option maxRecDepth 20000
set_option maxHeartbeats 4000000
set_option linter.unusedVariables false
set_option linter.unusedSectionVars false

section
variable [Inhabited Cx]
theorem Pl.put_end {α : Type} (O : Pl.Swo α) {x y : α} {l : List α} (hs : Pl.Srt O (l ++ [y])) (h : O.lt y x = true) : Pl.put O x (l ++ [y]) = l ++ [y] ++ [x] ∧ Pl.got O x (l ++ [y]) = none ∧ Pl.fnd O x (l ++ [y]) = false := by
  have ha : ∀ z ∈ l ++ [y],O.lt z x = true := fun z hz => by
    rcases List.mem_append.1 hz with hz | hz
    · exact O.trans ((List.pairwise_append.1 hs).2.2 z hz y (List.mem_singleton.2 rfl)) h
    · rw [List.mem_singleton.1 hz]; exact h
  have h1 := Pl.put_mid O (m := []) (c := []) ha (fun _ h => absurd h List.not_mem_nil)
  have h2 := Pl.got_mid O (m := []) (c := []) ha (fun _ h => absurd h List.not_mem_nil)
  have h3 := Pl.fnd_mid O (m := []) (c := []) ha (fun _ h => absurd h List.not_mem_nil)
  simp only [List.append_nil] at h1 h2 h3
  exact ⟨h1,h2,h3⟩

def LoadP (H : Mem) (tr : Nat) (P : Ps) (S : Nat → Prop) (l : List (Int × Int)) (x : Int × Int) (r : Value) (H' : Mem) : Prop :=
  r = .tuple #[PV (Pl.got OI x l),.bool (Pl.fnd OI x l)] ∧ MapTo H H' tr P S (Pl.put OI x l)
theorem load_spec {B : World} {H2 : Mem} {tr : Nat} {P : Ps} (hP : PsOk P) {S : Nat → Prop} {l : List (Int × Int)} {x : Int × Int} (hM : MapM H2 tr P S l) (hlen : l.length < 2305843009213693952) :
    Fn Try.prog B 90 [.pointer (some ⟨tr,0,none⟩),iv x] H2 (LoadP H2 tr P S l x) := by
  refine fn_of func90 rfl ntmps90 ?_
  refine (show Go' _ _ _ _ 131 [(0,_),(1,_)] [.code _] _ from ?_)
  refine Go'.seq ?_
  refine Go'.region [(0,0),(1,0)] rfl ?_
  refine O.asg rfl rfl rfl rfl rfl ?_
  refine O.asg rfl rfl rfl rfl rfl ?_
  refine Pl.fin [(0,_),(1,_),(4,_),(5,_)] ⟨rfl,rfl,rfl,rfl,trivial⟩ ?_
  refine Go'.seq ?_
  refine Go'.seq ?_
  have hM0 := hM
  have hh1 := hP.h1
  have hmm := hP.hm
  obtain ⟨tc,srt,cnt,own,lt,bs,hr⟩ := hM
  have htl : tr < H2.size := cl_lt tc.iso
  have htb := tc.tb
  have hbs0 := tc.hb
  refine Go'.region [(0,0),(1,2)] rfl ?_
  refine O.mv rfl rfl rfl rfl rfl ?_
  refine O.callQ rfl rfl rfl call111 rfl lock_spec trivial ?_
  refine Pl.fin [(0,_),(1,_),(4,_),(5,_),(8,_)] ⟨rfl,rfl,rfl,rfl,rfl,trivial⟩ ?_
  refine Go'.condF rfl ?_
  refine Go'.skip ?_
  refine Go'.seq ?_
  refine Go'.seq ?_
  rcases hr with ⟨rfl,hptr⟩ | ⟨h0,t0,hg,hx0,e,hc,hnt,hown⟩
  · -- none at all
    refine Go'.region [(0,0),(1,0),(2,0),(3,1),(4,0)] rfl ?_
    refine O.mv rfl rfl rfl rfl rfl ?_
    refine O.nc rfl rfl rfl rfl rfl ?_
    refine O.fa0 (off := 2) rfl rfl rfl rfl ⟨_,_,_,underlying138,rfl,rfl,sizeOf96⟩ rfl ?_
    refine O.ld rfl rfl rfl (fun w => ⟨isAgg96 w,sizeOf96 w⟩) rfl hptr ?_
    refine O.isNil rfl rfl rfl rfl underlying96 rfl rfl ?_
    refine Pl.fin [(0,_),(1,_),(4,_),(5,_),(14,_)] ⟨rfl,rfl,rfl,rfl,rfl,trivial⟩ ?_
    refine Go'.condT rfl ?_
    refine Go'.seq ?_
    refine Go'.region [(0,0),(1,0),(2,2),(3,0),(4,0),(5,0),(6,0)] rfl ?_
    refine O.mv rfl rfl rfl rfl rfl ?_
    refine O.mv rfl rfl rfl rfl rfl ?_
    refine O.call rfl rfl rfl call113 rfl (mset_spec hP (x := x) (hz := fun _ => False) hM0 hlen (.inl ⟨rfl,fun _ h => h⟩) (fun _ h => h.elim)) ?_
    rintro _ H5 ⟨_,rfl,S',hM5,hF5,hS5⟩
    refine ⟨trivial,?_⟩
    refine O.ext rfl rfl rfl rfl rfl rfl ?_
    refine O.ext rfl rfl rfl rfl rfl rfl ?_
    refine O.asg rfl rfl rfl rfl rfl ?_
    refine O.asg rfl rfl rfl rfl rfl ?_
    refine Pl.fin [(0,_),(1,_),(4,_),(5,_)] ⟨rfl,rfl,rfl,rfl,trivial⟩ ?_
    refine Go'.ret (vs := [_,_]) func90 results90 ⟨rfl,rfl,trivial⟩ ?_
    exact ⟨rfl,S',hM5,hF5.mono (fun _ _ _ h => h.elim id (fun h => h.elim)),hS5⟩
  · -- a tree
    refine Go'.region [(0,0),(1,0),(2,0),(3,1),(4,0)] rfl ?_
    refine O.mv rfl rfl rfl rfl rfl ?_
    refine O.nc rfl rfl rfl rfl rfl ?_
    refine O.fa0 (off := 2) rfl rfl rfl rfl ⟨_,_,_,underlying138,rfl,rfl,sizeOf96⟩ rfl ?_
    refine O.ld rfl rfl rfl (fun w => ⟨isAgg96 w,sizeOf96 w⟩) rfl (show cl _ tr 2 = some (.pointer (some ⟨Gt.p h0 t0,0,none⟩)) from hc) ?_
    refine O.isNil rfl rfl rfl rfl underlying96 rfl rfl ?_
    refine Pl.fin [(0,_),(1,_),(4,_),(5,_),(14,_)] ⟨rfl,rfl,rfl,rfl,rfl,trivial⟩ ?_
    refine Go'.condF rfl ?_
    refine Go'.skip ?_
    refine Go'.seq ?_
    obtain ⟨kp0,hn0⟩ := hg.node
    have hiso0 := hn0.c0
    rw [hg.isoe] at hiso0
    refine Go'.region [(0,0),(1,0),(2,0),(3,0),(4,2),(5,0)] rfl ?_
    refine O.mv rfl rfl rfl rfl rfl ?_
    refine O.mv rfl rfl rfl rfl rfl ?_
    refine O.nc rfl rfl rfl rfl rfl ?_
    refine O.fa0 (off := 2) rfl rfl rfl rfl ⟨_,_,_,underlying138,rfl,rfl,sizeOf96⟩ rfl ?_
    refine O.callQ rfl rfl rfl call114 rfl (isoLoad_spec true hc hiso0 tc.iso) trivial ?_
    refine O.asg rfl rfl rfl rfl rfl ?_
    refine Pl.fin [(0,_),(1,_),(4,_),(5,_),(6,_)] ⟨rfl,rfl,rfl,rfl,rfl,trivial⟩ ?_
    refine Go'.seq ?_
    refine Go'.block ?_
    have hlt0 : ∀ b o,Gt.af h0 t0 b o → b < H2.size := fun b o hb => hg.lt hb
    have hg1 := hg
    clear hn0 hiso0 hg
    refine Go'.loop ?_
    refine Go'.keep [(0,_),(1,_),(4,_),(5,_),(6,_)] ⟨rfl,rfl,rfl,rfl,rfl,trivial⟩ ?_
    refine Go'.ind (σ := (h : Nat) × Gt EA h) (fun s => s.1) (fun s H' => ∃ D,Spn H2 H' P true (fun n => n + 1) h0 t0 D s.1 s.2)
      (fun s => [(0,.pointer (some ⟨tr,0,none⟩)),(1,iv x),(4,.nilIface),(5,.bool false),(6,.pointer (some ⟨Gt.p s.1 s.2,0,none⟩))]) ⟨h0,t0⟩ ⟨_,Spn.start hg1 hx0⟩ rfl ?_
    rintro ⟨h,t⟩ H3 ⟨D,hs⟩ ih
    simp only at hs
    have hDt : ∀ b,b < cx.base → ¬ D b := fun b e2 hd => by have := hnt b 1 (Gt.sp_af ((hs.all b).2 (.inl hd)) 1 (by omega)); omega
    have tc2 := tc.fr hs.fr (fun b o hb _ hz => hDt b hb.1 hz.2)
    have cnt2 := hs.fr.keep cnt (fun hz => hDt tr htb hz.2)
    have hc2 := hs.fr.keep hc (fun hz => hDt tr htb hz.2)
    have hsz2 := hs.fr.size
    have hnow := hs.now
    have hle := hs.le
    have hcn := (hs.g.cnOf).2
    have hne := hs.g.ne hs.x1
    have hcc := hs.cnt
    rw [e] at hle
    refine Go'.block ?_
    refine Go'.seq ?_
    rcases h with _ | h
    rotate_left
    · -- further down
      obtain ⟨g,X,K⟩ := t
      have hI := hnow.inn
      have hKl : K.length = X.length + 1 := hnow.2.2.2.2.2.1
      obtain ⟨k,hk⟩ : ∃ k,K[cix true K.length]? = some k := ⟨K[cix true K.length]'(cix_lt (by omega)),List.getElem?_eq_getElem (cix_lt (by omega))⟩
      have hkK := List.mem_of_getElem? hk
      have hx255 := hnow.2.2.2.2.1
      have hP255 := hP.hx
      replace hx255 : X.length ≤ P.mx := hx255
      replace hcn : cnOf H2 g.p = (Gt.L (h + 1) ((g,X,K) : Gt EA (h + 1))).length := hcn
      refine Go'.region [(0,0),(1,0),(2,0),(3,1),(4,0),(5,0),(6,0),(7,2)] rfl ?_
      refine O.mv rfl rfl rfl rfl rfl ?_
      refine O.nc rfl rfl rfl rfl rfl ?_
      refine O.fa0 (off := 1) rfl rfl rfl rfl ⟨_,_,_,underlying144,rfl,rfl,sizeOf3⟩ rfl ?_
      refine O.ld rfl rfl rfl (fun w => ⟨isAgg3 w,sizeOf3 w⟩) rfl (show cl _ g.p 1 = some (.int .i64 (cnOf H2 g.p : Int)) from hcc) ?_
      refine O.add ((((cnOf H2 g.p) + 1 : Nat) : Int)) rfl rfl rfl rfl rfl rfl (by omega) (by omega) ?_
      refine O.nc rfl rfl rfl rfl rfl ?_
      refine O.fa0 (off := 1) rfl rfl rfl rfl ⟨_,_,_,underlying144,rfl,rfl,sizeOf3⟩ rfl ?_
      refine O.st rfl rfl sizeOf3 rfl rfl rfl rfl rfl (hI.n.wr.at0 1 1 (by omega)) ?_
      intro H4 W3
      have hs3 := hs.step (t := (g,X,K)) hh1 hk W3
      replace hI := hI.count W3
      have tc3 := tc2.fr W3.fr (fun b o hb _ => nr (.inl (fun e2 => by have h7 := hnt g.p 1 (hs.sub _ _ (show Gt.af (h + 1) ((g,X,K) : Gt EA (h + 1)) g.p 1 from .inl (.inl ⟨rfl,by omega⟩))); have h8 := hb.1; have h9 : b = g.p := e2; omega)))
      refine ⟨trivial,?_⟩
      refine Pl.fin [(0,_),(1,_),(4,_),(5,_),(6,_)] ⟨rfl,rfl,rfl,rfl,rfl,trivial⟩ ?_
      refine Go'.seq ?_
      refine Go'.seq ?_
      refine Go'.region [(0,0),(1,2)] rfl ?_
      refine O.mv rfl rfl rfl rfl rfl ?_
      refine O.callQ rfl rfl rfl call115 rfl (leaf_spec hI.n.c3) trivial ?_
      refine Pl.fin [(0,_),(1,_),(4,_),(5,_),(6,_),(33,_)] ⟨rfl,rfl,rfl,rfl,rfl,rfl,trivial⟩ ?_
      refine Go'.condF rfl ?_
      refine Go'.skip ?_
      obtain ⟨hgk,_⟩ := hI.c.1 k hkK
      obtain ⟨kpk,hnk⟩ := hgk.node
      have hisok := hnk.c0
      rw [hgk.isoe] at hisok
      have hko : ((Gt.ps h K).map some)[cix true K.length]? = some (some (Gt.p h k)) := by rw [Gt.ps,List.map_map,List.getElem?_map,hk]; rfl
      have hkl : ((Gt.ps h K).map some).length = K.length := by rw [List.length_map,Gt.ps,List.length_map]
      have hkc := hI.k.c
      rw [hkl] at hkc
      refine Go'.draw (fun _ => True) [(0,0),(1,0),(2,0),(3,0),(4,1),(5,0),(6,1),(7,0),(8,0),(9,0),(10,1),(11,0),(12,1),(13,0),(14,0),(15,0),(16,2),(17,0)] (by kernel_rfl) (by kernel_rfl) (trivial) ?_
      refine O.mv rfl rfl rfl rfl rfl ?_
      refine O.mv rfl rfl rfl rfl rfl ?_
      refine O.nc rfl rfl rfl rfl rfl ?_
      refine O.fa0 (off := 3) rfl rfl rfl rfl ⟨_,_,_,underlying144,rfl,rfl,sizeOf142⟩ rfl ?_
      refine O.ld rfl rfl rfl (fun w => ⟨isAgg142 w,sizeOf142 w⟩) rfl (show cl _ g.p 3 = some (.pointer (some ⟨g.cb,0,none⟩)) from hI.n.c3) ?_
      refine O.nc rfl rfl rfl rfl rfl ?_
      refine O.ld rfl rfl rfl (fun w => ⟨isAgg145 w,sizeOf145 w⟩) rfl (show cl _ g.cb 0 = some (.slice (some ⟨g.kb,g.ko,none⟩) K.length g.kc) from hkc) ?_
      refine O.mv rfl rfl rfl rfl rfl ?_
      refine O.nc rfl rfl rfl rfl rfl ?_
      refine O.fa0 (off := 3) rfl rfl rfl rfl ⟨_,_,_,underlying144,rfl,rfl,sizeOf142⟩ rfl ?_
      refine O.ld rfl rfl rfl (fun w => ⟨isAgg142 w,sizeOf142 w⟩) rfl (show cl _ g.p 3 = some (.pointer (some ⟨g.cb,0,none⟩)) from hI.n.c3) ?_
      refine O.nc rfl rfl rfl rfl rfl ?_
      refine O.ld rfl rfl rfl (fun w => ⟨isAgg145 w,sizeOf145 w⟩) rfl (show cl _ g.cb 0 = some (.slice (some ⟨g.kb,g.ko,none⟩) K.length g.kc) from hkc) ?_
      refine O.len rfl rfl rfl rfl underlying145 rfl ?_
      refine O.sub (((K.length - 1 : Nat) : Int)) rfl rfl rfl rfl rfl rfl (by omega) (by omega) ?_
      refine O.ix (j := K.length - 1) rfl rfl rfl rfl underlying145 sizeOf96 rfl rfl (by omega) (by omega) ?_
      refine O.callQ rfl rfl rfl call114 rfl (isoLoad_spec true (hI.k.at hko) hisok tc3.iso) trivial ?_
      refine O.asg rfl rfl rfl rfl rfl ?_
      refine Pl.fin [(0,_),(1,_),(4,_),(5,_),(6,_),(33,_)] ⟨rfl,rfl,rfl,rfl,rfl,rfl,trivial⟩ ?_
      refine Go'.inBlock ?_
      refine Go'.keep [(0,_),(1,_),(4,_),(5,_),(6,_)] ⟨rfl,rfl,rfl,rfl,rfl,trivial⟩ ?_
      refine Go'.inLoop ?_
      exact ih ⟨h,k⟩ H4 ⟨_,hs3⟩ (by simp only; omega)
    · -- the leaf
      obtain ⟨⟨np,niso,ncnt,nib,nio,nic,ncb,nkb,nko,nkc⟩,X⟩ := t
      have hn : NodeM EA H3 (⟨np,niso,ncnt,nib,nio,nic,ncb,nkb,nko,nkc⟩ : Ng) X (.pointer none) := hnow.1
      have hiso : niso = P.iso := hnow.2.1
      have hcntX : ncnt = X.length := hnow.2.2.1
      have hxm : X.length ≤ P.mx := hnow.2.2.2
      have hx255 := hP.hx
      have hx1 : 1 ≤ X.length := hs.x1
      have hle2 : X.length ≤ l.length := hle
      have hlf : ((⟨np,niso,ncnt,nib,nio,nic,ncb,nkb,nko,nkc⟩ : Ng),X) = Gt.lf true h0 t0 := hs.lf
      have tn : ∀ b o,(ncl EA (⟨np,niso,ncnt,nib,nio,nic,ncb,nkb,nko,nkc⟩ : Ng)) b o → ¬ (b < cx.base) := fun b o hb => by have := hnt b o (hs.sub b o hb); omega
      have hlt : ∀ b o,(ncl EA (⟨np,niso,ncnt,nib,nio,nic,ncb,nkb,nko,nkc⟩ : Ng)) b o → b < H2.size := fun b o hb => hlt0 b o (hs.sub b o hb)
      have hD : ∀ b,(b < cx.base) → b < H3.size := fun b hb => by omega
      have hic := hn.sl.hle
      simp only at hic
      have hF : Fr (fun b o => (ncl EA (⟨np,niso,ncnt,nib,nio,nic,ncb,nkb,nko,nkc⟩ : Ng)) b o ∨ b = tr) H3 H3 := Fr.refl _ _
      have hF2 : Fr (fun b o => o = 1 ∧ b = np) H3 H3 := Fr.refl _ _
      have sn : Gro H3 (ncl EA (⟨np,niso,ncnt,nib,nio,nic,ncb,nkb,nko,nkc⟩ : Ng)) (ncl EA (⟨np,niso,ncnt,nib,nio,nic,ncb,nkb,nko,nkc⟩ : Ng)) := Gro.refl _ _
      clear tc cnt hc
      obtain ⟨tc,cnt,hc⟩ := And.intro tc2 (And.intro cnt2 hc2)
      clear tc2 cnt2 hc2
      obtain ⟨y,hy⟩ : ∃ y,X[X.length - 1]? = some y := ⟨X[X.length - 1]'(by omega),List.getElem?_eq_getElem (by omega)⟩
      refine Go'.region [(0,0),(1,0),(2,0),(3,1),(4,0),(5,0),(6,0),(7,2)] rfl ?_
      refine O.mv rfl rfl rfl rfl rfl ?_
      refine O.nc rfl rfl rfl rfl rfl ?_
      refine O.fa0 (off := 1) rfl rfl rfl rfl ⟨_,_,_,underlying144,rfl,rfl,sizeOf3⟩ rfl ?_
      refine O.ld rfl rfl rfl (fun w => ⟨isAgg3 w,sizeOf3 w⟩) rfl (show cl _ np 1 = some (.int .i64 (ncnt : Int)) from hn.c1) ?_
      refine O.add (((ncnt + 1 : Nat) : Int)) rfl rfl rfl rfl rfl rfl (by omega) (by omega) ?_
      refine O.nc rfl rfl rfl rfl rfl ?_
      refine O.fa0 (off := 1) rfl rfl rfl rfl ⟨_,_,_,underlying144,rfl,rfl,sizeOf3⟩ rfl ?_
      refine O.st rfl rfl sizeOf3 rfl rfl rfl rfl rfl (hn.wr.at0 1 1 (by omega)) ?_
      intro H11 WH11
      have fW : Fr (ncl EA (⟨np,niso,ncnt,nib,nio,nic,ncb,nkb,nko,nkc⟩ : Ng)) H3 H11 := (Wrote.fHdr (E := EA) (g := (⟨np,niso,ncnt,nib,nio,nic,ncb,nkb,nko,nkc⟩ : Ng)) WH11 (by omega))
      replace tc := tc.fr fW (fun b o hb _ hz => tn b o hz hb.1)
      replace hF := Fr.tot hF fW sn (fun _ _ h => .inl h)
      replace cnt := Fr.keep fW cnt (fun hz => tn tr _ hz htb)
      replace hc := Fr.keep fW hc (fun hz => tn tr _ hz htb)
      obtain ⟨ncnt_11,encnt_11⟩ : ∃ z,z = ncnt + 1 := ⟨_,rfl⟩
      rw [← encnt_11] at WH11
      replace hn : NodeM EA H11 (⟨np,niso,ncnt_11,nib,nio,nic,ncb,nkb,nko,nkc⟩ : Ng) (X) (.pointer none) := hn.count WH11
      clear fW
      replace hF2 := hF2.trans' WH11.fr (fun _ _ _ h => h) (fun b o _ hz => by
        have h1 := hz.1; have h2 := hz.2.1; have h3 := hz.2.2
        simp only [List.length_cons,List.length_nil] at h3
        exact ⟨by omega,h1⟩)
      refine ⟨trivial,?_⟩
      refine Pl.fin [(0,_),(1,_),(4,_),(5,_),(6,_)] ⟨rfl,rfl,rfl,rfl,rfl,trivial⟩ ?_
      refine Go'.seq ?_
      refine Go'.seq ?_
      refine Go'.region [(0,0),(1,2)] rfl ?_
      refine O.mv rfl rfl rfl rfl rfl ?_
      refine O.callQ rfl rfl rfl call115 rfl (leaf_spec hn.c3) trivial ?_
      refine Pl.fin [(0,_),(1,_),(4,_),(5,_),(6,_),(33,_)] ⟨rfl,rfl,rfl,rfl,rfl,rfl,trivial⟩ ?_
      refine Go'.condT rfl ?_
      refine Go'.seq ?_
      refine Go'.seq ?_
      by_cases hmxX : X.length < P.mx
      rotate_left
      · -- full
        refine Go'.draw (fun _ => True) [(0,0),(1,0),(2,0),(3,1),(4,0),(5,0),(6,0),(7,0),(8,1),(9,0)] (by kernel_rfl) (by kernel_rfl) (trivial) ?_
        refine O.mv rfl rfl rfl rfl rfl ?_
        refine O.nc rfl rfl rfl rfl rfl ?_
        refine O.fa0 (off := 2) rfl rfl rfl rfl ⟨_,_,_,underlying144,rfl,rfl,sizeOf141⟩ rfl ?_
        refine O.ld rfl rfl rfl (fun w => ⟨isAgg141 w,sizeOf141 w⟩) rfl (show cl _ np 2 = some (.slice (some ⟨nib,nio,none⟩) X.length nic) from hn.c2) ?_
        refine O.len rfl rfl rfl rfl underlying141 rfl ?_
        refine O.mv rfl rfl rfl rfl rfl ?_
        refine O.nc rfl rfl rfl rfl rfl ?_
        refine O.fa0 (off := 8) rfl rfl rfl rfl ⟨_,_,_,underlying138,rfl,rfl,sizeOf3⟩ rfl ?_
        refine O.ld rfl rfl rfl (fun w => ⟨isAgg3 w,sizeOf3 w⟩) rfl tc.mx' ?_
        refine O.cmp rfl rfl rfl rfl rfl rfl (lssF (by omega)) ?_
        refine Pl.fin [(0,_),(1,_),(4,_),(5,_),(6,_),(33,_),(43,_)] ⟨rfl,rfl,rfl,rfl,rfl,rfl,rfl,trivial⟩ ?_
        refine Go'.condF rfl ?_
        refine Go'.skip ?_
        refine Go'.exit rfl ?_
        refine Go'.seq ?_
        have hFb : Fr (fun b o => (o = 1 ∧ Gt.sp true h0 t0 b) ∨ b = H2.size) H2 H11 := hs.fr.trans' hF2 (fun b o _ hz => .inl ⟨hz.1,(hs.all b).2 (.inl hz.2)⟩) (fun b o _ hz => .inl ⟨hz.1,hz.2 ▸ (hs.all np).2 (.inr rfl)⟩)
        have hvb : ∀ q,Gt.sp true h0 t0 q → cl H11 q 1 = some (.int .i64 ((cnOf H2 q + 1 : Nat) : Int)) := fun q hq => by
          rcases (hs.all q).1 hq with hd | hd
          · exact hF2.keep (hs.val q hd) (fun hz => by
              rcases hz with ⟨_,rfl⟩
              exact hs.off q hd (.inl ⟨rfl,by omega⟩))
          · have hd' : q = np := hd
            subst hd'
            have hcn' : cnOf H2 q = ncnt := by rw [hcntX]; exact hcn
            rw [hcn',← encnt_11]
            exact hn.c1
        have hs2 := Sp2.start (δ := (fun n => n + 1)) hg1 hFb (fun o hb => by have := hlt0 _ _ hb; omega) hvb hx0
        have hszb := hFb.size
        clear ih
        refine Go'.region [(0,0),(1,0),(2,0),(3,1),(4,0)] rfl ?_
        refine O.mv rfl rfl rfl rfl rfl ?_
        refine O.nc rfl rfl rfl rfl rfl ?_
        refine O.fa0 (off := 2) rfl rfl rfl rfl ⟨_,_,_,underlying138,rfl,rfl,sizeOf96⟩ rfl ?_
        refine O.ld rfl rfl rfl (fun w => ⟨isAgg96 w,sizeOf96 w⟩) rfl (show cl _ tr 2 = some (.pointer (some ⟨Gt.p h0 t0,0,none⟩)) from hc) ?_
        refine O.asg rfl rfl rfl rfl rfl ?_
        refine Pl.fin [(0,_),(1,_),(4,_),(5,_),(6,_)] ⟨rfl,rfl,rfl,rfl,rfl,trivial⟩ ?_
        refine Go'.seq ?_
        refine Go'.block ?_
        refine Go'.loop ?_
        refine Go'.keep [(0,_),(1,_),(4,_),(5,_),(6,_)] ⟨rfl,rfl,rfl,rfl,rfl,trivial⟩ ?_
        refine Go'.ind (σ := (h : Nat) × Gt EA h) (fun s => s.1) (fun s H' => ∃ D,Sp2 H2 H' P true (fun n => n + 1) h0 t0 H2.size D s.1 s.2 ∧ Fr (fun b o => o = 1 ∧ Gt.sp true h0 t0 b) H11 H')
          (fun s => [(0,.pointer (some ⟨tr,0,none⟩)),(1,iv x),(4,.nilIface),(5,.bool false),(6,.pointer (some ⟨Gt.p s.1 s.2,0,none⟩))]) ⟨h0,t0⟩ ⟨_,hs2,Fr.refl _ _⟩ rfl ?_
        rintro ⟨h,t⟩ H5 ⟨D2,hs3,hf3⟩ ih
        simp only at hs3
        have hcc3 := hs3.val2 _ (Gt.sp_p true)
        have hcn3 := (hs3.g.cnOf).2
        have hle3 := hs3.le
        rw [e] at hle3
        refine Go'.block ?_
        refine Go'.seq ?_
        have hpos : 1 ≤ (Gt.L h t).length := hs3.pos
        rcases h with _ | h
        rotate_left
        · -- further down
          obtain ⟨g,X3,K⟩ := t
          have hKl : K.length = X3.length + 1 := hs3.g.2.2.2.2.2.1
          obtain ⟨k,hk⟩ : ∃ k,K[cix true K.length]? = some k := ⟨K[cix true K.length]'(cix_lt (by omega)),List.getElem?_eq_getElem (cix_lt (by omega))⟩
          replace hcn3 : cnOf H2 g.p = (Gt.L (h + 1) ((g,X3,K) : Gt EA (h + 1))).length := hcn3
          obtain ⟨i1,i2,i3⟩ := hs3.inner (t := (g,X3,K)) hk
          have hwr3 := hs3.fr.wr hs3.g.1.wr
          have hx3 : X3.length ≤ P.mx := hs3.g.2.2.2.2.1
          refine Go'.region [(0,0),(1,0),(2,0),(3,1),(4,0),(5,0),(6,0),(7,2)] rfl ?_
          refine O.mv rfl rfl rfl rfl rfl ?_
          refine O.nc rfl rfl rfl rfl rfl ?_
          refine O.fa0 (off := 1) rfl rfl rfl rfl ⟨_,_,_,underlying144,rfl,rfl,sizeOf3⟩ rfl ?_
          refine O.ld rfl rfl rfl (fun w => ⟨isAgg3 w,sizeOf3 w⟩) rfl (show cl _ g.p 1 = some (.int .i64 ((cnOf H2 g.p + 1 : Nat) : Int)) from hcc3) ?_
          refine O.sub (((((cnOf H2 g.p + 1)) - 1 : Nat) : Int)) rfl rfl rfl rfl rfl rfl (by omega) (by omega) ?_
          refine O.nc rfl rfl rfl rfl rfl ?_
          refine O.fa0 (off := 1) rfl rfl rfl rfl ⟨_,_,_,underlying144,rfl,rfl,sizeOf3⟩ rfl ?_
          refine O.st rfl rfl sizeOf3 rfl rfl rfl rfl rfl (hwr3.at0 1 1 (by omega)) ?_
          intro H6 W4
          have ecn : cnOf H2 g.p + 1 - 1 = cnOf H2 g.p := by omega
          rw [ecn] at W4
          have hs4 := hs3.step (t := (g,X3,K)) hh1 hk W4
          have hf4 : Fr (fun b o => o = 1 ∧ Gt.sp true h0 t0 b) H11 H6 := hf3.trans' W4.fr (fun _ _ _ h => h) (fun b o _ hz => by
            have h1 := hz.1; have h2 := hz.2.1; have h3 := hz.2.2
            simp only [List.length_cons,List.length_nil] at h3
            exact ⟨by omega,h1 ▸ (hs3.all _).2 (.inr (.inl rfl))⟩)
          have hKM := hs3.g.2.1
          replace i1 := W4.keep1 i1 (by simp only; omega)
          replace i2 := W4.fr.keep i2 (nr (.inl (Ne.symm hKM.n2)))
          replace i3 := W4.fr.keep i3 (nr (.inl (Ne.symm hKM.n3)))
          refine ⟨trivial,?_⟩
          refine Pl.fin [(0,_),(1,_),(4,_),(5,_),(6,_)] ⟨rfl,rfl,rfl,rfl,rfl,trivial⟩ ?_
          refine Go'.seq ?_
          refine Go'.seq ?_
          refine Go'.region [(0,0),(1,2)] rfl ?_
          refine O.mv rfl rfl rfl rfl rfl ?_
          refine O.callQ rfl rfl rfl call115 rfl (leaf_spec i1) trivial ?_
          refine Pl.fin [(0,_),(1,_),(4,_),(5,_),(6,_),(109,_)] ⟨rfl,rfl,rfl,rfl,rfl,rfl,trivial⟩ ?_
          refine Go'.condF rfl ?_
          refine Go'.skip ?_
          refine Go'.draw (fun _ => True) [(0,0),(1,0),(2,0),(3,1),(4,0),(5,1),(6,0),(7,0),(8,0),(9,1),(10,0),(11,1),(12,0),(13,0),(14,0),(15,1),(16,0)] (by kernel_rfl) (by kernel_rfl) (trivial) ?_
          refine O.mv rfl rfl rfl rfl rfl ?_
          refine O.nc rfl rfl rfl rfl rfl ?_
          refine O.fa0 (off := 3) rfl rfl rfl rfl ⟨_,_,_,underlying144,rfl,rfl,sizeOf142⟩ rfl ?_
          refine O.ld rfl rfl rfl (fun w => ⟨isAgg142 w,sizeOf142 w⟩) rfl (show cl _ g.p 3 = some (.pointer (some ⟨g.cb,0,none⟩)) from i1) ?_
          refine O.nc rfl rfl rfl rfl rfl ?_
          refine O.ld rfl rfl rfl (fun w => ⟨isAgg145 w,sizeOf145 w⟩) rfl (show cl _ g.cb 0 = some (.slice (some ⟨g.kb,g.ko,none⟩) K.length g.kc) from i2) ?_
          refine O.mv rfl rfl rfl rfl rfl ?_
          refine O.nc rfl rfl rfl rfl rfl ?_
          refine O.fa0 (off := 3) rfl rfl rfl rfl ⟨_,_,_,underlying144,rfl,rfl,sizeOf142⟩ rfl ?_
          refine O.ld rfl rfl rfl (fun w => ⟨isAgg142 w,sizeOf142 w⟩) rfl (show cl _ g.p 3 = some (.pointer (some ⟨g.cb,0,none⟩)) from i1) ?_
          refine O.nc rfl rfl rfl rfl rfl ?_
          refine O.ld rfl rfl rfl (fun w => ⟨isAgg145 w,sizeOf145 w⟩) rfl (show cl _ g.cb 0 = some (.slice (some ⟨g.kb,g.ko,none⟩) K.length g.kc) from i2) ?_
          refine O.len rfl rfl rfl rfl underlying145 rfl ?_
          refine O.sub (((K.length - 1 : Nat) : Int)) rfl rfl rfl rfl rfl rfl (by omega) (by omega) ?_
          refine O.ix (j := K.length - 1) rfl rfl rfl rfl underlying145 sizeOf96 rfl rfl (by omega) (by omega) ?_
          refine O.ld rfl rfl rfl (fun w => ⟨isAgg96 w,sizeOf96 w⟩) rfl i3 ?_
          refine O.asg rfl rfl rfl rfl rfl ?_
          refine Pl.fin [(0,_),(1,_),(4,_),(5,_),(6,_),(109,_)] ⟨rfl,rfl,rfl,rfl,rfl,rfl,trivial⟩ ?_
          refine Go'.inBlock ?_
          refine Go'.keep [(0,_),(1,_),(4,_),(5,_),(6,_)] ⟨rfl,rfl,rfl,rfl,rfl,trivial⟩ ?_
          refine Go'.inLoop ?_
          exact ih ⟨h,k⟩ H6 ⟨_,hs4,hf4⟩ (by simp only; omega)
        · -- the leaf again
          obtain ⟨g,X3⟩ := t
          replace hcn3 : cnOf H2 g.p = (Gt.L 0 ((g,X3) : Gt EA 0)).length := hcn3
          have hwr3 := hs3.fr.wr hs3.g.1.wr
          have hc3l : cl H5 g.p 3 = some (.pointer none) := hs3.fr.keep hs3.g.1.c3 (fun hz => hz.elim (fun h => by omega) (fun h => hs3.nb 3 (hs3.sub H2.size 3 (show ncl EA g H2.size 3 from .inl ⟨h.symm,by omega⟩))))
          refine Go'.region [(0,0),(1,0),(2,0),(3,1),(4,0),(5,0),(6,0),(7,2)] rfl ?_
          refine O.mv rfl rfl rfl rfl rfl ?_
          refine O.nc rfl rfl rfl rfl rfl ?_
          refine O.fa0 (off := 1) rfl rfl rfl rfl ⟨_,_,_,underlying144,rfl,rfl,sizeOf3⟩ rfl ?_
          refine O.ld rfl rfl rfl (fun w => ⟨isAgg3 w,sizeOf3 w⟩) rfl (show cl _ g.p 1 = some (.int .i64 ((cnOf H2 g.p + 1 : Nat) : Int)) from hcc3) ?_
          refine O.sub (((((cnOf H2 g.p + 1)) - 1 : Nat) : Int)) rfl rfl rfl rfl rfl rfl (by omega) (by omega) ?_
          refine O.nc rfl rfl rfl rfl rfl ?_
          refine O.fa0 (off := 1) rfl rfl rfl rfl ⟨_,_,_,underlying144,rfl,rfl,sizeOf3⟩ rfl ?_
          refine O.st rfl rfl sizeOf3 rfl rfl rfl rfl rfl (hwr3.at0 1 1 (by omega)) ?_
          intro H6 W4
          have ecn : cnOf H2 g.p + 1 - 1 = cnOf H2 g.p := by omega
          rw [ecn] at W4
          have hgB := hs3.fin (t := (g,X3)) hg1 W4
          have hf4 : Fr (fun b o => o = 1 ∧ Gt.sp true h0 t0 b) H11 H6 := hf3.trans' W4.fr (fun _ _ _ h => h) (fun b o _ hz => by
            have h1 := hz.1; have h2 := hz.2.1; have h3 := hz.2.2
            simp only [List.length_cons,List.length_nil] at h3
            exact ⟨by omega,h1 ▸ (hs3.all _).2 (.inr rfl)⟩)
          have hst : ∀ b o,b < cx.base → ¬ (o = 1 ∧ Gt.sp true h0 t0 b) := fun b o hb hz => by have := hnt b 1 (Gt.sp_af hz.2 1 (by omega)); omega
          replace hc3l := W4.keep1 hc3l (by omega)
          replace tc := tc.fr hf4 (fun b o hb _ => hst b o hb.1)
          replace cnt := hf4.keep cnt (hst _ _ htb)
          replace hc := hf4.keep hc (hst _ _ htb)
          have hFB : Fr (fun b _ => S b) H2 H6 := hFb.trans' hf4 (fun b o hb hz => by
            rcases hz with ⟨ho,hz⟩ | hz
            · exact hown b o (ho ▸ Gt.sp_af hz 1 (by omega))
            · omega) (fun b o _ hz => hown b o (hz.1 ▸ Gt.sp_af hz.2 1 (by omega)))
          have hszB := hFB.size
          have hMB : MapM H6 tr P S l := ⟨tc,srt,cnt,own,fun b hb => by have := lt b hb; omega,bs,.inr ⟨h0,t0,hgB,hx0,e,hc,hnt,hown⟩⟩
          refine ⟨trivial,?_⟩
          refine Pl.fin [(0,_),(1,_),(4,_),(5,_),(6,_)] ⟨rfl,rfl,rfl,rfl,rfl,trivial⟩ ?_
          refine Go'.seq ?_
          refine Go'.seq ?_
          refine Go'.region [(0,0),(1,2)] rfl ?_
          refine O.mv rfl rfl rfl rfl rfl ?_
          refine O.callQ rfl rfl rfl call115 rfl (leaf_spec hc3l) trivial ?_
          refine Pl.fin [(0,_),(1,_),(4,_),(5,_),(6,_),(109,_)] ⟨rfl,rfl,rfl,rfl,rfl,rfl,trivial⟩ ?_
          refine Go'.condT rfl ?_
          refine Go'.exit rfl ?_
          refine Go'.seq ?_
          refine Go'.region [(0,0),(1,0),(2,2),(3,0),(4,0),(5,0),(6,0)] rfl ?_
          refine O.mv rfl rfl rfl rfl rfl ?_
          refine O.mv rfl rfl rfl rfl rfl ?_
          refine O.call rfl rfl rfl call113 rfl (mset_spec hP (x := x) (hz := fun _ => False) hMB hlen (.inl ⟨rfl,fun _ h => h⟩) (fun _ h => h.elim)) ?_
          rintro _ H7 ⟨_,rfl,S',hM5,hF5,hS5⟩
          refine ⟨trivial,?_⟩
          refine O.ext rfl rfl rfl rfl rfl rfl ?_
          refine O.ext rfl rfl rfl rfl rfl rfl ?_
          refine O.asg rfl rfl rfl rfl rfl ?_
          refine O.asg rfl rfl rfl rfl rfl ?_
          refine Pl.fin [(4,_),(5,_)] ⟨rfl,rfl,trivial⟩ ?_
          refine Go'.ret (vs := [_,_]) func90 results90 ⟨rfl,rfl,trivial⟩ ?_
          refine ⟨rfl,S',hM5,?_,fun b hb => (hS5 b hb).imp id (fun h => by omega)⟩
          exact hFB.trans' hF5 (fun _ _ _ h => h) (fun _ _ _ h => h.elim id (fun h => h.elim))
      refine Go'.draw (fun _ => True) [(0,0),(1,0),(2,0),(3,1),(4,0),(5,0),(6,0),(7,0),(8,1),(9,0)] (by kernel_rfl) (by kernel_rfl) (trivial) ?_
      refine O.mv rfl rfl rfl rfl rfl ?_
      refine O.nc rfl rfl rfl rfl rfl ?_
      refine O.fa0 (off := 2) rfl rfl rfl rfl ⟨_,_,_,underlying144,rfl,rfl,sizeOf141⟩ rfl ?_
      refine O.ld rfl rfl rfl (fun w => ⟨isAgg141 w,sizeOf141 w⟩) rfl (show cl _ np 2 = some (.slice (some ⟨nib,nio,none⟩) X.length nic) from hn.c2) ?_
      refine O.len rfl rfl rfl rfl underlying141 rfl ?_
      refine O.mv rfl rfl rfl rfl rfl ?_
      refine O.nc rfl rfl rfl rfl rfl ?_
      refine O.fa0 (off := 8) rfl rfl rfl rfl ⟨_,_,_,underlying138,rfl,rfl,sizeOf3⟩ rfl ?_
      refine O.ld rfl rfl rfl (fun w => ⟨isAgg3 w,sizeOf3 w⟩) rfl tc.mx' ?_
      refine O.cmp rfl rfl rfl rfl rfl rfl (lssT (by omega)) ?_
      refine Pl.fin [(0,_),(1,_),(4,_),(5,_),(6,_),(33,_),(43,_)] ⟨rfl,rfl,rfl,rfl,rfl,rfl,rfl,trivial⟩ ?_
      refine Go'.condT rfl ?_
      refine Go'.seq ?_
      refine Go'.draw (fun _ => True) [(0,0),(1,0),(2,0),(3,0),(4,1),(5,0),(6,0),(7,0),(8,1),(9,0),(10,0),(11,0),(12,1),(13,0),(14,2)] (by kernel_rfl) (by kernel_rfl) (trivial) ?_
      refine O.mv rfl rfl rfl rfl rfl ?_
      refine O.mv rfl rfl rfl rfl rfl ?_
      refine O.nc rfl rfl rfl rfl rfl ?_
      refine O.fa0 (off := 2) rfl rfl rfl rfl ⟨_,_,_,underlying144,rfl,rfl,sizeOf141⟩ rfl ?_
      refine O.ld rfl rfl rfl (fun w => ⟨isAgg141 w,sizeOf141 w⟩) rfl (show cl _ np 2 = some (.slice (some ⟨nib,nio,none⟩) X.length nic) from hn.c2) ?_
      refine O.mv rfl rfl rfl rfl rfl ?_
      refine O.nc rfl rfl rfl rfl rfl ?_
      refine O.fa0 (off := 2) rfl rfl rfl rfl ⟨_,_,_,underlying144,rfl,rfl,sizeOf141⟩ rfl ?_
      refine O.ld rfl rfl rfl (fun w => ⟨isAgg141 w,sizeOf141 w⟩) rfl (show cl _ np 2 = some (.slice (some ⟨nib,nio,none⟩) X.length nic) from hn.c2) ?_
      refine O.len rfl rfl rfl rfl underlying141 rfl ?_
      refine O.sub (((X.length - 1 : Nat) : Int)) rfl rfl rfl rfl rfl rfl (by omega) (by omega) ?_
      refine O.ix (j := X.length - 1) rfl rfl rfl rfl underlying141 sizeOf20 rfl rfl (by omega) (by omega) ?_
      refine O.ld rfl rfl rfl (fun w => ⟨isAgg20 w,sizeOf20 w⟩) rfl (((hn.sl.item hy)) 0 _ rfl) ?_
      refine O.mv rfl rfl rfl rfl rfl ?_
      refine O.call rfl rfl rfl call116 rfl (Less_spec tc y x) ?_
      rintro _ H12 ⟨rfl,hFl⟩
      have hsl := hFl.size
      replace hn := NodeM.fr EA hn hFl (fun _ _ _ => nw)
      replace tc := tc.fr hFl (fun _ _ _ _ => nw)
      replace hF := hF.trans' hFl (fun _ _ _ h => h) (fun _ _ _ h => h.elim)
      replace cnt := Fr.keep hFl cnt nw
      replace hc := Fr.keep hFl hc nw
      replace hF2 := hF2.trans' hFl (fun _ _ _ h => h) (fun _ _ _ h => h.elim)
      refine ⟨trivial,?_⟩
      refine Pl.fin [(0,_),(1,_),(4,_),(5,_),(6,_),(33,_),(43,_),(58,_)] ⟨rfl,rfl,rfl,rfl,rfl,rfl,rfl,rfl,trivial⟩ ?_
      cases hyx : OI.lt y x
      · -- not behind the last one
        refine Go'.condF rfl ?_
        refine Go'.skip ?_
        refine Go'.exit rfl ?_
        refine Go'.seq ?_
        have hFb : Fr (fun b o => (o = 1 ∧ Gt.sp true h0 t0 b) ∨ b = H2.size) H2 H12 := hs.fr.trans' hF2 (fun b o _ hz => .inl ⟨hz.1,(hs.all b).2 (.inl hz.2)⟩) (fun b o _ hz => .inl ⟨hz.1,hz.2 ▸ (hs.all np).2 (.inr rfl)⟩)
        have hvb : ∀ q,Gt.sp true h0 t0 q → cl H12 q 1 = some (.int .i64 ((cnOf H2 q + 1 : Nat) : Int)) := fun q hq => by
          rcases (hs.all q).1 hq with hd | hd
          · exact hF2.keep (hs.val q hd) (fun hz => by
              rcases hz with ⟨_,rfl⟩
              exact hs.off q hd (.inl ⟨rfl,by omega⟩))
          · have hd' : q = np := hd
            subst hd'
            have hcn' : cnOf H2 q = ncnt := by rw [hcntX]; exact hcn
            rw [hcn',← encnt_11]
            exact hn.c1
        have hs2 := Sp2.start (δ := (fun n => n + 1)) hg1 hFb (fun o hb => by have := hlt0 _ _ hb; omega) hvb hx0
        have hszb := hFb.size
        clear ih
        refine Go'.region [(0,0),(1,0),(2,0),(3,1),(4,0)] rfl ?_
        refine O.mv rfl rfl rfl rfl rfl ?_
        refine O.nc rfl rfl rfl rfl rfl ?_
        refine O.fa0 (off := 2) rfl rfl rfl rfl ⟨_,_,_,underlying138,rfl,rfl,sizeOf96⟩ rfl ?_
        refine O.ld rfl rfl rfl (fun w => ⟨isAgg96 w,sizeOf96 w⟩) rfl (show cl _ tr 2 = some (.pointer (some ⟨Gt.p h0 t0,0,none⟩)) from hc) ?_
        refine O.asg rfl rfl rfl rfl rfl ?_
        refine Pl.fin [(0,_),(1,_),(4,_),(5,_),(6,_)] ⟨rfl,rfl,rfl,rfl,rfl,trivial⟩ ?_
        refine Go'.seq ?_
        refine Go'.block ?_
        refine Go'.loop ?_
        refine Go'.keep [(0,_),(1,_),(4,_),(5,_),(6,_)] ⟨rfl,rfl,rfl,rfl,rfl,trivial⟩ ?_
        refine Go'.ind (σ := (h : Nat) × Gt EA h) (fun s => s.1) (fun s H' => ∃ D,Sp2 H2 H' P true (fun n => n + 1) h0 t0 H2.size D s.1 s.2 ∧ Fr (fun b o => o = 1 ∧ Gt.sp true h0 t0 b) H12 H')
          (fun s => [(0,.pointer (some ⟨tr,0,none⟩)),(1,iv x),(4,.nilIface),(5,.bool false),(6,.pointer (some ⟨Gt.p s.1 s.2,0,none⟩))]) ⟨h0,t0⟩ ⟨_,hs2,Fr.refl _ _⟩ rfl ?_
        rintro ⟨h,t⟩ H5 ⟨D2,hs3,hf3⟩ ih
        simp only at hs3
        have hcc3 := hs3.val2 _ (Gt.sp_p true)
        have hcn3 := (hs3.g.cnOf).2
        have hle3 := hs3.le
        rw [e] at hle3
        refine Go'.block ?_
        refine Go'.seq ?_
        have hpos : 1 ≤ (Gt.L h t).length := hs3.pos
        rcases h with _ | h
        rotate_left
        · -- further down
          obtain ⟨g,X3,K⟩ := t
          have hKl : K.length = X3.length + 1 := hs3.g.2.2.2.2.2.1
          obtain ⟨k,hk⟩ : ∃ k,K[cix true K.length]? = some k := ⟨K[cix true K.length]'(cix_lt (by omega)),List.getElem?_eq_getElem (cix_lt (by omega))⟩
          replace hcn3 : cnOf H2 g.p = (Gt.L (h + 1) ((g,X3,K) : Gt EA (h + 1))).length := hcn3
          obtain ⟨i1,i2,i3⟩ := hs3.inner (t := (g,X3,K)) hk
          have hwr3 := hs3.fr.wr hs3.g.1.wr
          have hx3 : X3.length ≤ P.mx := hs3.g.2.2.2.2.1
          refine Go'.region [(0,0),(1,0),(2,0),(3,1),(4,0),(5,0),(6,0),(7,2)] rfl ?_
          refine O.mv rfl rfl rfl rfl rfl ?_
          refine O.nc rfl rfl rfl rfl rfl ?_
          refine O.fa0 (off := 1) rfl rfl rfl rfl ⟨_,_,_,underlying144,rfl,rfl,sizeOf3⟩ rfl ?_
          refine O.ld rfl rfl rfl (fun w => ⟨isAgg3 w,sizeOf3 w⟩) rfl (show cl _ g.p 1 = some (.int .i64 ((cnOf H2 g.p + 1 : Nat) : Int)) from hcc3) ?_
          refine O.sub (((((cnOf H2 g.p + 1)) - 1 : Nat) : Int)) rfl rfl rfl rfl rfl rfl (by omega) (by omega) ?_
          refine O.nc rfl rfl rfl rfl rfl ?_
          refine O.fa0 (off := 1) rfl rfl rfl rfl ⟨_,_,_,underlying144,rfl,rfl,sizeOf3⟩ rfl ?_
          refine O.st rfl rfl sizeOf3 rfl rfl rfl rfl rfl (hwr3.at0 1 1 (by omega)) ?_
          intro H6 W4
          have ecn : cnOf H2 g.p + 1 - 1 = cnOf H2 g.p := by omega
          rw [ecn] at W4
          have hs4 := hs3.step (t := (g,X3,K)) hh1 hk W4
          have hf4 : Fr (fun b o => o = 1 ∧ Gt.sp true h0 t0 b) H12 H6 := hf3.trans' W4.fr (fun _ _ _ h => h) (fun b o _ hz => by
            have h1 := hz.1; have h2 := hz.2.1; have h3 := hz.2.2
            simp only [List.length_cons,List.length_nil] at h3
            exact ⟨by omega,h1 ▸ (hs3.all _).2 (.inr (.inl rfl))⟩)
          have hKM := hs3.g.2.1
          replace i1 := W4.keep1 i1 (by simp only; omega)
          replace i2 := W4.fr.keep i2 (nr (.inl (Ne.symm hKM.n2)))
          replace i3 := W4.fr.keep i3 (nr (.inl (Ne.symm hKM.n3)))
          refine ⟨trivial,?_⟩
          refine Pl.fin [(0,_),(1,_),(4,_),(5,_),(6,_)] ⟨rfl,rfl,rfl,rfl,rfl,trivial⟩ ?_
          refine Go'.seq ?_
          refine Go'.seq ?_
          refine Go'.region [(0,0),(1,2)] rfl ?_
          refine O.mv rfl rfl rfl rfl rfl ?_
          refine O.callQ rfl rfl rfl call115 rfl (leaf_spec i1) trivial ?_
          refine Pl.fin [(0,_),(1,_),(4,_),(5,_),(6,_),(109,_)] ⟨rfl,rfl,rfl,rfl,rfl,rfl,trivial⟩ ?_
          refine Go'.condF rfl ?_
          refine Go'.skip ?_
          refine Go'.draw (fun _ => True) [(0,0),(1,0),(2,0),(3,1),(4,0),(5,1),(6,0),(7,0),(8,0),(9,1),(10,0),(11,1),(12,0),(13,0),(14,0),(15,1),(16,0)] (by kernel_rfl) (by kernel_rfl) (trivial) ?_
          refine O.mv rfl rfl rfl rfl rfl ?_
          refine O.nc rfl rfl rfl rfl rfl ?_
          refine O.fa0 (off := 3) rfl rfl rfl rfl ⟨_,_,_,underlying144,rfl,rfl,sizeOf142⟩ rfl ?_
          refine O.ld rfl rfl rfl (fun w => ⟨isAgg142 w,sizeOf142 w⟩) rfl (show cl _ g.p 3 = some (.pointer (some ⟨g.cb,0,none⟩)) from i1) ?_
          refine O.nc rfl rfl rfl rfl rfl ?_
          refine O.ld rfl rfl rfl (fun w => ⟨isAgg145 w,sizeOf145 w⟩) rfl (show cl _ g.cb 0 = some (.slice (some ⟨g.kb,g.ko,none⟩) K.length g.kc) from i2) ?_
          refine O.mv rfl rfl rfl rfl rfl ?_
          refine O.nc rfl rfl rfl rfl rfl ?_
          refine O.fa0 (off := 3) rfl rfl rfl rfl ⟨_,_,_,underlying144,rfl,rfl,sizeOf142⟩ rfl ?_
          refine O.ld rfl rfl rfl (fun w => ⟨isAgg142 w,sizeOf142 w⟩) rfl (show cl _ g.p 3 = some (.pointer (some ⟨g.cb,0,none⟩)) from i1) ?_
          refine O.nc rfl rfl rfl rfl rfl ?_
          refine O.ld rfl rfl rfl (fun w => ⟨isAgg145 w,sizeOf145 w⟩) rfl (show cl _ g.cb 0 = some (.slice (some ⟨g.kb,g.ko,none⟩) K.length g.kc) from i2) ?_
          refine O.len rfl rfl rfl rfl underlying145 rfl ?_
          refine O.sub (((K.length - 1 : Nat) : Int)) rfl rfl rfl rfl rfl rfl (by omega) (by omega) ?_
          refine O.ix (j := K.length - 1) rfl rfl rfl rfl underlying145 sizeOf96 rfl rfl (by omega) (by omega) ?_
          refine O.ld rfl rfl rfl (fun w => ⟨isAgg96 w,sizeOf96 w⟩) rfl i3 ?_
          refine O.asg rfl rfl rfl rfl rfl ?_
          refine Pl.fin [(0,_),(1,_),(4,_),(5,_),(6,_),(109,_)] ⟨rfl,rfl,rfl,rfl,rfl,rfl,trivial⟩ ?_
          refine Go'.inBlock ?_
          refine Go'.keep [(0,_),(1,_),(4,_),(5,_),(6,_)] ⟨rfl,rfl,rfl,rfl,rfl,trivial⟩ ?_
          refine Go'.inLoop ?_
          exact ih ⟨h,k⟩ H6 ⟨_,hs4,hf4⟩ (by simp only; omega)
        · -- the leaf again
          obtain ⟨g,X3⟩ := t
          replace hcn3 : cnOf H2 g.p = (Gt.L 0 ((g,X3) : Gt EA 0)).length := hcn3
          have hwr3 := hs3.fr.wr hs3.g.1.wr
          have hc3l : cl H5 g.p 3 = some (.pointer none) := hs3.fr.keep hs3.g.1.c3 (fun hz => hz.elim (fun h => by omega) (fun h => hs3.nb 3 (hs3.sub H2.size 3 (show ncl EA g H2.size 3 from .inl ⟨h.symm,by omega⟩))))
          refine Go'.region [(0,0),(1,0),(2,0),(3,1),(4,0),(5,0),(6,0),(7,2)] rfl ?_
          refine O.mv rfl rfl rfl rfl rfl ?_
          refine O.nc rfl rfl rfl rfl rfl ?_
          refine O.fa0 (off := 1) rfl rfl rfl rfl ⟨_,_,_,underlying144,rfl,rfl,sizeOf3⟩ rfl ?_
          refine O.ld rfl rfl rfl (fun w => ⟨isAgg3 w,sizeOf3 w⟩) rfl (show cl _ g.p 1 = some (.int .i64 ((cnOf H2 g.p + 1 : Nat) : Int)) from hcc3) ?_
          refine O.sub (((((cnOf H2 g.p + 1)) - 1 : Nat) : Int)) rfl rfl rfl rfl rfl rfl (by omega) (by omega) ?_
          refine O.nc rfl rfl rfl rfl rfl ?_
          refine O.fa0 (off := 1) rfl rfl rfl rfl ⟨_,_,_,underlying144,rfl,rfl,sizeOf3⟩ rfl ?_
          refine O.st rfl rfl sizeOf3 rfl rfl rfl rfl rfl (hwr3.at0 1 1 (by omega)) ?_
          intro H6 W4
          have ecn : cnOf H2 g.p + 1 - 1 = cnOf H2 g.p := by omega
          rw [ecn] at W4
          have hgB := hs3.fin (t := (g,X3)) hg1 W4
          have hf4 : Fr (fun b o => o = 1 ∧ Gt.sp true h0 t0 b) H12 H6 := hf3.trans' W4.fr (fun _ _ _ h => h) (fun b o _ hz => by
            have h1 := hz.1; have h2 := hz.2.1; have h3 := hz.2.2
            simp only [List.length_cons,List.length_nil] at h3
            exact ⟨by omega,h1 ▸ (hs3.all _).2 (.inr rfl)⟩)
          have hst : ∀ b o,b < cx.base → ¬ (o = 1 ∧ Gt.sp true h0 t0 b) := fun b o hb hz => by have := hnt b 1 (Gt.sp_af hz.2 1 (by omega)); omega
          replace hc3l := W4.keep1 hc3l (by omega)
          replace tc := tc.fr hf4 (fun b o hb _ => hst b o hb.1)
          replace cnt := hf4.keep cnt (hst _ _ htb)
          replace hc := hf4.keep hc (hst _ _ htb)
          have hFB : Fr (fun b _ => S b) H2 H6 := hFb.trans' hf4 (fun b o hb hz => by
            rcases hz with ⟨ho,hz⟩ | hz
            · exact hown b o (ho ▸ Gt.sp_af hz 1 (by omega))
            · omega) (fun b o _ hz => hown b o (hz.1 ▸ Gt.sp_af hz.2 1 (by omega)))
          have hszB := hFB.size
          have hMB : MapM H6 tr P S l := ⟨tc,srt,cnt,own,fun b hb => by have := lt b hb; omega,bs,.inr ⟨h0,t0,hgB,hx0,e,hc,hnt,hown⟩⟩
          refine ⟨trivial,?_⟩
          refine Pl.fin [(0,_),(1,_),(4,_),(5,_),(6,_)] ⟨rfl,rfl,rfl,rfl,rfl,trivial⟩ ?_
          refine Go'.seq ?_
          refine Go'.seq ?_
          refine Go'.region [(0,0),(1,2)] rfl ?_
          refine O.mv rfl rfl rfl rfl rfl ?_
          refine O.callQ rfl rfl rfl call115 rfl (leaf_spec hc3l) trivial ?_
          refine Pl.fin [(0,_),(1,_),(4,_),(5,_),(6,_),(109,_)] ⟨rfl,rfl,rfl,rfl,rfl,rfl,trivial⟩ ?_
          refine Go'.condT rfl ?_
          refine Go'.exit rfl ?_
          refine Go'.seq ?_
          refine Go'.region [(0,0),(1,0),(2,2),(3,0),(4,0),(5,0),(6,0)] rfl ?_
          refine O.mv rfl rfl rfl rfl rfl ?_
          refine O.mv rfl rfl rfl rfl rfl ?_
          refine O.call rfl rfl rfl call113 rfl (mset_spec hP (x := x) (hz := fun _ => False) hMB hlen (.inl ⟨rfl,fun _ h => h⟩) (fun _ h => h.elim)) ?_
          rintro _ H7 ⟨_,rfl,S',hM5,hF5,hS5⟩
          refine ⟨trivial,?_⟩
          refine O.ext rfl rfl rfl rfl rfl rfl ?_
          refine O.ext rfl rfl rfl rfl rfl rfl ?_
          refine O.asg rfl rfl rfl rfl rfl ?_
          refine O.asg rfl rfl rfl rfl rfl ?_
          refine Pl.fin [(4,_),(5,_)] ⟨rfl,rfl,trivial⟩ ?_
          refine Go'.ret (vs := [_,_]) func90 results90 ⟨rfl,rfl,trivial⟩ ?_
          refine ⟨rfl,S',hM5,?_,fun b hb => (hS5 b hb).imp id (fun h => by omega)⟩
          exact hFB.trans' hF5 (fun _ _ _ h => h) (fun _ _ _ h => h.elim id (fun h => h.elim))
      · -- behind the last one
        refine Go'.condT rfl ?_
        refine Go'.seq ?_
        refine Go'.region [(0,0),(1,0),(2,0),(3,0),(4,1),(5,0),(6,2),(7,2),(8,0),(9,0),(10,2)] rfl ?_
        refine O.mv rfl rfl rfl rfl rfl ?_
        refine O.mv rfl rfl rfl rfl rfl ?_
        refine O.nc rfl rfl rfl rfl rfl ?_
        refine O.fa0 (off := 2) rfl rfl rfl rfl ⟨_,_,_,underlying144,rfl,rfl,sizeOf141⟩ rfl ?_
        refine O.ld rfl rfl rfl (fun w => ⟨isAgg141 w,sizeOf141 w⟩) rfl (show cl _ np 2 = some (.slice (some ⟨nib,nio,none⟩) X.length nic) from hn.c2) ?_
        refine O.mv rfl rfl rfl rfl rfl ?_
        refine O.bsl (cs := (EA.enc x)) rfl rfl rfl ⟨underlying141,sizeOf20,zeroValue20,⟨_,typeInfo20,rfl⟩,rfl,by decide,by decide⟩ rfl (by decide) (by kernel_rfl) ?_
        intro H13 MH13
        have fM := MH13.fr nowhere
        replace hn := NodeM.fr EA hn fM (fun _ _ _ => nw)
        replace tc := tc.fr fM (fun _ _ _ _ => nw)
        replace hF := hF.trans' fM (fun _ _ _ h => h) (fun _ _ _ h => h.elim)
        replace cnt := Fr.keep fM cnt nw
        replace hc := Fr.keep fM hc nw
        have mH13 : Rd H13 H12.size 0 (EA.enc x) := MH13.rd _ [] (by simp)
        refine ⟨trivial,?_⟩
        refine O.app (m := 1) (news := (EA.enc x)) rfl rfl rfl ⟨underlying141,sizeOf20,zeroValue20,⟨_,typeInfo20,rfl⟩,rfl,by decide,by decide⟩ rfl hn.sl rfl (.inl ⟨_,_,_,rfl,mH13⟩) rfl rfl (Nat.le_trans (Nat.mul_le_mul_left _ (Nat.le_of_ble_eq_true (n := _) (m := 4096) rfl)) (by omega)) (by omega) ?_
        intro nib_15 nio_15 nic_15 H14 haH14
        have fA : Fr (ncl EA (⟨np,niso,ncnt_11,nib,nio,nic,ncb,nkb,nko,nkc⟩ : Ng)) H13 H14 := (haH14.in_node hn)
        have gg : Gro H13 (ncl EA (⟨np,niso,ncnt_11,nib,nio,nic,ncb,nkb,nko,nkc⟩ : Ng)) (ncl EA (⟨np,niso,ncnt_11,nib_15,nio_15,nic_15,ncb,nkb,nko,nkc⟩ : Ng)) := haH14.gro
        have hF0 := hF
        have h0 := hn
        replace hn := hn.appd haH14
        replace tc := tc.fr fA (fun b o hb _ hz => tn b o hz hb.1)
        replace hF := Fr.tot hF fA sn (fun _ _ h => .inl h)
        replace cnt := Fr.keep fA cnt (fun hz => tn tr _ hz htb)
        replace hc := Fr.keep fA hc (fun hz => tn tr _ hz htb)
        refine ⟨trivial,?_⟩
        refine O.nc rfl rfl rfl rfl rfl ?_
        refine O.fa0 (off := 2) rfl rfl rfl rfl ⟨_,_,_,underlying144,rfl,rfl,sizeOf141⟩ rfl ?_
        refine O.st rfl rfl sizeOf141 rfl rfl rfl rfl rfl (hn.wr.at0 2 1 (by omega)) ?_
        intro H15 WH15
        have hf3 : NodeM EA H15 (⟨np,niso,ncnt_11,nib_15,nio_15,nic_15,ncb,nkb,nko,nkc⟩ : Ng) (X ++ [x]) (.pointer none) := h0.push haH14 WH15
        have fH : Fr (ncl EA (⟨np,niso,ncnt_11,nib_15,nio_15,nic_15,ncb,nkb,nko,nkc⟩ : Ng)) H14 H15 := (Wrote.fHdr (E := EA) (g := (⟨np,niso,ncnt_11,nib_15,nio_15,nic_15,ncb,nkb,nko,nkc⟩ : Ng)) WH15 (by omega))
        replace tn := Gro.offD gg tn (fun b h => Nat.lt_of_lt_of_le (hD b h) hF0.size)
        replace sn := Gro.tr sn hF0.size gg
        replace tc := tc.fr fH (fun b o hb _ hz => tn b o hz hb.1)
        replace hF := Fr.tot hF fH sn (fun _ _ h => .inl h)
        replace cnt := Fr.keep fH cnt (fun hz => tn tr _ hz htb)
        replace hc := Fr.keep fH hc (fun hz => tn tr _ hz htb)
        clear h0 hn
        obtain ⟨nX1,enX1,hn⟩ : ∃ X1,X1 = X ++ [x] ∧ NodeM EA H15 (⟨np,niso,ncnt_11,nib_15,nio_15,nic_15,ncb,nkb,nko,nkc⟩ : Ng) (X1) (.pointer none) := ⟨_,rfl,hf3⟩
        have lnX1 : nX1.length = X.length + 1 := by rw [enX1,List.length_append]; rfl
        have cnX1 : nX1.length ≤ nic_15 := hn.sl.hle
        clear hf3 fA fH gg hF0 haH14 WH15 fM MH13 mH13
        refine ⟨trivial,?_⟩
        refine Pl.fin [(0,_),(1,_),(4,_),(5,_),(6,_),(33,_),(43,_),(58,_)] ⟨rfl,rfl,rfl,rfl,rfl,rfl,rfl,rfl,trivial⟩ ?_
        refine Go'.seq ?_
        have eX : X = X.take (X.length - 1) ++ [y] := Pl.last_split hy
        obtain ⟨gE1,gE2,gE3,⟨R,gE4,gE5⟩,gE6,gE7⟩ := Gt.Good.edit (d := true) (δ := (fun n => n + 1)) (Z := fun b o => (o = 1 ∧ D b) ∨ ((ncl EA (⟨np,niso,ncnt,nib,nio,nic,ncb,nkb,nko,nkc⟩ : Ng)) b o ∨ b = tr)) (hs.fr.trans' hF (fun _ _ _ h => .inl h) (fun _ _ _ h => .inr h)) hn hiso (show ncnt_11 = nX1.length by omega) (by omega) hg1
          (fun b o hb hz => by
            rcases hz with ⟨ho,hd⟩ | hz | rfl
            · exact .inl ⟨ho,(hs.all b).2 (.inl hd)⟩
            · exact .inr (by rw [← hlf]; exact hz)
            · exact absurd (hnt _ _ hb) (by omega))
          (fun q hq hne2 => by
            rcases (hs.all q).1 hq with hd | hd
            · exact hF.keep (hs.val q hd) (fun hz => by
                rcases hz with hz | rfl
                · exact hs.off q hd hz
                · exact hDt _ htb hd)
            · rw [← hlf] at hne2
              exact (hne2 hd).elim)
          (by rw [← hlf]) (fun h9 => by
            have : P.mn ≤ X.length := hs.mn h9
            omega)
          (by rw [← hlf]; exact fun b o hb => (sn b o hb).imp id (fun h9 => by omega)) (fun n hn9 => by rw [← hlf] at hn9 ⊢; simp only at hn9 ⊢; omega)
        rw [← hlf] at gE4
        have ht1 : l = R ++ X := by rw [← e]; exact gE4
        have hglen := glue_len true nX1 R
        have hglen2 := congrArg List.length ht1
        rw [List.length_append] at hglen2
        have ht2 : l = (R ++ X.take (X.length - 1)) ++ [y] := by
          rw [ht1]
          conv => lhs; rw [eX]
          simp
        have hpe := Pl.put_end OI (x := x) (y := y) (l := R ++ X.take (X.length - 1)) (by rw [← ht2]; exact srt) hyx
        rw [← ht2] at hpe
        have hput : Pl.put OI x l = glue true nX1 R := by
          rw [hpe.1,ht1,enX1]
          show _ = R ++ (X ++ [x])
          simp
        have hown1 : ∀ b o,Gt.af h0 (Gt.ed true (fun n => n + 1) (⟨np,niso,ncnt_11,nib_15,nio_15,nic_15,ncb,nkb,nko,nkc⟩ : Ng) nX1 h0 t0) b o → S b ∨ (H2.size ≤ b ∧ b < H15.size) := fun b o hb => (gE3 b o hb).imp (hown b o) (fun h9 => ⟨by omega,gE1.lt hb⟩)
        have hnt1 : ∀ b o,Gt.af h0 (Gt.ed true (fun n => n + 1) (⟨np,niso,ncnt_11,nib_15,nio_15,nic_15,ncb,nkb,nko,nkc⟩ : Ng) nX1 h0 t0) b o → cx.base ≤ b := fun b o hb => (gE3 _ _ hb).elim (hnt b o) (fun h9 => by omega)
        have hFt : Fr (fun b _ => S b) H2 H15 := hs.fr.trans' hF (Z := fun b _ => S b) (fun b o _ hd => hown b o (hd.1 ▸ Gt.sp_af ((hs.all b).2 (.inl hd.2)) 1 (by omega))) (fun b o hb hz => by
          rcases hz with hz | rfl
          · exact hown b o (hs.sub b o hz)
          · exact own)
        have hbl6 : ∀ b o,Gt.af h0 (Gt.ed true (fun n => n + 1) (⟨np,niso,ncnt_11,nib_15,nio_15,nic_15,ncb,nkb,nko,nkc⟩ : Ng) nX1 h0 t0) b o → b ≠ tr := fun b o hb => by have := hnt1 b o hb; omega
        generalize hT : Gt.ed true (fun n => n + 1) (⟨np,niso,ncnt_11,nib_15,nio_15,nic_15,ncb,nkb,nko,nkc⟩ : Ng) nX1 h0 t0 = T at *
        rw [← gE2] at hc
        have hsrt1 : Pl.Srt OI (glue true nX1 R) := by rw [← hput]; exact Pl.Srt.put OI srt
        refine Go'.region [(0,0),(1,0),(2,0),(3,1),(4,0),(5,0),(6,0),(7,2)] rfl ?_
        refine O.mv rfl rfl rfl rfl rfl ?_
        refine O.nc rfl rfl rfl rfl rfl ?_
        refine O.fa0 (off := 3) rfl rfl rfl rfl ⟨_,_,_,underlying138,rfl,rfl,sizeOf3⟩ rfl ?_
        refine O.ld rfl rfl rfl (fun w => ⟨isAgg3 w,sizeOf3 w⟩) rfl cnt ?_
        refine O.add (((l.length + 1 : Nat) : Int)) rfl rfl rfl rfl rfl rfl (by omega) (by omega) ?_
        refine O.nc rfl rfl rfl rfl rfl ?_
        refine O.fa0 (off := 3) rfl rfl rfl rfl ⟨_,_,_,underlying138,rfl,rfl,sizeOf3⟩ rfl ?_
        refine O.st rfl rfl sizeOf3 rfl rfl rfl rfl rfl (tc.wr.at0 3 1 (by omega)) ?_
        intro Ha Wa
        have hsa := Wa.size
        replace tc := tc.fr (Wa.fr' 1 rfl) (fun b o hb he hz => by have h1 := he hz.1; have h2 := hz.2.1; have h3 := hz.2.2; omega)
        replace hc := Wa.keep1 hc (by omega)
        replace hFt := hFt.trans' Wa.fr (fun _ _ _ h => h) (fun b o _ h => by rw [h.1]; exact own)
        have cnt5 : cl Ha tr 3 = some (.int .i64 ((l.length + 1 : Nat) : Int)) := Wa.at
        replace gE1 := gE1.fr Wa.fr (fun b o hb => nr (.inl (hbl6 b o hb)))
        refine ⟨trivial,?_⟩
        refine Pl.fin [(0,_),(1,_),(4,_),(5,_),(6,_),(33,_),(43,_),(58,_)] ⟨rfl,rfl,rfl,rfl,rfl,rfl,rfl,rfl,trivial⟩ ?_
        refine Go'.seq ?_
        refine Go'.region [(0,0),(1,0),(2,0),(3,1),(4,0),(5,0)] rfl ?_
        refine O.mv rfl rfl rfl rfl rfl ?_
        refine O.nc rfl rfl rfl rfl rfl ?_
        refine O.fa0 (off := 7) rfl rfl rfl rfl ⟨_,_,_,underlying138,rfl,rfl,sizeOf20⟩ rfl ?_
        refine O.ld rfl rfl rfl (fun w => ⟨isAgg20 w,sizeOf20 w⟩) rfl ((tc.emp) 0 _ rfl) ?_
        refine O.asg rfl rfl rfl rfl rfl ?_
        refine O.asg rfl rfl rfl rfl rfl ?_
        refine Pl.fin [(0,_),(1,_),(4,_),(5,_),(6,_),(33,_),(43,_),(58,_)] ⟨rfl,rfl,rfl,rfl,rfl,rfl,rfl,rfl,trivial⟩ ?_
        refine Go'.ret (vs := [_,_]) func90 results90 ⟨rfl,rfl,trivial⟩ ?_
        refine ⟨by rw [hpe.2.1,hpe.2.2]; rfl,?_⟩
        rw [hput]
        have e9 : l.length + 1 = (glue true nX1 R).length := by rw [hglen]; omega
        rw [e9] at cnt5
        have hsz9 := hFt.size
        exact ⟨fun b => S b ∨ (H2.size ≤ b ∧ b < Ha.size),⟨tc,hsrt1,cnt5,.inl own,fun b hb => hb.elim (fun h9 => by have := lt b h9; omega) (fun h9 => h9.2),fun b hb => hb.elim (bs b) (fun h9 => .inr (by omega)),.inr ⟨h0,T,gE1,by
              rcases Nat.eq_zero_or_pos h0 with h9 | h9
              · rw [gE7 h9]; omega
              · rw [gE6 h9]; assumption,gE5,hc,hnt1,fun b o hb => (hown1 b o hb).imp id (fun h9 => ⟨h9.1,by omega⟩)⟩⟩,hFt,fun b hb => hb.imp id (fun h9 => h9.1)⟩

end
end Go.Bt.FB
