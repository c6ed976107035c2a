/- Contracts of functions of the program, proved by walking through their code. Conditions: those that each theorem names. -/
import Derived.Test.YtnlempnbagoipaaProg
import Derived.Test.YtnlempnbagoipaaTobK
import Derived.Test.YtnlempnbagoipaaToRb
import Derived.Test.YtnlempnbagoipaaToCc
import Derived.Test.YtnlempnbagoipaaTobI
namespace Go.Bt.FB
open Go Go.Proofs Go.Proofs.Try
set_option maxRecDepth 20000
set_option maxHeartbeats 4000000
set_option linter.unusedVariables false
set_option linter.unusedSectionVars false

/-- A degree's value: 0 stands for the default. -/
def dg (d : Nat) : Nat := if d = 0 then 32 else d
def PD (d : Nat) : Ps := ⟨1,2 * dg d - 1,dg d - 1⟩
theorem dg_ok {d : Nat} (hd : d = 0 ∨ 2 ≤ d ∧ d ≤ 128) : 2 ≤ dg d ∧ dg d ≤ 128 := by unfold dg; split <;> omega
theorem PD_ok {d : Nat} (hd : d = 0 ∨ 2 ≤ d ∧ d ≤ 128) : PsOk (PD d) := by
  have := dg_ok hd
  exact ⟨by show 2 * dg d - 1 = 2 * (dg d - 1) + 1; omega,by show 1 ≤ dg d - 1; omega,by show 2 * dg d - 1 ≤ 255; omega⟩
/-- A tree header. -/
structure TrN (H : Mem) (tr id mx mn : Nat) (lv : Value) : Prop where
  iso : cl H tr 0 = some (.int .u64 (id : Int))
  rt : cl H tr 2 = some (.pointer none)
  cnt : cl H tr 3 = some (.int .i64 0)
  emp : Rd H tr 7 [.nilIface]
  mn' : cl H tr 9 = some (.int .i64 (mn : Int))
  mx' : cl H tr 8 = some (.int .i64 (mx : Int))
  cv : cl H tr 4 = some (.bool false)
  icv : cl H tr 5 = some (.bool false)
  le : cl H tr 6 = some lv
  wr : Wr H tr 0 10
theorem TrN.fr {H H' : Mem} {tr id mx mn : Nat} {lv : Value} {Z : Nat → Nat → Prop} (h : TrN H tr id mx mn lv) (hf : Fr Z H H') (hz : ∀ o,¬ Z tr o) : TrN H' tr id mx mn lv :=
  ⟨hf.keep h.iso (hz _),hf.keep h.rt (hz _),hf.keep h.cnt (hz _),hf.rd h.emp (fun _ _ => hz _),hf.keep h.mn' (hz _),hf.keep h.mx' (hz _),hf.keep h.cv (hz _),hf.keep h.icv (hz _),hf.keep h.le (hz _),hf.wr h.wr⟩
theorem st112 : StT Try.prog 112 [(0,1),(1,1)] [.int .i64 0,.bool false] := ⟨⟨_,underlying112,fun w => by simp [Array.mapM_eq_mapM_toList,sizeOf3,sizeOf4]⟩,zeroValue112⟩

theorem degG_spec {B : World} {H : Mem} {d : Nat} (hd : d = 0 ∨ 2 ≤ d ∧ d ≤ 128) :
    Fn Try.prog B 138 [.int .i64 (d : Int)] H (fun v H' => v = .tuple #[.int .i64 ((dg d - 1 : Nat) : Int),.int .i64 ((2 * dg d - 1 : Nat) : Int)] ∧ H' = H) := by
  rcases hd with rfl | hd
  rotate_left
  · rw [show dg d = d by unfold dg; rw [if_neg (by omega)]]; haveI : Inhabited Cx := ⟨⟨[],0,0,.bool false,0,fun _ => False⟩⟩; exact deg_spec hd
  refine fn_of func138 rfl ntmps138 ?_
  refine (show Go' _ _ _ _ 15 [(0,_)] [.code _] _ from ?_)
  refine Go'.seq ?_
  refine Go'.region [(0,0),(1,0)] rfl ?_
  refine O.asg rfl rfl rfl rfl rfl ?_
  refine O.asg rfl rfl rfl rfl rfl ?_
  refine Pl.fin [(0,_),(2,_),(3,_)] ⟨rfl,rfl,rfl,trivial⟩ ?_
  refine Go'.seq ?_
  refine Go'.seq ?_
  refine Go'.region [(0,0),(1,0)] rfl ?_
  refine O.mv rfl rfl rfl rfl rfl ?_
  refine O.cmp rfl rfl rfl rfl rfl rfl (leqT (by omega)) ?_
  refine Pl.fin [(0,_),(2,_),(3,_),(5,_)] ⟨rfl,rfl,rfl,rfl,trivial⟩ ?_
  refine Go'.condT rfl ?_
  refine Go'.region [(0,0)] rfl ?_
  refine O.asg rfl rfl rfl rfl rfl ?_
  refine Pl.fin [(0,_),(2,_),(3,_)] ⟨rfl,rfl,rfl,trivial⟩ ?_
  refine Go'.seq ?_
  refine Go'.region [(0,0),(1,0),(2,0),(3,0)] rfl ?_
  refine O.mv rfl rfl rfl rfl rfl ?_
  refine O.mul (((64 : Nat) : Int)) rfl rfl rfl rfl rfl rfl (by omega) (by omega) ?_
  refine O.sub (((63 : Nat) : Int)) rfl rfl rfl rfl rfl rfl (by omega) (by omega) ?_
  refine O.asg rfl rfl rfl rfl rfl ?_
  refine Pl.fin [(2,_),(3,_)] ⟨rfl,rfl,trivial⟩ ?_
  refine Go'.seq ?_
  refine Go'.region [(0,0),(1,0),(2,0)] rfl ?_
  refine O.mv rfl rfl rfl rfl rfl ?_
  refine O.quo (((31 : Nat) : Int)) rfl rfl rfl rfl rfl rfl (by decide) rfl (by omega) ?_
  refine O.asg rfl rfl rfl rfl rfl ?_
  refine Pl.fin [(2,_),(3,_)] ⟨rfl,rfl,trivial⟩ ?_
  refine Go'.seq ?_
  refine Go'.region [(0,0),(1,0),(2,0),(3,0)] rfl ?_
  refine O.mv rfl rfl rfl rfl rfl ?_
  refine O.mv rfl rfl rfl rfl rfl ?_
  refine O.asg rfl rfl rfl rfl rfl ?_
  refine O.asg rfl rfl rfl rfl rfl ?_
  refine Pl.fin [(2,_),(3,_)] ⟨rfl,rfl,trivial⟩ ?_
  refine Go'.ret (vs := [_,_]) func138 results138 ⟨rfl,rfl,trivial⟩ ?_
  exact ⟨rfl,rfl⟩

theorem init_new {B : World} {H : Mem} {tr id d : Nat} {lv : Value} (hd : d = 0 ∨ 2 ≤ d ∧ d ≤ 128) (h : TrN H tr id 0 0 lv) :
    Fn Try.prog B 125 [.pointer (some ⟨tr,0,none⟩),.int .i64 (d : Int)] H (fun v H' => v = resVal [] ∧ H'.size = H.size ∧ Fr (fun b _ => b = tr) H H' ∧ TrN H' tr id (2 * dg d - 1) (dg d - 1) lv) := by
  obtain ⟨h0,h2,h3,he,h6,h7,h8,h9,hle,hw⟩ := h
  have htl : tr < H.size := cl_lt h0
  have hF : Fr (fun b _ => b = tr) H H := Fr.refl _ _
  refine fn_of func125 rfl ntmps125 ?_
  refine (show Go' _ _ _ _ 47 [(0,_),(1,_)] [.code _] _ from ?_)
  refine Go'.seq ?_
  refine Go'.seq ?_
  refine Go'.region [(0,0),(1,0),(2,0),(3,1),(4,0)] rfl ?_
  refine O.mv rfl rfl rfl rfl rfl ?_
  refine O.nc rfl rfl rfl rfl rfl ?_
  refine O.fa0 (off := 9) rfl rfl rfl rfl ⟨_,_,_,underlying138,rfl,rfl,sizeOf3⟩ rfl ?_
  refine O.ld rfl rfl rfl (fun w => ⟨isAgg3 w,sizeOf3 w⟩) rfl h6 ?_
  refine O.cmp rfl rfl rfl rfl rfl rfl (neqF (by omega)) ?_
  refine Pl.fin [(0,_),(1,_),(8,_)] ⟨rfl,rfl,rfl,trivial⟩ ?_
  refine Go'.condF rfl ?_
  refine Go'.skip ?_
  refine Go'.seq ?_
  refine Go'.region [(0,0),(1,0),(2,0),(3,2),(4,0),(5,0),(6,0),(7,0),(8,0),(9,2),(10,0),(11,0),(12,2)] rfl ?_
  refine O.mv rfl rfl rfl rfl rfl ?_
  refine O.mv rfl rfl rfl rfl rfl ?_
  refine O.mv rfl rfl rfl rfl rfl ?_
  refine O.callQ rfl rfl rfl call138 rfl (degG_spec hd) trivial ?_
  refine O.mv rfl rfl rfl rfl rfl ?_
  refine O.ext rfl rfl rfl rfl rfl rfl ?_
  refine O.ext rfl rfl rfl rfl rfl rfl ?_
  refine O.nc rfl rfl rfl rfl rfl ?_
  refine O.fa0 (off := 9) rfl rfl rfl rfl ⟨_,_,_,underlying138,rfl,rfl,sizeOf3⟩ rfl ?_
  refine O.st rfl rfl sizeOf3 rfl rfl rfl rfl rfl (hw.at0 9 1 (by omega)) ?_
  intro H1 W1
  have hsW1 := W1.size
  replace h0 := W1.keep1 h0 (by omega)
  replace h2 := W1.keep1 h2 (by omega)
  replace h3 := W1.keep1 h3 (by omega)
  replace he := W1.fr.rd he (fun i hi => nr (by simp only [List.length_cons,List.length_nil] at hi ⊢; omega))
  replace h6 := W1.at
  replace h7 := W1.keep1 h7 (by omega)
  replace h8 := W1.keep1 h8 (by omega)
  replace h9 := W1.keep1 h9 (by omega)
  replace hle := W1.keep1 hle (by omega)
  replace hw := W1.fr.wr hw
  replace hF := hF.trans' W1.fr (fun _ _ _ h => h) (fun b o _ h => h.1)
  refine ⟨trivial,?_⟩
  refine O.nc rfl rfl rfl rfl rfl ?_
  refine O.fa0 (off := 8) rfl rfl rfl rfl ⟨_,_,_,underlying138,rfl,rfl,sizeOf3⟩ rfl ?_
  refine O.st rfl rfl sizeOf3 rfl rfl rfl rfl rfl (hw.at0 8 1 (by omega)) ?_
  intro H2 W2
  have hsW2 := W2.size
  replace h0 := W2.keep1 h0 (by omega)
  replace h2 := W2.keep1 h2 (by omega)
  replace h3 := W2.keep1 h3 (by omega)
  replace he := W2.fr.rd he (fun i hi => nr (by simp only [List.length_cons,List.length_nil] at hi ⊢; omega))
  replace h6 := W2.keep1 h6 (by omega)
  replace h7 := W2.at
  replace h8 := W2.keep1 h8 (by omega)
  replace h9 := W2.keep1 h9 (by omega)
  replace hle := W2.keep1 hle (by omega)
  replace hw := W2.fr.wr hw
  replace hF := hF.trans' W2.fr (fun _ _ _ h => h) (fun b o _ h => h.1)
  refine ⟨trivial,?_⟩
  refine Pl.fin [(0,_)] ⟨rfl,trivial⟩ ?_
  refine Go'.seq ?_
  refine Go'.region [(0,0),(1,0),(2,0),(3,0),(4,1),(5,0),(6,0),(7,0),(8,0),(9,0),(10,0),(11,2)] rfl ?_
  refine O.mv rfl rfl rfl rfl rfl ?_
  refine O.mv rfl rfl rfl rfl rfl ?_
  refine O.nc rfl rfl rfl rfl rfl ?_
  refine O.fa0 (off := 7) rfl rfl rfl rfl ⟨_,_,_,underlying138,rfl,rfl,sizeOf20⟩ rfl ?_
  refine O.ld rfl rfl rfl (fun w => ⟨isAgg20 w,sizeOf20 w⟩) rfl ((he) 0 _ rfl) ?_
  refine O.tya rfl rfl rfl rfl rfl (run_assert_nil underlying164 zeroValue164) ?_
  refine O.mv rfl rfl rfl rfl rfl ?_
  refine O.ext rfl rfl rfl rfl rfl rfl ?_
  refine O.ext rfl rfl rfl rfl rfl rfl ?_
  refine O.nc rfl rfl rfl rfl rfl ?_
  refine O.fa0 (off := 4) rfl rfl rfl rfl ⟨_,_,_,underlying138,rfl,rfl,sizeOf4⟩ rfl ?_
  refine O.st rfl rfl sizeOf4 rfl rfl rfl rfl rfl (hw.at0 4 1 (by omega)) ?_
  intro H3 W3
  have hsW3 := W3.size
  replace h0 := W3.keep1 h0 (by omega)
  replace h2 := W3.keep1 h2 (by omega)
  replace h3 := W3.keep1 h3 (by omega)
  replace he := W3.fr.rd he (fun i hi => nr (by simp only [List.length_cons,List.length_nil] at hi ⊢; omega))
  replace h6 := W3.keep1 h6 (by omega)
  replace h7 := W3.keep1 h7 (by omega)
  replace h8 := W3.at
  replace h9 := W3.keep1 h9 (by omega)
  replace hle := W3.keep1 hle (by omega)
  replace hw := W3.fr.wr hw
  replace hF := hF.trans' W3.fr (fun _ _ _ h => h) (fun b o _ h => h.1)
  refine ⟨trivial,?_⟩
  refine Pl.fin [(0,_)] ⟨rfl,trivial⟩ ?_
  refine Go'.seq ?_
  refine Go'.region [(0,0),(1,0),(2,0),(3,1),(4,0)] rfl ?_
  refine O.mv rfl rfl rfl rfl rfl ?_
  refine O.nc rfl rfl rfl rfl rfl ?_
  refine O.fa0 (off := 4) rfl rfl rfl rfl ⟨_,_,_,underlying138,rfl,rfl,sizeOf4⟩ rfl ?_
  refine O.ld rfl rfl rfl (fun w => ⟨isAgg4 w,sizeOf4 w⟩) rfl h8 ?_
  refine O.not rfl rfl rfl rfl rfl ?_
  refine Pl.fin [(0,_),(35,_)] ⟨rfl,rfl,trivial⟩ ?_
  refine Go'.condT rfl ?_
  refine Go'.region [(0,0),(1,0),(2,0),(3,0),(4,1),(5,0),(6,0),(7,0),(8,0),(9,0),(10,0),(11,2)] rfl ?_
  refine O.mv rfl rfl rfl rfl rfl ?_
  refine O.mv rfl rfl rfl rfl rfl ?_
  refine O.nc rfl rfl rfl rfl rfl ?_
  refine O.fa0 (off := 7) rfl rfl rfl rfl ⟨_,_,_,underlying138,rfl,rfl,sizeOf20⟩ rfl ?_
  refine O.ld rfl rfl rfl (fun w => ⟨isAgg20 w,sizeOf20 w⟩) rfl ((he) 0 _ rfl) ?_
  refine O.tya rfl rfl rfl rfl rfl (run_assert_nil underlying167 zeroValue167) ?_
  refine O.mv rfl rfl rfl rfl rfl ?_
  refine O.ext rfl rfl rfl rfl rfl rfl ?_
  refine O.ext rfl rfl rfl rfl rfl rfl ?_
  refine O.nc rfl rfl rfl rfl rfl ?_
  refine O.fa0 (off := 5) rfl rfl rfl rfl ⟨_,_,_,underlying138,rfl,rfl,sizeOf4⟩ rfl ?_
  refine O.st rfl rfl sizeOf4 rfl rfl rfl rfl rfl (hw.at0 5 1 (by omega)) ?_
  intro H4 W4
  have hsW4 := W4.size
  replace h0 := W4.keep1 h0 (by omega)
  replace h2 := W4.keep1 h2 (by omega)
  replace h3 := W4.keep1 h3 (by omega)
  replace he := W4.fr.rd he (fun i hi => nr (by simp only [List.length_cons,List.length_nil] at hi ⊢; omega))
  replace h6 := W4.keep1 h6 (by omega)
  replace h7 := W4.keep1 h7 (by omega)
  replace h8 := W4.keep1 h8 (by omega)
  replace h9 := W4.at
  replace hle := W4.keep1 hle (by omega)
  replace hw := W4.fr.wr hw
  replace hF := hF.trans' W4.fr (fun _ _ _ h => h) (fun b o _ h => h.1)
  refine ⟨trivial,?_⟩
  refine Pl.fin [] trivial ?_
  refine Go'.fall func125 results125 (vs := []) trivial ?_
  exact ⟨rfl,by omega,hF,⟨h0,h2,h3,he,h6,h7,h8,h9,hle,hw⟩⟩

theorem newIso_spec {B : World} {H : Mem} {c : Nat} (hc : cl H c 0 = some (.int .u64 0)) (hw : Wr H c 0 1) :
    Fn Try.prog B 124 [.pointer (some ⟨c,0,none⟩)] H (fun v H' => v = .int .u64 ((1 : Nat) : Int) ∧ Fr (fun b _ => b = c) H H') := by
  refine fn_of func124 rfl ntmps124 ?_
  refine (show Go' _ _ _ _ 11 [(0,_)] [.code _] _ from ?_)
  refine Go'.seq ?_
  refine Go'.region [(0,0)] rfl ?_
  refine O.asg rfl rfl rfl rfl rfl ?_
  refine Pl.fin [(0,_),(2,_)] ⟨rfl,rfl,trivial⟩ ?_
  refine Go'.seq ?_
  refine Go'.region [(0,0),(1,0),(2,1),(3,0),(4,0),(5,2)] rfl ?_
  refine O.mv rfl rfl rfl rfl rfl ?_
  refine O.nc rfl rfl rfl rfl rfl ?_
  refine O.ld rfl rfl rfl (fun w => ⟨isAgg135 w,sizeOf135 w⟩) rfl hc ?_
  refine O.bin rfl rfl rfl rfl rfl rfl (fun w => ⟨run_eqGuard_int _ _ _ _ _ _ _ _ w,rfl⟩) ?_
  refine O.nc rfl rfl rfl rfl rfl ?_
  refine O.st rfl rfl sizeOf135 rfl rfl rfl rfl rfl hw ?_
  intro H1 W1
  refine ⟨trivial,?_⟩
  refine Pl.fin [(0,_),(2,_)] ⟨rfl,rfl,trivial⟩ ?_
  refine Go'.seq ?_
  refine Go'.region [(0,0),(1,0),(2,1),(3,0)] rfl ?_
  refine O.mv rfl rfl rfl rfl rfl ?_
  refine O.nc rfl rfl rfl rfl rfl ?_
  refine O.ld rfl rfl rfl (fun w => ⟨isAgg135 w,sizeOf135 w⟩) rfl W1.at ?_
  refine O.asg rfl rfl rfl rfl rfl ?_
  refine Pl.fin [(2,_)] ⟨rfl,trivial⟩ ?_
  refine Go'.ret (vs := [_]) func124 results124 ⟨rfl,trivial⟩ ?_
  exact ⟨rfl,W1.fr.mono fun b o _ h => h.1⟩

theorem newTree_spec {B : World} {H : Mem} {d : Nat} {nl : Bool} {g : FuncId} {ob : Nat} (hd : d = 0 ∨ 2 ≤ d ∧ d ≤ 128) :
    Fn Try.prog B 99 [.func (.func g) #[] #[ptr ob],.agg #[.int .i64 (d : Int),.bool nl]] H (fun r H' => ∃ tr,r = ptr tr ∧ H.size ≤ tr ∧ tr < H'.size ∧ Fr nowhere H H' ∧ TrN H' tr 1 (2 * dg d - 1) (dg d - 1) (.func (.func g) #[] #[ptr ob])) := by
  refine fn_of func99 rfl ntmps99 ?_
  refine (show Go' _ _ _ _ 28 [(0,_),(1,_)] [.code _] _ from ?_)
  refine Go'.seq ?_
  refine Go'.region [(0,2),(1,0)] rfl ?_
  refine O.box rfl rfl rfl rfl ?_
  intro H0 M0
  refine ⟨trivial,?_⟩
  have hs0 := M0.size
  have mo : Rd H0 H.size 0 [.int .i64 (d : Int),.bool nl] := M0.rd _ [] (by simp [Value.cells])
  refine O.asg rfl rfl rfl rfl rfl ?_
  refine Pl.fin [(0,_),(3,_),(4,_)] ⟨rfl,rfl,rfl,trivial⟩ ?_
  refine Go'.seq ?_
  refine Go'.region [(0,2),(1,0)] rfl ?_
  refine O.alloc rfl rfl rfl zeroValue138 ?_
  intro H1 M1
  refine ⟨trivial,?_⟩
  have hs1 := M1.size
  replace mo := (M1.fr nowhere).rd mo (fun _ _ => nw)
  have hT0 : TrN H1 H0.size 0 0 0 _ := ⟨(M1.cl 0).trans rfl,(M1.cl 2).trans rfl,(M1.cl 3).trans rfl,fun i v h => by
      match i,h with
      | 0,h => exact (M1.cl 7).trans h
      | i + 1,h => simp at h,(M1.cl 9).trans rfl,(M1.cl 8).trans rfl,(M1.cl 4).trans rfl,(M1.cl 5).trans rfl,(M1.cl 6).trans rfl,M1.wr 10 (by decide)⟩
  refine O.asg rfl rfl rfl rfl rfl ?_
  refine Pl.fin [(0,_),(3,_),(4,_),(5,_)] ⟨rfl,rfl,rfl,rfl,trivial⟩ ?_
  refine Go'.seq ?_
  refine Go'.region [(0,0),(1,2),(2,0),(3,0),(4,2)] rfl ?_
  refine O.mv rfl rfl rfl rfl rfl ?_
  refine O.alloc rfl rfl rfl zeroValue135 ?_
  intro H2 M2
  refine ⟨trivial,?_⟩
  have hs2 := M2.size
  replace mo := (M2.fr nowhere).rd mo (fun _ _ => nw)
  replace hT0 := hT0.fr (M2.fr nowhere) (fun _ => nw)
  have hc0 : cl H2 H1.size 0 = some (.int .u64 0) := (M2.cl 0).trans rfl
  have hcw : Wr H2 H1.size 0 1 := M2.wr 1 (by decide)
  refine O.nc rfl rfl rfl rfl rfl ?_
  refine O.fa0 (off := 1) rfl rfl rfl rfl ⟨_,_,_,underlying138,rfl,rfl,sizeOf136⟩ rfl ?_
  refine O.st rfl rfl sizeOf136 rfl rfl rfl rfl rfl (hT0.wr.at0 1 1 (by omega)) ?_
  intro H3 W3
  have hs3 := W3.size
  replace mo := W3.fr.rd mo (fun _ _ => nr (.inl (by omega)))
  replace hc0 := W3.keep1 hc0 (by omega)
  replace hcw := W3.fr.wr hcw
  have hct : cl H3 H0.size 1 = some (.pointer (some ⟨H1.size,0,none⟩)) := W3.at
  have hT0 : TrN H3 H0.size 0 0 0 _ := ⟨(W3.keep1 hT0.iso (by omega)),(W3.keep1 hT0.rt (by omega)),(W3.keep1 hT0.cnt (by omega)),(W3.fr.rd hT0.emp (fun i hi => nr (by simp only [List.length_cons,List.length_nil] at hi ⊢; omega))),(W3.keep1 hT0.mn' (by omega)),(W3.keep1 hT0.mx' (by omega)),(W3.keep1 hT0.cv (by omega)),(W3.keep1 hT0.icv (by omega)),(W3.keep1 hT0.le (by omega)),(W3.fr.wr hT0.wr)⟩
  refine ⟨trivial,?_⟩
  refine Pl.fin [(0,_),(3,_),(4,_),(5,_)] ⟨rfl,rfl,rfl,rfl,trivial⟩ ?_
  refine Go'.seq ?_
  refine Go'.region [(0,0),(1,0),(2,0),(3,0),(4,1),(5,2),(6,0),(7,0),(8,2)] rfl ?_
  refine O.mv rfl rfl rfl rfl rfl ?_
  refine O.mv rfl rfl rfl rfl rfl ?_
  refine O.nc rfl rfl rfl rfl rfl ?_
  refine O.fa0 (off := 1) rfl rfl rfl rfl ⟨_,_,_,underlying138,rfl,rfl,sizeOf136⟩ rfl ?_
  refine O.ld rfl rfl rfl (fun w => ⟨isAgg136 w,sizeOf136 w⟩) rfl hct ?_
  refine O.call rfl rfl rfl call124 rfl (newIso_spec hc0 hcw) ?_
  rintro _ H4 ⟨rfl,hF4⟩
  have hs4 := hF4.size
  replace mo := hF4.rd mo (fun _ _ e => by have e' : H.size = H1.size := e; omega)
  replace hT0 := hT0.fr hF4 (fun _ e => by have e' : H0.size = H1.size := e; omega)
  refine ⟨trivial,?_⟩
  refine O.nc rfl rfl rfl rfl rfl ?_
  refine O.faz rfl rfl rfl rfl ⟨_,_,_,underlying138,rfl,rfl,sizeOf135⟩ rfl ?_
  refine O.st rfl rfl sizeOf135 rfl rfl rfl rfl rfl (hT0.wr.at0 0 1 (by omega)) ?_
  intro H5 W5
  have hs5 := W5.size
  replace mo := W5.fr.rd mo (fun _ _ => nr (.inl (by omega)))
  have hT0 : TrN H5 H0.size 1 0 0 _ := ⟨W5.at,(W5.keep1 hT0.rt (by omega)),(W5.keep1 hT0.cnt (by omega)),(W5.fr.rd hT0.emp (fun i hi => nr (by simp only [List.length_cons,List.length_nil] at hi ⊢; omega))),(W5.keep1 hT0.mn' (by omega)),(W5.keep1 hT0.mx' (by omega)),(W5.keep1 hT0.cv (by omega)),(W5.keep1 hT0.icv (by omega)),(W5.keep1 hT0.le (by omega)),(W5.fr.wr hT0.wr)⟩
  refine ⟨trivial,?_⟩
  refine Pl.fin [(0,_),(3,_),(4,_),(5,_)] ⟨rfl,rfl,rfl,rfl,trivial⟩ ?_
  refine Go'.seq ?_
  refine Go'.region [(0,0),(1,0),(2,0),(3,0),(4,2)] rfl ?_
  refine O.mv rfl rfl rfl rfl rfl ?_
  refine O.mv rfl rfl rfl rfl rfl ?_
  refine O.nc rfl rfl rfl rfl rfl ?_
  refine O.fa0 (off := 6) rfl rfl rfl rfl ⟨_,_,_,underlying138,rfl,rfl,sizeOf109⟩ rfl ?_
  refine O.st rfl rfl sizeOf109 rfl rfl rfl rfl rfl (hT0.wr.at0 6 1 (by omega)) ?_
  intro H6 W6
  have hs6 := W6.size
  replace mo := W6.fr.rd mo (fun _ _ => nr (.inl (by omega)))
  have hT0 : TrN H6 H0.size 1 0 0 (.func (.func g) #[] #[ptr ob]) := ⟨(W6.keep1 hT0.iso (by omega)),(W6.keep1 hT0.rt (by omega)),(W6.keep1 hT0.cnt (by omega)),(W6.fr.rd hT0.emp (fun i hi => nr (by simp only [List.length_cons,List.length_nil] at hi ⊢; omega))),(W6.keep1 hT0.mn' (by omega)),(W6.keep1 hT0.mx' (by omega)),(W6.keep1 hT0.cv (by omega)),(W6.keep1 hT0.icv (by omega)),W6.at,(W6.fr.wr hT0.wr)⟩
  refine ⟨trivial,?_⟩
  refine Pl.fin [(3,_),(4,_),(5,_)] ⟨rfl,rfl,rfl,trivial⟩ ?_
  refine Go'.seq ?_
  refine Go'.region [(0,0),(1,0),(2,1),(3,2)] rfl ?_
  refine O.mv rfl rfl rfl rfl rfl ?_
  refine O.faz rfl rfl rfl rfl ⟨_,_,_,underlying112,rfl,rfl,sizeOf3⟩ rfl ?_
  refine O.ld rfl rfl rfl (fun w => ⟨isAgg3 w,sizeOf3 w⟩) rfl (mo 0 _ rfl) ?_
  refine O.call rfl rfl rfl call125 rfl (init_new hd hT0) ?_
  rintro _ H7 ⟨rfl,hs7,hF7,hT7⟩
  refine ⟨trivial,?_⟩
  refine Pl.fin [(4,_),(5,_)] ⟨rfl,rfl,trivial⟩ ?_
  refine Go'.seq ?_
  refine Go'.region [(0,0),(1,0)] rfl ?_
  refine O.mv rfl rfl rfl rfl rfl ?_
  refine O.asg rfl rfl rfl rfl rfl ?_
  refine Pl.fin [(4,_)] ⟨rfl,trivial⟩ ?_
  refine Go'.ret (vs := [_]) func99 results99 ⟨rfl,trivial⟩ ?_
  refine ⟨H0.size,rfl,by omega,by omega,?_,hT7⟩
  have f1 : Fr nowhere H H2 := ((M0.fr nowhere).trans (M1.fr nowhere)).trans (M2.fr nowhere)
  have f3 : Fr nowhere H H3 := f1.trans' W3.fr (fun _ _ _ h => h) (fun b o hb h => by have h' := h.1; omega)
  have f4 : Fr nowhere H H4 := f3.trans' hF4 (fun _ _ _ h => h) (fun b o hb h => by have h' : b = H1.size := h; omega)
  have f5 : Fr nowhere H H5 := f4.trans' W5.fr (fun _ _ _ h => h) (fun b o hb h => by have h' := h.1; omega)
  have f6 : Fr nowhere H H6 := f5.trans' W6.fr (fun _ _ _ h => h) (fun b o hb h => by have h' := h.1; omega)
  exact f6.trans' hF7 (fun _ _ _ h => h) (fun b o hb h => by have h' : b = H0.size := h; omega)

theorem cloneN_spec {B : World} {H : Mem} {v : Value} {l : List Int} (hi : InS EN H v l) (hll : l.length ≤ 4294967296) :
    Fn Try.prog B 126 [v] H (fun r H' => Acc EN (fun b => H.size ≤ b) H' r l ∧ Fr nowhere H H') := by
  obtain ⟨a,c,rfl⟩ := hi.len
  rcases a with _ | a
  · skip
    obtain rfl : l = [] := by
      rcases hi with ⟨b,o,c',e,_⟩ | ⟨e,_⟩
      · cases e
      · exact e
    refine fn_of func126 rfl ntmps126 ?_
    refine (show Go' _ _ _ _ 8 [(0,_)] [.code _] _ from ?_)
    refine Go'.seq ?_
    refine Go'.region [(0,0)] rfl ?_
    refine O.asg rfl rfl rfl rfl rfl ?_
    refine Pl.fin [(0,_),(2,_)] ⟨rfl,rfl,trivial⟩ ?_
    refine Go'.seq ?_
    refine Go'.seq ?_
    refine Go'.region [(0,0),(1,0)] rfl ?_
    refine O.mv rfl rfl rfl rfl rfl ?_
    refine O.slNil rfl rfl rfl rfl underlying22 rfl rfl ?_
    refine Pl.fin [(0,_),(2,_),(4,_)] ⟨rfl,rfl,rfl,trivial⟩ ?_
    refine Go'.condT rfl ?_
    refine Go'.seq ?_
    refine Go'.region [(0,0)] rfl ?_
    refine O.asg rfl rfl rfl rfl rfl ?_
    refine Pl.fin [(0,_),(2,_)] ⟨rfl,rfl,trivial⟩ ?_
    refine Go'.ret (vs := [_]) func126 results126 ⟨rfl,trivial⟩ ?_
    exact ⟨Acc.nil _ _ _,Fr.refl _ _⟩
  · skip
    refine fn_of func126 rfl ntmps126 ?_
    refine (show Go' _ _ _ _ 8 [(0,_)] [.code _] _ from ?_)
    refine Go'.seq ?_
    refine Go'.region [(0,0)] rfl ?_
    refine O.asg rfl rfl rfl rfl rfl ?_
    refine Pl.fin [(0,_),(2,_)] ⟨rfl,rfl,trivial⟩ ?_
    refine Go'.seq ?_
    refine Go'.seq ?_
    refine Go'.region [(0,0),(1,0)] rfl ?_
    refine O.mv rfl rfl rfl rfl rfl ?_
    refine O.slNil rfl rfl rfl rfl underlying22 rfl rfl ?_
    refine Pl.fin [(0,_),(2,_),(4,_)] ⟨rfl,rfl,rfl,trivial⟩ ?_
    refine Go'.condF rfl ?_
    refine Go'.skip ?_
    refine Go'.seq ?_
    refine Go'.region [(0,2),(1,0),(2,2),(3,0)] rfl ?_
    refine O.bsl (cs := []) rfl rfl rfl ⟨underlying22,sizeOf3,zeroValue3,⟨_,typeInfo3,rfl⟩,rfl,by decide,by decide⟩ rfl (by decide) (by kernel_rfl) ?_
    intro H1 M1
    have hs1 := M1.size
    have hA1 := AccN.made (E := EN) M1
    refine ⟨trivial,?_⟩
    refine O.mv rfl rfl rfl rfl rfl ?_
    refine O.appI (E := EN) rfl rfl rfl ⟨underlying22,sizeOf3,zeroValue3,⟨_,typeInfo3,rfl⟩,rfl,by decide,by decide⟩ rfl hA1 rfl (hi.fr (M1.fr nowhere)) (Nat.le_trans (Nat.mul_le_mul_left _ (Nat.le_of_ble_eq_true (n := _) (m := 4096) rfl)) (by simp only [List.length_nil]; omega)) (by simp only [List.length_nil]; omega) ?_
    intro v2 H2 hA2 hF2 hs2
    rw [List.nil_append] at hA2
    refine ⟨trivial,?_⟩
    refine O.asg rfl rfl rfl rfl rfl ?_
    refine Pl.fin [(2,_)] ⟨rfl,trivial⟩ ?_
    refine Go'.ret (vs := [_]) func126 results126 ⟨rfl,trivial⟩ ?_
    exact ⟨.inr (hA2.mono fun b _ hz => hz.elim id (fun h => by omega)),(M1.fr nowhere).trans' hF2 (fun _ _ _ h => h) (fun b o hb hz => by have hz' : H.size ≤ b := hz; omega)⟩

theorem ibefore_spec {B : World} {H : Mem} {v : Value} {ord : List Int} (ho : InS EN H v ord) (hl : ord.length ≤ 4294967296) :
    Fn Try.prog B 100 [v] H (fun r H' => ∃ ob ov,r = .func (.func 127) #[] #[ptr ob] ∧ cl H' ob 0 = some ov ∧ H.size ≤ ob ∧ ob < H'.size ∧ Acc EN (fun b => H.size ≤ b ∧ b ≠ ob) H' ov ord ∧ Fr nowhere H H') := by
  refine fn_of func100 rfl ntmps100 ?_
  refine (show Go' _ _ _ _ 7 [(0,_)] [.code _] _ from ?_)
  refine Go'.seq ?_
  refine Go'.region [(0,0)] rfl ?_
  refine O.asg rfl rfl rfl rfl rfl ?_
  refine Pl.fin [(0,_),(2,_)] ⟨rfl,rfl,trivial⟩ ?_
  refine Go'.seq ?_
  refine Go'.region [(0,0),(1,2),(2,2),(3,2)] rfl ?_
  refine O.mv rfl rfl rfl rfl rfl ?_
  refine O.call rfl rfl rfl call126 rfl (cloneN_spec ho hl) ?_
  rintro ov H1 ⟨hA,hF1⟩
  obtain ⟨oa,om,oc,rfl⟩ := hA.form
  refine ⟨trivial,?_⟩
  refine O.alloc rfl rfl rfl zeroValue22 ?_
  intro H2 M2
  refine ⟨trivial,?_⟩
  have hs2 := M2.size
  have hA2 := (hA.mono (Y := fun b => H.size ≤ b ∧ b ≠ H1.size) (fun b hb hz => ⟨hz,by omega⟩)).fr (M2.fr nowhere) (fun _ _ _ _ => nw)
  have mw : Wr H2 H1.size 0 1 := M2.wr 1 (by decide)
  refine O.st rfl rfl sizeOf22 rfl rfl rfl rfl rfl mw ?_
  intro H3 W3
  have hs3 := W3.size
  have hA3 := hA2.fr W3.fr (fun b o _ hz => nr (.inl hz.2))
  refine ⟨trivial,?_⟩
  refine Pl.fin [(2,_),(3,_)] ⟨rfl,rfl,trivial⟩ ?_
  refine Go'.seq ?_
  refine Go'.region [(0,0),(1,0)] rfl ?_
  refine O.mkf rfl rfl rfl rfl rfl rfl ?_
  refine O.asg rfl rfl rfl rfl rfl ?_
  refine Pl.fin [(2,_)] ⟨rfl,trivial⟩ ?_
  refine Go'.ret (vs := [_]) func100 results100 ⟨rfl,trivial⟩ ?_
  exact ⟨H1.size,_,rfl,W3.at,hF1.size,by omega,hA3,(hF1.trans (M2.fr nowhere)).trans' W3.fr (fun _ _ _ h => h) (fun b o hb h => by have h' := h.1; have := hF1.size; omega)⟩

theorem options_spec {B : World} {H : Mem} {v : Value} {d : Int} {nl : Bool} (hv : ∃ a m c,v = .slice a m c) :
    Fn Try.prog B 76 [.agg #[v,.int .i64 d,.bool nl]] H (fun r H' => r = .agg #[.int .i64 d,.bool nl] ∧ Fr nowhere H H') := by
  obtain ⟨a,m,c,rfl⟩ := hv
  refine fn_of func76 rfl ntmps76 ?_
  refine (show Go' _ _ _ _ 8 [(0,_)] [.code _] _ from ?_)
  refine Go'.seq ?_
  refine Go'.region [(0,2),(1,2)] rfl ?_
  refine O.box rfl rfl rfl rfl ?_
  intro H1 M1
  refine ⟨trivial,?_⟩
  have hs1 := M1.size
  have mo : Rd H1 H.size 0 [.slice a m c,.int .i64 d,.bool nl] := M1.rd _ [] (by simp [Value.cells])
  refine O.alloc rfl rfl rfl zeroValue112 ?_
  intro H2 M2
  refine ⟨trivial,?_⟩
  have hs2 := M2.size
  replace mo := (M2.fr nowhere).rd mo (fun _ _ => nw)
  have mw : Wr H2 H1.size 0 2 := M2.wr 2 (by decide)
  refine Pl.fin [(1,_),(2,_)] ⟨rfl,rfl,trivial⟩ ?_
  refine Go'.seq ?_
  refine Go'.region [(0,0),(1,1),(2,0),(3,1),(4,0),(5,2)] rfl ?_
  refine O.fa0 (off := 1) rfl rfl rfl rfl ⟨_,_,_,underlying24,rfl,rfl,sizeOf3⟩ rfl ?_
  refine O.ld rfl rfl rfl (fun w => ⟨isAgg3 w,sizeOf3 w⟩) rfl (mo 1 _ rfl) ?_
  refine O.fa0 (off := 2) rfl rfl rfl rfl ⟨_,_,_,underlying24,rfl,rfl,sizeOf4⟩ rfl ?_
  refine O.ld rfl rfl rfl (fun w => ⟨isAgg4 w,sizeOf4 w⟩) rfl (mo 2 _ rfl) ?_
  refine O.bld (cs := [.int .i64 d,.bool nl]) rfl rfl rfl rfl (st112) rfl (by kernel_rfl) ?_
  refine O.st rfl rfl sizeOf112 rfl rfl rfl rfl rfl mw ?_
  intro H3 W3
  refine ⟨trivial,?_⟩
  refine Pl.fin [(2,_)] ⟨rfl,trivial⟩ ?_
  refine Go'.ret (vs := [_]) func76 results76 ⟨⟨_,_,rfl,fun _ _ => run_loadVar_agg (fun w => ⟨isAgg112 w,sizeOf112 w⟩) rfl W3.all⟩,trivial⟩ ?_
  exact ⟨rfl,((M1.fr nowhere).trans (M2.fr nowhere)).trans' W3.fr (fun _ _ _ h => h) (fun b o hb h => by have h' := h.1; omega)⟩

theorem beforeAny_spec {B : World} {H : Mem} {v : Value} {ord : List Int} (ho : InS EN H v ord) (hl : ord.length ≤ 4294967296) :
    Fn Try.prog B 75 [v] H (fun r H' => ∃ ob qb ov,r = .func (.func 101) #[] #[ptr ob] ∧ cl H' ob 0 = some (.func (.func 127) #[] #[ptr qb]) ∧ cl H' qb 0 = some ov ∧ H.size ≤ qb ∧ qb < ob ∧ ob < H'.size ∧ Acc EN (fun b => H.size ≤ b ∧ b ≠ ob ∧ b ≠ qb) H' ov ord ∧ Fr nowhere H H') := by
  refine fn_of func75 rfl ntmps75 ?_
  refine (show Go' _ _ _ _ 7 [(0,_)] [.code _] _ from ?_)
  refine Go'.seq ?_
  refine Go'.region [(0,0)] rfl ?_
  refine O.asg rfl rfl rfl rfl rfl ?_
  refine Pl.fin [(0,_),(2,_)] ⟨rfl,rfl,trivial⟩ ?_
  refine Go'.seq ?_
  refine Go'.region [(0,0),(1,2),(2,2),(3,2)] rfl ?_
  refine O.mv rfl rfl rfl rfl rfl ?_
  refine O.call rfl rfl rfl call100 rfl (ibefore_spec ho hl) ?_
  rintro _ H1 ⟨qb,ov,rfl,hq,hq1,hq2,hA,hF1⟩
  refine ⟨trivial,?_⟩
  refine O.alloc rfl rfl rfl zeroValue126 ?_
  intro H2 M2
  refine ⟨trivial,?_⟩
  have hs2 := M2.size
  replace hq := M2.keep hq
  have hA2 := (hA.mono (Y := fun b => H.size ≤ b ∧ b ≠ H1.size ∧ b ≠ qb) (fun b hb hz => ⟨hz.1,by omega,hz.2⟩)).fr (M2.fr nowhere) (fun _ _ _ _ => nw)
  have mw : Wr H2 H1.size 0 1 := M2.wr 1 (by decide)
  refine O.st rfl rfl sizeOf126 rfl rfl rfl rfl rfl mw ?_
  intro H3 W3
  have hs3 := W3.size
  replace hq := W3.keep1 hq (by omega)
  have hA3 := hA2.fr W3.fr (fun b o _ hz => nr (.inl hz.2.1))
  refine ⟨trivial,?_⟩
  refine Pl.fin [(2,_),(3,_)] ⟨rfl,rfl,trivial⟩ ?_
  refine Go'.seq ?_
  refine Go'.region [(0,0),(1,0)] rfl ?_
  refine O.mkf rfl rfl rfl rfl rfl rfl ?_
  refine O.asg rfl rfl rfl rfl rfl ?_
  refine Pl.fin [(2,_)] ⟨rfl,trivial⟩ ?_
  refine Go'.ret (vs := [_]) func75 results75 ⟨rfl,trivial⟩ ?_
  exact ⟨H1.size,qb,_,rfl,W3.at,hq,hq1,hq2,by omega,hA3,(hF1.trans (M2.fr nowhere)).trans' W3.fr (fun _ _ _ h => h) (fun b o hb h => by have h' := h.1; have := hF1.size; omega)⟩

theorem st115 : StT Try.prog 115 [(0,1)] [.pointer none] := ⟨⟨_,underlying115,fun w => by simp [Array.mapM_eq_mapM_toList,sizeOf95]⟩,zeroValue115⟩
theorem newOptions_spec {B : World} {H : Mem} {d : Nat} {nl : Bool} {g : FuncId} {ob : Nat} (hd : d = 0 ∨ 2 ≤ d ∧ d ≤ 128) :
    Fn Try.prog B 74 [.func (.func g) #[] #[ptr ob],.agg #[.int .i64 (d : Int),.bool nl]] H (fun r H' => ∃ tr bt,r = ptr bt ∧ cl H' bt 0 = some (ptr tr) ∧ H.size ≤ tr ∧ tr < bt ∧ bt < H'.size ∧ Fr nowhere H H' ∧ TrN H' tr 1 (2 * dg d - 1) (dg d - 1) (.func (.func g) #[] #[ptr ob])) := by
  refine fn_of func74 rfl ntmps74 ?_
  refine (show Go' _ _ _ _ 13 [(0,_),(1,_)] [.code _] _ from ?_)
  refine Go'.seq ?_
  refine Go'.region [(0,2),(1,0)] rfl ?_
  refine O.box rfl rfl rfl rfl ?_
  intro H0 M0
  refine ⟨trivial,?_⟩
  have hs0 := M0.size
  have mo : Rd H0 H.size 0 [.int .i64 (d : Int),.bool nl] := M0.rd _ [] (by simp [Value.cells])
  refine O.asg rfl rfl rfl rfl rfl ?_
  refine Pl.fin [(0,_),(3,_),(4,_)] ⟨rfl,rfl,rfl,trivial⟩ ?_
  refine Go'.seq ?_
  refine Go'.seq ?_
  refine Go'.region [(0,0),(1,0)] rfl ?_
  refine O.mv rfl rfl rfl rfl rfl ?_
  refine O.bin rfl rfl rfl rfl rfl rfl (run_eqNil_func underlying109) ?_
  refine Pl.fin [(0,_),(3,_),(4,_),(6,_)] ⟨rfl,rfl,rfl,rfl,trivial⟩ ?_
  refine Go'.condF rfl ?_
  refine Go'.skip ?_
  refine Go'.seq ?_
  refine Go'.region [(0,0),(1,1),(2,2),(3,0),(4,2),(5,0)] rfl ?_
  refine O.mv rfl rfl rfl rfl rfl ?_
  refine O.lds rfl rfl rfl (fun w => ⟨isAgg112 w,sizeOf112 w⟩) rfl rfl mo ?_
  refine O.call rfl rfl rfl call99 rfl (newTree_spec hd) ?_
  rintro _ H1 ⟨tr,rfl,ht1,ht2,hF1,hT⟩
  have hs1 := hF1.size
  refine ⟨trivial,?_⟩
  refine O.bld (cs := [ptr tr]) rfl rfl rfl rfl (st115) rfl (by kernel_rfl) ?_
  refine O.box rfl rfl rfl rfl ?_
  intro H2 M2
  refine ⟨trivial,?_⟩
  have hs2 := M2.size
  have hT2 := hT.fr (M2.fr nowhere) (fun _ => nw)
  have hbt : cl H2 H1.size 0 = some (ptr tr) := (M2.cl 0).trans rfl
  refine O.asg rfl rfl rfl rfl rfl ?_
  refine Pl.fin [(4,_)] ⟨rfl,trivial⟩ ?_
  refine Go'.ret (vs := [_]) func74 results74 ⟨rfl,trivial⟩ ?_
  exact ⟨tr,H1.size,rfl,hbt,by omega,ht2,by omega,((M0.fr nowhere).trans hF1).trans (M2.fr nowhere),hT2⟩

section
variable [Inhabited Cx]
theorem bsetHint_spec {B : World} {H : Mem} {tr bt : Nat} {P : Ps} (hP : PsOk P) {S : Nat → Prop} {l : List (Int × Int)} {x : Int × Int} {hv : Value} {hz : Nat → Prop} (hM : MapM H tr P S l) (hb : cl H bt 0 = some (ptr tr)) (hlen : l.length < 2305843009213693952) (hk : HintOk H hv hz) (hzS : ∀ b,hz b → ¬ S b) :
    Fn Try.prog B 98 [ptr bt,iv x,hv] H (fun r H' => HintOk H' hv hz ∧ r = PV (Pl.got OI x l) ∧ ∃ S',MapM H' tr P S' (Pl.put OI x l) ∧ Fr (fun b _ => S b ∨ hz b) H H' ∧ ∀ b,S' b → S b ∨ H.size ≤ b) := by
  unfold ptr at hb ⊢
  refine fn_of func98 rfl ntmps98 ?_
  refine (show Go' _ _ _ _ 25 [(0,_),(1,_),(2,_)] [.code _] _ from ?_)
  refine Go'.seq ?_
  refine Go'.region [(0,0)] rfl ?_
  refine O.asg rfl rfl rfl rfl rfl ?_
  refine Pl.fin [(0,_),(1,_),(2,_),(6,_)] ⟨rfl,rfl,rfl,rfl,trivial⟩ ?_
  refine Go'.seq ?_
  refine Go'.seq ?_
  refine Go'.region [(0,0),(1,0)] rfl ?_
  refine O.mv rfl rfl rfl rfl rfl ?_
  refine O.bin rfl rfl rfl rfl rfl rfl (run_eqNil_iface underlying20) ?_
  refine Pl.fin [(0,_),(1,_),(2,_),(6,_),(10,_)] ⟨rfl,rfl,rfl,rfl,rfl,trivial⟩ ?_
  refine Go'.condF rfl ?_
  refine Go'.skip ?_
  refine Go'.seq ?_
  refine Go'.region [(0,0),(1,0),(2,0),(3,1),(4,0),(5,0),(6,2),(7,0),(8,0),(9,0),(10,0),(11,0)] rfl ?_
  refine O.mv rfl rfl rfl rfl rfl ?_
  refine O.nc rfl rfl rfl rfl rfl ?_
  refine O.faz rfl rfl rfl rfl ⟨_,_,_,underlying115,rfl,rfl,sizeOf95⟩ rfl ?_
  refine O.ld rfl rfl rfl (fun w => ⟨isAgg95 w,sizeOf95 w⟩) rfl hb ?_
  refine O.mv rfl rfl rfl rfl rfl ?_
  refine O.mv rfl rfl rfl rfl rfl ?_
  refine O.call rfl rfl rfl call123 rfl (setHint_spec hP (x := x) hM hlen hk hzS) ?_
  rintro _ H2 ⟨hk2,rfl,S',hM',hF',hS'⟩
  refine ⟨trivial,?_⟩
  refine O.mv rfl rfl rfl rfl rfl ?_
  refine O.ext rfl rfl rfl rfl rfl rfl ?_
  refine O.ext rfl rfl rfl rfl rfl rfl ?_
  refine O.asg rfl rfl rfl rfl rfl ?_
  refine O.asg rfl rfl rfl rfl rfl ?_
  refine Pl.fin [(6,_),(7,_),(8,_)] ⟨rfl,rfl,rfl,trivial⟩ ?_
  refine Go'.seq ?_
  refine Go'.seq ?_
  rw [← Pl.got_isSome OI]
  cases hg : Pl.got OI x l with
  | none =>
    refine Go'.region [(0,0),(1,0)] rfl ?_
    refine O.mv rfl rfl rfl rfl rfl ?_
    refine O.not rfl rfl rfl rfl rfl ?_
    refine Pl.fin [(6,_),(7,_),(23,_)] ⟨rfl,rfl,rfl,trivial⟩ ?_
    refine Go'.condT rfl ?_
    refine Go'.seq ?_
    refine Go'.region [(0,0)] rfl ?_
    refine O.asg rfl rfl rfl rfl rfl ?_
    refine Pl.fin [(6,_),(7,_)] ⟨rfl,rfl,trivial⟩ ?_
    refine Go'.ret (vs := [_]) func98 results98 ⟨rfl,trivial⟩ ?_
    exact ⟨hk2,rfl,S',hM',hF',hS'⟩
  | some y =>
    refine Go'.region [(0,0),(1,0)] rfl ?_
    refine O.mv rfl rfl rfl rfl rfl ?_
    refine O.not rfl rfl rfl rfl rfl ?_
    refine Pl.fin [(6,_),(7,_),(23,_)] ⟨rfl,rfl,rfl,trivial⟩ ?_
    refine Go'.condF rfl ?_
    refine Go'.skip ?_
    refine Go'.seq ?_
    refine Go'.region [(0,0),(1,0)] rfl ?_
    refine O.mv rfl rfl rfl rfl rfl ?_
    refine O.asg rfl rfl rfl rfl rfl ?_
    refine Pl.fin [(6,_)] ⟨rfl,trivial⟩ ?_
    refine Go'.ret (vs := [_]) func98 results98 ⟨rfl,trivial⟩ ?_
    exact ⟨hk2,rfl,S',hM',hF',hS'⟩

theorem bset_spec {B : World} {H : Mem} {tr bt : Nat} {P : Ps} (hP : PsOk P) {S : Nat → Prop} {l : List (Int × Int)} {x : Int × Int} (hM : MapM H tr P S l) (hb : cl H bt 0 = some (ptr tr)) (hlen : l.length < 2305843009213693952) :
    Fn Try.prog B 73 [ptr bt,iv x] H (fun r H' => r = PV (Pl.got OI x l) ∧ ∃ S',MapM H' tr P S' (Pl.put OI x l) ∧ Fr (fun b _ => S b) H H' ∧ ∀ b,S' b → S b ∨ H.size ≤ b) := by
  refine fn_of func73 rfl ntmps73 ?_
  refine (show Go' _ _ _ _ 8 [(0,_),(1,_)] [.code _] _ from ?_)
  refine Go'.seq ?_
  refine Go'.region [(0,0)] rfl ?_
  refine O.asg rfl rfl rfl rfl rfl ?_
  refine Pl.fin [(0,_),(1,_),(4,_)] ⟨rfl,rfl,rfl,trivial⟩ ?_
  refine Go'.seq ?_
  refine Go'.region [(0,0),(1,0),(2,2),(3,0)] rfl ?_
  refine O.mv rfl rfl rfl rfl rfl ?_
  refine O.mv rfl rfl rfl rfl rfl ?_
  refine O.call rfl rfl rfl call98 rfl (bsetHint_spec hP (x := x) (hz := fun _ => False) hM hb hlen (.inl ⟨rfl,fun _ h => h⟩) (fun _ h => h.elim)) ?_
  rintro _ H2 ⟨_,rfl,S',hM',hF',hS'⟩
  refine ⟨trivial,?_⟩
  refine O.asg rfl rfl rfl rfl rfl ?_
  refine Pl.fin [(4,_)] ⟨rfl,trivial⟩ ?_
  refine Go'.ret (vs := [_]) func73 results73 ⟨rfl,trivial⟩ ?_
  exact ⟨rfl,S',hM',hF'.mono (fun _ _ _ h => h.elim id (fun h => h.elim)),hS'⟩
end
/-- A tree header with its order,as the trees know it. -/
theorem TrN.mapM {H : Mem} {H0 tr id mx mn ob qb : Nat} {ov : Value} {ord : List Int} (h : TrN H tr id mx mn (.func (.func 101) #[] #[ptr ob])) (hob : cl H ob 0 = some (.func (.func 127) #[] #[ptr qb])) (hqb : cl H qb 0 = some ov) (hA : Acc EN (fun b => H0 ≤ b ∧ b ≠ ob ∧ b ≠ qb ∧ b ≠ tr) H ov ord) (hol : ord.length < 4611686018427387904) (h1 : H0 ≤ tr) (h2 : H0 ≤ ob) (h4 : H0 ≤ qb) (h3 : ob ≠ tr) (h5 : qb ≠ tr) (htl : tr < H.size) :
    ∃ I : Inhabited Cx,(@cx I).ord = ord ∧ (∀ b,(@cx I).own b ↔ H0 ≤ b) ∧ (@cx I).base = H.size ∧ @MapM I H tr ⟨id,mx,mn⟩ (fun b => b = tr) [] := by
  refine ⟨⟨⟨ord,ob,qb,ov,H.size,fun b => H0 ≤ b⟩⟩,rfl,fun _ => Iff.rfl,rfl,?_⟩
  letI I : Inhabited Cx := ⟨⟨ord,ob,qb,ov,H.size,fun b => H0 ≤ b⟩⟩
  refine @MapM.mk I _ _ _ _ _ (@TrC.mk I _ _ _ _ _ h.iso h.emp h.mn' h.mx' h.cv h.icv h.le h.wr hqb ?_ hol htl (cl_lt hob) h3 (Nat.le_refl _) h1 h2 hob (cl_lt hqb) h5 h4) List.Pairwise.nil h.cnt rfl (fun b hb => by rw [hb]; exact htl) (fun b hb => .inl hb) (.inl ⟨rfl,h.rt⟩)
  rcases hA with ⟨rfl,rfl⟩ | ⟨b,o,c,rfl,hz,hb,hs⟩
  · exact .inr ⟨rfl,none,0,rfl⟩
  · exact .inl ⟨b,o,c,rfl,hs.hle,hs.rd,hb,hz.1,hz.2.2.2⟩
/-- A slice header. -/
theorem InS.form {α : Type} {E : Elt α} {H : Mem} {v : Value} {l : List α} (h : InS E H v l) : ∃ a m c,v = .slice a m c := have ⟨a,c,e⟩ := h.len; ⟨a,_,c,e⟩

theorem grow_spec {B : World} {H : Mem} {d : Nat} {nl : Bool} {v u : Value} {ord : List Int} {l : List (Int × Int)} (hd : d = 0 ∨ 2 ≤ d ∧ d ≤ 128) (ho : InS EN H v ord) (hol : ord.length ≤ 4294967296) (hi : InS EJ H u l) (hll : l.length ≤ 4294967296) :
    Fn Try.prog B 51 [.agg #[v,.int .i64 (d : Int),.bool nl],u] H (fun r H' => ∃ I : Inhabited Cx,(@cx I).ord = ord ∧ (∀ b,(@cx I).own b → H.size ≤ b) ∧ H.size ≤ (@cx I).base ∧ ∃ tr S bt,r = ptr bt ∧ @MapM I H' tr (PD d) S (Pl.puts (@OI I) l) ∧ cl H' bt 0 = some (ptr tr) ∧ H.size ≤ bt ∧ bt < H'.size ∧ ¬ S bt ∧ Fr nowhere H H' ∧ ∀ b,S b → H.size ≤ b) := by
  have hP := PD_ok hd
  obtain ⟨a,c,hu⟩ := hi.len
  subst hu
  obtain ⟨av,mv,cv,hv⟩ := InS.form ho
  subst hv
  refine fn_of func51 rfl ntmps51 ?_
  refine (show Go' _ _ _ _ 26 [(0,_),(1,_)] [.code _] _ from ?_)
  refine Go'.seq ?_
  refine Go'.region [(0,2),(1,0)] rfl ?_
  refine O.box rfl rfl rfl rfl ?_
  intro H1 M1
  refine ⟨trivial,?_⟩
  have hs1 := M1.size
  have mo : Rd H1 H.size 0 [.slice av mv cv,.int .i64 (d : Int),.bool nl] := M1.rd _ [] (by simp [Value.cells])
  have ho1 := ho.fr (M1.fr nowhere)
  have mo0 : cl H1 H.size 0 = some (.slice av mv cv) := mo 0 _ rfl
  refine O.asg rfl rfl rfl rfl rfl ?_
  refine Pl.fin [(1,_),(2,_),(4,_)] ⟨rfl,rfl,rfl,trivial⟩ ?_
  refine Go'.seq ?_
  refine Go'.draw (fun H' => Rd H' H.size 0 [.slice av mv cv,.int .i64 (d : Int),.bool nl]) [(0,0),(1,1),(3,0),(2,2),(4,2),(5,2),(6,0)] (by kernel_rfl) (by kernel_rfl) (mo) ?_
  refine O.faz rfl rfl rfl rfl ⟨_,_,_,underlying24,rfl,rfl,sizeOf22⟩ rfl ?_
  refine O.ld rfl rfl rfl (fun w => ⟨isAgg22 w,sizeOf22 w⟩) rfl mo0 ?_
  refine O.ldsC rfl rfl rfl (fun w => ⟨isAgg24 w,sizeOf24 w⟩) rfl rfl (fun _ h => h) ?_
  refine O.call rfl rfl rfl call75 rfl (beforeAny_spec ho1 hol) ?_
  rintro _ H2 ⟨ob,qb,ov,rfl,hob,hqb,hob1,hob2,hob3,hA2,hF2⟩
  have hs2 := hF2.size
  replace mo := hF2.rd mo (fun _ _ => nw)
  replace mo0 := hF2.keep mo0 nw
  refine ⟨mo,?_⟩
  refine O.call rfl rfl rfl call76 rfl (options_spec ⟨_,_,_,rfl⟩) ?_
  rintro _ H3 ⟨rfl,hF3⟩
  have hs3 := hF3.size
  replace hob := hF3.keep hob nw
  replace hqb := hF3.keep hqb nw
  replace hA2 := hA2.fr hF3 (fun _ _ _ _ => nw)
  replace mo := hF3.rd mo (fun _ _ => nw)
  replace mo0 := hF3.keep mo0 nw
  refine ⟨mo,?_⟩
  refine O.call rfl rfl rfl call74 rfl (newOptions_spec hd) ?_
  rintro _ H4 ⟨tr,bt,rfl,hbt,htr1,htr2,htr3,hF4,hT⟩
  have hs4 := hF4.size
  replace mo := hF4.rd mo (fun _ _ => nw)
  replace mo0 := hF4.keep mo0 nw
  replace hob := hF4.keep hob nw
  replace hqb := hF4.keep hqb nw
  have hA3 := (hA2.mono (Y := fun b => H1.size ≤ b ∧ b ≠ ob ∧ b ≠ qb ∧ b ≠ tr) (fun b hb hz => ⟨hz.1,hz.2.1,hz.2.2,by omega⟩)).fr hF4 (fun _ _ _ _ => nw)
  have hFa : Fr nowhere H H4 := (((M1.fr nowhere).trans hF2).trans hF3).trans hF4
  obtain ⟨I,hIo,hIw,hIb,hM1⟩ := hT.mapM (H0 := H1.size) hob hqb hA3 (by omega) (by omega) (by omega) (by omega) (by omega) (by omega) (by omega)
  unfold ptr
  refine ⟨mo,?_⟩
  refine O.asg rfl rfl rfl rfl rfl ?_
  refine Pl.fin [(1,_),(4,_),(5,_)] ⟨rfl,rfl,rfl,trivial⟩ ?_
  refine Go'.seq ?_
  refine Go'.seq ?_
  clear hA2 hA3 hob hqb hT hF4 hF3 hF2 ho1
  have hOI : OO ord = OI := by rw [← hIo]; rfl
  have hPD : (⟨1,2 * dg d - 1,dg d - 1⟩ : Ps) = PD d := rfl
  rw [hPD] at hM1
  clear hPD
  refine Go'.region [(0,0),(1,0),(2,0)] rfl ?_
  refine O.mv rfl rfl rfl rfl rfl ?_
  refine O.len rfl rfl rfl rfl underlying25 rfl ?_
  refine O.mv rfl rfl rfl rfl rfl ?_
  refine Pl.fin [(4,_),(5,_),(14,_),(15,_),(16,_)] ⟨rfl,rfl,rfl,rfl,rfl,trivial⟩ ?_
  refine Go'.block ?_
  refine Go'.loop ?_
  refine Go'.keep [(4,_),(5,_),(14,_),(15,_),(16,_)] ⟨rfl,rfl,rfl,rfl,rfl,trivial⟩ ?_
  refine Go'.ind (σ := Nat) (fun j => l.length - j) (fun j H' => Fr nowhere H H' ∧ j ≤ l.length ∧ bt < H'.size ∧ cl H' bt 0 = some (ptr tr) ∧ ∃ S,MapM H' tr (PD d) S (Pl.puts OI (l.take j)) ∧ (∀ b,S b → H.size ≤ b) ∧ ¬ S bt)
    (fun j => [(4,.pointer none),(5,.pointer (some ⟨bt,0,none⟩)),(14,.slice a l.length c),(15,.int .i64 (l.length : Int)),(16,.int .i64 (j : Int))]) 0 ⟨hFa,Nat.zero_le _,htr3,hbt,_,hM1,fun b hb => by omega,fun hb => by omega⟩ rfl ?_
  clear hM1
  rintro j H2 ⟨hF,hjl,hbl,hbt,S,hM,hS,hSt⟩ ih
  have hi2 := hi.fr hF
  refine Go'.seq ?_
  by_cases hlt : j < l.length
  · skip
    obtain ⟨y,hy⟩ : ∃ y,l[j]? = some y := ⟨l[j],List.getElem?_eq_getElem hlt⟩
    obtain ⟨b,o,c',e,hr⟩ := hi2.at hy
    cases e
    have hpl := Pl.puts_length OI (l.take j)
    rw [List.length_take] at hpl
    have hlt2 := hM.lt
    have hbs := hM.tc.hb
    have hH2 := hF.size
    refine Go'.region [(0,0)] rfl ?_
    refine O.cmp rfl rfl rfl rfl rfl rfl (lssT (by omega)) ?_
    refine Pl.fin [(4,_),(5,_),(14,_),(15,_),(16,_),(17,_)] ⟨rfl,rfl,rfl,rfl,rfl,rfl,trivial⟩ ?_
    refine Go'.seq ?_
    refine Go'.condT rfl ?_
    refine Go'.skip ?_
    refine Go'.seq ?_
    refine Go'.block ?_
    refine Go'.seq ?_
    refine Go'.region [(0,0),(1,1),(2,2),(3,2)] rfl ?_
    refine O.ix (j := j) rfl rfl rfl rfl underlying25 sizeOf35 rfl rfl (by omega) hlt ?_
    refine O.lds rfl rfl rfl (fun w => ⟨isAgg35 w,sizeOf35 w⟩) rfl rfl hr ?_
    refine O.alloc rfl rfl rfl zeroValue35 ?_
    intro H5 M5
    refine ⟨trivial,?_⟩
    have hs5 := M5.size
    replace hM := hM.fr (M5.fr nowhere) (fun _ _ _ => nw)
    replace hbt := M5.keep hbt
    have m7 : Wr H5 H2.size 0 2 := M5.wr 2 (by decide)
    refine O.st (vs := (EJ.enc y)) rfl rfl sizeOf35 rfl rfl rfl rfl rfl m7 ?_
    intro H6 W6
    have hs6 := W6.size
    replace hM := hM.fr W6.fr (fun b o hb hz => by have h1 := hz.1; exact hb.elim (fun hb => by have h2 := hlt2 b hb; omega) (fun hb => by omega))
    replace hbt := W6.fr.keep hbt (nr (.inl (by omega)))
    have hf6 : Fr nowhere H H6 := hF.trans' ((M5.fr nowhere).trans' W6.fr (Z := nowhere) (fun _ _ _ h => h) (fun b o hb hz => by have h1 := hz.1; omega)) (fun _ _ _ h => h) (fun _ _ _ h => h)
    have k0 : Rd H6 H2.size 0 (EJ.enc y) := W6.all
    refine ⟨trivial,?_⟩
    refine Pl.fin [(4,_),(5,_),(7,_),(14,_),(15,_),(16,_),(17,_)] ⟨rfl,rfl,rfl,rfl,rfl,rfl,rfl,trivial⟩ ?_
    refine Go'.region [(0,0),(1,1),(2,0),(3,2)] rfl ?_
    refine O.mv rfl rfl rfl rfl rfl ?_
    refine O.lds rfl rfl rfl (fun w => ⟨isAgg35 w,sizeOf35 w⟩) rfl rfl k0 ?_
    refine O.mki rfl rfl rfl rfl underlying35 rfl rfl ?_
    refine O.call rfl rfl rfl call73 rfl (bset_spec hP (x := y) hM hbt (by omega)) ?_
    rintro _ H7 ⟨rfl,S',hM',hF',hS'⟩
    refine ⟨trivial,?_⟩
    refine Pl.fin [(4,_),(5,_),(7,_),(14,_),(15,_),(16,_),(17,_)] ⟨rfl,rfl,rfl,rfl,rfl,rfl,rfl,trivial⟩ ?_
    refine Go'.inBlock ?_
    refine Go'.region [(0,0),(1,0)] rfl ?_
    refine O.add (((j + 1 : Nat) : Int)) rfl rfl rfl rfl rfl rfl (by omega) (by omega) ?_
    refine O.mv rfl rfl rfl rfl rfl ?_
    refine Pl.fin [(4,_),(5,_),(7,_),(14,_),(15,_),(16,_),(17,_)] ⟨rfl,rfl,rfl,rfl,rfl,rfl,rfl,trivial⟩ ?_
    refine Go'.keep [(4,_),(5,_),(14,_),(15,_),(16,_)] ⟨rfl,rfl,rfl,rfl,rfl,trivial⟩ ?_
    refine Go'.inLoop ?_
    exact ih (j + 1) H7 ⟨hf6.trans' hF' (fun _ _ _ h => h) (fun b o hb hz => by have h1 := hS b hz; omega),hlt,by have := hF'.size; omega,hF'.keep hbt hSt,S',by
      rw [List.take_add_one,hy]
      rw [← Pl.puts_snoc] at hM'
      exact hM',fun b hb => (hS' b hb).elim (hS b) (fun h => by have := hf6.size; omega),fun hb => (hS' bt hb).elim hSt (fun h => by omega)⟩ (by omega)
  · skip
    obtain rfl : j = l.length := by omega
    refine Go'.region [(0,0)] rfl ?_
    refine O.cmp rfl rfl rfl rfl rfl rfl (lssF (by omega)) ?_
    refine Pl.fin [(4,_),(5,_),(14,_),(15,_),(16,_),(17,_)] ⟨rfl,rfl,rfl,rfl,rfl,rfl,trivial⟩ ?_
    refine Go'.seq ?_
    refine Go'.condF rfl ?_
    refine Go'.exit rfl ?_
    refine Go'.seq ?_
    refine Go'.region [(0,0),(1,0)] rfl ?_
    refine O.mv rfl rfl rfl rfl rfl ?_
    refine O.asg rfl rfl rfl rfl rfl ?_
    refine Pl.fin [(4,_)] ⟨rfl,trivial⟩ ?_
    refine Go'.ret (vs := [_]) func51 results51 ⟨rfl,trivial⟩ ?_
    rw [List.take_length] at hM
    exact ⟨I,hIo,fun b hb => by have := (hIw b).1 hb; omega,by rw [hIb]; omega,tr,S,bt,rfl,hM,hbt,by omega,hbl,hSt,hF,hS⟩

end Go.Bt.FB
namespace Go.Bt.FB
open Go Go.Proofs Go.Proofs.Try
set_option maxRecDepth 20000
set_option maxHeartbeats 4000000
set_option linter.unusedVariables false
set_option linter.unusedSectionVars false

end Go.Bt.FB
namespace Go.Bt
section
variable {P : Program} {B : World} {f : FuncId} {Q : Value → Mem → Prop} {n : Nat} {r : Env} {k : List Item} {H : Mem} {l : List Oper} {C : Mem → Prop} {p : List (Nat × Nat)}
variable {i kd d : Nat} {ty : TypeId} {pos : String} {af : Array Edge} {gd : Option (Nat × Bool)}
/-- An array's slice of no elements. -/
theorem O.slcArr {t e : TypeId} {x z : Operand} {m b o s : Nat} {kz : IntKind} (hi : l[i]? = some ⟨some d,.slice t x none (some z) none,ty,pos,af,gd⟩) (hk : Nat.blt kd 2 = true) (hg : guardOn l r gd = true) (hd : Nat.blt d n = true)
    (hu : P.underlying t = some (.array m e)) (hm : 0 < m) (hs : Sz P e s) (hx : ev r x = some (.pointer (some ⟨b,o,none⟩))) (hz : ev r z = some (.int kz 0))
    (h : Pl P B f Q n l C k p ((d,.slice (some ⟨b,o,none⟩) 0 m) :: r) H) : Pl P B f Q n l C k ((i,kd) :: p) r H := by
  refine Pl.quiet hi hk hg hd (fun ac H' d' ha _ => ?_) h
  have hb : (Instr.sliceBounds false m m none (some (ac.eval z)) none).run P (mk B H' d') = .ok (0,0,m) (mk B H' d') := by
    have z0 : ∀ (w : World) (kk : IntKind) (m : Nat) (c : BoundsCode),(Instr.sliceBound (.int kk 0) m c).run P w = .ok 0 w := fun w kk m c => run_sliceBound w kk 0 m c (Nat.zero_le m)
    unfold Instr.sliceBounds
    simp [ha.eval hz,z0]
  have hm0 : ¬ m = 0 := by omega
  simp only [execOp,ha.eval hx,Sem.run_bind,Sem.run_pure,Instr.sliceAt,Instr.sureAddr,run_und hu,Result.andThen_ok,Option.map_none,Option.map_some,hb,hs _,if_neg hm0,Nat.zero_mul,Nat.sub_zero,Nat.sub_self]
  rfl
end
end Go.Bt
namespace Go.Bt.FB
open Go Go.Proofs Go.Proofs.Try
set_option maxRecDepth 20000
set_option maxHeartbeats 4000000
set_option linter.unusedVariables false
set_option linter.unusedSectionVars false

def kv0 : Option (Int × Int) := none
/-- A new iterator; its stack's first place lies in the block kb. -/
def itv (tr : Nat) (mt : Bool) (kb : Nat) : List Value := [.pointer (some ⟨tr,0,none⟩),.bool mt,.bool false,.bool false,.bool false,.bool false,.pointer none,.int .i64 0,.pointer none,.int .i64 0,.pointer none,.int .i64 0,.pointer none,.int .i64 0,.slice (some ⟨kb,6,none⟩) 0 4] ++ EO.enc kv0
theorem itr_new {H H' : Mem} {it tr kb : Nat} {mt : Bool} (W : Wrote H H' it 0 (itv tr mt kb)) (hw : Wr H it 0 16) (hk : Wr H kb 0 16) (hl : kb < H.size) (hn : it ≠ kb) : Itr H' H' it tr mt (fun b => b = kb) false false false (fun b => b = kb) [] kv0 where
  c0 := W.all 0 _ rfl
  c1 := W.all 1 _ rfl
  lk := W.all 2 _ rfl
  c2 := W.all 3 _ rfl
  c3 := W.all 4 _ rfl
  c4 := W.all 5 _ rfl
  st := ⟨.slice (some ⟨kb,6,none⟩) 0 4,W.all 14 _ rfl,.inr ⟨kb,6,4,rfl,rfl,by rw [W.size]; exact hl,⟨rfl,Nat.zero_le _,Rd.nil _ _ _,(W.fr.wr hk).at0 6 8 (by decide)⟩⟩⟩
  kv := fun j v hv => by
    have h := W.all (15 + j) v (by rw [← hv]; unfold itv; rw [List.getElem?_append_right (by simp)]; simp)
    rwa [Nat.zero_add] at h
  wr := W.fr.wr hw
  nz := hn
  f := Fr.refl _ _
  zz := fun _ h => .inl h
  zl := fun b h => by rw [W.size,h]; exact hl
section
variable {H0 H H' : Mem} {it tr : Nat} {mt sk ast ae : Bool} {Z0 Z : Nat → Prop} {fr : List (Nat × Int)} {kv : Option (Int × Int)}
theorem Itr.away (h : Itr H0 H it tr mt Z0 sk ast ae Z fr kv) {X : Nat → Nat → Prop} (hf : Fr X H H') (hx : ∀ b o,b = it ∨ Z b → ¬ X b o) : Itr H' H' it tr mt Z sk ast ae Z fr kv where
  c0 := hf.keep h.c0 (hx _ _ (.inl rfl))
  c1 := hf.keep h.c1 (hx _ _ (.inl rfl))
  lk := hf.keep h.lk (hx _ _ (.inl rfl))
  c2 := hf.keep h.c2 (hx _ _ (.inl rfl))
  c3 := hf.keep h.c3 (hx _ _ (.inl rfl))
  c4 := hf.keep h.c4 (hx _ _ (.inl rfl))
  st := have ⟨sv,h1,h2⟩ := h.st; ⟨sv,hf.keep h1 (hx _ _ (.inl rfl)),h2.fr hf fun b o _ hz => hx b o (.inr hz)⟩
  kv := hf.rd h.kv fun _ _ => hx _ _ (.inl rfl)
  wr := hf.wr h.wr
  nz := h.nz
  f := Fr.refl _ _
  zz := fun _ hb => .inl hb
  zl := fun b hb => Nat.lt_of_lt_of_le (h.zl b hb) hf.size
end

theorem st102 : StT Try.prog 102 [(0,1),(1,1),(2,1),(3,1),(4,1),(5,1),(6,8),(14,1),(15,1)] [.pointer none,.bool false,.bool false,.bool false,.bool false,.bool false,.pointer none,.int .i64 0,.pointer none,.int .i64 0,.pointer none,.int .i64 0,.pointer none,.int .i64 0,.slice none 0 0,.nilIface] := ⟨⟨_,underlying102,fun w => by simp [Array.mapM_eq_mapM_toList,sizeOf4,sizeOf20,sizeOf95,sizeOf99,sizeOf100]⟩,zeroValue102⟩

theorem st104 : StT Try.prog 104 [(0,16)] [.pointer none,.bool false,.bool false,.bool false,.bool false,.bool false,.pointer none,.int .i64 0,.pointer none,.int .i64 0,.pointer none,.int .i64 0,.pointer none,.int .i64 0,.slice none 0 0,.nilIface] := ⟨⟨_,underlying104,fun w => by simp [Array.mapM_eq_mapM_toList,sizeOf102]⟩,zeroValue104⟩

section
variable [Inhabited Cx]

theorem ItPost.ph {H H' : Mem} {it tr : Nat} {mt : Bool} {Z : Nat → Prop} {r : Option ((h : Nat) × Gt EA h)} {l : List (Int × Int)} {hv : Value} {hz : Nat → Prop} {st : Option Nat} (hp : ItPost H H' it tr mt Z r l st) (hk : HintOk H hv hz) (h1 : ¬ hz it) (h2 : ∀ b,Z b → ¬ hz b) : ItPH H H' it tr mt Z r l hv hz st := by
  obtain ⟨sk,ast,ae,Z',fr,kv,hI,hs⟩ := hp
  exact ⟨hk.fr hI.f (fun b o hb h => h.elim (fun e => h1 (e ▸ hb)) (fun h => h2 b h hb)),sk,ast,ae,Z',fr,kv,{ hI with f := hI.f.mono (fun b o _ h => h.imp id .inl),zz := fun b hb => (hI.zz b hb).imp .inl id },hs,hI.zz⟩
theorem ItPH.ph {H H' : Mem} {it tr : Nat} {mt : Bool} {Z : Nat → Prop} {r : Option ((h : Nat) × Gt EA h)} {l : List (Int × Int)} {hv : Value} {hz : Nat → Prop} {st : Option Nat} (hp : ItPH H H' it tr mt Z r l (.pointer none) (fun _ => False) st) (hk : HintOk H hv hz) (h1 : ¬ hz it) (h2 : ∀ b,Z b → ¬ hz b) : ItPH H H' it tr mt Z r l hv hz st := by
  obtain ⟨_,sk,ast,ae,Z',fr,kv,hI,hs,hZ⟩ := hp
  exact ItPost.ph ⟨sk,ast,ae,Z',fr,kv,{ hI with f := hI.f.mono (fun b o _ h => h.imp id (fun h => h.elim id False.elim)),zz := fun b hb => (hI.zz b hb).imp (fun h => h.elim id False.elim) id },hs⟩ hk h1 h2
theorem MapM.treeR {H : Mem} {tr : Nat} {P : Ps} {S : Nat → Prop} {l : List (Int × Int)} (hP : PsOk P) (hM : MapM H tr P S l) (hl : l.length ≤ 4294967296) : ∃ r : Option ((h : Nat) × Gt EA h),TreeR H tr P (fun b => S b ∨ (b < cx.base ∧ cx.own b)) l r := by
  have lt0 := hM.lt
  have hb0 := hM.tc.hb
  have hh1 := hP.h1
  obtain ⟨tc,srt,cnt,own,lt,bs,hr⟩ := hM
  rcases hr with ⟨e,k⟩ | ⟨h,t,hg,hx,e,hc,_,hown⟩
  · exact ⟨none,tc,fun b h => .inr h,fun b hb => hb.elim (lt b) (fun h => by omega),hl,hh1,e,k⟩
  · exact ⟨some ⟨h,t⟩,tc,fun b h => .inr h,fun b hb => hb.elim (lt b) (fun h => by omega),hl,hh1,hg,hx,e,hc,fun b o hb => .inl (hown b o hb)⟩

theorem iter_spec {B : World} {H : Mem} {tr : Nat} (mt : Bool) : Fn Try.prog B 117 [.pointer (some ⟨tr,0,none⟩),.bool mt] H (fun r H' => ∃ kb,r = .agg (itv tr mt kb).toArray ∧ Fr nowhere H H' ∧ Wr H' kb 0 16 ∧ kb < H'.size ∧ H.size ≤ kb) := by
  refine fn_of func117 rfl ntmps117 ?_
  refine (show Go' _ _ _ _ 19 [(0,_),(1,_)] [.code _] _ from ?_)
  refine Go'.seq ?_
  refine Go'.region [(0,2)] rfl ?_
  refine O.alloc rfl rfl rfl zeroValue102 ?_
  intro H1 M1
  refine ⟨trivial,?_⟩
  have hs1 := M1.size
  have hF := M1.fr nowhere
  have m4 : Wr H1 H.size 0 16 := M1.wr 16 (by decide)
  refine Pl.fin [(0,_),(1,_),(4,_)] ⟨rfl,rfl,rfl,trivial⟩ ?_
  refine Go'.seq ?_
  refine Go'.region [(0,2)] rfl ?_
  refine O.alloc rfl rfl rfl zeroValue102 ?_
  intro H2 M2
  refine ⟨trivial,?_⟩
  have hs2 := M2.size
  replace hF := hF.trans (M2.fr nowhere)
  replace m4 := (M2.fr nowhere).wr m4
  have m5 : Wr H2 H1.size 0 16 := M2.wr 16 (by decide)
  have hz : Rd H2 H1.size 0 ([.pointer none,.bool false,.bool false,.bool false,.bool false,.bool false,.pointer none,.int .i64 0,.pointer none,.int .i64 0,.pointer none,.int .i64 0,.pointer none,.int .i64 0,.slice none 0 0] ++ EO.enc kv0) := M2.rd _ [] rfl
  refine Pl.fin [(0,_),(1,_),(4,_),(5,_)] ⟨rfl,rfl,rfl,rfl,trivial⟩ ?_
  refine Go'.seq ?_
  refine Go'.region [(0,0),(1,0),(2,2)] rfl ?_
  refine O.mv rfl rfl rfl rfl rfl ?_
  refine O.faz rfl rfl rfl rfl ⟨_,_,_,underlying102,rfl,rfl,sizeOf95⟩ rfl ?_
  refine O.st rfl rfl sizeOf95 rfl rfl rfl rfl rfl (m5.at0 0 1 (by decide)) ?_
  intro H3 W3
  have hs3 := W3.size
  replace hF := hF.trans' W3.fr (fun _ _ _ h => h) (fun b o hb h => by have h' := h.1; omega)
  replace m4 := W3.fr.wr m4
  replace m5 := W3.fr.wr m5
  refine ⟨trivial,?_⟩
  refine Pl.fin [(0,_),(1,_),(4,_),(5,_)] ⟨rfl,rfl,rfl,rfl,trivial⟩ ?_
  refine Go'.seq ?_
  refine Go'.region [(0,0),(1,0),(2,2)] rfl ?_
  refine O.mv rfl rfl rfl rfl rfl ?_
  refine O.fa0 (off := 1) rfl rfl rfl rfl ⟨_,_,_,underlying102,rfl,rfl,sizeOf4⟩ rfl ?_
  refine O.st rfl rfl sizeOf4 rfl rfl rfl rfl rfl (m5.at0 1 1 (by decide)) ?_
  intro H4 W4
  have hs4 := W4.size
  replace hF := hF.trans' W4.fr (fun _ _ _ h => h) (fun b o hb h => by have h' := h.1; omega)
  replace m4 := W4.fr.wr m4
  replace m5 := W4.fr.wr m5
  have c41 : cl H4 H1.size 1 = some (.bool mt) := W4.at
  refine ⟨trivial,?_⟩
  refine Pl.fin [(0,_),(4,_),(5,_)] ⟨rfl,rfl,rfl,trivial⟩ ?_
  refine Go'.seq ?_
  refine Go'.region [(0,0),(1,0),(2,1),(3,2),(4,0),(5,2)] rfl ?_
  refine O.mv rfl rfl rfl rfl rfl ?_
  refine O.fa0 (off := 1) rfl rfl rfl rfl ⟨_,_,_,underlying102,rfl,rfl,sizeOf4⟩ rfl ?_
  refine O.ld rfl rfl rfl (fun w => ⟨isAgg4 w,sizeOf4 w⟩) rfl c41 ?_
  refine O.callQ rfl rfl rfl call111 rfl lock_spec trivial ?_
  refine O.fa0 (off := 2) rfl rfl rfl rfl ⟨_,_,_,underlying102,rfl,rfl,sizeOf4⟩ rfl ?_
  refine O.st rfl rfl sizeOf4 rfl rfl rfl rfl rfl (m5.at0 2 1 (by decide)) ?_
  intro H5 W5
  have hs5 := W5.size
  replace hF := hF.trans' W5.fr (fun _ _ _ h => h) (fun b o hb h => by have h' := h.1; omega)
  replace m4 := W5.fr.wr m4
  replace m5 := W5.fr.wr m5
  refine ⟨trivial,?_⟩
  refine Pl.fin [(4,_),(5,_)] ⟨rfl,rfl,trivial⟩ ?_
  refine Go'.seq ?_
  refine Go'.region [(0,0),(1,0),(2,0),(3,2)] rfl ?_
  refine O.fa0 (off := 6) rfl rfl rfl rfl ⟨_,_,_,underlying102,rfl,rfl,sizeOf99⟩ rfl ?_
  refine O.slcArr rfl rfl rfl rfl underlying99 (by decide) sizeOf98 rfl rfl ?_
  refine O.fa0 (off := 14) rfl rfl rfl rfl ⟨_,_,_,underlying102,rfl,rfl,sizeOf100⟩ rfl ?_
  refine O.st rfl rfl sizeOf100 rfl rfl rfl rfl rfl (m5.at0 14 1 (by decide)) ?_
  intro H6 W6
  have hs6 := W6.size
  replace hF := hF.trans' W6.fr (fun _ _ _ h => h) (fun b o hb h => by have h' := h.1; omega)
  replace m4 := W6.fr.wr m4
  replace m5 := W6.fr.wr m5
  have r6 : Rd H6 H1.size 0 (itv tr mt H1.size) := by
    intro j v hv
    have hj : j < 16 := by
      have := (List.getElem?_eq_some_iff.1 hv).1
      exact this
    by_cases h0 : j = 0
    · subst h0; cases hv; exact W6.keep1 (W5.keep1 (W4.keep1 W3.at (.inr (by decide))) (.inr (by decide))) (.inr (by decide))
    by_cases h1 : j = 1
    · subst h1; cases hv; exact W6.keep1 (W5.keep1 W4.at (.inr (by decide))) (.inr (by decide))
    by_cases h2 : j = 2
    · subst h2; cases hv; exact W6.keep1 W5.at (.inr (by decide))
    by_cases h14 : j = 14
    · subst h14; cases hv; exact W6.at
    refine W6.keep1 (W5.keep1 (W4.keep1 (W3.keep1 (hz j v ?_) (.inr (by omega))) (.inr (by omega))) (.inr (by omega))) (.inr (by omega))
    rw [← hv]
    match j,hj,h0,h1,h2,h14 with
    | 3,_,_,_,_,_ => rfl
    | 4,_,_,_,_,_ => rfl
    | 5,_,_,_,_,_ => rfl
    | 6,_,_,_,_,_ => rfl
    | 7,_,_,_,_,_ => rfl
    | 8,_,_,_,_,_ => rfl
    | 9,_,_,_,_,_ => rfl
    | 10,_,_,_,_,_ => rfl
    | 11,_,_,_,_,_ => rfl
    | 12,_,_,_,_,_ => rfl
    | 13,_,_,_,_,_ => rfl
    | 15,_,_,_,_,_ => rfl
    | 0,_,h,_,_,_ => exact absurd rfl h
    | 1,_,_,h,_,_ => exact absurd rfl h
    | 2,_,_,_,h,_ => exact absurd rfl h
    | 14,_,_,_,_,h => exact absurd rfl h
    | n + 16,h,_,_,_,_ => exact absurd h (by omega)
  refine ⟨trivial,?_⟩
  refine Pl.fin [(4,_),(5,_)] ⟨rfl,rfl,trivial⟩ ?_
  refine Go'.seq ?_
  refine Go'.region [(0,1),(1,2)] rfl ?_
  refine O.lds rfl rfl rfl (fun w => ⟨isAgg102 w,sizeOf102 w⟩) rfl rfl r6 ?_
  refine O.st (vs := (itv tr mt H1.size)) rfl rfl sizeOf102 rfl rfl rfl rfl rfl m4 ?_
  intro H7 W7
  have hs7 := W7.size
  replace hF := hF.trans' W7.fr (fun _ _ _ h => h) (fun b o hb h => by have h' := h.1; omega)
  replace m4 := W7.fr.wr m4
  replace m5 := W7.fr.wr m5
  refine ⟨trivial,?_⟩
  refine Pl.fin [(4,_)] ⟨rfl,trivial⟩ ?_
  refine Go'.ret (vs := [_]) func117 results117 ⟨⟨_,_,rfl,fun _ _ => run_loadVar_agg (fun w => ⟨isAgg102 w,sizeOf102 w⟩) rfl W7.all⟩,trivial⟩ ?_
  exact ⟨H1.size,rfl,hF,m5,by omega,by omega⟩

theorem Iter_spec {B : World} {H : Mem} {tr : Nat} : Fn Try.prog B 91 [.pointer (some ⟨tr,0,none⟩)] H (fun r H' => ∃ kb,r = .agg (itv tr false kb).toArray ∧ Fr nowhere H H' ∧ Wr H' kb 0 16 ∧ kb < H'.size ∧ H.size ≤ kb) := by
  refine fn_of func91 rfl ntmps91 ?_
  refine (show Go' _ _ _ _ 5 [(0,_)] [.code _] _ from ?_)
  refine Go'.seq ?_
  refine Go'.region [(0,2)] rfl ?_
  refine O.alloc rfl rfl rfl zeroValue102 ?_
  intro H1 M1
  refine ⟨trivial,?_⟩
  have hs1 := M1.size
  have hF := M1.fr nowhere
  have m4 : Wr H1 H.size 0 16 := M1.wr 16 (by decide)
  refine Pl.fin [(0,_),(2,_)] ⟨rfl,rfl,trivial⟩ ?_
  refine Go'.seq ?_
  refine Go'.region [(0,0),(1,2),(2,2)] rfl ?_
  refine O.mv rfl rfl rfl rfl rfl ?_
  refine O.call rfl rfl rfl call117 rfl (iter_spec false) ?_
  rintro _ H2 ⟨kb,rfl,hF2,hwk,hkl,hkg⟩
  have hs2 := hF2.size
  replace m4 := hF2.wr m4
  refine ⟨trivial,?_⟩
  refine O.st (vs := (itv tr false kb)) rfl rfl sizeOf102 rfl rfl rfl rfl rfl m4 ?_
  intro H3 W3
  have hs3 := W3.size
  refine ⟨trivial,?_⟩
  refine Pl.fin [(2,_)] ⟨rfl,trivial⟩ ?_
  refine Go'.ret (vs := [_]) func91 results91 ⟨⟨_,_,rfl,fun _ _ => run_loadVar_agg (fun w => ⟨isAgg102 w,sizeOf102 w⟩) rfl W3.all⟩,trivial⟩ ?_
  exact ⟨kb,rfl,(hF.trans hF2).trans' W3.fr (fun _ _ _ h => h) (fun b o hb h => by have h' := h.1; omega),W3.fr.wr hwk,by omega,by omega⟩

theorem bIter_spec {B : World} {H : Mem} {tr bt : Nat} (hb : cl H bt 0 = some (ptr tr)) : Fn Try.prog B 70 [.pointer (some ⟨bt,0,none⟩)] H (fun r H' => ∃ kb,r = .agg (itv tr false kb).toArray ∧ Fr nowhere H H' ∧ Wr H' kb 0 16 ∧ kb < H'.size ∧ H.size ≤ kb) := by
  unfold ptr at hb
  refine fn_of func70 rfl ntmps70 ?_
  refine (show Go' _ _ _ _ 9 [(0,_)] [.code _] _ from ?_)
  refine Go'.seq ?_
  refine Go'.region [(0,2)] rfl ?_
  refine O.alloc rfl rfl rfl zeroValue104 ?_
  intro H1 M1
  refine ⟨trivial,?_⟩
  have hs1 := M1.size
  have hF := M1.fr nowhere
  replace hb := M1.keep hb
  have m4 : Wr H1 H.size 0 16 := M1.wr 16 (by decide)
  refine Pl.fin [(0,_),(2,_)] ⟨rfl,rfl,trivial⟩ ?_
  refine Go'.seq ?_
  refine Go'.region [(0,0),(1,0),(2,0),(3,1),(4,2),(5,0),(6,2)] rfl ?_
  refine O.mv rfl rfl rfl rfl rfl ?_
  refine O.nc rfl rfl rfl rfl rfl ?_
  refine O.faz rfl rfl rfl rfl ⟨_,_,_,underlying115,rfl,rfl,sizeOf95⟩ rfl ?_
  refine O.ld rfl rfl rfl (fun w => ⟨isAgg95 w,sizeOf95 w⟩) rfl hb ?_
  refine O.call rfl rfl rfl call91 rfl Iter_spec ?_
  rintro _ H2 ⟨kb,rfl,hF2,hwk,hkl,hkg⟩
  have hs2 := hF2.size
  replace m4 := hF2.wr m4
  refine ⟨trivial,?_⟩
  refine O.bld (cs := (itv tr false kb)) rfl rfl rfl rfl (st104) rfl (by kernel_rfl) ?_
  refine O.st (vs := (itv tr false kb)) rfl rfl sizeOf104 rfl rfl rfl rfl rfl m4 ?_
  intro H3 W3
  have hs3 := W3.size
  refine ⟨trivial,?_⟩
  refine Pl.fin [(2,_)] ⟨rfl,trivial⟩ ?_
  refine Go'.ret (vs := [_]) func70 results70 ⟨⟨_,_,rfl,fun _ _ => run_loadVar_agg (fun w => ⟨isAgg104 w,sizeOf104 w⟩) rfl W3.all⟩,trivial⟩ ?_
  exact ⟨kb,rfl,(hF.trans hF2).trans' W3.fr (fun _ _ _ h => h) (fun b o hb h => by have h' := h.1; omega),W3.fr.wr hwk,by omega,by omega⟩

theorem iItem_spec {B : World} {H : Mem} {it : Nat} {kv : Option (Int × Int)} (hk : Rd H it 15 (EO.enc kv)) : Fn Try.prog B 106 [.pointer (some ⟨it,0,none⟩)] H (fun v H' => v = PV kv ∧ H' = H) := by
  refine fn_of func106 rfl ntmps106 ?_
  refine (show Go' _ _ _ _ 7 [(0,_)] [.code _] _ from ?_)
  refine Go'.seq ?_
  refine Go'.region [(0,0)] rfl ?_
  refine O.asg rfl rfl rfl rfl rfl ?_
  refine Pl.fin [(0,_),(2,_)] ⟨rfl,rfl,trivial⟩ ?_
  refine Go'.seq ?_
  refine Go'.region [(0,0),(1,0),(2,0),(3,1),(4,0)] rfl ?_
  refine O.mv rfl rfl rfl rfl rfl ?_
  refine O.nc rfl rfl rfl rfl rfl ?_
  refine O.fa0 (off := 15) rfl rfl rfl rfl ⟨_,_,_,underlying102,rfl,rfl,sizeOf20⟩ rfl ?_
  refine O.ld rfl rfl rfl (fun w => ⟨isAgg20 w,sizeOf20 w⟩) rfl (hk 0 _ rfl) ?_
  refine O.asg rfl rfl rfl rfl rfl ?_
  refine Pl.fin [(2,_)] ⟨rfl,trivial⟩ ?_
  refine Go'.ret (vs := [_]) func106 results106 ⟨rfl,trivial⟩ ?_
  exact ⟨rfl,rfl⟩

theorem iRelease_spec {B : World} {H : Mem} {it tr : Nat} {mt sk ast ae : Bool} {Z : Nat → Prop} {fr : List (Nat × Int)} {kv : Option (Int × Int)} (hI : Itr H H it tr mt Z sk ast ae Z fr kv) : Fn Try.prog B 97 [.pointer (some ⟨it,0,none⟩)] H (fun v H' => v = resVal [] ∧ Fr (fun b _ => b = it) H H') := by
  obtain ⟨sv,hsv,hA⟩ := hI.st
  refine fn_of func97 rfl ntmps97 ?_
  refine (show Go' _ _ _ _ 36 [(0,_)] [.code _] _ from ?_)
  refine Go'.seq ?_
  refine Go'.seq ?_
  refine Go'.region [(0,0),(1,0),(2,0),(3,1),(4,0)] rfl ?_
  refine O.mv rfl rfl rfl rfl rfl ?_
  refine O.nc rfl rfl rfl rfl rfl ?_
  refine O.faz rfl rfl rfl rfl ⟨_,_,_,underlying102,rfl,rfl,sizeOf95⟩ rfl ?_
  refine O.ld rfl rfl rfl (fun w => ⟨isAgg95 w,sizeOf95 w⟩) rfl hI.c0 ?_
  refine O.isNil rfl rfl rfl rfl underlying95 rfl rfl ?_
  refine Pl.fin [(0,_),(7,_)] ⟨rfl,rfl,trivial⟩ ?_
  refine Go'.condF rfl ?_
  refine Go'.skip ?_
  refine Go'.seq ?_
  refine Go'.seq ?_
  refine Go'.region [(0,0),(1,0),(2,0),(3,1)] rfl ?_
  refine O.mv rfl rfl rfl rfl rfl ?_
  refine O.nc rfl rfl rfl rfl rfl ?_
  refine O.fa0 (off := 2) rfl rfl rfl rfl ⟨_,_,_,underlying102,rfl,rfl,sizeOf4⟩ rfl ?_
  refine O.ld rfl rfl rfl (fun w => ⟨isAgg4 w,sizeOf4 w⟩) rfl hI.lk ?_
  refine Pl.fin [(0,_),(11,_)] ⟨rfl,rfl,trivial⟩ ?_
  refine Go'.condF rfl ?_
  refine Go'.skip ?_
  refine Go'.seq ?_
  refine Go'.region [(0,0),(1,0),(2,0),(3,1),(4,0),(5,0)] rfl ?_
  refine O.mv rfl rfl rfl rfl rfl ?_
  refine O.nc rfl rfl rfl rfl rfl ?_
  refine O.fa0 (off := 14) rfl rfl rfl rfl ⟨_,_,_,underlying102,rfl,rfl,sizeOf100⟩ rfl ?_
  refine O.ld rfl rfl rfl (fun w => ⟨isAgg100 w,sizeOf100 w⟩) rfl hsv ?_
  refine O.slcA (F := EK) (j := 0) rfl rfl rfl rfl underlying100 sizeOf98 rfl hA ⟨_,by rfl⟩ (Nat.zero_le _) ?_
  intro v1 hA1
  obtain ⟨a1,m1,c1,rfl⟩ := hA1.form
  refine O.asg rfl rfl rfl rfl rfl ?_
  refine Pl.fin [(0,_),(2,_)] ⟨rfl,rfl,trivial⟩ ?_
  refine Go'.seq ?_
  refine Go'.region [(0,0),(1,0),(2,0),(3,2)] rfl ?_
  refine O.mv rfl rfl rfl rfl rfl ?_
  refine O.bld (cs := ([.pointer none,.bool false,.bool false,.bool false,.bool false,.bool false,.pointer none,.int .i64 0,.pointer none,.int .i64 0,.pointer none,.int .i64 0,.pointer none,.int .i64 0,.slice none 0 0,.nilIface])) rfl rfl rfl rfl (st102) rfl (by kernel_rfl) ?_
  refine O.nc rfl rfl rfl rfl rfl ?_
  refine O.st (vs := ([.pointer none,.bool false,.bool false,.bool false,.bool false,.bool false,.pointer none,.int .i64 0,.pointer none,.int .i64 0,.pointer none,.int .i64 0,.pointer none,.int .i64 0,.slice none 0 0,.nilIface])) rfl rfl sizeOf102 rfl rfl rfl rfl rfl hI.wr ?_
  intro H1 W1
  refine ⟨trivial,?_⟩
  refine Pl.fin [(0,_),(2,_)] ⟨rfl,rfl,trivial⟩ ?_
  refine Go'.region [(0,0),(1,0),(2,0),(3,0),(4,2)] rfl ?_
  refine O.mv rfl rfl rfl rfl rfl ?_
  refine O.mv rfl rfl rfl rfl rfl ?_
  refine O.nc rfl rfl rfl rfl rfl ?_
  refine O.fa0 (off := 14) rfl rfl rfl rfl ⟨_,_,_,underlying102,rfl,rfl,sizeOf100⟩ rfl ?_
  refine O.st rfl rfl sizeOf100 rfl rfl rfl rfl rfl ((W1.fr.wr hI.wr).at0 14 1 (by decide)) ?_
  intro H2 W2
  refine ⟨trivial,?_⟩
  refine Pl.fin [] trivial ?_
  refine Go'.fall func97 results97 (vs := []) trivial ?_
  exact ⟨rfl,(W1.fr.mono (fun b o _ h => h.1)).trans' W2.fr (fun _ _ _ h => h) (fun b o _ h => h.1)⟩

theorem wFirst_spec {B : World} {H : Mem} {it tr : Nat} {mt sk sa se : Bool} {Z : Nat → Prop} {fr : List (Nat × Int)} {kv : Option (Int × Int)} {P : Ps} {S : Nat → Prop} {l : List (Int × Int)} {r : Option ((h : Nat) × Gt EA h)} (hI : Itr H H it tr mt Z sk sa se Z fr kv) (hT : TreeR H tr P S l r) (hsi : ¬ S it) (hsz : ∀ b,S b → ¬ Z b) :
    Fn Try.prog B 96 [.pointer (some ⟨it,0,none⟩)] H (fun v H' => v = .bool (decide (0 < l.length)) ∧ ItPost H H' it tr mt Z r l (if 0 < l.length then some (0) else none)) := by
  refine fn_of func96 rfl ntmps96 ?_
  refine (show Go' _ _ _ _ 7 [(0,_)] [.code _] _ from ?_)
  refine Go'.seq ?_
  refine Go'.region [(0,0)] rfl ?_
  refine O.asg rfl rfl rfl rfl rfl ?_
  refine Pl.fin [(0,_),(2,_)] ⟨rfl,rfl,trivial⟩ ?_
  refine Go'.seq ?_
  refine Go'.region [(0,0),(1,0),(2,0),(3,2),(4,0)] rfl ?_
  refine O.mv rfl rfl rfl rfl rfl ?_
  refine O.nc rfl rfl rfl rfl rfl ?_
  refine O.faz rfl rfl rfl rfl ⟨_,_,_,underlying104,rfl,rfl,sizeOf102⟩ rfl ?_
  refine O.call rfl rfl rfl call122 rfl (iFirst_spec hI hT hsi hsz) ?_
  rintro v1 H1 hq
  refine ⟨trivial,?_⟩
  refine O.asg rfl rfl rfl rfl rfl ?_
  refine Pl.fin [(2,_)] ⟨rfl,trivial⟩ ?_
  refine Go'.ret (vs := [_]) func96 results96 ⟨rfl,trivial⟩ ?_
  exact hq

theorem wLast_spec {B : World} {H : Mem} {it tr : Nat} {mt sk sa se : Bool} {Z : Nat → Prop} {fr : List (Nat × Int)} {kv : Option (Int × Int)} {P : Ps} {S : Nat → Prop} {l : List (Int × Int)} {r : Option ((h : Nat) × Gt EA h)} (hI : Itr H H it tr mt Z sk sa se Z fr kv) (hT : TreeR H tr P S l r) (hsi : ¬ S it) (hsz : ∀ b,S b → ¬ Z b) :
    Fn Try.prog B 92 [.pointer (some ⟨it,0,none⟩)] H (fun v H' => v = .bool (decide (0 < l.length)) ∧ ItPost H H' it tr mt Z r l (if 0 < l.length then some (l.length - 1) else none)) := by
  refine fn_of func92 rfl ntmps92 ?_
  refine (show Go' _ _ _ _ 7 [(0,_)] [.code _] _ from ?_)
  refine Go'.seq ?_
  refine Go'.region [(0,0)] rfl ?_
  refine O.asg rfl rfl rfl rfl rfl ?_
  refine Pl.fin [(0,_),(2,_)] ⟨rfl,rfl,trivial⟩ ?_
  refine Go'.seq ?_
  refine Go'.region [(0,0),(1,0),(2,0),(3,2),(4,0)] rfl ?_
  refine O.mv rfl rfl rfl rfl rfl ?_
  refine O.nc rfl rfl rfl rfl rfl ?_
  refine O.faz rfl rfl rfl rfl ⟨_,_,_,underlying104,rfl,rfl,sizeOf102⟩ rfl ?_
  refine O.call rfl rfl rfl call118 rfl (iLast_spec hI hT hsi hsz) ?_
  rintro v1 H1 hq
  refine ⟨trivial,?_⟩
  refine O.asg rfl rfl rfl rfl rfl ?_
  refine Pl.fin [(2,_)] ⟨rfl,trivial⟩ ?_
  refine Go'.ret (vs := [_]) func92 results92 ⟨rfl,trivial⟩ ?_
  exact hq

theorem wNext_spec {B : World} {H : Mem} {it tr : Nat} {mt sk sa se : Bool} {Z : Nat → Prop} {fr : List (Nat × Int)} {kv : Option (Int × Int)} {P : Ps} {S : Nat → Prop} {l : List (Int × Int)} {r : Option ((h : Nat) × Gt EA h)} (hI : Itr H H it tr mt Z sk sa se Z fr kv) (hT : TreeR H tr P S l r) (hsi : ¬ S it) (hsz : ∀ b,S b → ¬ Z b) {st : Option Nat} (hSt : StI r l sk fr kv st) :
    Fn Try.prog B 93 [.pointer (some ⟨it,0,none⟩)] H (fun v H' => ∃ b st',v = .bool b ∧ ItPost H H' it tr mt Z r l st' ∧ (∀ q,st = some q → b = decide (q + 1 < l.length) ∧ st' = if q + 1 < l.length then some (q + 1) else none) ∧ (l = [] → b = false ∧ st' = none)) := by
  refine fn_of func93 rfl ntmps93 ?_
  refine (show Go' _ _ _ _ 7 [(0,_)] [.code _] _ from ?_)
  refine Go'.seq ?_
  refine Go'.region [(0,0)] rfl ?_
  refine O.asg rfl rfl rfl rfl rfl ?_
  refine Pl.fin [(0,_),(2,_)] ⟨rfl,rfl,trivial⟩ ?_
  refine Go'.seq ?_
  refine Go'.region [(0,0),(1,0),(2,0),(3,2),(4,0)] rfl ?_
  refine O.mv rfl rfl rfl rfl rfl ?_
  refine O.nc rfl rfl rfl rfl rfl ?_
  refine O.faz rfl rfl rfl rfl ⟨_,_,_,underlying104,rfl,rfl,sizeOf102⟩ rfl ?_
  refine O.call rfl rfl rfl call119 rfl (iNext_spec hI hT hsi hsz hSt) ?_
  rintro v1 H1 hq
  refine ⟨trivial,?_⟩
  refine O.asg rfl rfl rfl rfl rfl ?_
  refine Pl.fin [(2,_)] ⟨rfl,trivial⟩ ?_
  refine Go'.ret (vs := [_]) func93 results93 ⟨rfl,trivial⟩ ?_
  exact hq

theorem wPrev_spec {B : World} {H : Mem} {it tr : Nat} {mt sk sa se : Bool} {Z : Nat → Prop} {fr : List (Nat × Int)} {kv : Option (Int × Int)} {P : Ps} {S : Nat → Prop} {l : List (Int × Int)} {r : Option ((h : Nat) × Gt EA h)} (hI : Itr H H it tr mt Z sk sa se Z fr kv) (hT : TreeR H tr P S l r) (hsi : ¬ S it) (hsz : ∀ b,S b → ¬ Z b) {st : Option Nat} (hSt : StI r l sk fr kv st) :
    Fn Try.prog B 94 [.pointer (some ⟨it,0,none⟩)] H (fun v H' => ∃ b st',v = .bool b ∧ ItPost H H' it tr mt Z r l st' ∧ (∀ q,st = some q → b = decide (0 < q) ∧ st' = if 0 < q then some (q - 1) else none) ∧ (l = [] → b = false ∧ st' = none)) := by
  refine fn_of func94 rfl ntmps94 ?_
  refine (show Go' _ _ _ _ 7 [(0,_)] [.code _] _ from ?_)
  refine Go'.seq ?_
  refine Go'.region [(0,0)] rfl ?_
  refine O.asg rfl rfl rfl rfl rfl ?_
  refine Pl.fin [(0,_),(2,_)] ⟨rfl,rfl,trivial⟩ ?_
  refine Go'.seq ?_
  refine Go'.region [(0,0),(1,0),(2,0),(3,2),(4,0)] rfl ?_
  refine O.mv rfl rfl rfl rfl rfl ?_
  refine O.nc rfl rfl rfl rfl rfl ?_
  refine O.faz rfl rfl rfl rfl ⟨_,_,_,underlying104,rfl,rfl,sizeOf102⟩ rfl ?_
  refine O.call rfl rfl rfl call120 rfl (iPrev_spec hI hT hsi hsz hSt) ?_
  rintro v1 H1 hq
  refine ⟨trivial,?_⟩
  refine O.asg rfl rfl rfl rfl rfl ?_
  refine Pl.fin [(2,_)] ⟨rfl,trivial⟩ ?_
  refine Go'.ret (vs := [_]) func94 results94 ⟨rfl,trivial⟩ ?_
  exact hq

theorem wSeek_spec {B : World} {H : Mem} {it tr : Nat} {mt sk sa se : Bool} {Z : Nat → Prop} {fr : List (Nat × Int)} {kv : Option (Int × Int)} {P : Ps} {S : Nat → Prop} {l : List (Int × Int)} {r : Option ((h : Nat) × Gt EA h)} (hP : PsOk P) (hI : Itr H H it tr mt Z sk sa se Z fr kv) (hT : TreeR H tr P S l r) (hsi : ¬ S it) (hsz : ∀ b,S b → ¬ Z b) (hsrt : Pl.Srt OI l) (x : Int × Int) :
    Fn Try.prog B 81 [.pointer (some ⟨it,0,none⟩),iv x] H (fun v H' => v = .bool (decide (Pl.pos OI x l < l.length)) ∧ ItPH H H' it tr mt Z r l (.pointer none) (fun _ => False) (if Pl.pos OI x l < l.length then some (Pl.pos OI x l) else none)) := by
  refine fn_of func81 rfl ntmps81 ?_
  refine (show Go' _ _ _ _ 10 [(0,_),(1,_)] [.code _] _ from ?_)
  refine Go'.seq ?_
  refine Go'.region [(0,0)] rfl ?_
  refine O.asg rfl rfl rfl rfl rfl ?_
  refine Pl.fin [(0,_),(1,_),(4,_)] ⟨rfl,rfl,rfl,trivial⟩ ?_
  refine Go'.seq ?_
  refine Go'.region [(0,0),(1,0),(2,0),(3,0),(4,2),(5,0)] rfl ?_
  refine O.mv rfl rfl rfl rfl rfl ?_
  refine O.nc rfl rfl rfl rfl rfl ?_
  refine O.faz rfl rfl rfl rfl ⟨_,_,_,underlying104,rfl,rfl,sizeOf102⟩ rfl ?_
  refine O.mv rfl rfl rfl rfl rfl ?_
  refine O.call rfl rfl rfl call105 rfl (iSeek_spec hP hI hT hsi hsz hsrt x) ?_
  rintro v1 H1 hq
  refine ⟨trivial,?_⟩
  refine O.asg rfl rfl rfl rfl rfl ?_
  refine Pl.fin [(4,_)] ⟨rfl,trivial⟩ ?_
  refine Go'.ret (vs := [_]) func81 results81 ⟨rfl,trivial⟩ ?_
  exact hq

theorem wSeekHint_spec {B : World} {H : Mem} {it tr : Nat} {mt sk sa se : Bool} {Z : Nat → Prop} {fr : List (Nat × Int)} {kv : Option (Int × Int)} {P : Ps} {S : Nat → Prop} {l : List (Int × Int)} {r : Option ((h : Nat) × Gt EA h)} (hP : PsOk P) (hI : Itr H H it tr mt Z sk sa se Z fr kv) (hT : TreeR H tr P S l r) (hsi : ¬ S it) (hsz : ∀ b,S b → ¬ Z b) (hsrt : Pl.Srt OI l) (x : Int × Int) {hv : Value} {hz : Nat → Prop} (hk : HintOk H hv hz) (hzS : ∀ b,hz b → ¬ S b) (hzi : ¬ hz it) (hzZ : ∀ b,Z b → ¬ hz b) :
    Fn Try.prog B 95 [.pointer (some ⟨it,0,none⟩),iv x,hv] H (fun v H' => v = .bool (decide (Pl.pos OI x l < l.length)) ∧ ItPH H H' it tr mt Z r l hv hz (if Pl.pos OI x l < l.length then some (Pl.pos OI x l) else none)) := by
  refine fn_of func95 rfl ntmps95 ?_
  refine (show Go' _ _ _ _ 13 [(0,_),(1,_),(2,_)] [.code _] _ from ?_)
  refine Go'.seq ?_
  refine Go'.region [(0,0)] rfl ?_
  refine O.asg rfl rfl rfl rfl rfl ?_
  refine Pl.fin [(0,_),(1,_),(2,_),(6,_)] ⟨rfl,rfl,rfl,rfl,trivial⟩ ?_
  refine Go'.seq ?_
  refine Go'.region [(0,0),(1,0),(2,0),(3,0),(4,0),(5,2),(6,0)] rfl ?_
  refine O.mv rfl rfl rfl rfl rfl ?_
  refine O.nc rfl rfl rfl rfl rfl ?_
  refine O.faz rfl rfl rfl rfl ⟨_,_,_,underlying104,rfl,rfl,sizeOf102⟩ rfl ?_
  refine O.mv rfl rfl rfl rfl rfl ?_
  refine O.mv rfl rfl rfl rfl rfl ?_
  refine O.call rfl rfl rfl call121 rfl (iSeekHint_spec hP hI hT hsi hsz hsrt x hk hzS hzi hzZ) ?_
  rintro v1 H1 hq
  refine ⟨trivial,?_⟩
  refine O.asg rfl rfl rfl rfl rfl ?_
  refine Pl.fin [(6,_)] ⟨rfl,trivial⟩ ?_
  refine Go'.ret (vs := [_]) func95 results95 ⟨rfl,trivial⟩ ?_
  exact hq

theorem wItem_spec {B : World} {H : Mem} {it : Nat} {kv : Option (Int × Int)} (hk : Rd H it 15 (EO.enc kv)) : Fn Try.prog B 82 [.pointer (some ⟨it,0,none⟩)] H (fun v H' => v = PV kv ∧ H' = H) := by
  refine fn_of func82 rfl ntmps82 ?_
  refine (show Go' _ _ _ _ 7 [(0,_)] [.code _] _ from ?_)
  refine Go'.seq ?_
  refine Go'.region [(0,0)] rfl ?_
  refine O.asg rfl rfl rfl rfl rfl ?_
  refine Pl.fin [(0,_),(2,_)] ⟨rfl,rfl,trivial⟩ ?_
  refine Go'.seq ?_
  refine Go'.region [(0,0),(1,0),(2,0),(3,2),(4,0)] rfl ?_
  refine O.mv rfl rfl rfl rfl rfl ?_
  refine O.nc rfl rfl rfl rfl rfl ?_
  refine O.faz rfl rfl rfl rfl ⟨_,_,_,underlying104,rfl,rfl,sizeOf102⟩ rfl ?_
  refine O.callQ rfl rfl rfl call106 rfl (iItem_spec hk) trivial ?_
  refine O.asg rfl rfl rfl rfl rfl ?_
  refine Pl.fin [(2,_)] ⟨rfl,trivial⟩ ?_
  refine Go'.ret (vs := [_]) func82 results82 ⟨rfl,trivial⟩ ?_
  exact ⟨rfl,rfl⟩

theorem wRelease_spec {B : World} {H : Mem} {it tr : Nat} {mt sk ast ae : Bool} {Z : Nat → Prop} {fr : List (Nat × Int)} {kv : Option (Int × Int)} (hI : Itr H H it tr mt Z sk ast ae Z fr kv) : Fn Try.prog B 72 [.pointer (some ⟨it,0,none⟩)] H (fun v H' => v = resVal [] ∧ Fr (fun b _ => b = it) H H') := by
  refine fn_of func72 rfl ntmps72 ?_
  refine (show Go' _ _ _ _ 6 [(0,_)] [.code _] _ from ?_)
  refine Go'.region [(0,0),(1,0),(2,0),(3,2)] rfl ?_
  refine O.mv rfl rfl rfl rfl rfl ?_
  refine O.nc rfl rfl rfl rfl rfl ?_
  refine O.faz rfl rfl rfl rfl ⟨_,_,_,underlying104,rfl,rfl,sizeOf102⟩ rfl ?_
  refine O.call rfl rfl rfl call97 rfl (iRelease_spec hI) ?_
  rintro _ H1 ⟨rfl,hF⟩
  refine ⟨trivial,?_⟩
  refine Pl.fin [] trivial ?_
  refine Go'.fall func72 results72 (vs := []) trivial ?_
  exact ⟨rfl,hF⟩

end
end Go.Bt.FB
namespace Go.Bt
open Go Go.Proofs Go.Proofs.Try
set_option maxRecDepth 20000
set_option maxHeartbeats 4000000
set_option linter.unusedVariables false

theorem st35 : StT Try.prog 35 [(0,1),(1,1)] [.int .i64 0,.int .i64 0] := ⟨⟨_,underlying35,fun w => by simp [Array.mapM_eq_mapM_toList,sizeOf3]⟩,zeroValue35⟩
theorem st44 : StT Try.prog 44 [(0,2),(2,1)] [.int .i64 0,.int .i64 0,.bool false] := ⟨⟨_,underlying44,fun w => by simp [Array.mapM_eq_mapM_toList,sizeOf4,sizeOf35]⟩,zeroValue44⟩

theorem rank_spec {B : World} {H : Mem} {v : Value} {ord : List Int} {k : Int} (ho : InS EN H v ord) (hl : ord.length < 4611686018427387904) :
    Fn Try.prog B 69 [v,.int .i64 k] H (fun r H' => r = .int .i64 (rank ord k) ∧ H' = H) := by
  obtain ⟨a,c,rfl⟩ := ho.len
  refine fn_of func69 rfl ntmps69 ?_
  refine (show Go' _ _ _ _ 21 [(0,_),(1,_)] [.code _] _ from ?_)
  refine Go'.seq ?_
  refine Go'.region [(0,0)] rfl ?_
  refine O.asg rfl rfl rfl rfl rfl ?_
  refine Pl.fin [(0,_),(1,_),(4,_)] ⟨rfl,rfl,rfl,trivial⟩ ?_
  refine Go'.seq ?_
  refine Go'.region [(0,0),(1,0),(2,0)] rfl ?_
  refine O.mv rfl rfl rfl rfl rfl ?_
  refine O.len rfl rfl rfl rfl underlying22 rfl ?_
  refine O.asg rfl rfl rfl rfl rfl ?_
  refine Pl.fin [(0,_),(1,_),(4,_),(5,_)] ⟨rfl,rfl,rfl,rfl,trivial⟩ ?_
  refine Go'.seq ?_
  refine Go'.seq ?_
  by_cases h0 : ord.length = 0
  · skip
    refine Go'.region [(0,0),(1,0)] rfl ?_
    refine O.mv rfl rfl rfl rfl rfl ?_
    refine O.cmp rfl rfl rfl rfl rfl rfl (eqlT (by omega)) ?_
    refine Pl.fin [(0,_),(1,_),(4,_),(5,_),(9,_)] ⟨rfl,rfl,rfl,rfl,rfl,trivial⟩ ?_
    refine Go'.condT rfl ?_
    refine Go'.seq ?_
    refine Go'.region [(0,0),(1,0)] rfl ?_
    refine O.mv rfl rfl rfl rfl rfl ?_
    refine O.asg rfl rfl rfl rfl rfl ?_
    refine Pl.fin [(0,_),(1,_),(4,_),(5,_)] ⟨rfl,rfl,rfl,rfl,trivial⟩ ?_
    refine Go'.ret (vs := [_]) func69 results69 ⟨rfl,trivial⟩ ?_
    refine ⟨?_,rfl⟩
    unfold rank; rw [if_pos h0]; rfl
  · skip
    have hp : (0 : Int) < ord.length := by omega
    have b1 := Int.tmod_lt_of_pos k hp
    have b2 : -(ord.length : Int) < k.tmod ord.length := by
      have := Int.lt_tmod_of_pos k hp
      omega
    have b3 := Int.tmod_lt_of_pos (k.tmod ord.length + ord.length) hp
    have b4 : 0 ≤ (k.tmod ord.length + ord.length).tmod ord.length := Int.tmod_nonneg _ (by omega)
    obtain ⟨j,hj⟩ := Int.eq_ofNat_of_zero_le b4
    obtain ⟨z,hz⟩ : ∃ z,ord[j]? = some z := ⟨ord[j]'(by omega),List.getElem?_eq_getElem (by omega)⟩
    obtain ⟨b,o,c',e,hr⟩ := ho.at hz
    cases e
    refine Go'.region [(0,0),(1,0)] rfl ?_
    refine O.mv rfl rfl rfl rfl rfl ?_
    refine O.cmp rfl rfl rfl rfl rfl rfl (eqlF (by omega)) ?_
    refine Pl.fin [(0,_),(1,_),(4,_),(5,_),(9,_)] ⟨rfl,rfl,rfl,rfl,rfl,trivial⟩ ?_
    refine Go'.condF rfl ?_
    refine Go'.skip ?_
    refine Go'.seq ?_
    refine Go'.region [(0,0),(1,0),(2,0),(3,0),(4,0),(5,0),(6,0),(7,0),(8,0),(9,1),(10,0)] rfl ?_
    refine O.mv rfl rfl rfl rfl rfl ?_
    refine O.mv rfl rfl rfl rfl rfl ?_
    refine O.mv rfl rfl rfl rfl rfl ?_
    refine O.rem (k.tmod ord.length) rfl rfl rfl rfl rfl rfl (by omega) rfl ?_
    refine O.mv rfl rfl rfl rfl rfl ?_
    refine O.add ((k.tmod ord.length + ord.length)) rfl rfl rfl rfl rfl rfl (by omega) (by omega) ?_
    refine O.mv rfl rfl rfl rfl rfl ?_
    refine O.rem ((j : Int)) rfl rfl rfl rfl rfl rfl (by omega) hj ?_
    refine O.ix (j := j) rfl rfl rfl rfl underlying22 sizeOf3 rfl rfl (by omega) (by omega) ?_
    refine O.ld rfl rfl rfl (fun w => ⟨isAgg3 w,sizeOf3 w⟩) rfl (hr 0 _ rfl) ?_
    refine O.asg rfl rfl rfl rfl rfl ?_
    refine Pl.fin [(4,_)] ⟨rfl,trivial⟩ ?_
    refine Go'.ret (vs := [_]) func69 results69 ⟨rfl,trivial⟩ ?_
    refine ⟨?_,rfl⟩
    unfold rank; rw [if_neg h0,hj,Int.toNat_natCast,List.getD_eq_getElem?_getD,hz]; rfl

theorem before_spec {B : World} {H : Mem} {v : Value} {ord : List Int} {x y : Int × Int} (ho : InS EN H v ord) (hl : ord.length < 4611686018427387904) :
    Fn Try.prog B 45 [v,.agg (EJ.enc x).toArray,.agg (EJ.enc y).toArray] H (fun r H' => r = .bool ((OO ord).lt x y) ∧ Fr nowhere H H') := by
  have hF : Fr nowhere H H := Fr.refl _ _
  refine fn_of func45 rfl ntmps45 ?_
  refine (show Go' _ _ _ _ 16 [(0,_),(1,_),(2,_)] [.code _] _ from ?_)
  refine Go'.seq ?_
  refine Go'.region [(0,2),(1,2),(2,0)] rfl ?_
  refine O.box rfl rfl rfl rfl ?_
  intro H1 M1
  refine ⟨trivial,?_⟩
  replace ho := ho.fr (M1.fr nowhere)
  replace hF := hF.trans' (M1.fr nowhere) (fun _ _ _ h => h) (fun _ _ _ h => h.elim)
  have mi : Rd H1 H.size 0 (EJ.enc x) := M1.rd _ [] (by simp [Value.cells])
  refine O.box rfl rfl rfl rfl ?_
  intro H2 M2
  refine ⟨trivial,?_⟩
  replace ho := ho.fr (M2.fr nowhere)
  replace mi := (M2.fr nowhere).rd mi (fun _ _ => nw)
  replace hF := hF.trans' (M2.fr nowhere) (fun _ _ _ h => h) (fun _ _ _ h => h.elim)
  have mj : Rd H2 H1.size 0 (EJ.enc y) := M2.rd _ [] (by simp [Value.cells])
  refine O.asg rfl rfl rfl rfl rfl ?_
  refine Pl.fin [(0,_),(4,_),(5,_),(6,_)] ⟨rfl,rfl,rfl,rfl,trivial⟩ ?_
  refine Go'.seq ?_
  refine Go'.draw (fun H' => Rd H' H.size 0 (EJ.enc x) ∧ Rd H' H1.size 0 (EJ.enc y)) [(0,0),(1,0),(2,1),(4,0),(5,0),(6,0),(3,2),(7,2),(8,0),(9,0)] (by kernel_rfl) (by kernel_rfl) (⟨mi,mj⟩) ?_
  refine O.mv rfl rfl rfl rfl rfl ?_
  refine O.faz rfl rfl rfl rfl ⟨_,_,_,underlying35,rfl,rfl,sizeOf3⟩ rfl ?_
  refine O.ld rfl rfl rfl (fun w => ⟨isAgg3 w,sizeOf3 w⟩) rfl (mi 0 _ rfl) ?_
  refine O.mv rfl rfl rfl rfl rfl ?_
  refine O.faz rfl rfl rfl rfl ⟨_,_,_,underlying35,rfl,rfl,sizeOf3⟩ rfl ?_
  refine O.ldC rfl rfl rfl (fun w => ⟨isAgg3 w,sizeOf3 w⟩) rfl (fun _ h => h.2 0 _ rfl) ?_
  refine O.callQ rfl rfl rfl call69 rfl (rank_spec ho hl) ⟨mi,mj⟩ ?_
  refine O.callQ rfl rfl rfl call69 rfl (rank_spec ho hl) ⟨mi,mj⟩ ?_
  refine O.cmp rfl rfl rfl rfl rfl rfl (show cmpOf .lss _ _ = some ((OO ord).lt x y) from rfl) ?_
  refine O.asg rfl rfl rfl rfl rfl ?_
  refine Pl.fin [(6,_)] ⟨rfl,trivial⟩ ?_
  refine Go'.ret (vs := [_]) func45 results45 ⟨rfl,trivial⟩ ?_
  exact ⟨rfl,hF⟩

theorem place_spec {B : World} {H : Mem} {v u : Value} {ord : List Int} {l : List (Int × Int)} {x : Int × Int} (ho : InS EN H v ord) (hl : ord.length < 4611686018427387904) (hi : InS EJ H u l) (hs : Pl.Srt (OO ord) l) (hll : l.length < 4611686018427387904) :
    Fn Try.prog B 61 [v,u,.agg (EJ.enc x).toArray] H (fun r H' => r = .tuple #[.int .i64 ((Pl.pos (OO ord) x l : Nat) : Int),.bool (Pl.fnd (OO ord) x l)] ∧ Fr nowhere H H') := by
  have hF : Fr nowhere H H := Fr.refl _ _
  obtain ⟨a,c,hu⟩ := hi.len
  subst hu
  refine fn_of func61 rfl ntmps61 ?_
  refine (show Go' _ _ _ _ 39 [(0,_),(1,_),(2,_)] [.code _] _ from ?_)
  refine Go'.seq ?_
  refine Go'.region [(0,2),(1,0),(2,0)] rfl ?_
  refine O.box rfl rfl rfl rfl ?_
  intro H1 M1
  refine ⟨trivial,?_⟩
  replace ho := ho.fr (M1.fr nowhere)
  replace hi := hi.fr (M1.fr nowhere)
  replace hF := hF.trans' (M1.fr nowhere) (fun _ _ _ h => h) (fun _ _ _ h => h.elim)
  have mi : Rd H1 H.size 0 (EJ.enc x) := M1.rd _ [] (by simp [Value.cells])
  refine O.asg rfl rfl rfl rfl rfl ?_
  refine O.asg rfl rfl rfl rfl rfl ?_
  refine Pl.fin [(0,_),(1,_),(5,_),(6,_),(7,_)] ⟨rfl,rfl,rfl,rfl,rfl,trivial⟩ ?_
  refine Go'.seq ?_
  refine Go'.region [(0,0)] rfl ?_
  refine O.asg rfl rfl rfl rfl rfl ?_
  refine Pl.fin [(0,_),(1,_),(5,_),(6,_),(7,_),(8,_)] ⟨rfl,rfl,rfl,rfl,rfl,rfl,trivial⟩ ?_
  refine Go'.seq ?_
  refine Go'.block ?_
  refine Go'.loop ?_
  refine Go'.keep [(0,_),(1,_),(5,_),(8,_)] ⟨rfl,rfl,rfl,rfl,trivial⟩ ?_
  refine Go'.ind (σ := Nat) (fun j => l.length - j) (fun j H' => Fr nowhere H1 H' ∧ j ≤ l.length ∧ ∀ i y,l[i]? = some y → i < j → (OO ord).lt y x = true)
    (fun j => [(0,v),(1,.slice a l.length c),(5,.pointer (some ⟨H.size,0,none⟩)),(8,.int .i64 (j : Int))]) 0 ⟨Fr.refl _ _,Nat.zero_le _,fun i y _ h => by omega⟩ rfl ?_
  rintro j H2 ⟨hF2,hjl,hlo⟩ ih
  replace ho := ho.fr hF2
  replace hi := hi.fr hF2
  replace mi := hF2.rd mi (fun _ _ => nw)
  replace hF := hF.trans hF2
  refine Go'.seq ?_
  refine Go'.seq ?_
  by_cases hlt : j < l.length
  · skip
    obtain ⟨y,hy⟩ : ∃ y,l[j]? = some y := ⟨l[j],List.getElem?_eq_getElem hlt⟩
    obtain ⟨b,o,c',e,hr⟩ := hi.at hy
    cases e
    refine Go'.draw (fun _ => True) [(0,0),(1,0),(2,0),(3,0),(4,0),(5,0),(6,0),(7,0),(8,0),(9,1),(10,1),(11,2),(12,0)] (by kernel_rfl) (by kernel_rfl) (trivial) ?_
    refine O.mv rfl rfl rfl rfl rfl ?_
    refine O.mv rfl rfl rfl rfl rfl ?_
    refine O.len rfl rfl rfl rfl underlying25 rfl ?_
    refine O.cmp rfl rfl rfl rfl rfl rfl (lssT (by omega)) ?_
    refine O.mv rfl rfl rfl rfl rfl ?_
    refine O.mv rfl rfl rfl rfl rfl ?_
    refine O.mv rfl rfl rfl rfl rfl ?_
    refine O.mv rfl rfl rfl rfl rfl ?_
    refine O.ix (j := j) rfl rfl rfl rfl underlying25 sizeOf35 rfl rfl (by omega) hlt ?_
    refine O.lds rfl rfl rfl (fun w => ⟨isAgg35 w,sizeOf35 w⟩) rfl rfl hr ?_
    refine O.lds rfl rfl rfl (fun w => ⟨isAgg35 w,sizeOf35 w⟩) rfl rfl mi ?_
    refine O.call rfl rfl rfl call45 rfl (before_spec ho hl) ?_
    rintro _ H3 ⟨rfl,hF3⟩
    refine ⟨trivial,?_⟩
    refine O.pick rfl rfl rfl rfl rfl rfl ?_
    refine Pl.fin [(0,_),(1,_),(5,_),(8,_),(21,_)] ⟨rfl,rfl,rfl,rfl,rfl,trivial⟩ ?_
    cases hyx : (OO ord).lt y x
    · -- the place
      refine Go'.condF rfl ?_
      refine Go'.exit rfl ?_
      refine Go'.seq ?_
      replace ho := ho.fr hF3
      replace hr := hF3.rd hr (fun _ _ => nw)
      replace mi := hF3.rd mi (fun _ _ => nw)
      replace hF := hF.trans hF3
      have hpos : Pl.pos (OO ord) x l = j := by
        have e : l = l.take j ++ y :: l.drop (j + 1) := Bt.split_item hy
        have h2 := Pl.pos_eq (OO ord) (x := x) (a := l.take j) (b := y :: l.drop (j + 1)) (fun z hz => by
          obtain ⟨i,hi2,rfl⟩ := List.mem_iff_getElem.1 hz
          rw [List.length_take] at hi2
          exact hlo i _ (by rw [List.getElem?_eq_getElem (by omega),List.getElem_take]) (by omega)) (fun z hz => by simp only [List.head?_cons,Option.some.injEq] at hz; subst hz; exact hyx)
        rw [← e,List.length_take] at h2
        omega
      have hfnd : Pl.fnd (OO ord) x l = !(OO ord).lt x y := by unfold Pl.fnd; rw [hpos,hy]
      refine Go'.draw (fun _ => True) [(0,0),(1,0),(2,0),(3,0),(4,0),(5,0),(6,0),(7,1),(8,0),(9,0),(10,0),(11,1),(12,2),(13,0),(14,0),(15,0),(16,0)] (by kernel_rfl) (by kernel_rfl) (trivial) ?_
      refine O.mv rfl rfl rfl rfl rfl ?_
      refine O.mv rfl rfl rfl rfl rfl ?_
      refine O.mv rfl rfl rfl rfl rfl ?_
      refine O.len rfl rfl rfl rfl underlying25 rfl ?_
      refine O.cmp rfl rfl rfl rfl rfl rfl (lssT (by omega)) ?_
      refine O.mv rfl rfl rfl rfl rfl ?_
      refine O.mv rfl rfl rfl rfl rfl ?_
      refine O.lds rfl rfl rfl (fun w => ⟨isAgg35 w,sizeOf35 w⟩) rfl rfl mi ?_
      refine O.mv rfl rfl rfl rfl rfl ?_
      refine O.mv rfl rfl rfl rfl rfl ?_
      refine O.ix (j := j) rfl rfl rfl rfl underlying25 sizeOf35 rfl rfl (by omega) hlt ?_
      refine O.lds rfl rfl rfl (fun w => ⟨isAgg35 w,sizeOf35 w⟩) rfl rfl hr ?_
      refine O.call rfl rfl rfl call45 rfl (before_spec ho hl) ?_
      rintro _ H4 ⟨rfl,hF4⟩
      refine ⟨trivial,?_⟩
      refine O.not rfl rfl rfl rfl rfl ?_
      refine O.pick rfl rfl rfl rfl rfl rfl ?_
      refine O.asg rfl rfl rfl rfl rfl ?_
      refine O.asg rfl rfl rfl rfl rfl ?_
      refine Pl.fin [(6,_),(7,_)] ⟨rfl,rfl,trivial⟩ ?_
      refine Go'.ret (vs := [_,_]) func61 results61 ⟨rfl,rfl,trivial⟩ ?_
      exact ⟨by rw [hpos,hfnd]; rfl,hF.trans hF4⟩
    · -- on
      refine Go'.condT rfl ?_
      refine Go'.skip ?_
      refine Go'.block ?_
      refine Go'.region [(0,0),(1,0),(2,0)] rfl ?_
      refine O.mv rfl rfl rfl rfl rfl ?_
      refine O.add (((j + 1 : Nat) : Int)) rfl rfl rfl rfl rfl rfl (by omega) (by omega) ?_
      refine O.asg rfl rfl rfl rfl rfl ?_
      refine Pl.fin [(0,_),(1,_),(5,_),(8,_),(21,_)] ⟨rfl,rfl,rfl,rfl,rfl,trivial⟩ ?_
      refine Go'.inBlock ?_
      refine Go'.keep [(0,_),(1,_),(5,_),(8,_)] ⟨rfl,rfl,rfl,rfl,trivial⟩ ?_
      refine Go'.inLoop ?_
      exact ih (j + 1) H3 ⟨hF2.trans hF3,hlt,fun i z hz hij => by
        rcases Nat.lt_or_ge i j with h | h
        · exact hlo i z hz h
        · obtain rfl : i = j := by omega
          rw [hy] at hz; cases hz; exact hyx⟩ (by omega)
  · -- behind all
    obtain rfl : j = l.length := by omega
    have hpos : Pl.pos (OO ord) x l = l.length := by
      have h2 := Pl.pos_eq (OO ord) (x := x) (a := l) (b := []) (fun z hz => by
        obtain ⟨i,hi2,rfl⟩ := List.mem_iff_getElem.1 hz
        exact hlo i _ (List.getElem?_eq_getElem hi2) hi2) (fun z hz => by simp at hz)
      rw [List.append_nil] at h2
      exact h2
    have hfnd : Pl.fnd (OO ord) x l = false := by unfold Pl.fnd; rw [hpos,List.getElem?_eq_none (Nat.le_refl _)]
    refine Go'.draw (fun _ => True) [(0,0),(1,0),(2,0),(3,0),(4,0),(5,0),(6,0),(7,0),(8,0),(9,1),(10,1),(11,2),(12,0)] (by kernel_rfl) (by kernel_rfl) (trivial) ?_
    refine O.mv rfl rfl rfl rfl rfl ?_
    refine O.mv rfl rfl rfl rfl rfl ?_
    refine O.len rfl rfl rfl rfl underlying25 rfl ?_
    refine O.cmp rfl rfl rfl rfl rfl rfl (lssF (by omega)) ?_
    refine O.mv rfl rfl rfl rfl rfl ?_
    refine Pl.pass rfl rfl rfl rfl ?_
    refine Pl.pass rfl rfl rfl rfl ?_
    refine Pl.pass rfl rfl rfl rfl ?_
    refine Pl.pass rfl rfl rfl rfl ?_
    refine Pl.pass rfl rfl rfl rfl ?_
    refine Pl.pass rfl rfl rfl rfl ?_
    refine Pl.pass2 rfl rfl rfl rfl trivial ?_
    refine O.pick rfl rfl rfl rfl rfl rfl ?_
    refine Pl.fin [(0,_),(1,_),(5,_),(8,_),(21,_)] ⟨rfl,rfl,rfl,rfl,rfl,trivial⟩ ?_
    refine Go'.condF rfl ?_
    refine Go'.exit rfl ?_
    refine Go'.seq ?_
    refine Go'.draw (fun _ => True) [(0,0),(1,0),(2,0),(3,0),(4,0),(5,0),(6,0),(7,1),(8,0),(9,0),(10,0),(11,1),(12,2),(13,0),(14,0),(15,0),(16,0)] (by kernel_rfl) (by kernel_rfl) (trivial) ?_
    refine O.mv rfl rfl rfl rfl rfl ?_
    refine O.mv rfl rfl rfl rfl rfl ?_
    refine O.mv rfl rfl rfl rfl rfl ?_
    refine O.len rfl rfl rfl rfl underlying25 rfl ?_
    refine O.cmp rfl rfl rfl rfl rfl rfl (lssF (by omega)) ?_
    refine O.mv rfl rfl rfl rfl rfl ?_
    refine Pl.pass rfl rfl rfl rfl ?_
    refine Pl.pass rfl rfl rfl rfl ?_
    refine Pl.pass rfl rfl rfl rfl ?_
    refine Pl.pass rfl rfl rfl rfl ?_
    refine Pl.pass rfl rfl rfl rfl ?_
    refine Pl.pass rfl rfl rfl rfl ?_
    refine Pl.pass2 rfl rfl rfl rfl trivial ?_
    refine Pl.pass rfl rfl rfl rfl ?_
    refine O.pick rfl rfl rfl rfl rfl rfl ?_
    refine O.asg rfl rfl rfl rfl rfl ?_
    refine O.asg rfl rfl rfl rfl rfl ?_
    refine Pl.fin [(6,_),(7,_)] ⟨rfl,rfl,trivial⟩ ?_
    refine Go'.ret (vs := [_,_]) func61 results61 ⟨rfl,rfl,trivial⟩ ?_
    exact ⟨by rw [hpos,hfnd]; rfl,hF⟩

end Go.Bt
