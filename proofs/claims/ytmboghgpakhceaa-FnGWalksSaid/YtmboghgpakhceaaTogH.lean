/- Contracts of functions of the program, proved by walking through their code. Conditions: those that each theorem names. -/
import Derived.Test.YtmboghgpakhceaaTogG
import Derived.Test.YtmboghgpakhceaaToHi
namespace Go.Bt.FG
open Go Go.Proofs Go.Proofs.Try
set_option maxRecDepth 20000
set_option maxHeartbeats 4000000
set_option linter.unusedVariables false
set_option linter.unusedSectionVars false
variable [Inhabited Cx]

theorem hintsearch_spec {B : World} {H : Mem} {tr id mx mn hb dp : Nat} (tc : TrC H tr id mx mn) {g : Ng} {X : List (Int × Int)} {kp : Option Addr} (x : Int × Int) (hn : NodeM EJ H g X (.pointer kp)) (hs : Pl.Srt OI X) (hl : X.length ≤ 255) (h1 : 1 ≤ X.length)
    (hh : HintM H hb) (hbl : hb < H.size) (hbb : ¬ (hb < cx.base ∧ cx.own hb)) (hoff : ∀ o,¬ ncl EJ g hb o) (hdp : dp < 4611686018427387904) :
    Fn Try.prog B 180 [.pointer (some ⟨tr,0,none⟩),.pointer (some ⟨g.p,0,none⟩),.agg (EJ.enc x).toArray,.pointer (some ⟨hb,0,none⟩),.int .i64 (dp : Int)] H (fun v H' => v = .tuple #[.int .i64 ((Pl.pos OI x X : Nat) : Int),.bool (Pl.fnd OI x X)] ∧ Fr (fun b _ => b = hb) H H' ∧ HintM H' hb) := by
  have hple := Pl.pos_le OI x X
  refine fn_of func180 rfl ntmps180 ?_
  refine (show Go' _ _ _ _ 200 [(0,_),(1,_),(2,_),(3,_),(4,_)] [.code _] _ from ?_)
  refine Go'.seq ?_
  refine Go'.region [(0,2),(1,0),(2,0)] rfl ?_
  refine O.box rfl rfl rfl rfl ?_
  intro H1 M1
  refine ⟨trivial,?_⟩
  have hF1 := M1.fr nowhere
  have hs1 := M1.size
  replace tc := tc.fr hF1 (fun _ _ _ _ => nw)
  replace hn := NodeM.fr EJ hn hF1 (fun _ _ _ => nw)
  replace hh := hh.fr hF1 (fun _ => nw)
  have mk : Rd H1 H.size 0 (EJ.enc x) := M1.rd _ [] (by simp [Value.cells])
  refine O.asg rfl rfl rfl rfl rfl ?_
  refine O.asg rfl rfl rfl rfl rfl ?_
  refine Pl.fin [(0,_),(1,_),(2,_),(3,_),(4,_),(7,_),(10,_),(11,_)] ⟨rfl,rfl,rfl,rfl,rfl,rfl,rfl,rfl,trivial⟩ ?_
  refine Go'.scope ?_
  refine Go'.joinL (l := 0) (σ := Nat × Bool) rfl (fun s H' => s = (Pl.pos OI x X,Pl.fnd OI x X) ∧ Fr nowhere H1 H') (fun s => [(1,.pointer (some ⟨g.p,0,none⟩)),(3,.pointer (some ⟨hb,0,none⟩)),(4,.int .i64 (dp : Int)),(10,.int .i64 (s.1 : Int)),(11,.bool s.2)]) ?_ ?_
  · -- behind the label
    rintro _ H2 ⟨rfl,hF2⟩
    replace hn := NodeM.fr EJ hn hF2 (fun _ _ _ => nw)
    replace hh := hh.fr hF2 (fun _ => nw)
    have hF := hF1.trans hF2
    have hsz := hF2.size
    simp only
    refine Go'.seq ?_
    refine Go'.seq ?_
    by_cases hd8 : dp < 8
    rotate_left
    · -- too deep
      refine Go'.region [(0,0),(1,0)] rfl ?_
      refine O.mv rfl rfl rfl rfl rfl ?_
      refine O.cmp rfl rfl rfl rfl rfl rfl (lssF (by omega)) ?_
      refine Pl.fin [(1,_),(3,_),(4,_),(10,_),(11,_),(157,_)] ⟨rfl,rfl,rfl,rfl,rfl,rfl,trivial⟩ ?_
      refine Go'.condF rfl ?_
      refine Go'.skip ?_
      refine Go'.seq ?_
      refine Go'.region [(0,0),(1,0),(2,0),(3,0)] rfl ?_
      refine O.mv rfl rfl rfl rfl rfl ?_
      refine O.mv rfl rfl rfl rfl rfl ?_
      refine O.asg rfl rfl rfl rfl rfl ?_
      refine O.asg rfl rfl rfl rfl rfl ?_
      refine Pl.fin [(1,_),(3,_),(4,_),(10,_),(11,_),(157,_)] ⟨rfl,rfl,rfl,rfl,rfl,rfl,trivial⟩ ?_
      refine Go'.ret (vs := [_,_]) func180 results180 ⟨rfl,rfl,trivial⟩ ?_
      exact ⟨rfl,hF.mono (fun _ _ _ h => h.elim),hh⟩
    · -- kept
      refine Go'.region [(0,0),(1,0)] rfl ?_
      refine O.mv rfl rfl rfl rfl rfl ?_
      refine O.cmp rfl rfl rfl rfl rfl rfl (lssT (by omega)) ?_
      refine Pl.fin [(1,_),(3,_),(4,_),(10,_),(11,_),(157,_)] ⟨rfl,rfl,rfl,rfl,rfl,rfl,trivial⟩ ?_
      refine Go'.condT rfl ?_
      refine Go'.seq ?_
      refine Go'.region [(0,0),(1,0),(2,0),(3,0),(4,0),(5,2)] rfl ?_
      refine O.mv rfl rfl rfl rfl rfl ?_
      refine O.mv rfl rfl rfl rfl rfl ?_
      refine O.nc rfl rfl rfl rfl rfl ?_
      refine O.faz rfl rfl rfl rfl ⟨_,_,_,underlying153,rfl,rfl,sizeOf150⟩ rfl ?_
      refine O.ixr (j := dp) rfl rfl rfl rfl underlying150 sizeOf4 rfl rfl (by omega) hd8 ?_
      refine O.st rfl rfl sizeOf4 rfl rfl rfl rfl rfl (by rw [Nat.zero_add,Nat.mul_one]; exact hh.wr.at0 dp 1 (by omega)) ?_
      intro H3 W3
      have hs3 := W3.size
      rw [Nat.zero_add,Nat.mul_one] at W3
      replace hh := hh.setU W3 hd8
      replace hn := NodeM.fr EJ hn W3.fr (fun b o hb => nr (.inl (fun e => hoff o (e ▸ hb))))
      have hG : Fr (fun b _ => b = hb) H H3 := hF.trans' W3.fr (fun _ _ _ h => h.elim) (fun b o _ h => h.1)
      refine ⟨trivial,?_⟩
      refine Pl.fin [(1,_),(3,_),(4,_),(10,_),(11,_),(157,_)] ⟨rfl,rfl,rfl,rfl,rfl,rfl,trivial⟩ ?_
      refine Go'.seq ?_
      refine Go'.region [(0,0)] rfl ?_
      refine O.asg rfl rfl rfl rfl rfl ?_
      refine Pl.fin [(1,_),(3,_),(4,_),(10,_),(11,_),(15,_),(157,_)] ⟨rfl,rfl,rfl,rfl,rfl,rfl,rfl,trivial⟩ ?_
      refine Go'.seq ?_
      refine Go'.seq ?_
      obtain ⟨pn,hpn,hpc⟩ := hh.ps dp hd8
      have hq : ∀ q : Nat,q < 256 → q < 256 := fun _ h => h
      rcases kp with _ | kq
      · skip
        cases hfd : Pl.fnd OI x X
        · skip
          refine Go'.region [(0,0),(1,2),(2,0),(3,0),(4,0)] rfl ?_
          refine O.mv rfl rfl rfl rfl rfl ?_
          refine O.callQ rfl rfl rfl call133 rfl (leaf_spec hn.c3) trivial ?_
          refine O.mv rfl rfl rfl rfl rfl ?_
          refine O.mv rfl rfl rfl rfl rfl ?_
          refine O.pick rfl rfl rfl rfl rfl rfl ?_
          refine Pl.fin [(1,_),(3,_),(4,_),(10,_),(11,_),(15,_),(157,_),(167,_)] ⟨rfl,rfl,rfl,rfl,rfl,rfl,rfl,rfl,trivial⟩ ?_
          refine Go'.condF rfl ?_
          refine Go'.region [(0,0),(1,2),(2,0)] rfl ?_
          refine O.mv rfl rfl rfl rfl rfl ?_
          refine O.cvk .u8 (v := ((Pl.pos OI x X : Nat) : Int)) rfl rfl rfl (by rw [underlying3]; rfl) underlying5 rfl rfl (wrap_id8 (by omega)) trivial ?_
          refine O.asg rfl rfl rfl rfl rfl ?_
          refine Pl.fin [(1,_),(3,_),(4,_),(10,_),(11,_),(15,_),(157,_),(167,_)] ⟨rfl,rfl,rfl,rfl,rfl,rfl,rfl,rfl,trivial⟩ ?_
          refine Go'.seq ?_
          have hpc2 : cl H3 hb (8 + dp * 1) = some (.int .u8 (pn : Int)) := by rw [Nat.mul_one]; exact hpc
          by_cases hqp : Pl.pos OI x X = pn
          · skip
            refine Go'.region [(0,0),(1,0),(2,0),(3,0),(4,0),(5,0),(6,1),(7,0)] rfl ?_
            refine O.mv rfl rfl rfl rfl rfl ?_
            refine O.mv rfl rfl rfl rfl rfl ?_
            refine O.mv rfl rfl rfl rfl rfl ?_
            refine O.nc rfl rfl rfl rfl rfl ?_
            refine O.fa0 (off := 8) rfl rfl rfl rfl ⟨_,_,_,underlying153,rfl,rfl,sizeOf151⟩ rfl ?_
            refine O.ixr (j := dp) rfl rfl rfl rfl underlying151 sizeOf5 rfl rfl (by omega) hd8 ?_
            refine O.ld rfl rfl rfl (fun w => ⟨isAgg5 w,sizeOf5 w⟩) rfl hpc2 ?_
            refine O.cmp rfl rfl rfl rfl rfl rfl (neqF (by omega)) ?_
            refine Pl.fin [(1,_),(3,_),(4,_),(10,_),(11,_),(15,_),(157,_),(167,_),(180,_)] ⟨rfl,rfl,rfl,rfl,rfl,rfl,rfl,rfl,rfl,trivial⟩ ?_
            refine Go'.condF rfl ?_
            refine Go'.skip ?_
            refine Go'.seq ?_
            refine Go'.region [(0,0),(1,0),(2,0),(3,0)] rfl ?_
            refine O.mv rfl rfl rfl rfl rfl ?_
            refine O.mv rfl rfl rfl rfl rfl ?_
            refine O.asg rfl rfl rfl rfl rfl ?_
            refine O.asg rfl rfl rfl rfl rfl ?_
            refine Pl.fin [(1,_),(3,_),(4,_),(10,_),(11,_),(15,_),(157,_),(167,_),(180,_)] ⟨rfl,rfl,rfl,rfl,rfl,rfl,rfl,rfl,rfl,trivial⟩ ?_
            refine Go'.ret (vs := [_,_]) func180 results180 ⟨rfl,rfl,trivial⟩ ?_
            exact ⟨rfl,hG,hh⟩
          · skip
            refine Go'.region [(0,0),(1,0),(2,0),(3,0),(4,0),(5,0),(6,1),(7,0)] rfl ?_
            refine O.mv rfl rfl rfl rfl rfl ?_
            refine O.mv rfl rfl rfl rfl rfl ?_
            refine O.mv rfl rfl rfl rfl rfl ?_
            refine O.nc rfl rfl rfl rfl rfl ?_
            refine O.fa0 (off := 8) rfl rfl rfl rfl ⟨_,_,_,underlying153,rfl,rfl,sizeOf151⟩ rfl ?_
            refine O.ixr (j := dp) rfl rfl rfl rfl underlying151 sizeOf5 rfl rfl (by omega) hd8 ?_
            refine O.ld rfl rfl rfl (fun w => ⟨isAgg5 w,sizeOf5 w⟩) rfl hpc2 ?_
            refine O.cmp rfl rfl rfl rfl rfl rfl (neqT (by omega)) ?_
            refine Pl.fin [(1,_),(3,_),(4,_),(10,_),(11,_),(15,_),(157,_),(167,_),(180,_)] ⟨rfl,rfl,rfl,rfl,rfl,rfl,rfl,rfl,rfl,trivial⟩ ?_
            refine Go'.condT rfl ?_
            refine Go'.seq ?_
            refine Go'.region [(0,0),(1,0),(2,0),(3,0),(4,0),(5,0),(6,2)] rfl ?_
            refine O.mv rfl rfl rfl rfl rfl ?_
            refine O.mv rfl rfl rfl rfl rfl ?_
            refine O.mv rfl rfl rfl rfl rfl ?_
            refine O.nc rfl rfl rfl rfl rfl ?_
            refine O.fa0 (off := 8) rfl rfl rfl rfl ⟨_,_,_,underlying153,rfl,rfl,sizeOf151⟩ rfl ?_
            refine O.ixr (j := dp) rfl rfl rfl rfl underlying151 sizeOf5 rfl rfl (by omega) hd8 ?_
            refine O.st rfl rfl sizeOf5 rfl rfl rfl rfl rfl (by rw [Nat.mul_one]; exact hh.wr.at0 (8 + dp) 1 (by omega)) ?_
            intro H4 W4
            have hs4 := W4.size
            rw [Nat.mul_one] at W4
            replace hh := hh.setP (n := Pl.pos OI x X) W4 hd8 (by omega)
            replace hG : Fr (fun b _ => b = hb) H H4 := hG.trans' W4.fr (fun _ _ _ h => h) (fun b o _ h => h.1)
            refine ⟨trivial,?_⟩
            refine Pl.fin [(1,_),(3,_),(4,_),(10,_),(11,_),(15,_),(157,_),(167,_),(180,_)] ⟨rfl,rfl,rfl,rfl,rfl,rfl,rfl,rfl,rfl,trivial⟩ ?_
            refine Go'.seq ?_
            refine Go'.region [(0,0),(1,0),(2,0)] rfl ?_
            refine O.mv rfl rfl rfl rfl rfl ?_
            refine O.add (((dp + 1 : Nat) : Int)) rfl rfl rfl rfl rfl rfl (by omega) (by omega) ?_
            refine O.asg rfl rfl rfl rfl rfl ?_
            refine Pl.fin [(1,_),(3,_),(4,_),(10,_),(11,_),(15,_),(16,_),(157,_),(167,_),(180,_)] ⟨rfl,rfl,rfl,rfl,rfl,rfl,rfl,rfl,rfl,rfl,trivial⟩ ?_
            refine Go'.block ?_
            refine Go'.loop ?_
            refine Go'.keep [(3,_),(10,_),(11,_),(16,_)] ⟨rfl,rfl,rfl,rfl,trivial⟩ ?_
            refine Go'.ind (σ := Nat) (fun j => 8 - j) (fun j H' => j ≤ 8 ∧ Fr (fun b _ => b = hb) H H' ∧ HintM H' hb)
              (fun j => [(3,.pointer (some ⟨hb,0,none⟩)),(10,.int .i64 ((Pl.pos OI x X : Nat) : Int)),(11,.bool (false)),(16,.int .i64 (j : Int))]) (dp + 1) ⟨hd8,hG,hh⟩ rfl ?_
            rintro j H5 ⟨hj8,hG5,hh5⟩ ih
            refine Go'.seq ?_
            refine Go'.seq ?_
            by_cases hj : j < 8
            · skip
              refine Go'.region [(0,0),(1,0)] rfl ?_
              refine O.mv rfl rfl rfl rfl rfl ?_
              refine O.cmp rfl rfl rfl rfl rfl rfl (lssT (by omega)) ?_
              refine Pl.fin [(3,_),(10,_),(11,_),(16,_),(190,_)] ⟨rfl,rfl,rfl,rfl,rfl,trivial⟩ ?_
              refine Go'.condT rfl ?_
              refine Go'.skip ?_
              refine Go'.seq ?_
              refine Go'.block ?_
              refine Go'.region [(0,0),(1,0),(2,0),(3,0),(4,0),(5,2)] rfl ?_
              refine O.mv rfl rfl rfl rfl rfl ?_
              refine O.mv rfl rfl rfl rfl rfl ?_
              refine O.nc rfl rfl rfl rfl rfl ?_
              refine O.faz rfl rfl rfl rfl ⟨_,_,_,underlying153,rfl,rfl,sizeOf150⟩ rfl ?_
              refine O.ixr (j := j) rfl rfl rfl rfl underlying150 sizeOf4 rfl rfl (by omega) hj ?_
              refine O.st rfl rfl sizeOf4 rfl rfl rfl rfl rfl (by rw [Nat.zero_add,Nat.mul_one]; exact hh5.wr.at0 j 1 (by omega)) ?_
              intro H6 W6
              rw [Nat.zero_add,Nat.mul_one] at W6
              replace hh5 := hh5.setU W6 hj
              replace hG5 : Fr (fun b _ => b = hb) H H6 := hG5.trans' W6.fr (fun _ _ _ h => h) (fun b o _ h => h.1)
              refine ⟨trivial,?_⟩
              refine Pl.fin [(3,_),(10,_),(11,_),(16,_),(190,_)] ⟨rfl,rfl,rfl,rfl,rfl,trivial⟩ ?_
              refine Go'.inBlock ?_
              refine Go'.region [(0,0),(1,0),(2,0)] rfl ?_
              refine O.mv rfl rfl rfl rfl rfl ?_
              refine O.add (((j + 1 : Nat) : Int)) rfl rfl rfl rfl rfl rfl (by omega) (by omega) ?_
              refine O.asg rfl rfl rfl rfl rfl ?_
              refine Pl.fin [(3,_),(10,_),(11,_),(16,_),(190,_)] ⟨rfl,rfl,rfl,rfl,rfl,trivial⟩ ?_
              refine Go'.keep [(3,_),(10,_),(11,_),(16,_)] ⟨rfl,rfl,rfl,rfl,trivial⟩ ?_
              refine Go'.inLoop ?_
              exact ih (j + 1) H6 ⟨hj,hG5,hh5⟩ (by omega)
            · skip
              refine Go'.region [(0,0),(1,0)] rfl ?_
              refine O.mv rfl rfl rfl rfl rfl ?_
              refine O.cmp rfl rfl rfl rfl rfl rfl (lssF (by omega)) ?_
              refine Pl.fin [(3,_),(10,_),(11,_),(16,_),(190,_)] ⟨rfl,rfl,rfl,rfl,rfl,trivial⟩ ?_
              refine Go'.condF rfl ?_
              refine Go'.exit rfl ?_
              refine Go'.seq ?_
              refine Go'.region [(0,0),(1,0),(2,0),(3,0)] rfl ?_
              refine O.mv rfl rfl rfl rfl rfl ?_
              refine O.mv rfl rfl rfl rfl rfl ?_
              refine O.asg rfl rfl rfl rfl rfl ?_
              refine O.asg rfl rfl rfl rfl rfl ?_
              refine Pl.fin [(3,_),(10,_),(11,_),(16,_),(190,_)] ⟨rfl,rfl,rfl,rfl,rfl,trivial⟩ ?_
              refine Go'.ret (vs := [_,_]) func180 results180 ⟨rfl,rfl,trivial⟩ ?_
              exact ⟨rfl,hG5,hh5⟩
        · skip
          have hplt := Pl.fnd_pos_lt OI hfd
          refine Go'.region [(0,0),(1,2),(2,0),(3,0),(4,0)] rfl ?_
          refine O.mv rfl rfl rfl rfl rfl ?_
          refine O.callQ rfl rfl rfl call133 rfl (leaf_spec hn.c3) trivial ?_
          refine O.mv rfl rfl rfl rfl rfl ?_
          refine O.mv rfl rfl rfl rfl rfl ?_
          refine O.pick rfl rfl rfl rfl rfl rfl ?_
          refine Pl.fin [(1,_),(3,_),(4,_),(10,_),(11,_),(15,_),(157,_),(167,_)] ⟨rfl,rfl,rfl,rfl,rfl,rfl,rfl,rfl,trivial⟩ ?_
          refine Go'.condT rfl ?_
          refine Go'.region [(0,0),(1,0),(2,2),(3,0)] rfl ?_
          refine O.mv rfl rfl rfl rfl rfl ?_
          refine O.add ((((Pl.pos OI x X) + 1 : Nat) : Int)) rfl rfl rfl rfl rfl rfl (by omega) (by omega) ?_
          refine O.cvk .u8 (v := ((Pl.pos OI x X + 1 : Nat) : Int)) rfl rfl rfl (by rw [underlying3]; rfl) underlying5 rfl rfl (wrap_id8 (by omega)) trivial ?_
          refine O.asg rfl rfl rfl rfl rfl ?_
          refine Pl.fin [(1,_),(3,_),(4,_),(10,_),(11,_),(15,_),(157,_),(167,_)] ⟨rfl,rfl,rfl,rfl,rfl,rfl,rfl,rfl,trivial⟩ ?_
          refine Go'.seq ?_
          have hpc2 : cl H3 hb (8 + dp * 1) = some (.int .u8 (pn : Int)) := by rw [Nat.mul_one]; exact hpc
          by_cases hqp : Pl.pos OI x X + 1 = pn
          · skip
            refine Go'.region [(0,0),(1,0),(2,0),(3,0),(4,0),(5,0),(6,1),(7,0)] rfl ?_
            refine O.mv rfl rfl rfl rfl rfl ?_
            refine O.mv rfl rfl rfl rfl rfl ?_
            refine O.mv rfl rfl rfl rfl rfl ?_
            refine O.nc rfl rfl rfl rfl rfl ?_
            refine O.fa0 (off := 8) rfl rfl rfl rfl ⟨_,_,_,underlying153,rfl,rfl,sizeOf151⟩ rfl ?_
            refine O.ixr (j := dp) rfl rfl rfl rfl underlying151 sizeOf5 rfl rfl (by omega) hd8 ?_
            refine O.ld rfl rfl rfl (fun w => ⟨isAgg5 w,sizeOf5 w⟩) rfl hpc2 ?_
            refine O.cmp rfl rfl rfl rfl rfl rfl (neqF (by omega)) ?_
            refine Pl.fin [(1,_),(3,_),(4,_),(10,_),(11,_),(15,_),(157,_),(167,_),(180,_)] ⟨rfl,rfl,rfl,rfl,rfl,rfl,rfl,rfl,rfl,trivial⟩ ?_
            refine Go'.condF rfl ?_
            refine Go'.skip ?_
            refine Go'.seq ?_
            refine Go'.region [(0,0),(1,0),(2,0),(3,0)] rfl ?_
            refine O.mv rfl rfl rfl rfl rfl ?_
            refine O.mv rfl rfl rfl rfl rfl ?_
            refine O.asg rfl rfl rfl rfl rfl ?_
            refine O.asg rfl rfl rfl rfl rfl ?_
            refine Pl.fin [(1,_),(3,_),(4,_),(10,_),(11,_),(15,_),(157,_),(167,_),(180,_)] ⟨rfl,rfl,rfl,rfl,rfl,rfl,rfl,rfl,rfl,trivial⟩ ?_
            refine Go'.ret (vs := [_,_]) func180 results180 ⟨rfl,rfl,trivial⟩ ?_
            exact ⟨rfl,hG,hh⟩
          · skip
            refine Go'.region [(0,0),(1,0),(2,0),(3,0),(4,0),(5,0),(6,1),(7,0)] rfl ?_
            refine O.mv rfl rfl rfl rfl rfl ?_
            refine O.mv rfl rfl rfl rfl rfl ?_
            refine O.mv rfl rfl rfl rfl rfl ?_
            refine O.nc rfl rfl rfl rfl rfl ?_
            refine O.fa0 (off := 8) rfl rfl rfl rfl ⟨_,_,_,underlying153,rfl,rfl,sizeOf151⟩ rfl ?_
            refine O.ixr (j := dp) rfl rfl rfl rfl underlying151 sizeOf5 rfl rfl (by omega) hd8 ?_
            refine O.ld rfl rfl rfl (fun w => ⟨isAgg5 w,sizeOf5 w⟩) rfl hpc2 ?_
            refine O.cmp rfl rfl rfl rfl rfl rfl (neqT (by omega)) ?_
            refine Pl.fin [(1,_),(3,_),(4,_),(10,_),(11,_),(15,_),(157,_),(167,_),(180,_)] ⟨rfl,rfl,rfl,rfl,rfl,rfl,rfl,rfl,rfl,trivial⟩ ?_
            refine Go'.condT rfl ?_
            refine Go'.seq ?_
            refine Go'.region [(0,0),(1,0),(2,0),(3,0),(4,0),(5,0),(6,2)] rfl ?_
            refine O.mv rfl rfl rfl rfl rfl ?_
            refine O.mv rfl rfl rfl rfl rfl ?_
            refine O.mv rfl rfl rfl rfl rfl ?_
            refine O.nc rfl rfl rfl rfl rfl ?_
            refine O.fa0 (off := 8) rfl rfl rfl rfl ⟨_,_,_,underlying153,rfl,rfl,sizeOf151⟩ rfl ?_
            refine O.ixr (j := dp) rfl rfl rfl rfl underlying151 sizeOf5 rfl rfl (by omega) hd8 ?_
            refine O.st rfl rfl sizeOf5 rfl rfl rfl rfl rfl (by rw [Nat.mul_one]; exact hh.wr.at0 (8 + dp) 1 (by omega)) ?_
            intro H4 W4
            have hs4 := W4.size
            rw [Nat.mul_one] at W4
            replace hh := hh.setP (n := Pl.pos OI x X + 1) W4 hd8 (by omega)
            replace hG : Fr (fun b _ => b = hb) H H4 := hG.trans' W4.fr (fun _ _ _ h => h) (fun b o _ h => h.1)
            refine ⟨trivial,?_⟩
            refine Pl.fin [(1,_),(3,_),(4,_),(10,_),(11,_),(15,_),(157,_),(167,_),(180,_)] ⟨rfl,rfl,rfl,rfl,rfl,rfl,rfl,rfl,rfl,trivial⟩ ?_
            refine Go'.seq ?_
            refine Go'.region [(0,0),(1,0),(2,0)] rfl ?_
            refine O.mv rfl rfl rfl rfl rfl ?_
            refine O.add (((dp + 1 : Nat) : Int)) rfl rfl rfl rfl rfl rfl (by omega) (by omega) ?_
            refine O.asg rfl rfl rfl rfl rfl ?_
            refine Pl.fin [(1,_),(3,_),(4,_),(10,_),(11,_),(15,_),(16,_),(157,_),(167,_),(180,_)] ⟨rfl,rfl,rfl,rfl,rfl,rfl,rfl,rfl,rfl,rfl,trivial⟩ ?_
            refine Go'.block ?_
            refine Go'.loop ?_
            refine Go'.keep [(3,_),(10,_),(11,_),(16,_)] ⟨rfl,rfl,rfl,rfl,trivial⟩ ?_
            refine Go'.ind (σ := Nat) (fun j => 8 - j) (fun j H' => j ≤ 8 ∧ Fr (fun b _ => b = hb) H H' ∧ HintM H' hb)
              (fun j => [(3,.pointer (some ⟨hb,0,none⟩)),(10,.int .i64 ((Pl.pos OI x X : Nat) : Int)),(11,.bool (true)),(16,.int .i64 (j : Int))]) (dp + 1) ⟨hd8,hG,hh⟩ rfl ?_
            rintro j H5 ⟨hj8,hG5,hh5⟩ ih
            refine Go'.seq ?_
            refine Go'.seq ?_
            by_cases hj : j < 8
            · skip
              refine Go'.region [(0,0),(1,0)] rfl ?_
              refine O.mv rfl rfl rfl rfl rfl ?_
              refine O.cmp rfl rfl rfl rfl rfl rfl (lssT (by omega)) ?_
              refine Pl.fin [(3,_),(10,_),(11,_),(16,_),(190,_)] ⟨rfl,rfl,rfl,rfl,rfl,trivial⟩ ?_
              refine Go'.condT rfl ?_
              refine Go'.skip ?_
              refine Go'.seq ?_
              refine Go'.block ?_
              refine Go'.region [(0,0),(1,0),(2,0),(3,0),(4,0),(5,2)] rfl ?_
              refine O.mv rfl rfl rfl rfl rfl ?_
              refine O.mv rfl rfl rfl rfl rfl ?_
              refine O.nc rfl rfl rfl rfl rfl ?_
              refine O.faz rfl rfl rfl rfl ⟨_,_,_,underlying153,rfl,rfl,sizeOf150⟩ rfl ?_
              refine O.ixr (j := j) rfl rfl rfl rfl underlying150 sizeOf4 rfl rfl (by omega) hj ?_
              refine O.st rfl rfl sizeOf4 rfl rfl rfl rfl rfl (by rw [Nat.zero_add,Nat.mul_one]; exact hh5.wr.at0 j 1 (by omega)) ?_
              intro H6 W6
              rw [Nat.zero_add,Nat.mul_one] at W6
              replace hh5 := hh5.setU W6 hj
              replace hG5 : Fr (fun b _ => b = hb) H H6 := hG5.trans' W6.fr (fun _ _ _ h => h) (fun b o _ h => h.1)
              refine ⟨trivial,?_⟩
              refine Pl.fin [(3,_),(10,_),(11,_),(16,_),(190,_)] ⟨rfl,rfl,rfl,rfl,rfl,trivial⟩ ?_
              refine Go'.inBlock ?_
              refine Go'.region [(0,0),(1,0),(2,0)] rfl ?_
              refine O.mv rfl rfl rfl rfl rfl ?_
              refine O.add (((j + 1 : Nat) : Int)) rfl rfl rfl rfl rfl rfl (by omega) (by omega) ?_
              refine O.asg rfl rfl rfl rfl rfl ?_
              refine Pl.fin [(3,_),(10,_),(11,_),(16,_),(190,_)] ⟨rfl,rfl,rfl,rfl,rfl,trivial⟩ ?_
              refine Go'.keep [(3,_),(10,_),(11,_),(16,_)] ⟨rfl,rfl,rfl,rfl,trivial⟩ ?_
              refine Go'.inLoop ?_
              exact ih (j + 1) H6 ⟨hj,hG5,hh5⟩ (by omega)
            · skip
              refine Go'.region [(0,0),(1,0)] rfl ?_
              refine O.mv rfl rfl rfl rfl rfl ?_
              refine O.cmp rfl rfl rfl rfl rfl rfl (lssF (by omega)) ?_
              refine Pl.fin [(3,_),(10,_),(11,_),(16,_),(190,_)] ⟨rfl,rfl,rfl,rfl,rfl,trivial⟩ ?_
              refine Go'.condF rfl ?_
              refine Go'.exit rfl ?_
              refine Go'.seq ?_
              refine Go'.region [(0,0),(1,0),(2,0),(3,0)] rfl ?_
              refine O.mv rfl rfl rfl rfl rfl ?_
              refine O.mv rfl rfl rfl rfl rfl ?_
              refine O.asg rfl rfl rfl rfl rfl ?_
              refine O.asg rfl rfl rfl rfl rfl ?_
              refine Pl.fin [(3,_),(10,_),(11,_),(16,_),(190,_)] ⟨rfl,rfl,rfl,rfl,rfl,trivial⟩ ?_
              refine Go'.ret (vs := [_,_]) func180 results180 ⟨rfl,rfl,trivial⟩ ?_
              exact ⟨rfl,hG5,hh5⟩
      · skip
        refine Go'.region [(0,0),(1,2),(2,0),(3,0),(4,0)] rfl ?_
        refine O.mv rfl rfl rfl rfl rfl ?_
        refine O.callQ rfl rfl rfl call133 rfl (leaf_spec hn.c3) trivial ?_
        refine O.mv rfl rfl rfl rfl rfl ?_
        refine Pl.pass rfl rfl rfl rfl ?_
        refine O.pick rfl rfl rfl rfl rfl rfl ?_
        refine Pl.fin [(1,_),(3,_),(4,_),(10,_),(11,_),(15,_),(157,_),(167,_)] ⟨rfl,rfl,rfl,rfl,rfl,rfl,rfl,rfl,trivial⟩ ?_
        refine Go'.condF rfl ?_
        refine Go'.region [(0,0),(1,2),(2,0)] rfl ?_
        refine O.mv rfl rfl rfl rfl rfl ?_
        refine O.cvk .u8 (v := ((Pl.pos OI x X : Nat) : Int)) rfl rfl rfl (by rw [underlying3]; rfl) underlying5 rfl rfl (wrap_id8 (by omega)) trivial ?_
        refine O.asg rfl rfl rfl rfl rfl ?_
        refine Pl.fin [(1,_),(3,_),(4,_),(10,_),(11,_),(15,_),(157,_),(167,_)] ⟨rfl,rfl,rfl,rfl,rfl,rfl,rfl,rfl,trivial⟩ ?_
        refine Go'.seq ?_
        have hpc2 : cl H3 hb (8 + dp * 1) = some (.int .u8 (pn : Int)) := by rw [Nat.mul_one]; exact hpc
        by_cases hqp : Pl.pos OI x X = pn
        · skip
          refine Go'.region [(0,0),(1,0),(2,0),(3,0),(4,0),(5,0),(6,1),(7,0)] rfl ?_
          refine O.mv rfl rfl rfl rfl rfl ?_
          refine O.mv rfl rfl rfl rfl rfl ?_
          refine O.mv rfl rfl rfl rfl rfl ?_
          refine O.nc rfl rfl rfl rfl rfl ?_
          refine O.fa0 (off := 8) rfl rfl rfl rfl ⟨_,_,_,underlying153,rfl,rfl,sizeOf151⟩ rfl ?_
          refine O.ixr (j := dp) rfl rfl rfl rfl underlying151 sizeOf5 rfl rfl (by omega) hd8 ?_
          refine O.ld rfl rfl rfl (fun w => ⟨isAgg5 w,sizeOf5 w⟩) rfl hpc2 ?_
          refine O.cmp rfl rfl rfl rfl rfl rfl (neqF (by omega)) ?_
          refine Pl.fin [(1,_),(3,_),(4,_),(10,_),(11,_),(15,_),(157,_),(167,_),(180,_)] ⟨rfl,rfl,rfl,rfl,rfl,rfl,rfl,rfl,rfl,trivial⟩ ?_
          refine Go'.condF rfl ?_
          refine Go'.skip ?_
          refine Go'.seq ?_
          refine Go'.region [(0,0),(1,0),(2,0),(3,0)] rfl ?_
          refine O.mv rfl rfl rfl rfl rfl ?_
          refine O.mv rfl rfl rfl rfl rfl ?_
          refine O.asg rfl rfl rfl rfl rfl ?_
          refine O.asg rfl rfl rfl rfl rfl ?_
          refine Pl.fin [(1,_),(3,_),(4,_),(10,_),(11,_),(15,_),(157,_),(167,_),(180,_)] ⟨rfl,rfl,rfl,rfl,rfl,rfl,rfl,rfl,rfl,trivial⟩ ?_
          refine Go'.ret (vs := [_,_]) func180 results180 ⟨rfl,rfl,trivial⟩ ?_
          exact ⟨rfl,hG,hh⟩
        · skip
          refine Go'.region [(0,0),(1,0),(2,0),(3,0),(4,0),(5,0),(6,1),(7,0)] rfl ?_
          refine O.mv rfl rfl rfl rfl rfl ?_
          refine O.mv rfl rfl rfl rfl rfl ?_
          refine O.mv rfl rfl rfl rfl rfl ?_
          refine O.nc rfl rfl rfl rfl rfl ?_
          refine O.fa0 (off := 8) rfl rfl rfl rfl ⟨_,_,_,underlying153,rfl,rfl,sizeOf151⟩ rfl ?_
          refine O.ixr (j := dp) rfl rfl rfl rfl underlying151 sizeOf5 rfl rfl (by omega) hd8 ?_
          refine O.ld rfl rfl rfl (fun w => ⟨isAgg5 w,sizeOf5 w⟩) rfl hpc2 ?_
          refine O.cmp rfl rfl rfl rfl rfl rfl (neqT (by omega)) ?_
          refine Pl.fin [(1,_),(3,_),(4,_),(10,_),(11,_),(15,_),(157,_),(167,_),(180,_)] ⟨rfl,rfl,rfl,rfl,rfl,rfl,rfl,rfl,rfl,trivial⟩ ?_
          refine Go'.condT rfl ?_
          refine Go'.seq ?_
          refine Go'.region [(0,0),(1,0),(2,0),(3,0),(4,0),(5,0),(6,2)] rfl ?_
          refine O.mv rfl rfl rfl rfl rfl ?_
          refine O.mv rfl rfl rfl rfl rfl ?_
          refine O.mv rfl rfl rfl rfl rfl ?_
          refine O.nc rfl rfl rfl rfl rfl ?_
          refine O.fa0 (off := 8) rfl rfl rfl rfl ⟨_,_,_,underlying153,rfl,rfl,sizeOf151⟩ rfl ?_
          refine O.ixr (j := dp) rfl rfl rfl rfl underlying151 sizeOf5 rfl rfl (by omega) hd8 ?_
          refine O.st rfl rfl sizeOf5 rfl rfl rfl rfl rfl (by rw [Nat.mul_one]; exact hh.wr.at0 (8 + dp) 1 (by omega)) ?_
          intro H4 W4
          have hs4 := W4.size
          rw [Nat.mul_one] at W4
          replace hh := hh.setP (n := Pl.pos OI x X) W4 hd8 (by omega)
          replace hG : Fr (fun b _ => b = hb) H H4 := hG.trans' W4.fr (fun _ _ _ h => h) (fun b o _ h => h.1)
          refine ⟨trivial,?_⟩
          refine Pl.fin [(1,_),(3,_),(4,_),(10,_),(11,_),(15,_),(157,_),(167,_),(180,_)] ⟨rfl,rfl,rfl,rfl,rfl,rfl,rfl,rfl,rfl,trivial⟩ ?_
          refine Go'.seq ?_
          refine Go'.region [(0,0),(1,0),(2,0)] rfl ?_
          refine O.mv rfl rfl rfl rfl rfl ?_
          refine O.add (((dp + 1 : Nat) : Int)) rfl rfl rfl rfl rfl rfl (by omega) (by omega) ?_
          refine O.asg rfl rfl rfl rfl rfl ?_
          refine Pl.fin [(1,_),(3,_),(4,_),(10,_),(11,_),(15,_),(16,_),(157,_),(167,_),(180,_)] ⟨rfl,rfl,rfl,rfl,rfl,rfl,rfl,rfl,rfl,rfl,trivial⟩ ?_
          refine Go'.block ?_
          refine Go'.loop ?_
          refine Go'.keep [(3,_),(10,_),(11,_),(16,_)] ⟨rfl,rfl,rfl,rfl,trivial⟩ ?_
          refine Go'.ind (σ := Nat) (fun j => 8 - j) (fun j H' => j ≤ 8 ∧ Fr (fun b _ => b = hb) H H' ∧ HintM H' hb)
            (fun j => [(3,.pointer (some ⟨hb,0,none⟩)),(10,.int .i64 ((Pl.pos OI x X : Nat) : Int)),(11,.bool (Pl.fnd OI x X)),(16,.int .i64 (j : Int))]) (dp + 1) ⟨hd8,hG,hh⟩ rfl ?_
          rintro j H5 ⟨hj8,hG5,hh5⟩ ih
          refine Go'.seq ?_
          refine Go'.seq ?_
          by_cases hj : j < 8
          · skip
            refine Go'.region [(0,0),(1,0)] rfl ?_
            refine O.mv rfl rfl rfl rfl rfl ?_
            refine O.cmp rfl rfl rfl rfl rfl rfl (lssT (by omega)) ?_
            refine Pl.fin [(3,_),(10,_),(11,_),(16,_),(190,_)] ⟨rfl,rfl,rfl,rfl,rfl,trivial⟩ ?_
            refine Go'.condT rfl ?_
            refine Go'.skip ?_
            refine Go'.seq ?_
            refine Go'.block ?_
            refine Go'.region [(0,0),(1,0),(2,0),(3,0),(4,0),(5,2)] rfl ?_
            refine O.mv rfl rfl rfl rfl rfl ?_
            refine O.mv rfl rfl rfl rfl rfl ?_
            refine O.nc rfl rfl rfl rfl rfl ?_
            refine O.faz rfl rfl rfl rfl ⟨_,_,_,underlying153,rfl,rfl,sizeOf150⟩ rfl ?_
            refine O.ixr (j := j) rfl rfl rfl rfl underlying150 sizeOf4 rfl rfl (by omega) hj ?_
            refine O.st rfl rfl sizeOf4 rfl rfl rfl rfl rfl (by rw [Nat.zero_add,Nat.mul_one]; exact hh5.wr.at0 j 1 (by omega)) ?_
            intro H6 W6
            rw [Nat.zero_add,Nat.mul_one] at W6
            replace hh5 := hh5.setU W6 hj
            replace hG5 : Fr (fun b _ => b = hb) H H6 := hG5.trans' W6.fr (fun _ _ _ h => h) (fun b o _ h => h.1)
            refine ⟨trivial,?_⟩
            refine Pl.fin [(3,_),(10,_),(11,_),(16,_),(190,_)] ⟨rfl,rfl,rfl,rfl,rfl,trivial⟩ ?_
            refine Go'.inBlock ?_
            refine Go'.region [(0,0),(1,0),(2,0)] rfl ?_
            refine O.mv rfl rfl rfl rfl rfl ?_
            refine O.add (((j + 1 : Nat) : Int)) rfl rfl rfl rfl rfl rfl (by omega) (by omega) ?_
            refine O.asg rfl rfl rfl rfl rfl ?_
            refine Pl.fin [(3,_),(10,_),(11,_),(16,_),(190,_)] ⟨rfl,rfl,rfl,rfl,rfl,trivial⟩ ?_
            refine Go'.keep [(3,_),(10,_),(11,_),(16,_)] ⟨rfl,rfl,rfl,rfl,trivial⟩ ?_
            refine Go'.inLoop ?_
            exact ih (j + 1) H6 ⟨hj,hG5,hh5⟩ (by omega)
          · skip
            refine Go'.region [(0,0),(1,0)] rfl ?_
            refine O.mv rfl rfl rfl rfl rfl ?_
            refine O.cmp rfl rfl rfl rfl rfl rfl (lssF (by omega)) ?_
            refine Pl.fin [(3,_),(10,_),(11,_),(16,_),(190,_)] ⟨rfl,rfl,rfl,rfl,rfl,trivial⟩ ?_
            refine Go'.condF rfl ?_
            refine Go'.exit rfl ?_
            refine Go'.seq ?_
            refine Go'.region [(0,0),(1,0),(2,0),(3,0)] rfl ?_
            refine O.mv rfl rfl rfl rfl rfl ?_
            refine O.mv rfl rfl rfl rfl rfl ?_
            refine O.asg rfl rfl rfl rfl rfl ?_
            refine O.asg rfl rfl rfl rfl rfl ?_
            refine Pl.fin [(3,_),(10,_),(11,_),(16,_),(190,_)] ⟨rfl,rfl,rfl,rfl,rfl,trivial⟩ ?_
            refine Go'.ret (vs := [_,_]) func180 results180 ⟨rfl,rfl,trivial⟩ ?_
            exact ⟨rfl,hG5,hh5⟩
  · -- the search
    intro tail
    refine Go'.seq ?_
    refine Go'.region [(0,0)] rfl ?_
    refine O.asg rfl rfl rfl rfl rfl ?_
    refine Pl.fin [(0,_),(1,_),(2,_),(3,_),(4,_),(7,_),(10,_),(11,_),(12,_)] ⟨rfl,rfl,rfl,rfl,rfl,rfl,rfl,rfl,rfl,trivial⟩ ?_
    refine Go'.seq ?_
    refine Go'.region [(0,0),(1,0),(2,0),(3,1),(4,0),(5,0),(6,0)] rfl ?_
    refine O.mv rfl rfl rfl rfl rfl ?_
    refine O.nc rfl rfl rfl rfl rfl ?_
    refine O.fa0 (off := 2) rfl rfl rfl rfl ⟨_,_,_,underlying168,rfl,rfl,sizeOf25⟩ rfl ?_
    refine O.ld rfl rfl rfl (fun w => ⟨isAgg25 w,sizeOf25 w⟩) rfl hn.c2 ?_
    refine O.len rfl rfl rfl rfl underlying25 rfl ?_
    refine O.sub (((X.length : Int) - 1)) rfl rfl rfl rfl rfl rfl (by omega) (by omega) ?_
    refine O.asg rfl rfl rfl rfl rfl ?_
    refine Pl.fin [(0,_),(1,_),(2,_),(3,_),(4,_),(7,_),(10,_),(11,_),(12,_),(13,_)] ⟨rfl,rfl,rfl,rfl,rfl,rfl,rfl,rfl,rfl,rfl,trivial⟩ ?_
    refine Go'.seq ?_
    refine Go'.seq ?_
    have hXi : ∀ {a b : Nat} {y z : Int × Int},X[a]? = some y → X[b]? = some z → a < b → OI.lt y z = true := fun {a b y z} ha hb' hab => by
      have h2 := List.pairwise_iff_getElem.1 hs a b (List.getElem?_eq_some_iff.1 ha).1 (List.getElem?_eq_some_iff.1 hb').1 hab
      rwa [(List.getElem?_eq_some_iff.1 ha).2,(List.getElem?_eq_some_iff.1 hb').2] at h2
    have hge : ∀ {a : Nat} {y : Int × Int},X[a]? = some y → OI.lt x y = true → ∀ j z,X[j]? = some z → a ≤ j → OI.lt x z = true := fun {a y} ha h j z hz haj => by
      rcases Nat.lt_or_ge a j with h' | h'
      · exact OI.trans h (hXi ha hz h')
      · obtain rfl : j = a := by omega
        rw [ha] at hz; cases hz; exact h
    have hle : ∀ {a : Nat} {y : Int × Int},X[a]? = some y → OI.lt x y = false → ∀ j z,X[j]? = some z → j < a + 1 → OI.lt x z = false := fun {a y} ha h j z hz haj => by
      rcases Nat.lt_or_ge j a with h' | h'
      · exact OI.ntr h (OI.asy (hXi hz ha h'))
      · obtain rfl : j = a := by omega
        rw [ha] at hz; cases hz; exact h
    have hat : ∀ i,i < X.length → ∃ y,X[i]? = some y := fun i hi => ⟨X[i],List.getElem?_eq_getElem hi⟩
    have hFs := Fr.refl nowhere H1
    refine Go'.share2 (σ := Nat × Nat) (fun s H' => Fr nowhere H1 H' ∧ s.1 ≤ s.2 ∧ s.2 ≤ X.length ∧ (∀ j y,X[j]? = some y → j < s.1 → OI.lt x y = false) ∧ (∀ j y,X[j]? = some y → s.2 ≤ j → OI.lt x y = true))
      (fun s => [(0,.pointer (some ⟨tr,0,none⟩)),(1,.pointer (some ⟨g.p,0,none⟩)),(3,.pointer (some ⟨hb,0,none⟩)),(4,.int .i64 (dp : Int)),(7,.pointer (some ⟨H.size,0,none⟩)),(12,.int .i64 (s.1 : Int)),(13,.int .i64 ((s.2 : Int) - 1))]) ?_ ?_
    · -- halving
      rintro ⟨lo,hi⟩ H2 ⟨hF2,hlh,hhl,hlo,hhi⟩
      simp only at hlh hhl hlo hhi ⊢
      refine Go'.seq ?_
      refine Go'.block ?_
      refine Go'.loop ?_
      refine Go'.keep [(0,_),(1,_),(3,_),(4,_),(7,_),(12,_),(13,_)] ⟨rfl,rfl,rfl,rfl,rfl,rfl,rfl,trivial⟩ ?_
      refine Go'.ind (σ := Nat × Nat) (fun s => s.2 - s.1) (fun s H' => Fr nowhere H1 H' ∧ s.1 ≤ s.2 ∧ s.2 ≤ X.length ∧ (∀ j y,X[j]? = some y → j < s.1 → OI.lt x y = false) ∧ (∀ j y,X[j]? = some y → s.2 ≤ j → OI.lt x y = true))
        (fun s => [(0,.pointer (some ⟨tr,0,none⟩)),(1,.pointer (some ⟨g.p,0,none⟩)),(3,.pointer (some ⟨hb,0,none⟩)),(4,.int .i64 (dp : Int)),(7,.pointer (some ⟨H.size,0,none⟩)),(12,.int .i64 (s.1 : Int)),(13,.int .i64 ((s.2 : Int) - 1))]) (lo,hi) ⟨hF2,hlh,hhl,hlo,hhi⟩ rfl ?_
      clear hF2 hlh hhl hlo hhi lo hi H2
      rintro ⟨lo,hi⟩ H2 ⟨hF2,hlh,hhl,hlo,hhi⟩ ih
      simp only at hlh hhl hlo hhi
      replace tc := tc.fr hF2 (fun _ _ _ _ => nw)
      replace hn := NodeM.fr EJ hn hF2 (fun _ _ _ => nw)
      replace hh := hh.fr hF2 (fun _ => nw)
      replace mk := hF2.rd mk (fun _ _ => nw)
      refine Go'.seq ?_
      refine Go'.seq ?_
      by_cases hlt : lo < hi
      · -- a round
        obtain ⟨m,hm⟩ : ∃ m,m = lo + (hi - lo) / 2 := ⟨_,rfl⟩
        obtain ⟨y,hy⟩ := hat m (by omega)
        refine Go'.region [(0,0),(1,0),(2,0)] rfl ?_
        refine O.mv rfl rfl rfl rfl rfl ?_
        refine O.mv rfl rfl rfl rfl rfl ?_
        refine O.cmp rfl rfl rfl rfl rfl rfl (leqT (by omega)) ?_
        refine Pl.fin [(0,_),(1,_),(3,_),(4,_),(7,_),(12,_),(13,_),(114,_)] ⟨rfl,rfl,rfl,rfl,rfl,rfl,rfl,rfl,trivial⟩ ?_
        refine Go'.condT rfl ?_
        refine Go'.skip ?_
        refine Go'.block ?_
        refine Go'.seq ?_
        refine Go'.region [(0,0),(1,0),(2,0),(3,0),(4,0),(5,0),(6,0),(7,0)] rfl ?_
        refine O.mv rfl rfl rfl rfl rfl ?_
        refine O.mv rfl rfl rfl rfl rfl ?_
        refine O.add (((hi : Nat) : Int)) rfl rfl rfl rfl rfl rfl (by omega) (by omega) ?_
        refine O.mv rfl rfl rfl rfl rfl ?_
        refine O.sub (((hi - lo : Nat) : Int)) rfl rfl rfl rfl rfl rfl (by omega) (by omega) ?_
        refine O.quo ((((hi - lo) / 2 : Nat) : Int)) rfl rfl rfl rfl rfl rfl (by decide) (by rw [Int.tdiv_eq_ediv_of_nonneg (by omega)]; omega) (by omega) ?_
        refine O.add (((m : Nat) : Int)) rfl rfl rfl rfl rfl rfl (by omega) (by omega) ?_
        refine O.asg rfl rfl rfl rfl rfl ?_
        refine Pl.fin [(0,_),(1,_),(3,_),(4,_),(7,_),(12,_),(13,_),(14,_),(114,_)] ⟨rfl,rfl,rfl,rfl,rfl,rfl,rfl,rfl,rfl,trivial⟩ ?_
        refine Go'.seq ?_
        refine Go'.draw (fun _ => True) [(0,0),(1,1),(2,0),(3,0),(4,0),(5,1),(6,0),(7,0),(8,1),(9,2),(10,0)] (by kernel_rfl) (by kernel_rfl) (trivial) ?_
        refine O.mv rfl rfl rfl rfl rfl ?_
        refine O.lds rfl rfl rfl (fun w => ⟨isAgg27 w,sizeOf27 w⟩) rfl rfl mk ?_
        refine O.mv rfl rfl rfl rfl rfl ?_
        refine O.nc rfl rfl rfl rfl rfl ?_
        refine O.fa0 (off := 2) rfl rfl rfl rfl ⟨_,_,_,underlying168,rfl,rfl,sizeOf25⟩ rfl ?_
        refine O.ld rfl rfl rfl (fun w => ⟨isAgg25 w,sizeOf25 w⟩) rfl hn.c2 ?_
        refine O.mv rfl rfl rfl rfl rfl ?_
        refine O.ix (j := m) rfl rfl rfl rfl underlying25 sizeOf27 rfl rfl (by omega) (by omega) ?_
        refine O.lds rfl rfl rfl (fun w => ⟨isAgg27 w,sizeOf27 w⟩) rfl rfl (hn.sl.item hy) ?_
        refine O.call rfl rfl rfl call77 rfl (Less_spec tc x y) ?_
        rintro _ H3 ⟨rfl,hF3⟩
        replace tc := tc.fr hF3 (fun _ _ _ _ => nw)
        replace hn := NodeM.fr EJ hn hF3 (fun _ _ _ => nw)
        replace hh := hh.fr hF3 (fun _ => nw)
        replace mk := hF3.rd mk (fun _ _ => nw)
        replace hF2 := hF2.trans hF3
        refine ⟨trivial,?_⟩
        refine O.not rfl rfl rfl rfl rfl ?_
        refine Pl.fin [(0,_),(1,_),(3,_),(4,_),(7,_),(12,_),(13,_),(14,_),(114,_),(132,_)] ⟨rfl,rfl,rfl,rfl,rfl,rfl,rfl,rfl,rfl,rfl,trivial⟩ ?_
        cases hky : OI.lt x y
        · skip
          refine Go'.condT rfl ?_
          refine Go'.region [(0,0),(1,0),(2,0)] rfl ?_
          refine O.mv rfl rfl rfl rfl rfl ?_
          refine O.add (((m + 1 : Nat) : Int)) rfl rfl rfl rfl rfl rfl (by omega) (by omega) ?_
          refine O.asg rfl rfl rfl rfl rfl ?_
          refine Pl.fin [(0,_),(1,_),(3,_),(4,_),(7,_),(12,_),(13,_),(14,_),(114,_),(132,_)] ⟨rfl,rfl,rfl,rfl,rfl,rfl,rfl,rfl,rfl,rfl,trivial⟩ ?_
          refine Go'.inBlock ?_
          refine Go'.keep [(0,_),(1,_),(3,_),(4,_),(7,_),(12,_),(13,_)] ⟨rfl,rfl,rfl,rfl,rfl,rfl,rfl,trivial⟩ ?_
          refine Go'.inLoop ?_
          exact ih (m + 1,hi) H3 ⟨hF2,by simp only; omega,hhl,hle hy hky,hhi⟩ (by simp only; omega)
        · skip
          refine Go'.condF rfl ?_
          refine Go'.region [(0,0),(1,0),(2,0)] rfl ?_
          refine O.mv rfl rfl rfl rfl rfl ?_
          refine O.sub (((m : Int) - 1)) rfl rfl rfl rfl rfl rfl (by omega) (by omega) ?_
          refine O.asg rfl rfl rfl rfl rfl ?_
          refine Pl.fin [(0,_),(1,_),(3,_),(4,_),(7,_),(12,_),(13,_),(14,_),(114,_),(132,_)] ⟨rfl,rfl,rfl,rfl,rfl,rfl,rfl,rfl,rfl,rfl,trivial⟩ ?_
          refine Go'.inBlock ?_
          refine Go'.keep [(0,_),(1,_),(3,_),(4,_),(7,_),(12,_),(13,_)] ⟨rfl,rfl,rfl,rfl,rfl,rfl,rfl,trivial⟩ ?_
          refine Go'.inLoop ?_
          exact ih (lo,m) H3 ⟨hF2,by simp only; omega,by simp only; omega,hlo,hge hy hky⟩ (by simp only; omega)
      · -- the end
        obtain rfl : hi = lo := by omega
        refine Go'.region [(0,0),(1,0),(2,0)] rfl ?_
        refine O.mv rfl rfl rfl rfl rfl ?_
        refine O.mv rfl rfl rfl rfl rfl ?_
        refine O.cmp rfl rfl rfl rfl rfl rfl (leqF (by omega)) ?_
        refine Pl.fin [(0,_),(1,_),(3,_),(4,_),(7,_),(12,_),(13,_),(114,_)] ⟨rfl,rfl,rfl,rfl,rfl,rfl,rfl,rfl,trivial⟩ ?_
        refine Go'.condF rfl ?_
        refine Go'.exit rfl ?_
        refine Go'.seq ?_
        refine Go'.seq ?_
        by_cases h0 : 0 < hi
        · obtain ⟨y,hy⟩ := hat (hi - 1) (by omega)
          have hyk := hlo (hi - 1) y hy (by omega)
          refine Go'.draw (fun _ => True) [(0,0),(1,0),(2,0),(3,0),(4,0),(5,0),(6,0),(7,1),(8,0),(9,0),(10,0),(11,1),(12,1),(13,2),(14,0),(15,0)] (by kernel_rfl) (by kernel_rfl) (trivial) ?_
          refine O.mv rfl rfl rfl rfl rfl ?_
          refine O.cmp rfl rfl rfl rfl rfl rfl (gtrT (by omega)) ?_
          refine O.mv rfl rfl rfl rfl rfl ?_
          refine O.mv rfl rfl rfl rfl rfl ?_
          refine O.mv rfl rfl rfl rfl rfl ?_
          refine O.nc rfl rfl rfl rfl rfl ?_
          refine O.fa0 (off := 2) rfl rfl rfl rfl ⟨_,_,_,underlying168,rfl,rfl,sizeOf25⟩ rfl ?_
          refine O.ld rfl rfl rfl (fun w => ⟨isAgg25 w,sizeOf25 w⟩) rfl hn.c2 ?_
          refine O.mv rfl rfl rfl rfl rfl ?_
          refine O.sub (((hi - 1 : Nat) : Int)) rfl rfl rfl rfl rfl rfl (by omega) (by omega) ?_
          refine O.ix (j := hi - 1) rfl rfl rfl rfl underlying25 sizeOf27 rfl rfl (by omega) (by omega) ?_
          refine O.lds rfl rfl rfl (fun w => ⟨isAgg27 w,sizeOf27 w⟩) rfl rfl (hn.sl.item hy) ?_
          refine O.lds rfl rfl rfl (fun w => ⟨isAgg27 w,sizeOf27 w⟩) rfl rfl mk ?_
          refine O.call rfl rfl rfl call77 rfl (Less_spec tc y x) ?_
          rintro _ H3 ⟨rfl,hF3⟩
          replace tc := tc.fr hF3 (fun _ _ _ _ => nw)
          replace hn := NodeM.fr EJ hn hF3 (fun _ _ _ => nw)
          replace hh := hh.fr hF3 (fun _ => nw)
          replace mk := hF3.rd mk (fun _ _ => nw)
          replace hF2 := hF2.trans hF3
          refine ⟨trivial,?_⟩
          refine O.not rfl rfl rfl rfl rfl ?_
          refine O.pick rfl rfl rfl rfl rfl rfl ?_
          refine Pl.fin [(0,_),(1,_),(3,_),(4,_),(7,_),(12,_),(13,_),(114,_),(152,_)] ⟨rfl,rfl,rfl,rfl,rfl,rfl,rfl,rfl,rfl,trivial⟩ ?_
          cases hky : OI.lt y x
          · skip
            refine Go'.condT rfl ?_
            refine Go'.seq ?_
            refine Go'.region [(0,0),(1,0),(2,0)] rfl ?_
            refine O.mv rfl rfl rfl rfl rfl ?_
            refine O.sub (((hi - 1 : Nat) : Int)) rfl rfl rfl rfl rfl rfl (by omega) (by omega) ?_
            refine O.asg rfl rfl rfl rfl rfl ?_
            refine Pl.fin [(0,_),(1,_),(3,_),(4,_),(7,_),(10,_),(12,_),(13,_),(114,_),(152,_)] ⟨rfl,rfl,rfl,rfl,rfl,rfl,rfl,rfl,rfl,rfl,trivial⟩ ?_
            refine Go'.region [(0,0)] rfl ?_
            refine O.asg rfl rfl rfl rfl rfl ?_
            refine Pl.fin [(0,_),(1,_),(3,_),(4,_),(7,_),(10,_),(11,_),(12,_),(13,_),(114,_),(152,_)] ⟨rfl,rfl,rfl,rfl,rfl,rfl,rfl,rfl,rfl,rfl,rfl,trivial⟩ ?_
            refine Go'.seq ?_
            refine Go'.label ?_
            refine Go'.keep [(1,_),(3,_),(4,_),(10,_),(11,_)] ⟨rfl,rfl,rfl,rfl,rfl,trivial⟩ ?_
            obtain ⟨e1,e2⟩ := Pl.search_found OI (x := x) hs hy hky hyk
            exact tail (hi - 1,true) H3 ⟨by rw [e1,e2],hF2⟩
          · skip
            refine Go'.condF rfl ?_
            refine Go'.seq ?_
            refine Go'.region [(0,0),(1,0)] rfl ?_
            refine O.mv rfl rfl rfl rfl rfl ?_
            refine O.asg rfl rfl rfl rfl rfl ?_
            refine Pl.fin [(0,_),(1,_),(3,_),(4,_),(7,_),(10,_),(12,_),(13,_),(114,_),(152,_)] ⟨rfl,rfl,rfl,rfl,rfl,rfl,rfl,rfl,rfl,rfl,trivial⟩ ?_
            refine Go'.region [(0,0)] rfl ?_
            refine O.asg rfl rfl rfl rfl rfl ?_
            refine Pl.fin [(0,_),(1,_),(3,_),(4,_),(7,_),(10,_),(11,_),(12,_),(13,_),(114,_),(152,_)] ⟨rfl,rfl,rfl,rfl,rfl,rfl,rfl,rfl,rfl,rfl,rfl,trivial⟩ ?_
            refine Go'.seq ?_
            refine Go'.label ?_
            refine Go'.keep [(1,_),(3,_),(4,_),(10,_),(11,_)] ⟨rfl,rfl,rfl,rfl,rfl,trivial⟩ ?_
            obtain ⟨e1,e2⟩ := Pl.search_none OI (x := x) hs hhl (fun z _ hz => by rw [hy] at hz; cases hz; exact hky) (fun z hz => hhi hi z hz (Nat.le_refl _))
            exact tail (hi,false) H3 ⟨by rw [e1,e2],hF2⟩
        · obtain rfl : hi = 0 := by omega
          refine Go'.draw (fun _ => True) [(0,0),(1,0),(2,0),(3,0),(4,0),(5,0),(6,0),(7,1),(8,0),(9,0),(10,0),(11,1),(12,1),(13,2),(14,0),(15,0)] (by kernel_rfl) (by kernel_rfl) (trivial) ?_
          refine O.mv rfl rfl rfl rfl rfl ?_
          refine O.cmp rfl rfl rfl rfl rfl rfl (gtrF (by omega)) ?_
          refine O.mv rfl rfl rfl rfl rfl ?_
          refine Pl.pass rfl rfl rfl rfl ?_
          refine Pl.pass rfl rfl rfl rfl ?_
          refine Pl.pass rfl rfl rfl rfl ?_
          refine Pl.pass rfl rfl rfl rfl ?_
          refine Pl.pass rfl rfl rfl rfl ?_
          refine Pl.pass rfl rfl rfl rfl ?_
          refine Pl.pass rfl rfl rfl rfl ?_
          refine Pl.pass rfl rfl rfl rfl ?_
          refine Pl.pass rfl rfl rfl rfl ?_
          refine Pl.pass rfl rfl rfl rfl ?_
          refine Pl.pass2 rfl rfl rfl rfl trivial ?_
          refine Pl.pass rfl rfl rfl rfl ?_
          refine O.pick rfl rfl rfl rfl rfl rfl ?_
          refine Pl.fin [(0,_),(1,_),(3,_),(4,_),(7,_),(12,_),(13,_),(114,_),(152,_)] ⟨rfl,rfl,rfl,rfl,rfl,rfl,rfl,rfl,rfl,trivial⟩ ?_
          refine Go'.condF rfl ?_
          refine Go'.seq ?_
          refine Go'.region [(0,0),(1,0)] rfl ?_
          refine O.mv rfl rfl rfl rfl rfl ?_
          refine O.asg rfl rfl rfl rfl rfl ?_
          refine Pl.fin [(0,_),(1,_),(3,_),(4,_),(7,_),(10,_),(12,_),(13,_),(114,_),(152,_)] ⟨rfl,rfl,rfl,rfl,rfl,rfl,rfl,rfl,rfl,rfl,trivial⟩ ?_
          refine Go'.region [(0,0)] rfl ?_
          refine O.asg rfl rfl rfl rfl rfl ?_
          refine Pl.fin [(0,_),(1,_),(3,_),(4,_),(7,_),(10,_),(11,_),(12,_),(13,_),(114,_),(152,_)] ⟨rfl,rfl,rfl,rfl,rfl,rfl,rfl,rfl,rfl,rfl,rfl,trivial⟩ ?_
          refine Go'.seq ?_
          refine Go'.label ?_
          refine Go'.keep [(1,_),(3,_),(4,_),(10,_),(11,_)] ⟨rfl,rfl,rfl,rfl,rfl,trivial⟩ ?_
          obtain ⟨e1,e2⟩ := Pl.search_none OI (x := x) hs hhl (fun z h _ => absurd rfl h) (fun z hz => hhi 0 z hz (Nat.le_refl _))
          exact tail (0,false) H2 ⟨by rw [e1,e2],hF2⟩
    · -- the hint
      intro bs
      by_cases hd8 : dp < 8
      rotate_left
      · skip
        refine Go'.region [(0,0),(1,0),(2,0),(3,0),(4,0),(5,0),(6,0),(7,0),(8,1),(9,0)] rfl ?_
        refine O.mv rfl rfl rfl rfl rfl ?_
        refine O.cmp rfl rfl rfl rfl rfl rfl (lssF (by omega)) ?_
        refine O.mv rfl rfl rfl rfl rfl ?_
        refine Pl.pass rfl rfl rfl rfl ?_
        refine Pl.pass rfl rfl rfl rfl ?_
        refine Pl.pass rfl rfl rfl rfl ?_
        refine Pl.pass rfl rfl rfl rfl ?_
        refine Pl.pass rfl rfl rfl rfl ?_
        refine Pl.pass rfl rfl rfl rfl ?_
        refine O.pick rfl rfl rfl rfl rfl rfl ?_
        refine Pl.fin [(0,_),(1,_),(2,_),(3,_),(4,_),(7,_),(10,_),(11,_),(12,_),(13,_),(32,_)] ⟨rfl,rfl,rfl,rfl,rfl,rfl,rfl,rfl,rfl,rfl,rfl,trivial⟩ ?_
        refine Go'.condF rfl ?_
        refine Go'.skip ?_
        refine Go'.keep [(0,_),(1,_),(3,_),(4,_),(7,_),(12,_),(13,_)] ⟨rfl,rfl,rfl,rfl,rfl,rfl,rfl,trivial⟩ ?_
        exact bs (0,X.length) H1 ⟨hFs,Nat.zero_le _,Nat.le_refl _,fun j y _ h => by simp at h,fun j y h1 h2 => by
            have := (List.getElem?_eq_some_iff.1 h1).1; simp only at h2; omega⟩
      · skip
        obtain ⟨ub,hub⟩ := hh.us dp hd8
        obtain ⟨pn,hpn,hpc⟩ := hh.ps dp hd8
        refine Go'.region [(0,0),(1,0),(2,0),(3,0),(4,0),(5,0),(6,0),(7,0),(8,1),(9,0)] rfl ?_
        refine O.mv rfl rfl rfl rfl rfl ?_
        refine O.cmp rfl rfl rfl rfl rfl rfl (lssT (by omega)) ?_
        refine O.mv rfl rfl rfl rfl rfl ?_
        refine O.mv rfl rfl rfl rfl rfl ?_
        refine O.mv rfl rfl rfl rfl rfl ?_
        refine O.nc rfl rfl rfl rfl rfl ?_
        refine O.faz rfl rfl rfl rfl ⟨_,_,_,underlying153,rfl,rfl,sizeOf150⟩ rfl ?_
        refine O.ixr (j := dp) rfl rfl rfl rfl underlying150 sizeOf4 rfl rfl (by omega) hd8 ?_
        refine O.ld rfl rfl rfl (fun w => ⟨isAgg4 w,sizeOf4 w⟩) rfl (show cl _ hb (0 + dp * 1) = _ by rw [Nat.zero_add,Nat.mul_one]; exact hub) ?_
        refine O.pick rfl rfl rfl rfl rfl rfl ?_
        refine Pl.fin [(0,_),(1,_),(2,_),(3,_),(4,_),(7,_),(10,_),(11,_),(12,_),(13,_),(32,_)] ⟨rfl,rfl,rfl,rfl,rfl,rfl,rfl,rfl,rfl,rfl,rfl,trivial⟩ ?_
        cases ub
        · skip
          refine Go'.condF rfl ?_
          refine Go'.skip ?_
          refine Go'.keep [(0,_),(1,_),(3,_),(4,_),(7,_),(12,_),(13,_)] ⟨rfl,rfl,rfl,rfl,rfl,rfl,rfl,trivial⟩ ?_
          exact bs (0,X.length) H1 ⟨hFs,Nat.zero_le _,Nat.le_refl _,fun j y _ h => by simp at h,fun j y h1 h2 => by
              have := (List.getElem?_eq_some_iff.1 h1).1; simp only at h2; omega⟩
        · skip
          refine Go'.condT rfl ?_
          refine Go'.seq ?_
          refine Go'.region [(0,0),(1,0),(2,0),(3,0),(4,0),(5,1),(6,2),(7,0)] rfl ?_
          refine O.mv rfl rfl rfl rfl rfl ?_
          refine O.mv rfl rfl rfl rfl rfl ?_
          refine O.nc rfl rfl rfl rfl rfl ?_
          refine O.fa0 (off := 8) rfl rfl rfl rfl ⟨_,_,_,underlying153,rfl,rfl,sizeOf151⟩ rfl ?_
          refine O.ixr (j := dp) rfl rfl rfl rfl underlying151 sizeOf5 rfl rfl (by omega) hd8 ?_
          refine O.ld rfl rfl rfl (fun w => ⟨isAgg5 w,sizeOf5 w⟩) rfl (show cl _ hb (8 + dp * 1) = _ by rw [Nat.mul_one]; exact hpc) ?_
          refine O.cvi (v := ((pn : Nat) : Int)) rfl rfl rfl (by rw [underlying5]; rfl) underlying3 rfl rfl (wrap_id (by omega)) trivial ?_
          refine O.asg rfl rfl rfl rfl rfl ?_
          refine Pl.fin [(0,_),(1,_),(2,_),(3,_),(4,_),(7,_),(10,_),(11,_),(12,_),(13,_),(32,_)] ⟨rfl,rfl,rfl,rfl,rfl,rfl,rfl,rfl,rfl,rfl,rfl,trivial⟩ ?_
          refine Go'.seq ?_
          refine Go'.seq ?_
          by_cases hge2 : X.length ≤ pn
          · skip
            refine Go'.region [(0,0),(1,0),(2,0),(3,0),(4,1),(5,0),(6,0)] rfl ?_
            refine O.mv rfl rfl rfl rfl rfl ?_
            refine O.mv rfl rfl rfl rfl rfl ?_
            refine O.nc rfl rfl rfl rfl rfl ?_
            refine O.fa0 (off := 2) rfl rfl rfl rfl ⟨_,_,_,underlying168,rfl,rfl,sizeOf25⟩ rfl ?_
            refine O.ld rfl rfl rfl (fun w => ⟨isAgg25 w,sizeOf25 w⟩) rfl hn.c2 ?_
            refine O.len rfl rfl rfl rfl underlying25 rfl ?_
            refine O.cmp rfl rfl rfl rfl rfl rfl (geqT (by omega)) ?_
            refine Pl.fin [(0,_),(1,_),(2,_),(3,_),(4,_),(7,_),(10,_),(11,_),(12,_),(13,_),(32,_),(46,_)] ⟨rfl,rfl,rfl,rfl,rfl,rfl,rfl,rfl,rfl,rfl,rfl,rfl,trivial⟩ ?_
            refine Go'.condT rfl ?_
            refine Go'.seq ?_
            refine Go'.seq ?_
            obtain ⟨u,hu⟩ := hat (X.length - 1) (by omega)
            refine Go'.draw (fun _ => True) [(0,0),(1,0),(2,0),(3,0),(4,1),(5,0),(6,0),(7,0),(8,1),(9,0),(10,0),(11,0),(12,1),(13,1),(14,2)] (by kernel_rfl) (by kernel_rfl) (trivial) ?_
            refine O.mv rfl rfl rfl rfl rfl ?_
            refine O.mv rfl rfl rfl rfl rfl ?_
            refine O.nc rfl rfl rfl rfl rfl ?_
            refine O.fa0 (off := 2) rfl rfl rfl rfl ⟨_,_,_,underlying168,rfl,rfl,sizeOf25⟩ rfl ?_
            refine O.ld rfl rfl rfl (fun w => ⟨isAgg25 w,sizeOf25 w⟩) rfl hn.c2 ?_
            refine O.mv rfl rfl rfl rfl rfl ?_
            refine O.nc rfl rfl rfl rfl rfl ?_
            refine O.fa0 (off := 2) rfl rfl rfl rfl ⟨_,_,_,underlying168,rfl,rfl,sizeOf25⟩ rfl ?_
            refine O.ld rfl rfl rfl (fun w => ⟨isAgg25 w,sizeOf25 w⟩) rfl hn.c2 ?_
            refine O.len rfl rfl rfl rfl underlying25 rfl ?_
            refine O.sub (((X.length - 1 : Nat) : Int)) rfl rfl rfl rfl rfl rfl (by omega) (by omega) ?_
            refine O.ix (j := X.length - 1) rfl rfl rfl rfl underlying25 sizeOf27 rfl rfl (by omega) (by omega) ?_
            refine O.lds rfl rfl rfl (fun w => ⟨isAgg27 w,sizeOf27 w⟩) rfl rfl (hn.sl.item hu) ?_
            refine O.lds rfl rfl rfl (fun w => ⟨isAgg27 w,sizeOf27 w⟩) rfl rfl mk ?_
            refine O.call rfl rfl rfl call77 rfl (Less_spec tc u x) ?_
            rintro _ H2 ⟨rfl,hF2⟩
            replace tc := tc.fr hF2 (fun _ _ _ _ => nw)
            replace hn := NodeM.fr EJ hn hF2 (fun _ _ _ => nw)
            replace hh := hh.fr hF2 (fun _ => nw)
            replace mk := hF2.rd mk (fun _ _ => nw)
            replace hFs := hFs.trans hF2
            refine ⟨trivial,?_⟩
            refine Pl.fin [(0,_),(1,_),(2,_),(3,_),(4,_),(7,_),(10,_),(11,_),(12,_),(13,_),(32,_),(46,_),(61,_)] ⟨rfl,rfl,rfl,rfl,rfl,rfl,rfl,rfl,rfl,rfl,rfl,rfl,rfl,trivial⟩ ?_
            cases hux : OI.lt u x
            rotate_left
            · skip
              refine Go'.condT rfl ?_
              refine Go'.seq ?_
              refine Go'.region [(0,0),(1,0),(2,0),(3,1),(4,0),(5,0)] rfl ?_
              refine O.mv rfl rfl rfl rfl rfl ?_
              refine O.nc rfl rfl rfl rfl rfl ?_
              refine O.fa0 (off := 2) rfl rfl rfl rfl ⟨_,_,_,underlying168,rfl,rfl,sizeOf25⟩ rfl ?_
              refine O.ld rfl rfl rfl (fun w => ⟨isAgg25 w,sizeOf25 w⟩) rfl hn.c2 ?_
              refine O.len rfl rfl rfl rfl underlying25 rfl ?_
              refine O.asg rfl rfl rfl rfl rfl ?_
              refine Pl.fin [(0,_),(1,_),(2,_),(3,_),(4,_),(7,_),(10,_),(11,_),(12,_),(13,_),(32,_),(46,_),(61,_)] ⟨rfl,rfl,rfl,rfl,rfl,rfl,rfl,rfl,rfl,rfl,rfl,rfl,rfl,trivial⟩ ?_
              refine Go'.goto rfl ?_
              refine Go'.seq ?_
              refine Go'.skip ?_
              obtain ⟨e1,e2⟩ := Pl.search_none OI (x := x) (i := X.length) hs (Nat.le_refl _) (fun z _ hz => by rw [hu] at hz; cases hz; exact hux) (fun z hz => by have := (List.getElem?_eq_some_iff.1 hz).1; omega)
              refine Go'.keep [(1,_),(3,_),(4,_),(10,_),(11,_)] ⟨rfl,rfl,rfl,rfl,rfl,trivial⟩ ?_
              exact tail (X.length,false) H2 ⟨by rw [e1,e2],hFs⟩
            · skip
              obtain ⟨ix,hix⟩ : ∃ ix,ix = X.length - 1 := ⟨_,rfl⟩
              refine Go'.condF rfl ?_
              refine Go'.skip ?_
              refine Go'.region [(0,0),(1,0),(2,0),(3,1),(4,0),(5,0),(6,0)] rfl ?_
              refine O.mv rfl rfl rfl rfl rfl ?_
              refine O.nc rfl rfl rfl rfl rfl ?_
              refine O.fa0 (off := 2) rfl rfl rfl rfl ⟨_,_,_,underlying168,rfl,rfl,sizeOf25⟩ rfl ?_
              refine O.ld rfl rfl rfl (fun w => ⟨isAgg25 w,sizeOf25 w⟩) rfl hn.c2 ?_
              refine O.len rfl rfl rfl rfl underlying25 rfl ?_
              refine O.sub (((ix : Nat) : Int)) rfl rfl rfl rfl rfl rfl (by omega) (by omega) ?_
              refine O.asg rfl rfl rfl rfl rfl ?_
              refine Pl.fin [(0,_),(1,_),(2,_),(3,_),(4,_),(7,_),(10,_),(11,_),(12,_),(13,_),(32,_),(46,_),(61,_)] ⟨rfl,rfl,rfl,rfl,rfl,rfl,rfl,rfl,rfl,rfl,rfl,rfl,rfl,trivial⟩ ?_
              refine Go'.seq ?_
              obtain ⟨y,hy⟩ := hat ix (by omega)
              refine Go'.draw (fun _ => True) [(0,0),(1,1),(2,0),(3,0),(4,0),(5,1),(6,0),(7,0),(8,1),(9,2)] (by kernel_rfl) (by kernel_rfl) (trivial) ?_
              refine O.mv rfl rfl rfl rfl rfl ?_
              refine O.lds rfl rfl rfl (fun w => ⟨isAgg27 w,sizeOf27 w⟩) rfl rfl mk ?_
              refine O.mv rfl rfl rfl rfl rfl ?_
              refine O.nc rfl rfl rfl rfl rfl ?_
              refine O.fa0 (off := 2) rfl rfl rfl rfl ⟨_,_,_,underlying168,rfl,rfl,sizeOf25⟩ rfl ?_
              refine O.ld rfl rfl rfl (fun w => ⟨isAgg25 w,sizeOf25 w⟩) rfl hn.c2 ?_
              refine O.mv rfl rfl rfl rfl rfl ?_
              refine O.ix (j := ix) rfl rfl rfl rfl underlying25 sizeOf27 rfl rfl (by omega) (by omega) ?_
              refine O.lds rfl rfl rfl (fun w => ⟨isAgg27 w,sizeOf27 w⟩) rfl rfl (hn.sl.item hy) ?_
              refine O.call rfl rfl rfl call77 rfl (Less_spec tc x y) ?_
              rintro _ H3 ⟨rfl,hF3⟩
              replace tc := tc.fr hF3 (fun _ _ _ _ => nw)
              replace hn := NodeM.fr EJ hn hF3 (fun _ _ _ => nw)
              replace hh := hh.fr hF3 (fun _ => nw)
              replace mk := hF3.rd mk (fun _ _ => nw)
              replace hFs := hFs.trans hF3
              refine ⟨trivial,?_⟩
              refine Pl.fin [(0,_),(1,_),(2,_),(3,_),(4,_),(7,_),(10,_),(11,_),(12,_),(13,_),(32,_),(46,_),(61,_),(82,_)] ⟨rfl,rfl,rfl,rfl,rfl,rfl,rfl,rfl,rfl,rfl,rfl,rfl,rfl,rfl,trivial⟩ ?_
              cases hxy : OI.lt x y
              rotate_left
              · -- before it
                refine Go'.condT rfl ?_
                refine Go'.seq ?_
                refine Go'.seq ?_
                by_cases h0 : ix = 0
                · skip
                  refine Go'.draw (fun _ => True) [(0,0),(1,0),(2,0),(3,0),(4,0),(5,0),(6,0),(7,1),(8,0),(9,0),(10,0),(11,1),(12,1),(13,2),(14,0)] (by kernel_rfl) (by kernel_rfl) (trivial) ?_
                  refine O.mv rfl rfl rfl rfl rfl ?_
                  refine O.cmp rfl rfl rfl rfl rfl rfl (eqlT (by omega)) ?_
                  refine O.mv rfl rfl rfl rfl rfl ?_
                  refine Pl.pass rfl rfl rfl rfl ?_
                  refine Pl.pass rfl rfl rfl rfl ?_
                  refine Pl.pass rfl rfl rfl rfl ?_
                  refine Pl.pass rfl rfl rfl rfl ?_
                  refine Pl.pass rfl rfl rfl rfl ?_
                  refine Pl.pass rfl rfl rfl rfl ?_
                  refine Pl.pass rfl rfl rfl rfl ?_
                  refine Pl.pass rfl rfl rfl rfl ?_
                  refine Pl.pass rfl rfl rfl rfl ?_
                  refine Pl.pass rfl rfl rfl rfl ?_
                  refine Pl.pass2 rfl rfl rfl rfl trivial ?_
                  refine O.pick rfl rfl rfl rfl rfl rfl ?_
                  refine Pl.fin [(0,_),(1,_),(2,_),(3,_),(4,_),(7,_),(10,_),(11,_),(12,_),(13,_),(32,_),(46,_),(61,_),(82,_),(97,_)] ⟨rfl,rfl,rfl,rfl,rfl,rfl,rfl,rfl,rfl,rfl,rfl,rfl,rfl,rfl,rfl,trivial⟩ ?_
                  refine Go'.condT rfl ?_
                  refine Go'.goto rfl ?_
                  refine Go'.seq ?_
                  refine Go'.skip ?_
                  obtain ⟨e1,e2⟩ := Pl.search_none OI (x := x) (i := ix) hs (by omega) (fun z h _ => absurd h0 h) (fun z hz => by rw [hy] at hz; cases hz; exact hxy)
                  refine Go'.keep [(1,_),(3,_),(4,_),(10,_),(11,_)] ⟨rfl,rfl,rfl,rfl,rfl,trivial⟩ ?_
                  exact tail (ix,false) H3 ⟨by rw [e1,e2],hFs⟩
                · skip
                  obtain ⟨z,hz⟩ := hat (ix - 1) (by omega)
                  refine Go'.draw (fun _ => True) [(0,0),(1,0),(2,0),(3,0),(4,0),(5,0),(6,0),(7,1),(8,0),(9,0),(10,0),(11,1),(12,1),(13,2),(14,0)] (by kernel_rfl) (by kernel_rfl) (trivial) ?_
                  refine O.mv rfl rfl rfl rfl rfl ?_
                  refine O.cmp rfl rfl rfl rfl rfl rfl (eqlF (by omega)) ?_
                  refine O.mv rfl rfl rfl rfl rfl ?_
                  refine O.mv rfl rfl rfl rfl rfl ?_
                  refine O.mv rfl rfl rfl rfl rfl ?_
                  refine O.nc rfl rfl rfl rfl rfl ?_
                  refine O.fa0 (off := 2) rfl rfl rfl rfl ⟨_,_,_,underlying168,rfl,rfl,sizeOf25⟩ rfl ?_
                  refine O.ld rfl rfl rfl (fun w => ⟨isAgg25 w,sizeOf25 w⟩) rfl hn.c2 ?_
                  refine O.mv rfl rfl rfl rfl rfl ?_
                  refine O.sub (((ix - 1 : Nat) : Int)) rfl rfl rfl rfl rfl rfl (by omega) (by omega) ?_
                  refine O.ix (j := ix - 1) rfl rfl rfl rfl underlying25 sizeOf27 rfl rfl (by omega) (by omega) ?_
                  refine O.lds rfl rfl rfl (fun w => ⟨isAgg27 w,sizeOf27 w⟩) rfl rfl (hn.sl.item hz) ?_
                  refine O.lds rfl rfl rfl (fun w => ⟨isAgg27 w,sizeOf27 w⟩) rfl rfl mk ?_
                  refine O.call rfl rfl rfl call77 rfl (Less_spec tc z x) ?_
                  rintro _ H4 ⟨rfl,hF4⟩
                  replace tc := tc.fr hF4 (fun _ _ _ _ => nw)
                  replace hn := NodeM.fr EJ hn hF4 (fun _ _ _ => nw)
                  replace hh := hh.fr hF4 (fun _ => nw)
                  replace mk := hF4.rd mk (fun _ _ => nw)
                  replace hFs := hFs.trans hF4
                  refine ⟨trivial,?_⟩
                  refine O.pick rfl rfl rfl rfl rfl rfl ?_
                  refine Pl.fin [(0,_),(1,_),(2,_),(3,_),(4,_),(7,_),(10,_),(11,_),(12,_),(13,_),(32,_),(46,_),(61,_),(82,_),(97,_)] ⟨rfl,rfl,rfl,rfl,rfl,rfl,rfl,rfl,rfl,rfl,rfl,rfl,rfl,rfl,rfl,trivial⟩ ?_
                  cases hzx : OI.lt z x
                  rotate_left
                  · skip
                    refine Go'.condT rfl ?_
                    refine Go'.goto rfl ?_
                    refine Go'.seq ?_
                    refine Go'.skip ?_
                    obtain ⟨e1,e2⟩ := Pl.search_none OI (x := x) (i := ix) hs (by omega) (fun u _ hu => by rw [hz] at hu; cases hu; exact hzx) (fun u hu => by rw [hy] at hu; cases hu; exact hxy)
                    refine Go'.keep [(1,_),(3,_),(4,_),(10,_),(11,_)] ⟨rfl,rfl,rfl,rfl,rfl,trivial⟩ ?_
                    exact tail (ix,false) H4 ⟨by rw [e1,e2],hFs⟩
                  · skip
                    refine Go'.condF rfl ?_
                    refine Go'.skip ?_
                    refine Go'.region [(0,0),(1,0),(2,0)] rfl ?_
                    refine O.mv rfl rfl rfl rfl rfl ?_
                    refine O.sub (((ix : Int) - 1)) rfl rfl rfl rfl rfl rfl (by omega) (by omega) ?_
                    refine O.asg rfl rfl rfl rfl rfl ?_
                    refine Pl.fin [(0,_),(1,_),(2,_),(3,_),(4,_),(7,_),(10,_),(11,_),(12,_),(13,_),(32,_),(46,_),(61,_),(82,_),(97,_)] ⟨rfl,rfl,rfl,rfl,rfl,rfl,rfl,rfl,rfl,rfl,rfl,rfl,rfl,rfl,rfl,trivial⟩ ?_
                    refine Go'.keep [(0,_),(1,_),(3,_),(4,_),(7,_),(12,_),(13,_)] ⟨rfl,rfl,rfl,rfl,rfl,rfl,rfl,trivial⟩ ?_
                    exact bs (0,ix) H4 ⟨hFs,Nat.zero_le _,by simp only; omega,fun j y _ h => by simp at h,hge hy hxy⟩
              · -- not before it
                refine Go'.condF rfl ?_
                refine Go'.seq ?_
                refine Go'.draw (fun _ => True) [(0,0),(1,0),(2,0),(3,0),(4,1),(5,0),(6,0),(7,1),(8,1),(9,2)] (by kernel_rfl) (by kernel_rfl) (trivial) ?_
                refine O.mv rfl rfl rfl rfl rfl ?_
                refine O.mv rfl rfl rfl rfl rfl ?_
                refine O.nc rfl rfl rfl rfl rfl ?_
                refine O.fa0 (off := 2) rfl rfl rfl rfl ⟨_,_,_,underlying168,rfl,rfl,sizeOf25⟩ rfl ?_
                refine O.ld rfl rfl rfl (fun w => ⟨isAgg25 w,sizeOf25 w⟩) rfl hn.c2 ?_
                refine O.mv rfl rfl rfl rfl rfl ?_
                refine O.ix (j := ix) rfl rfl rfl rfl underlying25 sizeOf27 rfl rfl (by omega) (by omega) ?_
                refine O.lds rfl rfl rfl (fun w => ⟨isAgg27 w,sizeOf27 w⟩) rfl rfl (hn.sl.item hy) ?_
                refine O.lds rfl rfl rfl (fun w => ⟨isAgg27 w,sizeOf27 w⟩) rfl rfl mk ?_
                refine O.call rfl rfl rfl call77 rfl (Less_spec tc y x) ?_
                rintro _ H4 ⟨rfl,hF4⟩
                replace tc := tc.fr hF4 (fun _ _ _ _ => nw)
                replace hn := NodeM.fr EJ hn hF4 (fun _ _ _ => nw)
                replace hh := hh.fr hF4 (fun _ => nw)
                replace mk := hF4.rd mk (fun _ _ => nw)
                replace hFs := hFs.trans hF4
                refine ⟨trivial,?_⟩
                refine Pl.fin [(0,_),(1,_),(2,_),(3,_),(4,_),(7,_),(10,_),(11,_),(12,_),(13,_),(32,_),(46,_),(61,_),(82,_),(109,_)] ⟨rfl,rfl,rfl,rfl,rfl,rfl,rfl,rfl,rfl,rfl,rfl,rfl,rfl,rfl,rfl,trivial⟩ ?_
                cases hyx : OI.lt y x
                · skip
                  refine Go'.condF rfl ?_
                  refine Go'.seq ?_
                  refine Go'.region [(0,0)] rfl ?_
                  refine O.asg rfl rfl rfl rfl rfl ?_
                  refine Pl.fin [(0,_),(1,_),(2,_),(3,_),(4,_),(7,_),(10,_),(11,_),(12,_),(13,_),(32,_),(46,_),(61,_),(82,_),(109,_)] ⟨rfl,rfl,rfl,rfl,rfl,rfl,rfl,rfl,rfl,rfl,rfl,rfl,rfl,rfl,rfl,trivial⟩ ?_
                  refine Go'.goto rfl ?_
                  refine Go'.seq ?_
                  refine Go'.skip ?_
                  obtain ⟨e1,e2⟩ := Pl.search_found OI (x := x) hs hy hyx hxy
                  refine Go'.keep [(1,_),(3,_),(4,_),(10,_),(11,_)] ⟨rfl,rfl,rfl,rfl,rfl,trivial⟩ ?_
                  exact tail (ix,true) H4 ⟨by rw [e1,e2],hFs⟩
                · skip
                  refine Go'.condT rfl ?_
                  refine Go'.region [(0,0),(1,0),(2,0)] rfl ?_
                  refine O.mv rfl rfl rfl rfl rfl ?_
                  refine O.add (((ix + 1 : Nat) : Int)) rfl rfl rfl rfl rfl rfl (by omega) (by omega) ?_
                  refine O.asg rfl rfl rfl rfl rfl ?_
                  refine Pl.fin [(0,_),(1,_),(2,_),(3,_),(4,_),(7,_),(10,_),(11,_),(12,_),(13,_),(32,_),(46,_),(61,_),(82,_),(109,_)] ⟨rfl,rfl,rfl,rfl,rfl,rfl,rfl,rfl,rfl,rfl,rfl,rfl,rfl,rfl,rfl,trivial⟩ ?_
                  refine Go'.keep [(0,_),(1,_),(3,_),(4,_),(7,_),(12,_),(13,_)] ⟨rfl,rfl,rfl,rfl,rfl,rfl,rfl,trivial⟩ ?_
                  exact bs (ix + 1,X.length) H4 ⟨hFs,by simp only; omega,Nat.le_refl _,hle hy hxy,fun j y h1 h2 => by
                      have := (List.getElem?_eq_some_iff.1 h1).1; simp only at h2; omega⟩
          · skip
            obtain ⟨ix,hix⟩ : ∃ ix,ix = pn := ⟨_,rfl⟩
            subst hix
            refine Go'.region [(0,0),(1,0),(2,0),(3,0),(4,1),(5,0),(6,0)] rfl ?_
            refine O.mv rfl rfl rfl rfl rfl ?_
            refine O.mv rfl rfl rfl rfl rfl ?_
            refine O.nc rfl rfl rfl rfl rfl ?_
            refine O.fa0 (off := 2) rfl rfl rfl rfl ⟨_,_,_,underlying168,rfl,rfl,sizeOf25⟩ rfl ?_
            refine O.ld rfl rfl rfl (fun w => ⟨isAgg25 w,sizeOf25 w⟩) rfl hn.c2 ?_
            refine O.len rfl rfl rfl rfl underlying25 rfl ?_
            refine O.cmp rfl rfl rfl rfl rfl rfl (geqF (by omega)) ?_
            refine Pl.fin [(0,_),(1,_),(2,_),(3,_),(4,_),(7,_),(10,_),(11,_),(12,_),(13,_),(32,_),(46,_)] ⟨rfl,rfl,rfl,rfl,rfl,rfl,rfl,rfl,rfl,rfl,rfl,rfl,trivial⟩ ?_
            refine Go'.condF rfl ?_
            refine Go'.skip ?_
            refine Go'.seq ?_
            obtain ⟨y,hy⟩ := hat ix (by omega)
            refine Go'.draw (fun _ => True) [(0,0),(1,1),(2,0),(3,0),(4,0),(5,1),(6,0),(7,0),(8,1),(9,2)] (by kernel_rfl) (by kernel_rfl) (trivial) ?_
            refine O.mv rfl rfl rfl rfl rfl ?_
            refine O.lds rfl rfl rfl (fun w => ⟨isAgg27 w,sizeOf27 w⟩) rfl rfl mk ?_
            refine O.mv rfl rfl rfl rfl rfl ?_
            refine O.nc rfl rfl rfl rfl rfl ?_
            refine O.fa0 (off := 2) rfl rfl rfl rfl ⟨_,_,_,underlying168,rfl,rfl,sizeOf25⟩ rfl ?_
            refine O.ld rfl rfl rfl (fun w => ⟨isAgg25 w,sizeOf25 w⟩) rfl hn.c2 ?_
            refine O.mv rfl rfl rfl rfl rfl ?_
            refine O.ix (j := ix) rfl rfl rfl rfl underlying25 sizeOf27 rfl rfl (by omega) (by omega) ?_
            refine O.lds rfl rfl rfl (fun w => ⟨isAgg27 w,sizeOf27 w⟩) rfl rfl (hn.sl.item hy) ?_
            refine O.call rfl rfl rfl call77 rfl (Less_spec tc x y) ?_
            rintro _ H2 ⟨rfl,hF2⟩
            replace tc := tc.fr hF2 (fun _ _ _ _ => nw)
            replace hn := NodeM.fr EJ hn hF2 (fun _ _ _ => nw)
            replace hh := hh.fr hF2 (fun _ => nw)
            replace mk := hF2.rd mk (fun _ _ => nw)
            replace hFs := hFs.trans hF2
            refine ⟨trivial,?_⟩
            refine Pl.fin [(0,_),(1,_),(2,_),(3,_),(4,_),(7,_),(10,_),(11,_),(12,_),(13,_),(32,_),(46,_),(82,_)] ⟨rfl,rfl,rfl,rfl,rfl,rfl,rfl,rfl,rfl,rfl,rfl,rfl,rfl,trivial⟩ ?_
            cases hxy : OI.lt x y
            rotate_left
            · -- before it
              refine Go'.condT rfl ?_
              refine Go'.seq ?_
              refine Go'.seq ?_
              by_cases h0 : ix = 0
              · skip
                refine Go'.draw (fun _ => True) [(0,0),(1,0),(2,0),(3,0),(4,0),(5,0),(6,0),(7,1),(8,0),(9,0),(10,0),(11,1),(12,1),(13,2),(14,0)] (by kernel_rfl) (by kernel_rfl) (trivial) ?_
                refine O.mv rfl rfl rfl rfl rfl ?_
                refine O.cmp rfl rfl rfl rfl rfl rfl (eqlT (by omega)) ?_
                refine O.mv rfl rfl rfl rfl rfl ?_
                refine Pl.pass rfl rfl rfl rfl ?_
                refine Pl.pass rfl rfl rfl rfl ?_
                refine Pl.pass rfl rfl rfl rfl ?_
                refine Pl.pass rfl rfl rfl rfl ?_
                refine Pl.pass rfl rfl rfl rfl ?_
                refine Pl.pass rfl rfl rfl rfl ?_
                refine Pl.pass rfl rfl rfl rfl ?_
                refine Pl.pass rfl rfl rfl rfl ?_
                refine Pl.pass rfl rfl rfl rfl ?_
                refine Pl.pass rfl rfl rfl rfl ?_
                refine Pl.pass2 rfl rfl rfl rfl trivial ?_
                refine O.pick rfl rfl rfl rfl rfl rfl ?_
                refine Pl.fin [(0,_),(1,_),(2,_),(3,_),(4,_),(7,_),(10,_),(11,_),(12,_),(13,_),(32,_),(46,_),(82,_),(97,_)] ⟨rfl,rfl,rfl,rfl,rfl,rfl,rfl,rfl,rfl,rfl,rfl,rfl,rfl,rfl,trivial⟩ ?_
                refine Go'.condT rfl ?_
                refine Go'.goto rfl ?_
                refine Go'.seq ?_
                refine Go'.skip ?_
                obtain ⟨e1,e2⟩ := Pl.search_none OI (x := x) (i := ix) hs (by omega) (fun z h _ => absurd h0 h) (fun z hz => by rw [hy] at hz; cases hz; exact hxy)
                refine Go'.keep [(1,_),(3,_),(4,_),(10,_),(11,_)] ⟨rfl,rfl,rfl,rfl,rfl,trivial⟩ ?_
                exact tail (ix,false) H2 ⟨by rw [e1,e2],hFs⟩
              · skip
                obtain ⟨z,hz⟩ := hat (ix - 1) (by omega)
                refine Go'.draw (fun _ => True) [(0,0),(1,0),(2,0),(3,0),(4,0),(5,0),(6,0),(7,1),(8,0),(9,0),(10,0),(11,1),(12,1),(13,2),(14,0)] (by kernel_rfl) (by kernel_rfl) (trivial) ?_
                refine O.mv rfl rfl rfl rfl rfl ?_
                refine O.cmp rfl rfl rfl rfl rfl rfl (eqlF (by omega)) ?_
                refine O.mv rfl rfl rfl rfl rfl ?_
                refine O.mv rfl rfl rfl rfl rfl ?_
                refine O.mv rfl rfl rfl rfl rfl ?_
                refine O.nc rfl rfl rfl rfl rfl ?_
                refine O.fa0 (off := 2) rfl rfl rfl rfl ⟨_,_,_,underlying168,rfl,rfl,sizeOf25⟩ rfl ?_
                refine O.ld rfl rfl rfl (fun w => ⟨isAgg25 w,sizeOf25 w⟩) rfl hn.c2 ?_
                refine O.mv rfl rfl rfl rfl rfl ?_
                refine O.sub (((ix - 1 : Nat) : Int)) rfl rfl rfl rfl rfl rfl (by omega) (by omega) ?_
                refine O.ix (j := ix - 1) rfl rfl rfl rfl underlying25 sizeOf27 rfl rfl (by omega) (by omega) ?_
                refine O.lds rfl rfl rfl (fun w => ⟨isAgg27 w,sizeOf27 w⟩) rfl rfl (hn.sl.item hz) ?_
                refine O.lds rfl rfl rfl (fun w => ⟨isAgg27 w,sizeOf27 w⟩) rfl rfl mk ?_
                refine O.call rfl rfl rfl call77 rfl (Less_spec tc z x) ?_
                rintro _ H3 ⟨rfl,hF3⟩
                replace tc := tc.fr hF3 (fun _ _ _ _ => nw)
                replace hn := NodeM.fr EJ hn hF3 (fun _ _ _ => nw)
                replace hh := hh.fr hF3 (fun _ => nw)
                replace mk := hF3.rd mk (fun _ _ => nw)
                replace hFs := hFs.trans hF3
                refine ⟨trivial,?_⟩
                refine O.pick rfl rfl rfl rfl rfl rfl ?_
                refine Pl.fin [(0,_),(1,_),(2,_),(3,_),(4,_),(7,_),(10,_),(11,_),(12,_),(13,_),(32,_),(46,_),(82,_),(97,_)] ⟨rfl,rfl,rfl,rfl,rfl,rfl,rfl,rfl,rfl,rfl,rfl,rfl,rfl,rfl,trivial⟩ ?_
                cases hzx : OI.lt z x
                rotate_left
                · skip
                  refine Go'.condT rfl ?_
                  refine Go'.goto rfl ?_
                  refine Go'.seq ?_
                  refine Go'.skip ?_
                  obtain ⟨e1,e2⟩ := Pl.search_none OI (x := x) (i := ix) hs (by omega) (fun u _ hu => by rw [hz] at hu; cases hu; exact hzx) (fun u hu => by rw [hy] at hu; cases hu; exact hxy)
                  refine Go'.keep [(1,_),(3,_),(4,_),(10,_),(11,_)] ⟨rfl,rfl,rfl,rfl,rfl,trivial⟩ ?_
                  exact tail (ix,false) H3 ⟨by rw [e1,e2],hFs⟩
                · skip
                  refine Go'.condF rfl ?_
                  refine Go'.skip ?_
                  refine Go'.region [(0,0),(1,0),(2,0)] rfl ?_
                  refine O.mv rfl rfl rfl rfl rfl ?_
                  refine O.sub (((ix : Int) - 1)) rfl rfl rfl rfl rfl rfl (by omega) (by omega) ?_
                  refine O.asg rfl rfl rfl rfl rfl ?_
                  refine Pl.fin [(0,_),(1,_),(2,_),(3,_),(4,_),(7,_),(10,_),(11,_),(12,_),(13,_),(32,_),(46,_),(82,_),(97,_)] ⟨rfl,rfl,rfl,rfl,rfl,rfl,rfl,rfl,rfl,rfl,rfl,rfl,rfl,rfl,trivial⟩ ?_
                  refine Go'.keep [(0,_),(1,_),(3,_),(4,_),(7,_),(12,_),(13,_)] ⟨rfl,rfl,rfl,rfl,rfl,rfl,rfl,trivial⟩ ?_
                  exact bs (0,ix) H3 ⟨hFs,Nat.zero_le _,by simp only; omega,fun j y _ h => by simp at h,hge hy hxy⟩
            · -- not before it
              refine Go'.condF rfl ?_
              refine Go'.seq ?_
              refine Go'.draw (fun _ => True) [(0,0),(1,0),(2,0),(3,0),(4,1),(5,0),(6,0),(7,1),(8,1),(9,2)] (by kernel_rfl) (by kernel_rfl) (trivial) ?_
              refine O.mv rfl rfl rfl rfl rfl ?_
              refine O.mv rfl rfl rfl rfl rfl ?_
              refine O.nc rfl rfl rfl rfl rfl ?_
              refine O.fa0 (off := 2) rfl rfl rfl rfl ⟨_,_,_,underlying168,rfl,rfl,sizeOf25⟩ rfl ?_
              refine O.ld rfl rfl rfl (fun w => ⟨isAgg25 w,sizeOf25 w⟩) rfl hn.c2 ?_
              refine O.mv rfl rfl rfl rfl rfl ?_
              refine O.ix (j := ix) rfl rfl rfl rfl underlying25 sizeOf27 rfl rfl (by omega) (by omega) ?_
              refine O.lds rfl rfl rfl (fun w => ⟨isAgg27 w,sizeOf27 w⟩) rfl rfl (hn.sl.item hy) ?_
              refine O.lds rfl rfl rfl (fun w => ⟨isAgg27 w,sizeOf27 w⟩) rfl rfl mk ?_
              refine O.call rfl rfl rfl call77 rfl (Less_spec tc y x) ?_
              rintro _ H3 ⟨rfl,hF3⟩
              replace tc := tc.fr hF3 (fun _ _ _ _ => nw)
              replace hn := NodeM.fr EJ hn hF3 (fun _ _ _ => nw)
              replace hh := hh.fr hF3 (fun _ => nw)
              replace mk := hF3.rd mk (fun _ _ => nw)
              replace hFs := hFs.trans hF3
              refine ⟨trivial,?_⟩
              refine Pl.fin [(0,_),(1,_),(2,_),(3,_),(4,_),(7,_),(10,_),(11,_),(12,_),(13,_),(32,_),(46,_),(82,_),(109,_)] ⟨rfl,rfl,rfl,rfl,rfl,rfl,rfl,rfl,rfl,rfl,rfl,rfl,rfl,rfl,trivial⟩ ?_
              cases hyx : OI.lt y x
              · skip
                refine Go'.condF rfl ?_
                refine Go'.seq ?_
                refine Go'.region [(0,0)] rfl ?_
                refine O.asg rfl rfl rfl rfl rfl ?_
                refine Pl.fin [(0,_),(1,_),(2,_),(3,_),(4,_),(7,_),(10,_),(11,_),(12,_),(13,_),(32,_),(46,_),(82,_),(109,_)] ⟨rfl,rfl,rfl,rfl,rfl,rfl,rfl,rfl,rfl,rfl,rfl,rfl,rfl,rfl,trivial⟩ ?_
                refine Go'.goto rfl ?_
                refine Go'.seq ?_
                refine Go'.skip ?_
                obtain ⟨e1,e2⟩ := Pl.search_found OI (x := x) hs hy hyx hxy
                refine Go'.keep [(1,_),(3,_),(4,_),(10,_),(11,_)] ⟨rfl,rfl,rfl,rfl,rfl,trivial⟩ ?_
                exact tail (ix,true) H3 ⟨by rw [e1,e2],hFs⟩
              · skip
                refine Go'.condT rfl ?_
                refine Go'.region [(0,0),(1,0),(2,0)] rfl ?_
                refine O.mv rfl rfl rfl rfl rfl ?_
                refine O.add (((ix + 1 : Nat) : Int)) rfl rfl rfl rfl rfl rfl (by omega) (by omega) ?_
                refine O.asg rfl rfl rfl rfl rfl ?_
                refine Pl.fin [(0,_),(1,_),(2,_),(3,_),(4,_),(7,_),(10,_),(11,_),(12,_),(13,_),(32,_),(46,_),(82,_),(109,_)] ⟨rfl,rfl,rfl,rfl,rfl,rfl,rfl,rfl,rfl,rfl,rfl,rfl,rfl,rfl,trivial⟩ ?_
                refine Go'.keep [(0,_),(1,_),(3,_),(4,_),(7,_),(12,_),(13,_)] ⟨rfl,rfl,rfl,rfl,rfl,rfl,rfl,trivial⟩ ?_
                exact bs (ix + 1,X.length) H3 ⟨hFs,by simp only; omega,Nat.le_refl _,hle hy hxy,fun j y h1 h2 => by
                    have := (List.getElem?_eq_some_iff.1 h1).1; simp only at h2; omega⟩

end Go.Bt.FG
