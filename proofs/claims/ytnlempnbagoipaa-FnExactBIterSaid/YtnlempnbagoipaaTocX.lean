/- Contracts of functions of the program, proved by walking through their code. Conditions: those that each theorem names. -/
import Derived.Test.YtnlempnbagoipaaTobT
import Derived.Test.YtnlempnbagoipaaTobV
import Derived.Test.YtnlempnbagoipaaTocW
import Derived.Test.YtnlempnbagoipaaToKb
import Derived.Test.YtnlempnbagoipaaTocA
namespace Go.Bt.FB
open Go Go.Proofs Go.Proofs.Try
set_option maxRecDepth 20000
set_option maxHeartbeats 4000000
set_option linter.unusedVariables false
set_option linter.unusedSectionVars false

end Go.Bt.FB
namespace Go.Bt.FB
open Go Go.Proofs Go.Proofs.Try
set_option maxRecDepth 20000
set_option maxHeartbeats 4000000
set_option linter.unusedVariables false
set_option linter.unusedSectionVars false

section
variable [Inhabited Cx]

/-- What a move gives: the item,if it returned true. -/
def okO (b : Bool) (kv : Option (Int × Int)) : Option (Int × Int) := cond b kv none
theorem resOutO {l : List (Int × Int)} {m : Int × Int × Int} {s0 st : Option Nat} {b : Bool} {O : Pl.Swo (Int × Int)} (h : Pl.Res O l m s0 b st) {kv : Option (Int × Int)} (hkv : ∀ q,st = some q → l[q]? = kv) (ht : Pl.mvTold l m s0 = true) : okO b kv = (Pl.cut l.length (Pl.mvTo O l m s0)).bind (l[·]?) := by
  obtain ⟨h1,h2⟩ := h.told ht
  rw [← h2,h1]
  cases st with
  | none => rfl
  | some q => exact (hkv q rfl).symm
theorem moved_spec {B : World} {H0 H : Mem} {it tr : Nat} {mt sk sa se : Bool} {Z : Nat → Prop} {kv : Option (Int × Int)} {P : Ps} {S : Nat → Prop} {l : List (Int × Int)} {r : Option ((h : Nat) × Gt EA h)} (hP : PsOk P) (hI : Itr H H it tr mt Z sk sa se Z [] kv) (hT : TreeR H tr P S l r) (hsi : ¬ S it) (hsz : ∀ b,S b → ¬ Z b) (hsrt : Pl.Srt OI l)
    {u : Value} {ms : List (Int × Int × Int)} (hu : InS EMv H0 u ms) (hml : ms.length ≤ 4294967296) (hF0 : Fr nowhere H0 H) (hit : H0.size ≤ it) (hZ0 : ∀ b,Z b → H0.size ≤ b) :
    Fn Try.prog B 71 [.pointer (some ⟨it,0,none⟩),u] H (fun v H' => ∃ outs Zo,Acc EF Zo H' v outs ∧ (∀ b,Zo b → b ≠ it) ∧ Pl.Agree outs (Pl.itRun OI l ms).2.1 (Pl.itRun OI l ms).2.2 ∧ Fr nowhere H0 H' ∧ ∃ sk sa se Z fr kv,Itr H' H' it tr mt Z sk sa se Z fr kv) := by
  obtain ⟨a,c,hue⟩ := hu.len
  subst hue
  have hbT := hT.tc.hb
  have hsz00 := hF0.size
  refine fn_of func71 rfl ntmps71 ?_
  refine (show Go' _ _ _ _ 59 [(0,_),(1,_)] [.code _] _ from ?_)
  refine Go'.seq ?_
  refine Go'.region [(0,0)] rfl ?_
  refine O.asg rfl rfl rfl rfl rfl ?_
  refine Pl.fin [(0,_),(1,_),(4,_)] ⟨rfl,rfl,rfl,trivial⟩ ?_
  refine Go'.seq ?_
  refine Go'.region [(0,2)] rfl ?_
  refine O.alloc rfl rfl rfl zeroValue82 ?_
  intro H1 M1
  refine ⟨trivial,?_⟩
  have hs1 := M1.size
  have hki : it ≠ H.size := fun e => by have := cl_lt hI.c0; omega
  have hkZ : ∀ b,Z b → b ≠ H.size := fun b h => by have := hI.zl b h; omega
  have hkS : ∀ b,S b → b ≠ H.size := fun b h => by have := hT.lt b h; omega
  replace hI := hI.box (M1.fr nowhere)
  replace hT := hT.keep (M1.fr nowhere) (fun _ _ _ => nw)
  replace hF0 := hF0.trans (M1.fr nowhere)
  have hk : HintOk H1 (.pointer (some ⟨H.size,0,none⟩)) (fun b => b = H.size) := .inr ⟨H.size,rfl,fun _ => Iff.rfl,by omega,fun h => by have := h.1; omega,(HintM.new M1 (fun i hi => by have hi8 : i = 0 ∨ i = 1 ∨ i = 2 ∨ i = 3 ∨ i = 4 ∨ i = 5 ∨ i = 6 ∨ i = 7 := (by omega); rcases hi8 with rfl | rfl | rfl | rfl | rfl | rfl | rfl | rfl <;> rfl) (fun i hi => by have hi8 : i = 0 ∨ i = 1 ∨ i = 2 ∨ i = 3 ∨ i = 4 ∨ i = 5 ∨ i = 6 ∨ i = 7 := (by omega); rcases hi8 with rfl | rfl | rfl | rfl | rfl | rfl | rfl | rfl <;> rfl) (by decide))⟩
  have hbl : H.size < H1.size := by omega
  refine Pl.fin [(0,_),(1,_),(4,_),(5,_)] ⟨rfl,rfl,rfl,rfl,trivial⟩ ?_
  refine Go'.seq ?_
  obtain ⟨hb,hbe⟩ : ∃ z,z = H.size := ⟨_,rfl⟩
  rw [← hbe] at hki hkZ hkS hk hbl ⊢
  refine Go'.region [(0,0)] rfl ?_
  refine O.asg rfl rfl rfl rfl rfl ?_
  refine Pl.fin [(0,_),(1,_),(4,_),(5,_),(6,_)] ⟨rfl,rfl,rfl,rfl,rfl,trivial⟩ ?_
  refine Go'.seq ?_
  refine Go'.seq ?_
  refine Go'.region [(0,0),(1,0),(2,0)] rfl ?_
  refine O.mv rfl rfl rfl rfl rfl ?_
  refine O.len rfl rfl rfl rfl underlying38 rfl ?_
  refine O.mv rfl rfl rfl rfl rfl ?_
  refine Pl.fin [(0,_),(4,_),(5,_),(6,_),(10,_),(11,_),(12,_)] ⟨rfl,rfl,rfl,rfl,rfl,rfl,rfl,trivial⟩ ?_
  refine Go'.block ?_
  refine Go'.loop ?_
  refine Go'.keep [(0,_),(5,_),(6,_),(10,_),(11,_),(12,_)] ⟨rfl,rfl,rfl,rfl,rfl,rfl,trivial⟩ ?_
  refine Go'.ind (σ := Nat × Value) (fun s => ms.length - s.1) (fun s H' => Fr nowhere H0 H' ∧ s.1 ≤ ms.length ∧ hb < H'.size ∧ HintOk H' (.pointer (some ⟨hb,0,none⟩)) (fun b => b = hb) ∧ ∃ sk sa se Z fr kv st Zo outs,Itr H' H' it tr mt Z sk sa se Z fr kv ∧ StI r l sk fr kv st ∧ TreeR H' tr P S l r ∧ (∀ b,Z b → H0.size ≤ b ∧ ¬ S b ∧ b ≠ hb) ∧ (∀ q,(Pl.itRun OI l (ms.take s.1)).1 = some q → st = some q) ∧ Acc EF Zo H' s.2 outs ∧ (∀ b,Zo b → H0.size ≤ b ∧ b < H'.size ∧ ¬ S b ∧ ¬ Z b ∧ b ≠ it ∧ b ≠ hb) ∧ Pl.Agree outs (Pl.itRun OI l (ms.take s.1)).2.1 (Pl.itRun OI l (ms.take s.1)).2.2)
    (fun s => [(0,.pointer (some ⟨it,0,none⟩)),(5,.pointer (some ⟨hb,0,none⟩)),(6,s.2),(10,.slice a ms.length c),(11,.int .i64 (ms.length : Int)),(12,.int .i64 (s.1 : Int))]) (0,.slice none 0 0)
    ⟨hF0,Nat.zero_le _,hbl,hk,sk,sa,se,Z,[],kv,none,fun _ => False,[],hI,rfl,hT,fun b hb => ⟨hZ0 b hb,fun hs => hsz b hs hb,hkZ b hb⟩,(fun q h => by simp [Pl.itRun] at h),Acc.nil _ _ _,fun _ h => h.elim,by rw [List.take_zero]; exact Pl.Agree.nil⟩ rfl ?_
  clear hI hT hF0 hsz hZ0 hk hkZ hbl
  rintro ⟨j,sv⟩ H2 ⟨hF,hjl,hbl,hk,sk,sa,se,Z,fr,kv,st,Zo,outs,hI,hSt,hT,hZ,hsim,hA,hZo,hag⟩ ih
  simp only at hjl hsim hA hag hbl
  refine Go'.seq ?_
  by_cases hlt : j < ms.length
  · skip
    obtain ⟨y,hy⟩ : ∃ y,ms[j]? = some y := ⟨ms[j],List.getElem?_eq_getElem hlt⟩
    obtain ⟨b,o,c',e,hr⟩ := (hu.fr hF).at hy
    cases e
    have hsz0 := hF.size
    have erun : Pl.itRun OI l (ms.take (j + 1)) = Pl.itStep OI l (Pl.itRun OI l (ms.take j)) y := by rw [List.take_add_one,hy]; exact Pl.itRun_snoc _ _ _ _
    have hlo : outs.length = j := by rw [hag.1,(Pl.itRun_len OI l (ms.take j)).1,List.length_take]; omega
    refine Go'.region [(0,0)] rfl ?_
    refine O.cmp rfl rfl rfl rfl rfl rfl (lssT (by omega)) ?_
    refine Pl.fin [(0,_),(5,_),(6,_),(10,_),(11,_),(12,_),(13,_)] ⟨rfl,rfl,rfl,rfl,rfl,rfl,rfl,trivial⟩ ?_
    refine Go'.seq ?_
    refine Go'.condT rfl ?_
    refine Go'.skip ?_
    refine Go'.seq ?_
    refine Go'.block ?_
    refine Go'.seq ?_
    refine Go'.region [(0,0),(1,1),(2,2),(3,2)] rfl ?_
    refine O.ix (j := j) rfl rfl rfl rfl underlying38 sizeOf65 rfl rfl (by omega) hlt ?_
    refine O.lds rfl rfl rfl (fun w => ⟨isAgg65 w,sizeOf65 w⟩) rfl rfl hr ?_
    refine O.alloc rfl rfl rfl zeroValue65 ?_
    intro H3 M3
    refine ⟨trivial,?_⟩
    have hs3 := M3.size
    have m7 : Wr H3 H2.size 0 3 := M3.wr 3 (by decide)
    refine O.st rfl rfl sizeOf65 rfl rfl rfl rfl rfl m7 ?_
    intro H4 W4
    have hs4 := W4.size
    have hf4 : Fr nowhere H2 H4 := (M3.fr nowhere).trans' W4.fr (fun _ _ _ h => h) (fun b o hb hz => by have h1 := hz.1; omega)
    replace hI := hI.box hf4
    replace hT := hT.keep hf4 (fun _ _ _ => nw)
    replace hk := hk.fr hf4 (fun _ _ _ => nw)
    replace hA := hA.fr hf4 (fun _ _ _ _ => nw)
    have hSZ : ∀ b,S b → ¬ Z b := fun b hs hz => (hZ b hz).2.1 hs
    have hSlt := hT.lt
    have k0 : cl H4 H2.size 0 = some (.int .i64 y.1) := W4.all 0 _ rfl
    have k1 : Rd H4 H2.size 1 (EJ.enc y.2) := fun i v hv => by
      have h := W4.all (1 + i) v (by rw [← hv,Nat.add_comm]; rfl)
      rwa [Nat.zero_add] at h
    clear hr hu m7 M3
    refine ⟨trivial,?_⟩
    refine Pl.fin [(0,_),(5,_),(6,_),(8,_),(10,_),(11,_),(12,_),(13,_)] ⟨rfl,rfl,rfl,rfl,rfl,rfl,rfl,rfl,trivial⟩ ?_
    refine Go'.seq ?_
    refine Go'.region [(0,0)] rfl ?_
    refine O.asg rfl rfl rfl rfl rfl ?_
    refine Pl.fin [(0,_),(5,_),(6,_),(8,_),(9,_),(10,_),(11,_),(12,_),(13,_)] ⟨rfl,rfl,rfl,rfl,rfl,rfl,rfl,rfl,rfl,trivial⟩ ?_
    refine Go'.seq ?_
    refine Go'.seq ?_
    refine Go'.region [(0,0),(1,1)] rfl ?_
    refine O.faz rfl rfl rfl rfl ⟨_,_,_,underlying65,rfl,rfl,sizeOf3⟩ rfl ?_
    refine O.ld rfl rfl rfl (fun w => ⟨isAgg3 w,sizeOf3 w⟩) rfl k0 ?_
    refine Pl.fin [(0,_),(5,_),(6,_),(8,_),(9,_),(10,_),(11,_),(12,_),(13,_),(17,_)] ⟨rfl,rfl,rfl,rfl,rfl,rfl,rfl,rfl,rfl,rfl,trivial⟩ ?_
    refine Go'.block ?_
    refine Go'.seq ?_
    refine Go'.cut3 (σ := Bool × Option Nat) (fun s H' => ItPH H4 H' it tr mt Z r l (.pointer (some ⟨hb,0,none⟩)) (fun b => b = hb) s.2 ∧ Pl.Res OI l y (Pl.itRun OI l (ms.take j)).1 s.1 s.2) (fun s => [(0,.pointer (some ⟨it,0,none⟩)),(5,.pointer (some ⟨hb,0,none⟩)),(6,sv),(9,.bool s.1),(10,.slice (some ⟨b,o,none⟩) ms.length c),(11,.int .i64 (ms.length : Int)),(12,.int .i64 (j : Int))]) ?_ ?_
    · rintro ⟨ok,st2⟩ H5 ⟨⟨hk5,sk5,sa5,se5,Z5,fr5,kv5,hI5,hS5,hzz⟩,hres⟩
      simp only at hres hS5
      have hs5 := hI5.f.size
      have hitlt := cl_lt hI.c0
      have hkv5 : ∀ q,st2 = some q → l[q]? = kv5 := fun q e => by subst e; have h := hS5.2.1; cases kv5 with | none => exact h.elim | some y => exact h
      have hT5 := hT.keep hI5.f (fun b o hs hz => hz.elim (fun e => hsi (e ▸ hs)) (fun h => h.elim (hSZ b hs) (hkS b hs)))
      have hA5 := hA.fr hI5.f (fun b o hb hz hx => hx.elim (fun e => (hZo b hz).2.2.2.2.1 e) (fun h => h.elim (hZo b hz).2.2.2.1 (hZo b hz).2.2.2.2.2))
      have hF5 : Fr nowhere H0 H5 := (hF.trans hf4).trans' hI5.f (fun _ _ _ h => h) (fun b o hb hz => hz.elim (fun e => by omega) (fun h => h.elim (fun h => by have := (hZ b h).1; omega) (fun h => by omega)))
      replace hI5 := hI5.re
      have hzl5 := hI5.zl
      refine Go'.seq ?_
      cases ok
      · skip
        refine Go'.region [(0,0)] rfl ?_
        refine O.mv rfl rfl rfl rfl rfl ?_
        refine Pl.fin [(0,_),(5,_),(6,_),(9,_),(10,_),(11,_),(12,_),(46,_)] ⟨rfl,rfl,rfl,rfl,rfl,rfl,rfl,rfl,trivial⟩ ?_
        refine Go'.condF rfl ?_
        refine Go'.region [(0,0),(1,0),(2,2),(3,2),(4,0)] rfl ?_
        refine O.mv rfl rfl rfl rfl rfl ?_
        refine O.bld (cs := (fvs none)) rfl rfl rfl rfl (st44) rfl (by kernel_rfl) ?_
        refine O.bsl (cs := (fvs (none : Option (Int × Int)))) rfl rfl rfl ⟨underlying48,sizeOf44,zeroValue44,⟨_,typeInfo44,rfl⟩,rfl,by decide,by decide⟩ rfl (by decide) (by kernel_rfl) ?_
        intro H7 M7
        have hs7 := M7.size
        replace hI5 := hI5.box (M7.fr nowhere)
        replace hT5 := hT5.keep (M7.fr nowhere) (fun _ _ _ => nw)
        replace hk5 := hk5.fr (M7.fr nowhere) (fun _ _ _ => nw)
        replace hA5 := hA5.fr (M7.fr nowhere) (fun _ _ _ _ => nw)
        have m5 : Rd H7 H5.size 0 (row EF [okO false kv5]) := M7.rd _ [] (by simp [row,EF,okO])
        refine ⟨trivial,?_⟩
        refine O.appA (E := EF) (Y := [okO false kv5]) rfl rfl rfl ⟨underlying48,sizeOf44,zeroValue44,⟨_,typeInfo44,rfl⟩,rfl,by decide,by decide⟩ rfl hA5 rfl ⟨_,_,_,rfl,m5⟩ (Nat.succ_pos _) (Nat.le_trans (Nat.mul_le_mul_left _ (Nat.le_of_ble_eq_true (n := _) (m := 4096) rfl)) (by rw [hlo]; simp only [List.length_cons,List.length_nil]; omega)) (by rw [hlo]; simp only [List.length_cons,List.length_nil]; omega) ?_
        intro v8 H8 hA8 hF8 hs8
        have hg8 := hF8.size
        have hzne : ∀ b,Zo b → ¬ Z5 b := fun b hb hz => (hzz b hz).elim (hZo b hb).2.2.2.1 (fun h => by have := (hZo b hb).2.1; omega)
        have hI8 := hI5.away hF8 (fun b o hz hb => hz.elim (fun e => (hZo b hb).2.2.2.2.1 e) (hzne b hb))
        have hT8 := hT5.keep hF8 (fun b o hs hb => (hZo b hb).2.2.1 hs)
        have hk8 := hk5.fr hF8 (fun b o hb hb2 => (hZo b hb2).2.2.2.2.2 hb)
        refine ⟨trivial,?_⟩
        refine O.asg rfl rfl rfl rfl rfl ?_
        refine Pl.fin [(0,_),(5,_),(6,_),(9,_),(10,_),(11,_),(12,_),(46,_)] ⟨rfl,rfl,rfl,rfl,rfl,rfl,rfl,rfl,trivial⟩ ?_
        refine Go'.inBlock ?_
        refine Go'.region [(0,0),(1,0)] rfl ?_
        refine O.add (((j + 1 : Nat) : Int)) rfl rfl rfl rfl rfl rfl (by omega) (by omega) ?_
        refine O.mv rfl rfl rfl rfl rfl ?_
        refine Pl.fin [(0,_),(5,_),(6,_),(9,_),(10,_),(11,_),(12,_),(46,_)] ⟨rfl,rfl,rfl,rfl,rfl,rfl,rfl,rfl,trivial⟩ ?_
        refine Go'.keep [(0,_),(5,_),(6,_),(10,_),(11,_),(12,_)] ⟨rfl,rfl,rfl,rfl,rfl,rfl,trivial⟩ ?_
        refine Go'.inLoop ?_
        exact ih (j + 1,v8) H8 ⟨(hF5.trans (M7.fr nowhere)).trans' hF8 (fun _ _ _ h => h) (fun b o hb hz => by have := (hZo b hz).1; omega),hlt,by first | omega | (simp only; omega),hk8,sk5,sa5,se5,_,fr5,kv5,st2,(fun b => Zo b ∨ (b = H7.size ∧ b < H8.size)),outs ++ [okO false kv5],hI8,hS5,hT8,
          fun b hb => (hzz b hb).elim (hZ b) (fun h => ⟨by omega,fun hs => by have := hSlt b hs; omega,by omega⟩),
          fun q hq => hres.sim q (by rw [← hq,erun]; rfl),hA8,
          fun b hb => hb.elim (fun h => have h1 := hZo b h; ⟨h1.1,by have := h1.2.1; omega,h1.2.2.1,hzne b h,h1.2.2.2.2⟩) (fun h => ⟨by omega,h.2,fun hs => by have := hSlt b hs; omega,fun hz => by have := hzl5 b hz; omega,by omega,by omega⟩),by
            simp only
            rw [erun]
            exact hag.snoc (fun ht => resOutO hres hkv5 ht)⟩ (by simp only; omega)
      · skip
        refine Go'.region [(0,0)] rfl ?_
        refine O.mv rfl rfl rfl rfl rfl ?_
        refine Pl.fin [(0,_),(5,_),(6,_),(9,_),(10,_),(11,_),(12,_),(46,_)] ⟨rfl,rfl,rfl,rfl,rfl,rfl,rfl,rfl,trivial⟩ ?_
        refine Go'.condT rfl ?_
        refine Go'.region [(0,0),(1,0),(2,2),(3,2),(4,2),(5,2),(6,0)] rfl ?_
        refine O.mv rfl rfl rfl rfl rfl ?_
        refine O.mv rfl rfl rfl rfl rfl ?_
        refine O.callQ rfl rfl rfl call82 rfl (wItem_spec hI5.kv) trivial ?_
        refine O.call rfl rfl rfl call56 rfl (foundAny_spec _) ?_
        rintro _ H6 ⟨rfl,hF6⟩
        have hs6 := hF6.size
        rw [FVe]
        replace hI5 := hI5.box hF6
        replace hT5 := hT5.keep hF6 (fun _ _ _ => nw)
        replace hk5 := hk5.fr hF6 (fun _ _ _ => nw)
        replace hA5 := hA5.fr hF6 (fun _ _ _ _ => nw)
        refine ⟨trivial,?_⟩
        refine O.bsl (cs := (fvs kv5)) rfl rfl rfl ⟨underlying48,sizeOf44,zeroValue44,⟨_,typeInfo44,rfl⟩,rfl,by decide,by decide⟩ rfl (by decide) (by cases kv5 <;> kernel_rfl) ?_
        intro H7 M7
        have hs7 := M7.size
        replace hI5 := hI5.box (M7.fr nowhere)
        replace hT5 := hT5.keep (M7.fr nowhere) (fun _ _ _ => nw)
        replace hk5 := hk5.fr (M7.fr nowhere) (fun _ _ _ => nw)
        replace hA5 := hA5.fr (M7.fr nowhere) (fun _ _ _ _ => nw)
        have m5 : Rd H7 H6.size 0 (row EF [okO true kv5]) := M7.rd _ [] (by simp [row,EF,okO])
        refine ⟨trivial,?_⟩
        refine O.appA (E := EF) (Y := [okO true kv5]) rfl rfl rfl ⟨underlying48,sizeOf44,zeroValue44,⟨_,typeInfo44,rfl⟩,rfl,by decide,by decide⟩ rfl hA5 rfl ⟨_,_,_,rfl,m5⟩ (Nat.succ_pos _) (Nat.le_trans (Nat.mul_le_mul_left _ (Nat.le_of_ble_eq_true (n := _) (m := 4096) rfl)) (by rw [hlo]; simp only [List.length_cons,List.length_nil]; omega)) (by rw [hlo]; simp only [List.length_cons,List.length_nil]; omega) ?_
        intro v8 H8 hA8 hF8 hs8
        have hg8 := hF8.size
        have hzne : ∀ b,Zo b → ¬ Z5 b := fun b hb hz => (hzz b hz).elim (hZo b hb).2.2.2.1 (fun h => by have := (hZo b hb).2.1; omega)
        have hI8 := hI5.away hF8 (fun b o hz hb => hz.elim (fun e => (hZo b hb).2.2.2.2.1 e) (hzne b hb))
        have hT8 := hT5.keep hF8 (fun b o hs hb => (hZo b hb).2.2.1 hs)
        have hk8 := hk5.fr hF8 (fun b o hb hb2 => (hZo b hb2).2.2.2.2.2 hb)
        refine ⟨trivial,?_⟩
        refine O.asg rfl rfl rfl rfl rfl ?_
        refine Pl.fin [(0,_),(5,_),(6,_),(9,_),(10,_),(11,_),(12,_),(46,_)] ⟨rfl,rfl,rfl,rfl,rfl,rfl,rfl,rfl,trivial⟩ ?_
        refine Go'.inBlock ?_
        refine Go'.region [(0,0),(1,0)] rfl ?_
        refine O.add (((j + 1 : Nat) : Int)) rfl rfl rfl rfl rfl rfl (by omega) (by omega) ?_
        refine O.mv rfl rfl rfl rfl rfl ?_
        refine Pl.fin [(0,_),(5,_),(6,_),(9,_),(10,_),(11,_),(12,_),(46,_)] ⟨rfl,rfl,rfl,rfl,rfl,rfl,rfl,rfl,trivial⟩ ?_
        refine Go'.keep [(0,_),(5,_),(6,_),(10,_),(11,_),(12,_)] ⟨rfl,rfl,rfl,rfl,rfl,rfl,trivial⟩ ?_
        refine Go'.inLoop ?_
        exact ih (j + 1,v8) H8 ⟨((hF5.trans hF6).trans (M7.fr nowhere)).trans' hF8 (fun _ _ _ h => h) (fun b o hb hz => by have := (hZo b hz).1; omega),hlt,by first | omega | (simp only; omega),hk8,sk5,sa5,se5,_,fr5,kv5,st2,(fun b => Zo b ∨ (b = H7.size ∧ b < H8.size)),outs ++ [okO true kv5],hI8,hS5,hT8,
          fun b hb => (hzz b hb).elim (hZ b) (fun h => ⟨by omega,fun hs => by have := hSlt b hs; omega,by omega⟩),
          fun q hq => hres.sim q (by rw [← hq,erun]; rfl),hA8,
          fun b hb => hb.elim (fun h => have h1 := hZo b h; ⟨h1.1,by have := h1.2.1; omega,h1.2.2.1,hzne b h,h1.2.2.2.2⟩) (fun h => ⟨by omega,h.2,fun hs => by have := hSlt b hs; omega,fun hz => by have := hzl5 b hz; omega,by omega,by omega⟩),by
            simp only
            rw [erun]
            exact hag.snoc (fun ht => resOutO hres hkv5 ht)⟩ (by simp only; omega)
    · intro tail
      by_cases h1 : y.1 = 1
      · skip
        refine Go'.region [(0,0),(1,0)] rfl ?_
        refine O.cmp rfl rfl rfl rfl rfl rfl (eqlT (by omega)) ?_
        refine O.asg rfl rfl rfl rfl rfl ?_
        refine Pl.fin [(0,_),(5,_),(6,_),(8,_),(9,_),(10,_),(11,_),(12,_),(13,_),(17,_),(20,_)] ⟨rfl,rfl,rfl,rfl,rfl,rfl,rfl,rfl,rfl,rfl,rfl,trivial⟩ ?_
        refine Go'.condT rfl ?_
        refine Go'.region [(0,0),(1,2),(2,0)] rfl ?_
        refine O.mv rfl rfl rfl rfl rfl ?_
        refine O.call rfl rfl rfl call92 rfl (wLast_spec hI hT hsi hSZ) ?_
        rintro _ H5 ⟨rfl,hp⟩
        refine ⟨trivial,?_⟩
        refine O.asg rfl rfl rfl rfl rfl ?_
        refine Pl.fin [(0,_),(5,_),(6,_),(8,_),(9,_),(10,_),(11,_),(12,_),(13,_),(17,_),(20,_)] ⟨rfl,rfl,rfl,rfl,rfl,rfl,rfl,rfl,rfl,rfl,rfl,trivial⟩ ?_
        refine Go'.inBlock ?_
        refine Go'.keep [(0,_),(5,_),(6,_),(9,_),(10,_),(11,_),(12,_)] ⟨rfl,rfl,rfl,rfl,rfl,rfl,rfl,trivial⟩ ?_
        exact tail (_,_) _ ⟨hp.ph hk (fun e => hki e) (fun b h e => (hZ b h).2.2 e),Pl.Res.last h1⟩
      refine Go'.region [(0,0),(1,0)] rfl ?_
      refine O.cmp rfl rfl rfl rfl rfl rfl (eqlF (by omega)) ?_
      refine O.asg rfl rfl rfl rfl rfl ?_
      refine Pl.fin [(0,_),(5,_),(6,_),(8,_),(9,_),(10,_),(11,_),(12,_),(13,_),(17,_),(20,_)] ⟨rfl,rfl,rfl,rfl,rfl,rfl,rfl,rfl,rfl,rfl,rfl,trivial⟩ ?_
      refine Go'.condF rfl ?_
      refine Go'.seq ?_
      by_cases h2 : y.1 = 2
      · skip
        refine Go'.region [(0,0),(1,0)] rfl ?_
        refine O.cmp rfl rfl rfl rfl rfl rfl (eqlT (by omega)) ?_
        refine O.asg rfl rfl rfl rfl rfl ?_
        refine Pl.fin [(0,_),(5,_),(6,_),(8,_),(9,_),(10,_),(11,_),(12,_),(13,_),(17,_),(20,_),(24,_)] ⟨rfl,rfl,rfl,rfl,rfl,rfl,rfl,rfl,rfl,rfl,rfl,rfl,trivial⟩ ?_
        refine Go'.condT rfl ?_
        refine Go'.region [(0,0),(1,2),(2,0)] rfl ?_
        refine O.mv rfl rfl rfl rfl rfl ?_
        refine O.call rfl rfl rfl call93 rfl (wNext_spec hI hT hsi hSZ hSt) ?_
        rintro _ H5 ⟨ok,st2,rfl,hp,hq,hn⟩
        refine ⟨trivial,?_⟩
        refine O.asg rfl rfl rfl rfl rfl ?_
        refine Pl.fin [(0,_),(5,_),(6,_),(8,_),(9,_),(10,_),(11,_),(12,_),(13,_),(17,_),(20,_),(24,_)] ⟨rfl,rfl,rfl,rfl,rfl,rfl,rfl,rfl,rfl,rfl,rfl,rfl,trivial⟩ ?_
        refine Go'.inBlock ?_
        refine Go'.keep [(0,_),(5,_),(6,_),(9,_),(10,_),(11,_),(12,_)] ⟨rfl,rfl,rfl,rfl,rfl,rfl,rfl,trivial⟩ ?_
        exact tail (_,_) _ ⟨hp.ph hk (fun e => hki e) (fun b h e => (hZ b h).2.2 e),Pl.Res.next h2 hsim hq hn⟩
      refine Go'.region [(0,0),(1,0)] rfl ?_
      refine O.cmp rfl rfl rfl rfl rfl rfl (eqlF (by omega)) ?_
      refine O.asg rfl rfl rfl rfl rfl ?_
      refine Pl.fin [(0,_),(5,_),(6,_),(8,_),(9,_),(10,_),(11,_),(12,_),(13,_),(17,_),(20,_),(24,_)] ⟨rfl,rfl,rfl,rfl,rfl,rfl,rfl,rfl,rfl,rfl,rfl,rfl,trivial⟩ ?_
      refine Go'.condF rfl ?_
      refine Go'.seq ?_
      by_cases h3 : y.1 = 3
      · skip
        refine Go'.region [(0,0),(1,0)] rfl ?_
        refine O.cmp rfl rfl rfl rfl rfl rfl (eqlT (by omega)) ?_
        refine O.asg rfl rfl rfl rfl rfl ?_
        refine Pl.fin [(0,_),(5,_),(6,_),(8,_),(9,_),(10,_),(11,_),(12,_),(13,_),(17,_),(20,_),(24,_),(28,_)] ⟨rfl,rfl,rfl,rfl,rfl,rfl,rfl,rfl,rfl,rfl,rfl,rfl,rfl,trivial⟩ ?_
        refine Go'.condT rfl ?_
        refine Go'.region [(0,0),(1,2),(2,0)] rfl ?_
        refine O.mv rfl rfl rfl rfl rfl ?_
        refine O.call rfl rfl rfl call94 rfl (wPrev_spec hI hT hsi hSZ hSt) ?_
        rintro _ H5 ⟨ok,st2,rfl,hp,hq,hn⟩
        refine ⟨trivial,?_⟩
        refine O.asg rfl rfl rfl rfl rfl ?_
        refine Pl.fin [(0,_),(5,_),(6,_),(8,_),(9,_),(10,_),(11,_),(12,_),(13,_),(17,_),(20,_),(24,_),(28,_)] ⟨rfl,rfl,rfl,rfl,rfl,rfl,rfl,rfl,rfl,rfl,rfl,rfl,rfl,trivial⟩ ?_
        refine Go'.inBlock ?_
        refine Go'.keep [(0,_),(5,_),(6,_),(9,_),(10,_),(11,_),(12,_)] ⟨rfl,rfl,rfl,rfl,rfl,rfl,rfl,trivial⟩ ?_
        exact tail (_,_) _ ⟨hp.ph hk (fun e => hki e) (fun b h e => (hZ b h).2.2 e),Pl.Res.prev h3 (fun q h => Pl.itRun_lt OI l _ h) hsim hq hn⟩
      refine Go'.region [(0,0),(1,0)] rfl ?_
      refine O.cmp rfl rfl rfl rfl rfl rfl (eqlF (by omega)) ?_
      refine O.asg rfl rfl rfl rfl rfl ?_
      refine Pl.fin [(0,_),(5,_),(6,_),(8,_),(9,_),(10,_),(11,_),(12,_),(13,_),(17,_),(20,_),(24,_),(28,_)] ⟨rfl,rfl,rfl,rfl,rfl,rfl,rfl,rfl,rfl,rfl,rfl,rfl,rfl,trivial⟩ ?_
      refine Go'.condF rfl ?_
      refine Go'.seq ?_
      by_cases h4 : y.1 = 4
      · skip
        refine Go'.region [(0,0),(1,0)] rfl ?_
        refine O.cmp rfl rfl rfl rfl rfl rfl (eqlT (by omega)) ?_
        refine O.asg rfl rfl rfl rfl rfl ?_
        refine Pl.fin [(0,_),(5,_),(6,_),(8,_),(9,_),(10,_),(11,_),(12,_),(13,_),(17,_),(20,_),(24,_),(28,_),(32,_)] ⟨rfl,rfl,rfl,rfl,rfl,rfl,rfl,rfl,rfl,rfl,rfl,rfl,rfl,rfl,trivial⟩ ?_
        refine Go'.condT rfl ?_
        refine Go'.region [(0,0),(1,0),(2,1),(3,0),(4,2),(5,0)] rfl ?_
        refine O.mv rfl rfl rfl rfl rfl ?_
        refine O.fa0 (off := 1) rfl rfl rfl rfl ⟨_,_,_,underlying65,rfl,rfl,sizeOf35⟩ rfl ?_
        refine O.lds rfl rfl rfl (fun w => ⟨isAgg35 w,sizeOf35 w⟩) rfl rfl k1 ?_
        refine O.mki rfl rfl rfl rfl underlying35 rfl rfl ?_
        refine O.call rfl rfl rfl call81 rfl (wSeek_spec hP hI hT hsi hSZ hsrt y.2) ?_
        rintro _ H5 ⟨rfl,hp⟩
        refine ⟨trivial,?_⟩
        refine O.asg rfl rfl rfl rfl rfl ?_
        refine Pl.fin [(0,_),(5,_),(6,_),(8,_),(9,_),(10,_),(11,_),(12,_),(13,_),(17,_),(20,_),(24,_),(28,_),(32,_)] ⟨rfl,rfl,rfl,rfl,rfl,rfl,rfl,rfl,rfl,rfl,rfl,rfl,rfl,rfl,trivial⟩ ?_
        refine Go'.inBlock ?_
        refine Go'.keep [(0,_),(5,_),(6,_),(9,_),(10,_),(11,_),(12,_)] ⟨rfl,rfl,rfl,rfl,rfl,rfl,rfl,trivial⟩ ?_
        exact tail (_,_) _ ⟨hp.ph hk (fun e => hki e) (fun b h e => (hZ b h).2.2 e),Pl.Res.seek (.inl h4)⟩
      refine Go'.region [(0,0),(1,0)] rfl ?_
      refine O.cmp rfl rfl rfl rfl rfl rfl (eqlF (by omega)) ?_
      refine O.asg rfl rfl rfl rfl rfl ?_
      refine Pl.fin [(0,_),(5,_),(6,_),(8,_),(9,_),(10,_),(11,_),(12,_),(13,_),(17,_),(20,_),(24,_),(28,_),(32,_)] ⟨rfl,rfl,rfl,rfl,rfl,rfl,rfl,rfl,rfl,rfl,rfl,rfl,rfl,rfl,trivial⟩ ?_
      refine Go'.condF rfl ?_
      refine Go'.seq ?_
      by_cases h5 : y.1 = 5
      · skip
        refine Go'.region [(0,0),(1,0)] rfl ?_
        refine O.cmp rfl rfl rfl rfl rfl rfl (eqlT (by omega)) ?_
        refine O.asg rfl rfl rfl rfl rfl ?_
        refine Pl.fin [(0,_),(5,_),(6,_),(8,_),(9,_),(10,_),(11,_),(12,_),(13,_),(17,_),(20,_),(24,_),(28,_),(32,_),(39,_)] ⟨rfl,rfl,rfl,rfl,rfl,rfl,rfl,rfl,rfl,rfl,rfl,rfl,rfl,rfl,rfl,trivial⟩ ?_
        refine Go'.condT rfl ?_
        refine Go'.region [(0,0),(1,0),(2,1),(3,0),(4,2),(5,0)] rfl ?_
        refine O.mv rfl rfl rfl rfl rfl ?_
        refine O.fa0 (off := 1) rfl rfl rfl rfl ⟨_,_,_,underlying65,rfl,rfl,sizeOf35⟩ rfl ?_
        refine O.lds rfl rfl rfl (fun w => ⟨isAgg35 w,sizeOf35 w⟩) rfl rfl k1 ?_
        refine O.mki rfl rfl rfl rfl underlying35 rfl rfl ?_
        refine O.call rfl rfl rfl call95 rfl (wSeekHint_spec hP hI hT hsi hSZ hsrt y.2 hk (fun b h hs => hkS b hs h) (fun e => hki e) (fun b h e => (hZ b h).2.2 e)) ?_
        rintro _ H5 ⟨rfl,hp⟩
        refine ⟨trivial,?_⟩
        refine O.asg rfl rfl rfl rfl rfl ?_
        refine Pl.fin [(0,_),(5,_),(6,_),(8,_),(9,_),(10,_),(11,_),(12,_),(13,_),(17,_),(20,_),(24,_),(28,_),(32,_),(39,_)] ⟨rfl,rfl,rfl,rfl,rfl,rfl,rfl,rfl,rfl,rfl,rfl,rfl,rfl,rfl,rfl,trivial⟩ ?_
        refine Go'.inBlock ?_
        refine Go'.keep [(0,_),(5,_),(6,_),(9,_),(10,_),(11,_),(12,_)] ⟨rfl,rfl,rfl,rfl,rfl,rfl,rfl,trivial⟩ ?_
        exact tail (_,_) _ ⟨hp,Pl.Res.seek (.inr h5)⟩
      refine Go'.region [(0,0),(1,0)] rfl ?_
      refine O.cmp rfl rfl rfl rfl rfl rfl (eqlF (by omega)) ?_
      refine O.asg rfl rfl rfl rfl rfl ?_
      refine Pl.fin [(0,_),(5,_),(6,_),(8,_),(9,_),(10,_),(11,_),(12,_),(13,_),(17,_),(20,_),(24,_),(28,_),(32,_),(39,_)] ⟨rfl,rfl,rfl,rfl,rfl,rfl,rfl,rfl,rfl,rfl,rfl,rfl,rfl,rfl,rfl,trivial⟩ ?_
      refine Go'.condF rfl ?_
      skip
      refine Go'.region [(0,0),(1,2),(2,0)] rfl ?_
      refine O.mv rfl rfl rfl rfl rfl ?_
      refine O.call rfl rfl rfl call96 rfl (wFirst_spec hI hT hsi hSZ) ?_
      rintro _ H5 ⟨rfl,hp⟩
      refine ⟨trivial,?_⟩
      refine O.asg rfl rfl rfl rfl rfl ?_
      refine Pl.fin [(0,_),(5,_),(6,_),(8,_),(9,_),(10,_),(11,_),(12,_),(13,_),(17,_),(20,_),(24,_),(28,_),(32,_),(39,_)] ⟨rfl,rfl,rfl,rfl,rfl,rfl,rfl,rfl,rfl,rfl,rfl,rfl,rfl,rfl,rfl,trivial⟩ ?_
      refine Go'.inBlock ?_
      refine Go'.keep [(0,_),(5,_),(6,_),(9,_),(10,_),(11,_),(12,_)] ⟨rfl,rfl,rfl,rfl,rfl,rfl,rfl,trivial⟩ ?_
      exact tail (_,_) _ ⟨hp.ph hk (fun e => hki e) (fun b h e => (hZ b h).2.2 e),Pl.Res.first h1 h2 h3 h4 h5⟩
  · skip
    obtain rfl : j = ms.length := by omega
    rw [List.take_length] at hag
    refine Go'.region [(0,0)] rfl ?_
    refine O.cmp rfl rfl rfl rfl rfl rfl (lssF (by omega)) ?_
    refine Pl.fin [(0,_),(5,_),(6,_),(10,_),(11,_),(12,_),(13,_)] ⟨rfl,rfl,rfl,rfl,rfl,rfl,rfl,trivial⟩ ?_
    refine Go'.seq ?_
    refine Go'.condF rfl ?_
    refine Go'.exit rfl ?_
    refine Go'.seq ?_
    refine Go'.region [(0,0),(1,0)] rfl ?_
    refine O.mv rfl rfl rfl rfl rfl ?_
    refine O.asg rfl rfl rfl rfl rfl ?_
    refine Pl.fin [(4,_)] ⟨rfl,trivial⟩ ?_
    refine Go'.ret (vs := [_]) func71 results71 ⟨rfl,trivial⟩ ?_
    exact ⟨outs,Zo,hA,fun b h => (hZo b h).2.2.2.2.1,hag,hF,_,_,_,_,_,_,hI⟩

end
end Go.Bt.FB
