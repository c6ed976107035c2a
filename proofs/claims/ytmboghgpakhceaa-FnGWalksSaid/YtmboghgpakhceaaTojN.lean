/- Contracts of functions of the program, proved by walking through their code. Conditions: those that each theorem names. -/
import Derived.Test.YtmboghgpakhceaaToiI
import Derived.Test.YtmboghgpakhceaaTogV
import Derived.Test.YtmboghgpakhceaaTojM
import Derived.Test.YtmboghgpakhceaaTogM
namespace Go.Bt.FG
open Go Go.Proofs Go.Proofs.Try
set_option maxRecDepth 20000
set_option maxHeartbeats 4000000
set_option linter.unusedVariables false
set_option linter.unusedSectionVars false

end Go.Bt.FG
namespace Go.Bt.FG
open Go Go.Proofs Go.Proofs.Try
set_option maxRecDepth 20000
set_option maxHeartbeats 4000000
set_option linter.unusedVariables false
set_option linter.unusedSectionVars false

theorem firstN_0 {α : Type} (m : List α) : firstN m 0 = m := by unfold firstN; simp

end Go.Bt.FG
namespace Go.Bt.FG
open Go Go.Proofs Go.Proofs.Try
set_option maxRecDepth 20000
set_option maxHeartbeats 4000000
set_option linter.unusedVariables false
set_option linter.unusedSectionVars false

/-- What the taker of lists keeps: how many at most,and the list so far. -/
structure TkW (b2 b3 D : Nat) (n : Int) (acc : List (Option Addr × Nat × Nat)) (Z : Nat → Prop) (H : Mem) : Prop where
  c2 : cl H b2 0 = some (ptr D)
  c3 : cl H b3 0 = some (.int .i64 n)
  wr : Wr H D 0 1
  z2 : Z b2
  z3 : Z b3
  zD : Z D
  n2 : b2 ≠ D
  n3 : b3 ≠ D
  lt : ∀ b,Z b → b < H.size
  sl : ∃ sv Zo,cl H D 0 = some sv ∧ Acc SI.ESl Zo H sv acc ∧ ∀ b,Zo b → Z b ∧ b ≠ D ∧ b ≠ b2 ∧ b ≠ b3
theorem TkW.fr {b2 b3 D : Nat} {n : Int} {acc : List (Option Addr × Nat × Nat)} {Z : Nat → Prop} {H H' : Mem} {Y : Nat → Nat → Prop} (h : TkW b2 b3 D n acc Z H) (hf : Fr Y H H') (hy : ∀ b o,Z b → ¬ Y b o) : TkW b2 b3 D n acc Z H' where
  c2 := hf.keep h.c2 (hy _ _ h.z2)
  c3 := hf.keep h.c3 (hy _ _ h.z3)
  wr := hf.wr h.wr
  z2 := h.z2
  z3 := h.z3
  zD := h.zD
  n2 := h.n2
  n3 := h.n3
  lt := fun b hb => Nat.lt_of_lt_of_le (h.lt b hb) hf.size
  sl := have ⟨sv,Zo,k,hs,hz⟩ := h.sl; ⟨sv,Zo,hf.keep k (hy _ _ h.zD),hs.fr hf (fun b o _ hb => hy _ _ (hz b hb).1),hz⟩
/-- Lists in own blocks. -/
def AccL (Z : Nat → Prop) (H : Mem) : List (Option Addr × Nat × Nat) → List (List (Int × Int)) → Prop
  | [],[] => True
  | u :: us,l :: ls => Acc EJ Z H (.slice u.1 u.2.1 u.2.2) l ∧ AccL Z H us ls
  | _,_ => False
theorem AccL.fr {Z : Nat → Prop} {X : Nat → Nat → Prop} {H H' : Mem} (hf : Fr X H H') (hz : ∀ b o,Z b → ¬ X b o) : ∀ {us : List (Option Addr × Nat × Nat)} {ls : List (List (Int × Int))},AccL Z H us ls → AccL Z H' us ls
  | [],[],_ => trivial
  | _ :: _,_ :: _,h => ⟨h.1.fr hf (fun b o _ hb => hz b o hb),AccL.fr hf hz h.2⟩
  | [],_ :: _,h => h.elim
  | _ :: _,[],h => h.elim
theorem AccL.mono {Z Y : Nat → Prop} {H : Mem} (hz : ∀ b,Z b → Y b) : ∀ {us : List (Option Addr × Nat × Nat)} {ls : List (List (Int × Int))},AccL Z H us ls → AccL Y H us ls
  | [],[],_ => trivial
  | _ :: _,_ :: _,h => ⟨h.1.mono (fun b _ hb => hz b hb),AccL.mono hz h.2⟩
  | [],_ :: _,h => h.elim
  | _ :: _,[],h => h.elim
theorem AccL.snoc {Z : Nat → Prop} {H : Mem} {u : (Option Addr × Nat × Nat)} {l : List (Int × Int)} (hu : Acc EJ Z H (.slice u.1 u.2.1 u.2.2) l) : ∀ {us : List (Option Addr × Nat × Nat)} {ls : List (List (Int × Int))},AccL Z H us ls → AccL Z H (us ++ [u]) (ls ++ [l])
  | [],[],_ => ⟨hu,trivial⟩
  | _ :: _,_ :: _,h => ⟨h.1,AccL.snoc hu h.2⟩
  | [],_ :: _,h => h.elim
  | _ :: _,[],h => h.elim
theorem AccL.inSS {Z : Nat → Prop} {H : Mem} : ∀ {us : List (Option Addr × Nat × Nat)} {ls : List (List (Int × Int))},AccL Z H us ls → SI.InSS EJ H us ls
  | [],[],_ => trivial
  | _ :: _,_ :: _,h => ⟨h.1.inS,AccL.inSS h.2⟩
  | [],_ :: _,h => h.elim
  | _ :: _,[],h => h.elim
theorem AccL.len {Z : Nat → Prop} {H : Mem} {us : List (Option Addr × Nat × Nat)} {ls : List (List (Int × Int))} (h : AccL Z H us ls) : us.length = ls.length := h.inSS.len
theorem InSS.take {H : Mem} : ∀ {us : List (Option Addr × Nat × Nat)} {ls : List (List (Int × Int))} (m : Nat),SI.InSS EJ H us ls → SI.InSS EJ H (us.take m) (ls.take m)
  | _,_,0,_ => trivial
  | [],[],_ + 1,_ => trivial
  | _ :: _,_ :: _,m + 1,h => ⟨h.1,InSS.take m h.2⟩
  | [],_ :: _,_ + 1,h => h.elim
  | _ :: _,[],_ + 1,h => h.elim
theorem InSS.firstN {H : Mem} {us : List (Option Addr × Nat × Nat)} {ls : List (List (Int × Int))} {n : Int} (h : SI.InSS EJ H us ls) : SI.InSS EJ H (firstN us n) (firstN ls n) := by
  unfold Bt.firstN
  rw [h.len]
  split
  · exact h
  · exact InSS.take _ h

theorem takerW1_spec {B : World} {H : Mem} {b2 b3 D : Nat} {n : Int} {acc : List (Option Addr × Nat × Nat)} {Z : Nat → Prop} {x : (Option Addr × Nat × Nat)} (hT : TkW b2 b3 D n acc Z H) (hl : acc.length < 4294967296) :
    Fn Try.prog B 148 [.slice x.1 x.2.1 x.2.2,ptr b2,ptr b3] H (fun r H' => r = .bool (goN n (acc ++ [x])) ∧ ∃ Z',TkW b2 b3 D n (acc ++ [x]) Z' H' ∧ Fr (fun b _ => Z b) H H' ∧ ∀ b,Z' b → Z b ∨ H.size ≤ b) := by
  unfold ptr
  have hlt := hT.lt
  obtain ⟨c2,c3,hw,z2,z3,zD,n2,n3,lt,sv,Zo,cD,hA,hZo⟩ := hT
  unfold ptr at c2
  have l2 := hlt _ z2
  have l3 := hlt _ z3
  have lD := hlt _ zD
  have hacc1 : (acc ++ [x]).length = acc.length + 1 := by simp
  refine fn_of func148 rfl ntmps148 ?_
  refine (show Go' _ _ _ _ 23 [(0,_),(1,_),(2,_)] [.code _] _ from ?_)
  refine Go'.seq ?_
  refine Go'.region [(0,0)] rfl ?_
  refine O.asg rfl rfl rfl rfl rfl ?_
  refine Pl.fin [(0,_),(1,_),(2,_),(4,_)] ⟨rfl,rfl,rfl,rfl,trivial⟩ ?_
  refine Go'.seq ?_
  refine Go'.draw (fun H' => cl H' b2 0 = some (.pointer (some ⟨D,0,none⟩)) ∧ cl H' D 0 = some sv) [(0,0),(1,0),(2,0),(3,0),(4,0),(5,2),(6,2),(7,0),(8,3)] (by kernel_rfl) (by kernel_rfl) (⟨c2,cD⟩) ?_
  refine O.ldC rfl rfl rfl (fun w => ⟨isAgg113 w,sizeOf113 w⟩) rfl (fun _ h => h.1) ?_
  refine O.ldC rfl rfl rfl (fun w => ⟨isAgg113 w,sizeOf113 w⟩) rfl (fun _ h => h.1) ?_
  refine O.nc rfl rfl rfl rfl rfl ?_
  refine O.ldC rfl rfl rfl (fun w => ⟨isAgg55 w,sizeOf55 w⟩) rfl (fun _ h => h.2) ?_
  refine O.mv rfl rfl rfl rfl rfl ?_
  refine O.bsl (cs := (SI.ESl.enc x)) rfl rfl rfl ⟨underlying55,sizeOf25,zeroValue25,⟨_,typeInfo25,rfl⟩,rfl,by decide,by decide⟩ rfl (by decide) (by kernel_rfl) ?_
  intro H2 M2
  have hs2 := M2.size
  replace c2 := (M2.fr nowhere).keep c2 nw
  replace c3 := (M2.fr nowhere).keep c3 nw
  replace hw := (M2.fr nowhere).wr hw
  replace hA := hA.fr (M2.fr nowhere) (fun _ _ _ _ => nw)
  replace cD := M2.keep cD
  have m2 : Rd H2 H.size 0 (row SI.ESl [x]) := M2.rd _ [] (by simp [row,SI.ESl])
  refine ⟨⟨c2,cD⟩,?_⟩
  refine O.appA (E := SI.ESl) (Y := [x]) rfl rfl rfl ⟨underlying55,sizeOf25,zeroValue25,⟨_,typeInfo25,rfl⟩,rfl,by decide,by decide⟩ rfl hA rfl ⟨_,_,_,rfl,m2⟩ (Nat.succ_pos _) (Nat.le_trans (Nat.mul_le_mul_left _ (Nat.le_of_ble_eq_true (n := _) (m := 4096) rfl)) (by simp only [List.length_cons,List.length_nil]; omega)) (by simp only [List.length_cons,List.length_nil]; omega) ?_
  intro v3 H3 hA3 hF3 hs3
  have hg3 := hF3.size
  replace c2 := hF3.keep c2 (fun hz => (hZo _ hz).2.2.1 rfl)
  replace c3 := hF3.keep c3 (fun hz => (hZo _ hz).2.2.2 rfl)
  replace cD := hF3.keep cD (fun hz => (hZo _ hz).2.1 rfl)
  replace hw := hF3.wr hw
  have hlen3 : ∃ a3 c3',v3 = .slice a3 (acc.length + 1) c3' := by
    obtain ⟨a3,c3',e⟩ := hA3.inS.len
    rw [hacc1] at e
    exact ⟨a3,c3',e⟩
  obtain ⟨a3,c3',rfl⟩ := hlen3
  refine ⟨⟨c2,cD⟩,?_⟩
  refine O.nc rfl rfl rfl rfl rfl ?_
  refine O.st3 rfl rfl sizeOf55 rfl rfl rfl rfl rfl hw ?_
  intro H4 W4
  have hs4 := W4.size
  replace c2 := W4.keep1 c2 (.inl n2)
  replace c3 := W4.keep1 c3 (.inl n3)
  have hA4 := hA3.fr W4.fr (fun b o _ hz => nr (.inl (hz.elim (fun h => (hZo b h).2.1) (fun h => by omega))))
  have cD4 := W4.at
  replace hw := W4.fr.wr hw
  have hF4 : Fr (fun b _ => Z b) H H4 := (((M2.fr nowhere).trans' hF3 (Z := fun b _ => Z b) (fun _ _ _ h => h.elim) (fun b o hb hz => (hZo b hz).1)).trans' W4.fr (fun _ _ _ h => h) (fun b o _ h => by rw [h.1]; exact zD))
  have hgo : goN n (acc ++ [x]) = (decide (n < 1) || decide (((acc.length + 1 : Nat) : Int) < n)) := by unfold goN; rw [hacc1]
  refine Pl.fin [(1,_),(2,_),(4,_)] ⟨rfl,rfl,rfl,trivial⟩ ?_
  refine Go'.seq ?_
  by_cases h1 : n < 1
  · skip
    refine Go'.draw (fun _ => True) [(0,1),(1,0),(2,0),(3,1),(4,0),(5,1),(6,0),(7,1),(8,0),(9,0),(10,0)] (by kernel_rfl) (by kernel_rfl) (trivial) ?_
    refine O.ld rfl rfl rfl (fun w => ⟨isAgg3 w,sizeOf3 w⟩) rfl c3 ?_
    refine O.cmp rfl rfl rfl rfl rfl rfl (lssT (by omega)) ?_
    refine O.mv rfl rfl rfl rfl rfl ?_
    refine Pl.pass rfl rfl rfl rfl ?_
    refine Pl.pass rfl rfl rfl rfl ?_
    refine Pl.pass rfl rfl rfl rfl ?_
    refine Pl.pass rfl rfl rfl rfl ?_
    refine Pl.pass rfl rfl rfl rfl ?_
    refine Pl.pass rfl rfl rfl rfl ?_
    refine O.pick rfl rfl rfl rfl rfl rfl ?_
    refine O.asg rfl rfl rfl rfl rfl ?_
    refine Pl.fin [(4,_)] ⟨rfl,trivial⟩ ?_
    refine Go'.ret (vs := [_]) func148 results148 ⟨rfl,trivial⟩ ?_
    exact ⟨by rw [hgo,decide_eq_true h1]; rfl,fun b => Z b ∨ (H.size ≤ b ∧ b < H4.size),⟨c2,c3,hw,.inl z2,.inl z3,.inl zD,n2,n3,fun b hb => hb.elim (fun h => by have := hlt b h; omega) (fun h => h.2),_,_,cD4,hA4,fun b hb => hb.elim (fun h => have h1 := hZo b h; ⟨.inl h1.1,h1.2⟩) (fun h => ⟨.inr (by omega),by omega,by omega,by omega⟩)⟩,hF4,fun b hb => hb.imp id (fun h => h.1)⟩
  · skip
    by_cases h2 : ((acc.length + 1 : Nat) : Int) < n
    · skip
      refine Go'.draw (fun _ => True) [(0,1),(1,0),(2,0),(3,1),(4,0),(5,1),(6,0),(7,1),(8,0),(9,0),(10,0)] (by kernel_rfl) (by kernel_rfl) (trivial) ?_
      refine O.ld rfl rfl rfl (fun w => ⟨isAgg3 w,sizeOf3 w⟩) rfl c3 ?_
      refine O.cmp rfl rfl rfl rfl rfl rfl (lssF (by omega)) ?_
      refine O.mv rfl rfl rfl rfl rfl ?_
      refine O.ld rfl rfl rfl (fun w => ⟨isAgg113 w,sizeOf113 w⟩) rfl c2 ?_
      refine O.nc rfl rfl rfl rfl rfl ?_
      refine O.ld rfl rfl rfl (fun w => ⟨isAgg55 w,sizeOf55 w⟩) rfl cD4 ?_
      refine O.len rfl rfl rfl rfl underlying55 rfl ?_
      refine O.ld rfl rfl rfl (fun w => ⟨isAgg3 w,sizeOf3 w⟩) rfl c3 ?_
      refine O.cmp rfl rfl rfl rfl rfl rfl (lssT (by omega)) ?_
      refine O.pick rfl rfl rfl rfl rfl rfl ?_
      refine O.asg rfl rfl rfl rfl rfl ?_
      refine Pl.fin [(4,_)] ⟨rfl,trivial⟩ ?_
      refine Go'.ret (vs := [_]) func148 results148 ⟨rfl,trivial⟩ ?_
      exact ⟨by rw [hgo,decide_eq_false h1,decide_eq_true h2]; rfl,fun b => Z b ∨ (H.size ≤ b ∧ b < H4.size),⟨c2,c3,hw,.inl z2,.inl z3,.inl zD,n2,n3,fun b hb => hb.elim (fun h => by have := hlt b h; omega) (fun h => h.2),_,_,cD4,hA4,fun b hb => hb.elim (fun h => have h1 := hZo b h; ⟨.inl h1.1,h1.2⟩) (fun h => ⟨.inr (by omega),by omega,by omega,by omega⟩)⟩,hF4,fun b hb => hb.imp id (fun h => h.1)⟩
    · skip
      refine Go'.draw (fun _ => True) [(0,1),(1,0),(2,0),(3,1),(4,0),(5,1),(6,0),(7,1),(8,0),(9,0),(10,0)] (by kernel_rfl) (by kernel_rfl) (trivial) ?_
      refine O.ld rfl rfl rfl (fun w => ⟨isAgg3 w,sizeOf3 w⟩) rfl c3 ?_
      refine O.cmp rfl rfl rfl rfl rfl rfl (lssF (by omega)) ?_
      refine O.mv rfl rfl rfl rfl rfl ?_
      refine O.ld rfl rfl rfl (fun w => ⟨isAgg113 w,sizeOf113 w⟩) rfl c2 ?_
      refine O.nc rfl rfl rfl rfl rfl ?_
      refine O.ld rfl rfl rfl (fun w => ⟨isAgg55 w,sizeOf55 w⟩) rfl cD4 ?_
      refine O.len rfl rfl rfl rfl underlying55 rfl ?_
      refine O.ld rfl rfl rfl (fun w => ⟨isAgg3 w,sizeOf3 w⟩) rfl c3 ?_
      refine O.cmp rfl rfl rfl rfl rfl rfl (lssF (by omega)) ?_
      refine O.pick rfl rfl rfl rfl rfl rfl ?_
      refine O.asg rfl rfl rfl rfl rfl ?_
      refine Pl.fin [(4,_)] ⟨rfl,trivial⟩ ?_
      refine Go'.ret (vs := [_]) func148 results148 ⟨rfl,trivial⟩ ?_
      exact ⟨by rw [hgo,decide_eq_false h1,decide_eq_false h2]; rfl,fun b => Z b ∨ (H.size ≤ b ∧ b < H4.size),⟨c2,c3,hw,.inl z2,.inl z3,.inl zD,n2,n3,fun b hb => hb.elim (fun h => by have := hlt b h; omega) (fun h => h.2),_,_,cD4,hA4,fun b hb => hb.elim (fun h => have h1 := hZo b h; ⟨.inl h1.1,h1.2⟩) (fun h => ⟨.inr (by omega),by omega,by omega,by omega⟩)⟩,hF4,fun b hb => hb.imp id (fun h => h.1)⟩

theorem takerW_spec {B : World} {H : Mem} {D : Nat} {n : Int} (hD : cl H D 0 = some (.slice none 0 0)) (hw : Wr H D 0 1) :
    Fn Try.prog B 96 [ptr D,.int .i64 n] H (fun r H' => ∃ b2 b3,r = .func (.func 148) #[] #[ptr b2,ptr b3] ∧ TkW b2 b3 D n [] (fun b => b = D ∨ (H.size ≤ b ∧ b < H'.size)) H' ∧ Fr nowhere H H') := by
  have hDl := cl_lt hD
  unfold ptr
  refine fn_of func96 rfl ntmps96 ?_
  refine (show Go' _ _ _ _ 6 [(0,_),(1,_)] [.code _] _ from ?_)
  refine Go'.seq ?_
  refine Go'.region [(0,2),(1,2),(2,0)] rfl ?_
  refine O.box rfl rfl rfl rfl ?_
  intro H1 M1
  refine ⟨trivial,?_⟩
  have hs1 := M1.size
  replace hD := M1.keep hD
  replace hw := (M1.fr nowhere).wr hw
  have c2 : cl H1 H.size 0 = some (ptr D) := (M1.cl 0).trans rfl
  refine O.box rfl rfl rfl rfl ?_
  intro H2 M2
  refine ⟨trivial,?_⟩
  have hs2 := M2.size
  replace hD := M2.keep hD
  replace hw := (M2.fr nowhere).wr hw
  replace c2 := M2.keep c2
  have c3 : cl H2 H1.size 0 = some (.int .i64 n) := (M2.cl 0).trans rfl
  refine O.asg rfl rfl rfl rfl rfl ?_
  refine Pl.fin [(2,_),(3,_),(4,_)] ⟨rfl,rfl,rfl,trivial⟩ ?_
  refine Go'.seq ?_
  refine Go'.region [(0,0),(1,0)] rfl ?_
  refine O.mkf rfl rfl rfl rfl rfl rfl ?_
  refine O.asg rfl rfl rfl rfl rfl ?_
  refine Pl.fin [(4,_)] ⟨rfl,trivial⟩ ?_
  refine Go'.ret (vs := [_]) func96 results96 ⟨rfl,trivial⟩ ?_
  exact ⟨H.size,H1.size,rfl,⟨c2,c3,hw,.inr (by omega),.inr (by omega),.inl rfl,by omega,by omega,fun b hb => hb.elim (fun h => by omega) (fun h => h.2),_,fun _ => False,hD,Acc.nil _ _ _,fun _ h => h.elim⟩,(M1.fr nowhere).trans (M2.fr nowhere)⟩

/-- What the walker's function keeps: the taker,what that one keeps,and the lists. -/
def PrW (tb b2 b3 D : Nat) (n : Int) (acc : List (List (Int × Int))) (Z : Nat → Prop) (H : Mem) : Prop :=
  ∃ Z0 Zc us,TkW b2 b3 D n us Z0 H ∧ AccL Zc H us acc ∧ cl H tb 0 = some (.func (.func 148) #[] #[ptr b2,ptr b3]) ∧ ¬ Z0 tb ∧ (∀ b,Z0 b → Z b) ∧ Z tb ∧ (∀ b,Zc b → Z b ∧ ¬ Z0 b) ∧ ∀ b,Z b → b < H.size
theorem PrW.out {tb b2 b3 D : Nat} {n : Int} {acc : List (List (Int × Int))} {Z : Nat → Prop} {H : Mem} (h : PrW tb b2 b3 D n acc Z H) : ∃ v us,cl H D 0 = some v ∧ OutS SI.ESl H v us ∧ SI.InSS EJ H us acc := by
  obtain ⟨Z0,Zc,us,hT,hL,_⟩ := h
  obtain ⟨sv,Zo,k,hA,_⟩ := hT.sl
  exact ⟨sv,us,k,hA.out,hL.inSS⟩
theorem gwalk1_spec {B : World} {H : Mem} {tb b2 b3 D : Nat} {n : Int} {acc : List (List (Int × Int))} {Z : Nat → Prop} (x : List (Int × Int)) {v : Value} (hx : InS EJ H v x) (hxl : x.length ≤ 4294967296) (hT : PrW tb b2 b3 D n acc Z H) (hl : acc.length < 4294967296) :
    Fn Try.prog B 98 [v,ptr tb] H (fun r H' => r = .bool (goN n (acc ++ [x])) ∧ ∃ Z',PrW tb b2 b3 D n (acc ++ [x]) Z' H' ∧ Fr (fun b _ => Z b) H H' ∧ ∀ b,Z' b → Z b ∨ H.size ≤ b) := by
  obtain ⟨Z0,Zc,us,hT,hL,cp,n0,h0,zp,hc,lt⟩ := hT
  obtain ⟨xa,xc,rfl⟩ := hx.len
  have hul := hL.len
  unfold ptr
  refine fn_of func98 rfl ntmps98 ?_
  refine (show Go' _ _ _ _ 8 [(0,_),(1,_)] [.code _] _ from ?_)
  refine Go'.seq ?_
  refine Go'.region [(0,0)] rfl ?_
  refine O.asg rfl rfl rfl rfl rfl ?_
  refine Pl.fin [(0,_),(1,_),(3,_)] ⟨rfl,rfl,rfl,trivial⟩ ?_
  refine Go'.seq ?_
  refine Go'.draw (fun H' => cl H' tb 0 = some (.func (.func 148) #[] #[ptr b2,ptr b3])) [(0,0),(1,0),(2,2),(3,2),(4,0)] (by kernel_rfl) (by kernel_rfl) (cp) ?_
  refine O.ldC rfl rfl rfl (fun w => ⟨isAgg58 w,sizeOf58 w⟩) rfl (fun _ h => h) ?_
  refine O.mv rfl rfl rfl rfl rfl ?_
  refine O.appAI (E := EJ) rfl rfl rfl ⟨underlying25,sizeOf27,zeroValue27,⟨_,typeInfo27,rfl⟩,rfl,by decide,by decide⟩ rfl (Acc.nil EJ (fun _ => False) _) rfl hx (Nat.le_trans (Nat.mul_le_mul_left _ (Nat.le_of_ble_eq_true (n := _) (m := 4096) rfl)) (by simp only [List.length_cons,List.length_nil]; omega)) (by simp only [List.length_cons,List.length_nil]; omega) ?_
  intro v2 H2 hA2 hF2 hs2
  have hg2 := hF2.size
  replace hF2 : Fr nowhere H H2 := hF2.mono (fun _ _ _ h => h.elim)
  rw [List.nil_append] at hA2
  replace hT := hT.fr hF2 (fun _ _ _ => nw)
  replace hL := hL.fr hF2 (fun _ _ _ => nw)
  replace cp := hF2.keep cp nw
  obtain ⟨a2,m2,c2,rfl⟩ := hA2.form
  refine ⟨cp,?_⟩
  refine O.callC (us := []) (caps := [ptr b2,ptr b3]) rfl rfl rfl rfl call148 rfl (takerW1_spec (x := (a2,m2,c2)) hT (by omega)) ?_
  rintro _ H3 ⟨rfl,Z3,hT3,hF3,hZ3⟩
  have hs3 := hF3.size
  replace cp := hF3.keep cp n0
  refine ⟨cp,?_⟩
  refine O.asg rfl rfl rfl rfl rfl ?_
  refine Pl.fin [(3,_)] ⟨rfl,trivial⟩ ?_
  refine Go'.ret (vs := [_]) func98 results98 ⟨rfl,trivial⟩ ?_
  have ltp := lt tb zp
  have hlt0 : ∀ b,Z0 b → b < H.size := fun b hb => lt b (h0 b hb)
  have e2 : goN n (us ++ [(a2,m2,c2)]) = goN n (acc ++ [x]) := by unfold goN; simp [hul]
  refine ⟨congrArg Value.bool e2,fun b => Z b ∨ (H.size ≤ b ∧ b < H3.size),⟨Z3,fun b => Zc b ∨ (b = H.size ∧ b < H2.size),us ++ [(a2,m2,c2)],hT3,?_,cp,fun h => (hZ3 _ h).elim n0 (fun h => by omega),fun b hb => (hZ3 b hb).elim (fun h => .inl (h0 b h)) (fun h => .inr ⟨by omega,hT3.lt b hb⟩),.inl zp,fun b hb => ?_,fun b hb => hb.elim (fun h => by have := lt b h; omega) (fun h => h.2)⟩,
    hF2.trans' hF3 (fun _ _ _ h => h.elim) (fun b o _ h => h0 b h),fun b hb => hb.imp id (fun h => h.1)⟩
  · have hd : ∀ b,(Zc b ∨ (b = H.size ∧ b < H2.size)) → ¬ Z0 b := fun b hb hz => hb.elim (fun h => (hc b h).2 hz) (fun h => by have := hlt0 b hz; omega)
    exact (AccL.snoc (hA2.mono (fun b _ hb => hb.elim (fun h => h.elim) .inr)) (hL.mono (fun b hb => .inl hb))).fr hF3 (fun b o hb hz => hd b hb hz)
  · rcases hb with hb | hb
    · exact ⟨.inl (hc b hb).1,fun h => (hZ3 b h).elim (hc b hb).2 (fun h => by have := lt b (hc b hb).1; omega)⟩
    · exact ⟨.inr (by omega),fun h => (hZ3 b h).elim (fun h => by have := hlt0 b h; omega) (fun h => by omega)⟩

/-- The function that the tree hands lists to. -/
def cbGWalk (B : World) (tb b2 b3 D : Nat) (n : Int) : Wb Try.prog B 98 [] [ptr tb] (goN n) 4294967296 where
  T := PrW tb b2 b3 D n
  fr := fun ⟨Z0,Zc,us,hT,hL,cp,n0,h0,zp,hc,lt⟩ hf hy => ⟨Z0,Zc,us,hT.fr hf (fun b o hb => hy b o (h0 b hb)),hL.fr hf (fun b o hb => hy b o (hc b hb).1),hf.keep cp (hy _ _ zp),n0,h0,zp,hc,fun b hb => Nat.lt_of_lt_of_le (lt b hb) hf.size⟩
  lt := fun ⟨_,_,_,_,_,_,_,_,_,_,lt⟩ hb => lt _ hb
  call := fun x _ hx hxl hT hl => gwalk1_spec x hx hxl hT hl

theorem gwalkmut1_spec {B : World} {H : Mem} {tb b2 b3 D : Nat} {n : Int} {acc : List (List (Int × Int))} {Z : Nat → Prop} (x : List (Int × Int)) {v : Value} (hx : InS EJ H v x) (hxl : x.length ≤ 4294967296) (hT : PrW tb b2 b3 D n acc Z H) (hl : acc.length < 4294967296) :
    Fn Try.prog B 103 [v,ptr tb] H (fun r H' => r = .bool (goN n (acc ++ [x])) ∧ ∃ Z',PrW tb b2 b3 D n (acc ++ [x]) Z' H' ∧ Fr (fun b _ => Z b) H H' ∧ ∀ b,Z' b → Z b ∨ H.size ≤ b) := by
  obtain ⟨Z0,Zc,us,hT,hL,cp,n0,h0,zp,hc,lt⟩ := hT
  obtain ⟨xa,xc,rfl⟩ := hx.len
  have hul := hL.len
  unfold ptr
  refine fn_of func103 rfl ntmps103 ?_
  refine (show Go' _ _ _ _ 8 [(0,_),(1,_)] [.code _] _ from ?_)
  refine Go'.seq ?_
  refine Go'.region [(0,0)] rfl ?_
  refine O.asg rfl rfl rfl rfl rfl ?_
  refine Pl.fin [(0,_),(1,_),(3,_)] ⟨rfl,rfl,rfl,trivial⟩ ?_
  refine Go'.seq ?_
  refine Go'.draw (fun H' => cl H' tb 0 = some (.func (.func 148) #[] #[ptr b2,ptr b3])) [(0,0),(1,0),(2,2),(3,2),(4,0)] (by kernel_rfl) (by kernel_rfl) (cp) ?_
  refine O.ldC rfl rfl rfl (fun w => ⟨isAgg58 w,sizeOf58 w⟩) rfl (fun _ h => h) ?_
  refine O.mv rfl rfl rfl rfl rfl ?_
  refine O.appAI (E := EJ) rfl rfl rfl ⟨underlying25,sizeOf27,zeroValue27,⟨_,typeInfo27,rfl⟩,rfl,by decide,by decide⟩ rfl (Acc.nil EJ (fun _ => False) _) rfl hx (Nat.le_trans (Nat.mul_le_mul_left _ (Nat.le_of_ble_eq_true (n := _) (m := 4096) rfl)) (by simp only [List.length_cons,List.length_nil]; omega)) (by simp only [List.length_cons,List.length_nil]; omega) ?_
  intro v2 H2 hA2 hF2 hs2
  have hg2 := hF2.size
  replace hF2 : Fr nowhere H H2 := hF2.mono (fun _ _ _ h => h.elim)
  rw [List.nil_append] at hA2
  replace hT := hT.fr hF2 (fun _ _ _ => nw)
  replace hL := hL.fr hF2 (fun _ _ _ => nw)
  replace cp := hF2.keep cp nw
  obtain ⟨a2,m2,c2,rfl⟩ := hA2.form
  refine ⟨cp,?_⟩
  refine O.callC (us := []) (caps := [ptr b2,ptr b3]) rfl rfl rfl rfl call148 rfl (takerW1_spec (x := (a2,m2,c2)) hT (by omega)) ?_
  rintro _ H3 ⟨rfl,Z3,hT3,hF3,hZ3⟩
  have hs3 := hF3.size
  replace cp := hF3.keep cp n0
  refine ⟨cp,?_⟩
  refine O.asg rfl rfl rfl rfl rfl ?_
  refine Pl.fin [(3,_)] ⟨rfl,trivial⟩ ?_
  refine Go'.ret (vs := [_]) func103 results103 ⟨rfl,trivial⟩ ?_
  have ltp := lt tb zp
  have hlt0 : ∀ b,Z0 b → b < H.size := fun b hb => lt b (h0 b hb)
  have e2 : goN n (us ++ [(a2,m2,c2)]) = goN n (acc ++ [x]) := by unfold goN; simp [hul]
  refine ⟨congrArg Value.bool e2,fun b => Z b ∨ (H.size ≤ b ∧ b < H3.size),⟨Z3,fun b => Zc b ∨ (b = H.size ∧ b < H2.size),us ++ [(a2,m2,c2)],hT3,?_,cp,fun h => (hZ3 _ h).elim n0 (fun h => by omega),fun b hb => (hZ3 b hb).elim (fun h => .inl (h0 b h)) (fun h => .inr ⟨by omega,hT3.lt b hb⟩),.inl zp,fun b hb => ?_,fun b hb => hb.elim (fun h => by have := lt b h; omega) (fun h => h.2)⟩,
    hF2.trans' hF3 (fun _ _ _ h => h.elim) (fun b o _ h => h0 b h),fun b hb => hb.imp id (fun h => h.1)⟩
  · have hd : ∀ b,(Zc b ∨ (b = H.size ∧ b < H2.size)) → ¬ Z0 b := fun b hb hz => hb.elim (fun h => (hc b h).2 hz) (fun h => by have := hlt0 b hz; omega)
    exact (AccL.snoc (hA2.mono (fun b _ hb => hb.elim (fun h => h.elim) .inr)) (hL.mono (fun b hb => .inl hb))).fr hF3 (fun b o hb hz => hd b hb hz)
  · rcases hb with hb | hb
    · exact ⟨.inl (hc b hb).1,fun h => (hZ3 b h).elim (hc b hb).2 (fun h => by have := lt b (hc b hb).1; omega)⟩
    · exact ⟨.inr (by omega),fun h => (hZ3 b h).elim (fun h => by have := hlt0 b h; omega) (fun h => by omega)⟩

/-- The function that the tree hands lists to. -/
def cbGWalkMut (B : World) (tb b2 b3 D : Nat) (n : Int) : Wb Try.prog B 103 [] [ptr tb] (goN n) 4294967296 where
  T := PrW tb b2 b3 D n
  fr := fun ⟨Z0,Zc,us,hT,hL,cp,n0,h0,zp,hc,lt⟩ hf hy => ⟨Z0,Zc,us,hT.fr hf (fun b o hb => hy b o (h0 b hb)),hL.fr hf (fun b o hb => hy b o (hc b hb).1),hf.keep cp (hy _ _ zp),n0,h0,zp,hc,fun b hb => Nat.lt_of_lt_of_le (lt b hb) hf.size⟩
  lt := fun ⟨_,_,_,_,_,_,_,_,_,_,lt⟩ hb => lt _ hb
  call := fun x _ hx hxl hT hl => gwalkmut1_spec x hx hxl hT hl

end Go.Bt.FG
