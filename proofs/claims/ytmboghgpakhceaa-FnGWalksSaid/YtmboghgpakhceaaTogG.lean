/- Contracts of functions of the program, proved by walking through their code. Conditions: those that each theorem names. -/
import Derived.Test.YtmboghgpakhceaaTogD
import Derived.Test.YtmboghgpakhceaaToHi
namespace Go.Bt.FG
open Go Go.Proofs Go.Proofs.Try
set_option maxRecDepth 20000
set_option maxHeartbeats 4000000
set_option linter.unusedVariables false
set_option linter.unusedSectionVars false
variable [Inhabited Cx]

theorem nitems {B : World} {P : Ps} (hP : PsOk P) (mt : Bool) {tr : Nat} : ∀ (h : Nat) {H : Mem} {bp op : Nat} {v : Value} {acc : List (Int × Int)} {Z : Nat → Prop} {t : Gt EJ h},TrC H tr P.iso P.mx P.mn → Gt.Good H P h t → cl H bp op = some (ptr (Gt.p h t)) → AccN EJ Z H v acc → (∀ b o,Gt.af h t b o → ¬ Z b) → (∀ b,Z b → cx.base ≤ b) → acc.length + (Gt.L h t).length ≤ 4294967296 →
    Fn Try.prog B 177 [.pointer (some ⟨tr,0,none⟩),.pointer (some ⟨bp,op,none⟩),v,.bool mt] H (fun r H' => ∃ Z',AccN EJ Z' H' r (acc ++ Gt.L h t) ∧ Fr (fun b _ => Z b) H H' ∧ ∀ b,Z' b → Z b ∨ H.size ≤ b)
  | 0,H,bp,op,v,acc,Z,(g,X),tc,hg,hc,hA,hnz,hzb,hlen => by
    have hN : NodeM EJ H g X (.pointer none) := hg.1
    have hiso : g.iso = P.iso := hg.2.1
    have hc0 := hN.c0
    rw [hiso] at hc0
    replace hlen : acc.length + X.length ≤ 4294967296 := hlen
    have hX : InS EJ H (.slice (some ⟨g.ib,g.io,none⟩) X.length g.ic) X := .inl ⟨_,_,_,rfl,hN.sl.hle,hN.sl.rd⟩
    refine fn_of func177 rfl ntmps177 ?_
    refine (show Go' _ _ _ _ 73 [(0,_),(1,_),(2,_),(3,_)] [.code _] _ from ?_)
    refine Go'.seq ?_
    refine Go'.region [(0,0)] rfl ?_
    refine O.asg rfl rfl rfl rfl rfl ?_
    refine Pl.fin [(0,_),(1,_),(2,_),(3,_),(8,_)] ⟨rfl,rfl,rfl,rfl,rfl,trivial⟩ ?_
    refine Go'.seq ?_
    refine Go'.region [(0,0),(1,0),(2,0),(3,2),(4,0)] rfl ?_
    refine O.mv rfl rfl rfl rfl rfl ?_
    refine O.mv rfl rfl rfl rfl rfl ?_
    refine O.mv rfl rfl rfl rfl rfl ?_
    refine O.callQ rfl rfl rfl call130 rfl (isoLoad_spec mt hc hc0 tc.iso) trivial ?_
    refine O.asg rfl rfl rfl rfl rfl ?_
    refine Pl.fin [(0,_),(2,_),(3,_),(8,_),(9,_)] ⟨rfl,rfl,rfl,rfl,rfl,trivial⟩ ?_
    refine Go'.seq ?_
    refine Go'.seq ?_
    unfold ptr
    refine Go'.region [(0,0),(1,2)] rfl ?_
    refine O.mv rfl rfl rfl rfl rfl ?_
    refine O.callQ rfl rfl rfl call133 rfl (leaf_spec hN.c3) trivial ?_
    refine Pl.fin [(0,_),(2,_),(3,_),(8,_),(9,_),(16,_)] ⟨rfl,rfl,rfl,rfl,rfl,rfl,trivial⟩ ?_
    refine Go'.condT rfl ?_
    refine Go'.seq ?_
    refine Go'.region [(0,0),(1,0),(2,0),(3,0),(4,1),(5,2),(6,0)] rfl ?_
    refine O.mv rfl rfl rfl rfl rfl ?_
    refine O.mv rfl rfl rfl rfl rfl ?_
    refine O.nc rfl rfl rfl rfl rfl ?_
    refine O.fa0 (off := 2) rfl rfl rfl rfl ⟨_,_,_,underlying168,rfl,rfl,sizeOf25⟩ rfl ?_
    refine O.ld rfl rfl rfl (fun w => ⟨isAgg25 w,sizeOf25 w⟩) rfl hN.c2 ?_
    refine O.appI (E := EJ) rfl rfl rfl ⟨underlying25,sizeOf27,zeroValue27,⟨_,typeInfo27,rfl⟩,rfl,by decide,by decide⟩ rfl hA rfl hX (Nat.le_trans (Nat.mul_le_mul_left _ (Nat.le_of_ble_eq_true (n := _) (m := 4096) rfl)) (by skip; omega)) (by omega) ?_
    intro v4 H4 hA4 hF4 hs4
    refine ⟨trivial,?_⟩
    refine O.asg rfl rfl rfl rfl rfl ?_
    refine Pl.fin [(0,_),(2,_),(3,_),(8,_),(9,_)] ⟨rfl,rfl,rfl,rfl,rfl,trivial⟩ ?_
    refine Go'.ret (vs := [_]) func177 results177 ⟨rfl,trivial⟩ ?_
    exact ⟨_,hA4,hF4,fun b hb => hb.elim .inl (fun h => .inr (by omega))⟩

  | h + 1,H,bp,op,v,acc,Z,(g,X,K),tc,hg,hc,hA,hnz,hzb,hlen => by
    have ih := @nitems B P hP mt tr h
    have hI : Inn H P h g X ((Gt.ps h K).map some) K := hg.inn
    have hKl : K.length = X.length + 1 := hg.2.2.2.2.2.1
    have hxm : X.length ≤ P.mx := hg.2.2.2.2.1
    have hx255 := hP.hx
    have hc0 := hI.n.c0
    rw [hI.iso] at hc0
    have hbs := tc.hb
    have hKL : (K.map (Gt.L h)).length = X.length + 1 := by rw [List.length_map]; exact hKl
    have hol : ((Gt.ps h K).map some).length = X.length + 1 := by rw [List.length_map,Gt.ps,List.length_map]; exact hKl
    replace hlen : acc.length + (Pl.inter X (K.map (Gt.L h))).length ≤ 4294967296 := hlen
    have hlt : ∀ x y,innc h g K x y → x < H.size := fun x y hb => hI.lt hb
    have hin : ∀ H',Fr (fun x _ => Z x) H H' → Inn H' P h g X ((Gt.ps h K).map some) K ∧ TrC H' tr P.iso P.mx P.mn := fun H' hf => ⟨hI.fr hf (fun x y hxy hz => hnz x y hxy hz),tc.fr hf (fun b o hb _ hz => by have := hzb b hz; omega)⟩
    have hcat : ∀ {Z1 Z2 : Nat → Prop} {H2 H3 : Mem},Fr (fun x _ => Z x) H H2 → (∀ b,Z1 b → Z b ∨ H.size ≤ b) → Fr (fun x _ => Z1 x) H2 H3 → (∀ b,Z2 b → Z1 b ∨ H2.size ≤ b) → Fr (fun x _ => Z x) H H3 ∧ ∀ b,Z2 b → Z b ∨ H.size ≤ b := by
      intro Z1 Z2 H2 H3 hF hZ1 hF2 hZ2
      have := hF.size
      exact ⟨hF.trans' hF2 (fun _ _ _ h => h) (fun b o hb hz => (hZ1 b hz).elim id (fun h => by omega)),fun b hb => (hZ2 b hb).elim (hZ1 b) (fun h => .inr (by omega))⟩
    have hkz : ∀ {Z1 : Nat → Prop},(∀ b,Z1 b → Z b ∨ H.size ≤ b) → (∀ b o,innc h g K b o → ¬ Z1 b) ∧ ∀ b,Z1 b → cx.base ≤ b := fun hZ1 => ⟨fun b o hb hz => (hZ1 b hz).elim (hnz b o hb) (fun hz => by have := hlt b o hb; omega),fun b hz => (hZ1 b hz).elim (hzb b) (fun hz => by omega)⟩
    show Fn _ _ _ _ _ (fun r H' => ∃ Z',AccN EJ Z' H' r (acc ++ Pl.inter X (K.map (Gt.L h))) ∧ Fr (fun b _ => Z b) H H' ∧ ∀ b,Z' b → Z b ∨ H.size ≤ b)
    refine fn_of func177 rfl ntmps177 ?_
    refine (show Go' _ _ _ _ 73 [(0,_),(1,_),(2,_),(3,_)] [.code _] _ from ?_)
    refine Go'.seq ?_
    refine Go'.region [(0,0)] rfl ?_
    refine O.asg rfl rfl rfl rfl rfl ?_
    refine Pl.fin [(0,_),(1,_),(2,_),(3,_),(8,_)] ⟨rfl,rfl,rfl,rfl,rfl,trivial⟩ ?_
    refine Go'.seq ?_
    refine Go'.region [(0,0),(1,0),(2,0),(3,2),(4,0)] rfl ?_
    refine O.mv rfl rfl rfl rfl rfl ?_
    refine O.mv rfl rfl rfl rfl rfl ?_
    refine O.mv rfl rfl rfl rfl rfl ?_
    refine O.callQ rfl rfl rfl call130 rfl (isoLoad_spec mt hc hc0 tc.iso) trivial ?_
    refine O.asg rfl rfl rfl rfl rfl ?_
    refine Pl.fin [(0,_),(2,_),(3,_),(8,_),(9,_)] ⟨rfl,rfl,rfl,rfl,rfl,trivial⟩ ?_
    refine Go'.seq ?_
    refine Go'.seq ?_
    unfold ptr
    refine Go'.region [(0,0),(1,2)] rfl ?_
    refine O.mv rfl rfl rfl rfl rfl ?_
    refine O.callQ rfl rfl rfl call133 rfl (leaf_spec hI.n.c3) trivial ?_
    refine Pl.fin [(0,_),(2,_),(3,_),(8,_),(9,_),(16,_)] ⟨rfl,rfl,rfl,rfl,rfl,rfl,trivial⟩ ?_
    refine Go'.condF rfl ?_
    refine Go'.skip ?_
    refine Go'.seq ?_
    refine Go'.seq ?_
    refine Go'.region [(0,0)] rfl ?_
    refine O.asg rfl rfl rfl rfl rfl ?_
    refine Pl.fin [(0,_),(2,_),(3,_),(8,_),(9,_),(10,_)] ⟨rfl,rfl,rfl,rfl,rfl,rfl,trivial⟩ ?_
    refine Go'.block ?_
    refine Go'.loop ?_
    refine Go'.keep [(0,_),(2,_),(3,_),(9,_),(10,_)] ⟨rfl,rfl,rfl,rfl,rfl,trivial⟩ ?_
    refine Go'.ind (σ := Nat × Value × (Nat → Prop)) (fun s => X.length - s.1) (fun s H' => s.1 ≤ X.length ∧ AccN EJ s.2.2 H' s.2.1 (acc ++ Pl.pre (X.take s.1) ((K.map (Gt.L h)).take s.1)) ∧ Fr (fun b _ => Z b) H H' ∧ ∀ b,s.2.2 b → Z b ∨ H.size ≤ b)
      (fun s => [(0,.pointer (some ⟨tr,0,none⟩)),(2,s.2.1),(3,.bool mt),(9,.pointer (some ⟨g.p,0,none⟩)),(10,.int .i64 (s.1 : Int))]) (0,v,Z) ⟨Nat.zero_le _,by rw [List.take_zero]; show AccN EJ Z H v (acc ++ []); rw [List.append_nil]; exact hA,Fr.refl _ _,fun b hb => .inl hb⟩ rfl ?_
    clear hA
    rintro ⟨j,sv,Z1⟩ H2 ⟨hj,hA,hF,hZ1⟩ ih2
    simp only at hj hA hZ1
    have hsz := hF.size
    obtain ⟨hI2,tc2⟩ := hin H2 hF
    obtain ⟨hz1,hz2⟩ := hkz hZ1
    have hpl := Pl.pre_len X (K.map (Gt.L h)) hKL j hj
    have hal : (acc ++ Pl.pre (X.take j) ((K.map (Gt.L h)).take j)).length = acc.length + (Pl.pre (X.take j) ((K.map (Gt.L h)).take j)).length := List.length_append
    obtain ⟨k,hkk⟩ : ∃ k,K[j]? = some k := ⟨K[j],List.getElem?_eq_getElem (by omega)⟩
    have hkL : (K.map (Gt.L h))[j]? = some (Gt.L h k) := by rw [List.getElem?_map,hkk]; rfl
    have hkK : k ∈ K := List.mem_of_getElem? hkk
    have hok : ((Gt.ps h K).map some)[j]? = some (some (Gt.p h k)) := by rw [Gt.ps,List.map_map,List.getElem?_map,hkk]; rfl
    have hcel := hI2.k.at hok
    unfold ptr at hcel
    refine Go'.seq ?_
    refine Go'.seq ?_
    by_cases hlt2 : j < X.length
    · skip
      obtain ⟨y,hy⟩ : ∃ y,X[j]? = some y := ⟨X[j],List.getElem?_eq_getElem hlt2⟩
      have hps := Pl.pre_succ hy hkL
      have hpl2 := Pl.pre_len X (K.map (Gt.L h)) hKL (j + 1) hlt2
      rw [hps,List.length_append,List.length_append,List.length_singleton] at hpl2
      refine Go'.region [(0,0),(1,0),(2,0),(3,0),(4,1),(5,0),(6,0)] rfl ?_
      refine O.mv rfl rfl rfl rfl rfl ?_
      refine O.mv rfl rfl rfl rfl rfl ?_
      refine O.nc rfl rfl rfl rfl rfl ?_
      refine O.fa0 (off := 2) rfl rfl rfl rfl ⟨_,_,_,underlying168,rfl,rfl,sizeOf25⟩ rfl ?_
      refine O.ld rfl rfl rfl (fun w => ⟨isAgg25 w,sizeOf25 w⟩) rfl hI2.n.c2 ?_
      refine O.len rfl rfl rfl rfl underlying25 rfl ?_
      refine O.cmp rfl rfl rfl rfl rfl rfl (lssT (by omega)) ?_
      refine Pl.fin [(0,_),(2,_),(3,_),(9,_),(10,_),(29,_)] ⟨rfl,rfl,rfl,rfl,rfl,rfl,trivial⟩ ?_
      refine Go'.condT rfl ?_
      refine Go'.skip ?_
      refine Go'.seq ?_
      refine Go'.block ?_
      refine Go'.seq ?_
      refine Go'.region [(0,0),(1,0),(2,0),(3,0),(4,1),(5,0),(6,1),(7,0),(8,0),(9,0),(10,0),(11,2),(12,0)] rfl ?_
      refine O.mv rfl rfl rfl rfl rfl ?_
      refine O.mv rfl rfl rfl rfl rfl ?_
      refine O.nc rfl rfl rfl rfl rfl ?_
      refine O.fa0 (off := 3) rfl rfl rfl rfl ⟨_,_,_,underlying168,rfl,rfl,sizeOf166⟩ rfl ?_
      refine O.ld rfl rfl rfl (fun w => ⟨isAgg166 w,sizeOf166 w⟩) rfl hI2.n.c3 ?_
      refine O.nc rfl rfl rfl rfl rfl ?_
      refine O.ld rfl rfl rfl (fun w => ⟨isAgg170 w,sizeOf170 w⟩) rfl hI2.k.c ?_
      refine O.mv rfl rfl rfl rfl rfl ?_
      refine O.ix (j := j) rfl rfl rfl rfl underlying170 sizeOf129 rfl rfl (by omega) (by omega) ?_
      refine O.mv rfl rfl rfl rfl rfl ?_
      refine O.mv rfl rfl rfl rfl rfl ?_
      refine O.call rfl rfl rfl call177 rfl (ih tc2 (hI2.c.1 k hkK).1 hcel hA (fun b o hb => hz1 b o (.inr (.inr ⟨k,hkK,hb⟩))) hz2 (by rw [hal]; omega)) ?_
      rintro _ H4 ⟨Z4,hA4,hF4,hZ4⟩
      obtain ⟨hF5,hZ5⟩ := hcat hF hZ1 hF4 hZ4
      have hsz5 := hF5.size
      refine ⟨trivial,?_⟩
      refine O.asg rfl rfl rfl rfl rfl ?_
      refine Pl.fin [(0,_),(2,_),(3,_),(9,_),(10,_),(29,_)] ⟨rfl,rfl,rfl,rfl,rfl,rfl,trivial⟩ ?_
      obtain ⟨hI4,_⟩ := hin H4 hF5
      have hal4 : (acc ++ Pl.pre (X.take j) ((K.map (Gt.L h)).take j) ++ Gt.L h k).length = acc.length + (Pl.pre (X.take j) ((K.map (Gt.L h)).take j)).length + (Gt.L h k).length := by rw [List.length_append,hal]
      refine Go'.region [(0,0),(1,0),(2,0),(3,0),(4,1),(5,0),(6,0),(7,1),(8,2),(9,2),(10,0)] rfl ?_
      refine O.mv rfl rfl rfl rfl rfl ?_
      refine O.mv rfl rfl rfl rfl rfl ?_
      refine O.nc rfl rfl rfl rfl rfl ?_
      refine O.fa0 (off := 2) rfl rfl rfl rfl ⟨_,_,_,underlying168,rfl,rfl,sizeOf25⟩ rfl ?_
      refine O.ld rfl rfl rfl (fun w => ⟨isAgg25 w,sizeOf25 w⟩) rfl hI4.n.c2 ?_
      refine O.mv rfl rfl rfl rfl rfl ?_
      refine O.ix (j := j) rfl rfl rfl rfl underlying25 sizeOf27 rfl rfl (by omega) (by omega) ?_
      refine O.lds rfl rfl rfl (fun w => ⟨isAgg27 w,sizeOf27 w⟩) rfl rfl (hI4.n.sl.item hy) ?_
      refine O.bsl (cs := (EJ.enc y)) rfl rfl rfl ⟨underlying25,sizeOf27,zeroValue27,⟨_,typeInfo27,rfl⟩,rfl,by decide,by decide⟩ rfl (by decide) (by kernel_rfl) ?_
      intro H6 M6
      have hs6 := M6.size
      have hA6 := hA4.fr (M6.fr nowhere) (fun _ _ _ _ => nw)
      have hv6 : InS EJ H6 (.slice (some ⟨H4.size,0,none⟩) 1 1) [y] := .inl ⟨_,_,_,rfl,Nat.le_refl _,M6.rd _ [] (by simp [row,EJ])⟩
      refine ⟨trivial,?_⟩
      refine O.appI (E := EJ) rfl rfl rfl ⟨underlying25,sizeOf27,zeroValue27,⟨_,typeInfo27,rfl⟩,rfl,by decide,by decide⟩ rfl hA6 rfl hv6 (Nat.le_trans (Nat.mul_le_mul_left _ (Nat.le_of_ble_eq_true (n := _) (m := 4096) rfl)) (by rw [hal4,List.length_singleton]; omega)) (by rw [hal4,List.length_singleton]; omega) ?_
      intro v7 H7 hA7 hF7 hs7
      have hg7 := hF7.size
      refine ⟨trivial,?_⟩
      refine O.asg rfl rfl rfl rfl rfl ?_
      refine Pl.fin [(0,_),(2,_),(3,_),(9,_),(10,_),(29,_)] ⟨rfl,rfl,rfl,rfl,rfl,rfl,trivial⟩ ?_
      refine Go'.inBlock ?_
      refine Go'.region [(0,0),(1,0),(2,0)] rfl ?_
      refine O.mv rfl rfl rfl rfl rfl ?_
      refine O.add (((j + 1 : Nat) : Int)) rfl rfl rfl rfl rfl rfl (by omega) (by omega) ?_
      refine O.asg rfl rfl rfl rfl rfl ?_
      refine Pl.fin [(0,_),(2,_),(3,_),(9,_),(10,_),(29,_)] ⟨rfl,rfl,rfl,rfl,rfl,rfl,trivial⟩ ?_
      refine Go'.keep [(0,_),(2,_),(3,_),(9,_),(10,_)] ⟨rfl,rfl,rfl,rfl,rfl,trivial⟩ ?_
      refine Go'.inLoop ?_
      refine ih2 (j + 1,v7,fun b => Z4 b ∨ (b = H6.size ∧ b < H7.size)) H7 ⟨hlt2,?_,(hF5.trans' (M6.fr nowhere) (fun _ _ _ h => h) (fun _ _ _ h => h.elim)).trans' hF7 (fun _ _ _ h => h) (fun b o hb hz => (hZ5 b hz).elim id (fun h => by omega)),fun b hb => hb.elim (hZ5 b) (fun h => .inr (by omega))⟩ (by simp only; omega)
      simp only
      rw [hps,← List.append_assoc,← List.append_assoc]
      exact hA7
    · skip
      obtain rfl : j = X.length := by omega
      have hil := Pl.inter_eq_pre (Nat.le_refl _) hkL
      rw [List.take_length,show (K.map (Gt.L h)).take (X.length + 1) = K.map (Gt.L h) from List.take_of_length_le (by omega)] at hil
      rw [List.take_length] at hA hal hpl
      have hll := congrArg List.length hil
      rw [List.length_append] at hll
      refine Go'.region [(0,0),(1,0),(2,0),(3,0),(4,1),(5,0),(6,0)] rfl ?_
      refine O.mv rfl rfl rfl rfl rfl ?_
      refine O.mv rfl rfl rfl rfl rfl ?_
      refine O.nc rfl rfl rfl rfl rfl ?_
      refine O.fa0 (off := 2) rfl rfl rfl rfl ⟨_,_,_,underlying168,rfl,rfl,sizeOf25⟩ rfl ?_
      refine O.ld rfl rfl rfl (fun w => ⟨isAgg25 w,sizeOf25 w⟩) rfl hI2.n.c2 ?_
      refine O.len rfl rfl rfl rfl underlying25 rfl ?_
      refine O.cmp rfl rfl rfl rfl rfl rfl (lssF (by omega)) ?_
      refine Pl.fin [(0,_),(2,_),(3,_),(9,_),(10,_),(29,_)] ⟨rfl,rfl,rfl,rfl,rfl,rfl,trivial⟩ ?_
      refine Go'.condF rfl ?_
      refine Go'.exit rfl ?_
      refine Go'.seq ?_
      refine Go'.draw (fun _ => True) [(0,0),(1,0),(2,0),(3,0),(4,1),(5,0),(6,1),(7,0),(8,0),(9,0),(10,1),(11,0),(12,1),(13,0),(14,0),(15,0),(16,0),(17,0),(18,2),(19,0)] (by kernel_rfl) (by kernel_rfl) (trivial) ?_
      refine O.mv rfl rfl rfl rfl rfl ?_
      refine O.mv rfl rfl rfl rfl rfl ?_
      refine O.nc rfl rfl rfl rfl rfl ?_
      refine O.fa0 (off := 3) rfl rfl rfl rfl ⟨_,_,_,underlying168,rfl,rfl,sizeOf166⟩ rfl ?_
      refine O.ld rfl rfl rfl (fun w => ⟨isAgg166 w,sizeOf166 w⟩) rfl hI2.n.c3 ?_
      refine O.nc rfl rfl rfl rfl rfl ?_
      refine O.ld rfl rfl rfl (fun w => ⟨isAgg170 w,sizeOf170 w⟩) rfl hI2.k.c ?_
      refine O.mv rfl rfl rfl rfl rfl ?_
      refine O.nc rfl rfl rfl rfl rfl ?_
      refine O.fa0 (off := 3) rfl rfl rfl rfl ⟨_,_,_,underlying168,rfl,rfl,sizeOf166⟩ rfl ?_
      refine O.ld rfl rfl rfl (fun w => ⟨isAgg166 w,sizeOf166 w⟩) rfl hI2.n.c3 ?_
      refine O.nc rfl rfl rfl rfl rfl ?_
      refine O.ld rfl rfl rfl (fun w => ⟨isAgg170 w,sizeOf170 w⟩) rfl hI2.k.c ?_
      refine O.len rfl rfl rfl rfl underlying170 rfl ?_
      refine O.sub (((((((Gt.ps h K).map some)).length) - 1 : Nat) : Int)) rfl rfl rfl rfl rfl rfl (by omega) (by omega) ?_
      refine O.ix (j := X.length) rfl rfl rfl rfl underlying170 sizeOf129 rfl rfl (by omega) (by omega) ?_
      refine O.mv rfl rfl rfl rfl rfl ?_
      refine O.mv rfl rfl rfl rfl rfl ?_
      refine O.call rfl rfl rfl call177 rfl (ih tc2 (hI2.c.1 k hkK).1 hcel hA (fun b o hb => hz1 b o (.inr (.inr ⟨k,hkK,hb⟩))) hz2 (by rw [hal]; omega)) ?_
      rintro _ H4 ⟨Z4,hA4,hF4,hZ4⟩
      obtain ⟨hF5,hZ5⟩ := hcat hF hZ1 hF4 hZ4
      have hsz5 := hF5.size
      refine ⟨trivial,?_⟩
      refine O.asg rfl rfl rfl rfl rfl ?_
      refine Pl.fin [(8,_)] ⟨rfl,trivial⟩ ?_
      refine Go'.ret (vs := [_]) func177 results177 ⟨rfl,trivial⟩ ?_
      refine ⟨Z4,?_,hF5,hZ5⟩
      rw [hil,← List.append_assoc]
      exact hA4

end Go.Bt.FG
namespace Go.Bt.FG
open Go Go.Proofs Go.Proofs.Try
set_option maxRecDepth 20000
set_option maxHeartbeats 4000000
set_option linter.unusedVariables false
set_option linter.unusedSectionVars false
variable [Inhabited Cx]

/-- A tree in memory: its items in order; its cells are all in the blocks S. -/
structure MapM (H : Mem) (tr : Nat) (P : Ps) (S : Nat → Prop) (l : List (Int × Int)) : Prop where
  tc : TrC H tr P.iso P.mx P.mn
  srt : Pl.Srt OI l
  cnt : cl H tr 3 = some (.int .i64 (l.length : Int))
  own : S tr
  lt : ∀ b,S b → b < H.size
  bs : ∀ b,S b → b = tr ∨ cx.base ≤ b
  rt : (l = [] ∧ cl H tr 2 = some (.pointer none)) ∨ ∃ h,∃ t : Gt EJ h,Gt.Good H P h t ∧ 1 ≤ (Gt.X h t).length ∧ Gt.L h t = l ∧ cl H tr 2 = some (ptr (Gt.p h t)) ∧ (∀ b o,Gt.af h t b o → cx.base ≤ b) ∧ ∀ b o,Gt.af h t b o → S b
theorem MapM.fr {H H' : Mem} {Z : Nat → Nat → Prop} {tr : Nat} {P : Ps} {S : Nat → Prop} {l : List (Int × Int)} (h : MapM H tr P S l) (hf : Fr Z H H') (hz : ∀ b o,S b ∨ (b < cx.base ∧ cx.own b) → ¬ Z b o) : MapM H' tr P S l where
  tc := h.tc.fr hf fun b o hb _ => hz b o (.inr hb)
  srt := h.srt
  cnt := hf.keep h.cnt (hz _ _ (.inl h.own))
  own := h.own
  lt := fun b hb => Nat.lt_of_lt_of_le (h.lt b hb) hf.size
  bs := h.bs
  rt := h.rt.elim (fun ⟨e,k⟩ => .inl ⟨e,hf.keep k (hz _ _ (.inl h.own))⟩) fun ⟨hh,t,g,x1,e,k,n,s⟩ => .inr ⟨hh,t,g.fr hf fun b o hb => hz b o (.inl (s b o hb)),x1,e,hf.keep k (hz _ _ (.inl h.own)),n,s⟩
theorem len_spec {B : World} {H : Mem} {tr : Nat} {P : Ps} {S : Nat → Prop} {l : List (Int × Int)} (hM : MapM H tr P S l) :
    Fn Try.prog B 134 [.pointer (some ⟨tr,0,none⟩)] H (fun r H' => r = .int .i64 (l.length : Int) ∧ H' = H) := by
  refine fn_of func134 rfl ntmps134 ?_
  refine (show Go' _ _ _ _ 7 [(0,_)] [.code _] _ from ?_)
  refine Go'.seq ?_
  refine Go'.region [(0,0)] rfl ?_
  refine O.asg rfl rfl rfl rfl rfl ?_
  refine Pl.fin [(0,_),(2,_)] ⟨rfl,rfl,trivial⟩ ?_
  refine Go'.seq ?_
  refine Go'.region [(0,0),(1,0),(2,0),(3,1),(4,0)] rfl ?_
  refine O.mv rfl rfl rfl rfl rfl ?_
  refine O.nc rfl rfl rfl rfl rfl ?_
  refine O.fa0 (off := 3) rfl rfl rfl rfl ⟨_,_,_,underlying158,rfl,rfl,sizeOf3⟩ rfl ?_
  refine O.ld rfl rfl rfl (fun w => ⟨isAgg3 w,sizeOf3 w⟩) rfl hM.cnt ?_
  refine O.asg rfl rfl rfl rfl rfl ?_
  refine Pl.fin [(2,_)] ⟨rfl,trivial⟩ ?_
  refine Go'.ret (vs := [_]) func134 results134 ⟨rfl,trivial⟩ ?_
  exact ⟨rfl,rfl⟩

theorem items_spec {B : World} {H : Mem} {tr : Nat} {P : Ps} (hP : PsOk P) {S : Nat → Prop} {l : List (Int × Int)} (hM : MapM H tr P S l) (mt : Bool) (hll : l.length ≤ 4294967296) :
    Fn Try.prog B 127 [.pointer (some ⟨tr,0,none⟩),.bool mt] H (fun r H' => OutS EJ H' r l ∧ Fr nowhere H H') := by
  have lt0 := hM.lt
  have hb0 := hM.tc.hb
  refine fn_of func127 rfl ntmps127 ?_
  refine (show Go' _ _ _ _ 27 [(0,_),(1,_)] [.code _] _ from ?_)
  refine Go'.seq ?_
  refine Go'.region [(0,0)] rfl ?_
  refine O.asg rfl rfl rfl rfl rfl ?_
  refine Pl.fin [(0,_),(1,_),(4,_)] ⟨rfl,rfl,rfl,trivial⟩ ?_
  refine Go'.seq ?_
  refine Go'.seq ?_
  refine Go'.region [(0,0),(1,0),(2,2)] rfl ?_
  refine O.mv rfl rfl rfl rfl rfl ?_
  refine O.mv rfl rfl rfl rfl rfl ?_
  refine O.callQ rfl rfl rfl call128 rfl lock_spec trivial ?_
  refine Pl.fin [(0,_),(1,_),(4,_),(8,_)] ⟨rfl,rfl,rfl,rfl,trivial⟩ ?_
  refine Go'.condF rfl ?_
  refine Go'.skip ?_
  refine Go'.seq ?_
  refine Go'.region [(0,0),(1,2),(2,2),(3,0)] rfl ?_
  refine O.mv rfl rfl rfl rfl rfl ?_
  refine O.callQ rfl rfl rfl call134 rfl (len_spec hM) trivial ?_
  refine O.mks (j := 0) (c := l.length) rfl rfl rfl ⟨underlying25,sizeOf27,zeroValue27,⟨_,typeInfo27,rfl⟩,rfl,by decide,by decide⟩ rfl rfl rfl rfl (by omega) (Nat.le_trans (Nat.mul_le_mul_right _ (Nat.le_of_ble_eq_true (n := _) (m := 4096) rfl)) (by omega)) (by omega) ?_
  intro H1 M1
  have hs1 := M1.size
  have hA1 : AccN EJ (fun b => b = H.size) H1 (.slice (some ⟨H.size,0,none⟩) 0 l.length) [] := ⟨H.size,0,l.length,rfl,rfl,by omega,⟨rfl,Nat.zero_le _,Rd.nil _ _ _,M1.wr _ (by rw [zeroRow_size]; exact Nat.le_refl _)⟩⟩
  replace hM := hM.fr (M1.fr nowhere) (fun _ _ _ => nw)
  refine ⟨trivial,?_⟩
  refine O.asg rfl rfl rfl rfl rfl ?_
  refine Pl.fin [(0,_),(1,_),(4,_),(5,_)] ⟨rfl,rfl,rfl,rfl,trivial⟩ ?_
  refine Go'.seq ?_
  refine Go'.seq ?_
  rcases hM.rt with ⟨rfl,hptr⟩ | ⟨h,t,hg,hx1,e,hc,hnt,hown⟩
  · skip
    refine Go'.region [(0,0),(1,0),(2,0),(3,1),(4,0)] rfl ?_
    refine O.mv rfl rfl rfl rfl rfl ?_
    refine O.nc rfl rfl rfl rfl rfl ?_
    refine O.fa0 (off := 2) rfl rfl rfl rfl ⟨_,_,_,underlying158,rfl,rfl,sizeOf129⟩ rfl ?_
    refine O.ld rfl rfl rfl (fun w => ⟨isAgg129 w,sizeOf129 w⟩) rfl hptr ?_
    refine O.notNil rfl rfl rfl rfl underlying129 rfl rfl ?_
    refine Pl.fin [(0,_),(1,_),(4,_),(5,_),(18,_)] ⟨rfl,rfl,rfl,rfl,rfl,trivial⟩ ?_
    refine Go'.condF rfl ?_
    refine Go'.skip ?_
    refine Go'.seq ?_
    refine Go'.region [(0,0),(1,0)] rfl ?_
    refine O.mv rfl rfl rfl rfl rfl ?_
    refine O.asg rfl rfl rfl rfl rfl ?_
    refine Pl.fin [(4,_)] ⟨rfl,trivial⟩ ?_
    refine Go'.ret (vs := [_]) func127 results127 ⟨rfl,trivial⟩ ?_
    exact ⟨hA1.acc.out,M1.fr nowhere⟩
  · skip
    have hptr : cl H1 tr 2 = some (.pointer (some ⟨Gt.p h t,0,none⟩)) := hc
    refine Go'.region [(0,0),(1,0),(2,0),(3,1),(4,0)] rfl ?_
    refine O.mv rfl rfl rfl rfl rfl ?_
    refine O.nc rfl rfl rfl rfl rfl ?_
    refine O.fa0 (off := 2) rfl rfl rfl rfl ⟨_,_,_,underlying158,rfl,rfl,sizeOf129⟩ rfl ?_
    refine O.ld rfl rfl rfl (fun w => ⟨isAgg129 w,sizeOf129 w⟩) rfl hptr ?_
    refine O.notNil rfl rfl rfl rfl underlying129 rfl rfl ?_
    refine Pl.fin [(0,_),(1,_),(4,_),(5,_),(18,_)] ⟨rfl,rfl,rfl,rfl,rfl,trivial⟩ ?_
    refine Go'.condT rfl ?_
    refine Go'.region [(0,0),(1,0),(2,0),(3,0),(4,0),(5,0),(6,2),(7,0)] rfl ?_
    refine O.mv rfl rfl rfl rfl rfl ?_
    refine O.mv rfl rfl rfl rfl rfl ?_
    refine O.nc rfl rfl rfl rfl rfl ?_
    refine O.fa0 (off := 2) rfl rfl rfl rfl ⟨_,_,_,underlying158,rfl,rfl,sizeOf129⟩ rfl ?_
    refine O.mv rfl rfl rfl rfl rfl ?_
    refine O.mv rfl rfl rfl rfl rfl ?_
    refine O.call rfl rfl rfl call177 rfl (nitems hP mt h hM.tc hg hc hA1 (fun b o hb hz => by have := lt0 b (hown b o hb); omega) (fun b hb => by omega) (by rw [e]; simpa using hll)) ?_
    rintro _ H3 ⟨Z3,hA3,hF3,_⟩
    rw [List.nil_append,e] at hA3
    refine ⟨trivial,?_⟩
    refine O.asg rfl rfl rfl rfl rfl ?_
    refine Pl.fin [(4,_),(5,_)] ⟨rfl,rfl,trivial⟩ ?_
    refine Go'.seq ?_
    refine Go'.region [(0,0),(1,0)] rfl ?_
    refine O.mv rfl rfl rfl rfl rfl ?_
    refine O.asg rfl rfl rfl rfl rfl ?_
    refine Pl.fin [(4,_)] ⟨rfl,trivial⟩ ?_
    refine Go'.ret (vs := [_]) func127 results127 ⟨rfl,trivial⟩ ?_
    exact ⟨hA3.acc.out,(M1.fr nowhere).trans' hF3 (fun _ _ _ h => h) (fun b o hb hz => by omega)⟩

theorem Items_spec {B : World} {H : Mem} {tr : Nat} {P : Ps} (hP : PsOk P) {S : Nat → Prop} {l : List (Int × Int)} (hM : MapM H tr P S l) (hll : l.length ≤ 4294967296) :
    Fn Try.prog B 73 [.pointer (some ⟨tr,0,none⟩)] H (fun r H' => OutS EJ H' r l ∧ Fr nowhere H H') := by
  refine fn_of func73 rfl ntmps73 ?_
  refine (show Go' _ _ _ _ 5 [(0,_)] [.code _] _ from ?_)
  refine Go'.seq ?_
  refine Go'.region [(0,0)] rfl ?_
  refine O.asg rfl rfl rfl rfl rfl ?_
  refine Pl.fin [(0,_),(2,_)] ⟨rfl,rfl,trivial⟩ ?_
  refine Go'.seq ?_
  refine Go'.region [(0,0),(1,2),(2,0)] rfl ?_
  refine O.mv rfl rfl rfl rfl rfl ?_
  refine O.call rfl rfl rfl call127 rfl (items_spec hP hM false hll) ?_
  rintro v2 H2 h2
  refine ⟨trivial,?_⟩
  refine O.asg rfl rfl rfl rfl rfl ?_
  refine Pl.fin [(2,_)] ⟨rfl,trivial⟩ ?_
  refine Go'.ret (vs := [_]) func73 results73 ⟨rfl,trivial⟩ ?_
  exact h2

end Go.Bt.FG
namespace Go.Bt.FG
open Go Go.Proofs Go.Proofs.Try
set_option maxRecDepth 20000
set_option maxHeartbeats 4000000
set_option linter.unusedVariables false
set_option linter.unusedSectionVars false
variable [Inhabited Cx]

/-- A path hint in memory. -/
structure HintM (H : Mem) (hb : Nat) : Prop where
  us : ∀ i,i < 8 → ∃ b,cl H hb i = some (.bool b)
  ps : ∀ i,i < 8 → ∃ n : Nat,n < 256 ∧ cl H hb (8 + i) = some (.int .u8 (n : Int))
  wr : Wr H hb 0 16
theorem HintM.fr {H H' : Mem} {hb : Nat} {Z : Nat → Nat → Prop} (h : HintM H hb) (hf : Fr Z H H') (hz : ∀ o,¬ Z hb o) : HintM H' hb where
  us := fun i hi => have ⟨b,hb⟩ := h.us i hi; ⟨b,hf.keep hb (hz _)⟩
  ps := fun i hi => have ⟨n,hn,hb⟩ := h.ps i hi; ⟨n,hn,hf.keep hb (hz _)⟩
  wr := hf.wr h.wr
theorem HintM.setU {H H' : Mem} {hb i : Nat} {b : Bool} (h : HintM H hb) (W : Wrote H H' hb i [.bool b]) (hi : i < 8) : HintM H' hb where
  us := fun j hj => by
    by_cases e : j = i
    · subst e; exact ⟨b,W.at⟩
    · obtain ⟨c,hc⟩ := h.us j hj; exact ⟨c,W.keep1 hc (by omega)⟩
  ps := fun j hj => by obtain ⟨n,hn,hc⟩ := h.ps j hj; exact ⟨n,hn,W.keep1 hc (by omega)⟩
  wr := W.fr.wr h.wr
theorem HintM.setP {H H' : Mem} {hb i n : Nat} (h : HintM H hb) (W : Wrote H H' hb (8 + i) [.int .u8 (n : Int)]) (hi : i < 8) (hn : n < 256) : HintM H' hb where
  us := fun j hj => by obtain ⟨c,hc⟩ := h.us j hj; exact ⟨c,W.keep1 hc (by omega)⟩
  ps := fun j hj => by
    by_cases e : j = i
    · subst e; exact ⟨n,hn,W.at⟩
    · obtain ⟨m,hm,hc⟩ := h.ps j hj; exact ⟨m,hm,W.keep1 hc (by omega)⟩
  wr := W.fr.wr h.wr
/-- The argument hint: nil,or a hint in a block of its own (hz: its block). -/
def HintOk (H : Mem) (v : Value) (hz : Nat → Prop) : Prop := (v = .pointer none ∧ ∀ b,¬ hz b) ∨ ∃ hb,v = .pointer (some ⟨hb,0,none⟩) ∧ (∀ b,hz b ↔ b = hb) ∧ hb < H.size ∧ ¬ (hb < cx.base ∧ cx.own hb) ∧ HintM H hb
theorem HintOk.fr {H H' : Mem} {v : Value} {hz : Nat → Prop} {Z : Nat → Nat → Prop} (h : HintOk H v hz) (hf : Fr Z H H') (hd : ∀ b o,hz b → ¬ Z b o) : HintOk H' v hz :=
  h.imp id fun ⟨hb,h1,h2,h3,h4,h5⟩ => ⟨hb,h1,h2,Nat.lt_of_lt_of_le h3 hf.size,h4,h5.fr hf fun o => hd hb o ((h2 hb).2 rfl)⟩
theorem HintOk.base {H : Mem} {v : Value} {hz : Nat → Prop} (h : HintOk H v hz) : ∀ b,hz b → ¬ (b < cx.base ∧ cx.own b) ∧ b < H.size := fun b hb => by
  rcases h with ⟨_,h⟩ | ⟨h0,_,h2,h3,h4,_⟩
  · exact absurd hb (h b)
  · rw [(h2 b).1 hb]; exact ⟨h4,h3⟩

theorem Less_spec {B : World} {H : Mem} {tr id mx mn : Nat} (tc : TrC H tr id mx mn) (x y : Int × Int) :
    Fn Try.prog B 77 [.pointer (some ⟨tr,0,none⟩),.agg (EJ.enc x).toArray,.agg (EJ.enc y).toArray] H (fun r H' => r = .bool (OI.lt x y) ∧ Fr nowhere H H') := by
  refine fn_of func77 rfl ntmps77 ?_
  refine (show Go' _ _ _ _ 14 [(0,_),(1,_),(2,_)] [.code _] _ from ?_)
  refine Go'.seq ?_
  refine Go'.region [(0,2),(1,2),(2,0)] rfl ?_
  refine O.box rfl rfl rfl rfl ?_
  intro H1 M1
  refine ⟨trivial,?_⟩
  have hf1 := M1.fr nowhere
  replace tc := tc.fr hf1 (fun _ _ _ _ => nw)
  have mi : Rd H1 H.size 0 (EJ.enc x) := M1.rd _ [] (by simp [Value.cells])
  refine O.box rfl rfl rfl rfl ?_
  intro H2 M2
  refine ⟨trivial,?_⟩
  have hf2 := hf1.trans (M2.fr nowhere)
  replace tc := tc.fr (M2.fr nowhere) (fun _ _ _ _ => nw)
  replace mi := (M2.fr nowhere).rd mi (fun _ _ => nw)
  have mj : Rd H2 H1.size 0 (EJ.enc y) := M2.rd _ [] (by simp [Value.cells])
  refine O.asg rfl rfl rfl rfl rfl ?_
  refine Pl.fin [(0,_),(4,_),(5,_),(6,_)] ⟨rfl,rfl,rfl,rfl,trivial⟩ ?_
  refine Go'.seq ?_
  refine Go'.draw (fun _ => True) [(0,0),(1,0),(2,0),(3,1),(4,1),(5,1),(6,2),(7,0)] (by kernel_rfl) (by kernel_rfl) (trivial) ?_
  refine O.mv rfl rfl rfl rfl rfl ?_
  refine O.nc rfl rfl rfl rfl rfl ?_
  refine O.fa0 (off := 6) rfl rfl rfl rfl ⟨_,_,_,underlying158,rfl,rfl,sizeOf88⟩ rfl ?_
  refine O.ld rfl rfl rfl (fun w => ⟨isAgg88 w,sizeOf88 w⟩) rfl tc.le ?_
  refine O.lds rfl rfl rfl (fun w => ⟨isAgg27 w,sizeOf27 w⟩) rfl rfl mi ?_
  refine O.lds rfl rfl rfl (fun w => ⟨isAgg27 w,sizeOf27 w⟩) rfl rfl mj ?_
  refine O.callC rfl rfl rfl rfl call170 rfl (less_spec tc x y) ?_
  rintro _ H3 ⟨rfl,hF3⟩
  refine ⟨trivial,?_⟩
  refine O.asg rfl rfl rfl rfl rfl ?_
  refine Pl.fin [(6,_)] ⟨rfl,trivial⟩ ?_
  refine Go'.ret (vs := [_]) func77 results77 ⟨rfl,trivial⟩ ?_
  exact ⟨rfl,hf2.trans hF3⟩

end Go.Bt.FG
