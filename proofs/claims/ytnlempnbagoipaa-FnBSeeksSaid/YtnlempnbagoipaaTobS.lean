/- Contracts of functions of the program, proved by walking through their code. Conditions: those that each theorem names. -/
import Derived.Laws.StructEq
import Derived.Test.YtnlempnbagoipaaTokA
import Derived.Test.YtnlempnbagoipaaToCc
namespace Go.Bt
open Go Go.Proofs Go.Proofs.Try
set_option maxRecDepth 20000
set_option maxHeartbeats 4000000
set_option linter.unusedVariables false

theorem put_specA {B : World} {H : Mem} {v u : Value} {ord : List Int} {l : List (Int × Int)} {x : Int × Int} (ho : InS EN H v ord) (hl : ord.length < 4611686018427387904) (hi : InS EJ H u l) (hs : Pl.Srt (OO ord) l) (hll : l.length ≤ 4294967296) :
    Fn Try.prog B 68 [v,u,.agg (EJ.enc x).toArray] H (fun r H' => ∃ sv,r = .tuple #[sv,FV (Pl.got (OO ord) x l)] ∧ Acc EJ (fun b => H.size ≤ b) H' sv (Pl.put (OO ord) x l) ∧ Fr nowhere H H') := by
  have hF : Fr nowhere H H := Fr.refl _ _
  have hple := Pl.pos_le (OO ord) x l
  have hi0 := hi
  refine fn_of func68 rfl ntmps68 ?_
  refine (show Go' _ _ _ _ 45 [(0,_),(1,_),(2,_)] [.code _] _ from ?_)
  refine Go'.seq ?_
  refine Go'.region [(0,2),(1,0),(2,2)] rfl ?_
  refine O.box rfl rfl rfl rfl ?_
  intro H1 M1
  refine ⟨trivial,?_⟩
  have hs1 := M1.size
  replace ho := ho.fr (M1.fr nowhere)
  replace hi := hi.fr (M1.fr nowhere)
  replace hF := hF.trans' (M1.fr nowhere) (fun _ _ _ h => h) (fun _ _ _ h => h.elim)
  have mi : Rd H1 H.size 0 (EJ.enc x) := M1.rd _ [] (by simp [Value.cells])
  refine O.asg rfl rfl rfl rfl rfl ?_
  refine O.alloc rfl rfl rfl zeroValue44 ?_
  intro H2 M2
  refine ⟨trivial,?_⟩
  have hs2 := M2.size
  replace ho := ho.fr (M2.fr nowhere)
  replace hi := hi.fr (M2.fr nowhere)
  replace mi := (M2.fr nowhere).rd mi (fun _ _ => nw)
  replace hF := hF.trans' (M2.fr nowhere) (fun _ _ _ h => h) (fun _ _ _ h => h.elim)
  have m7 : Wr H2 H1.size 0 3 := M2.wr 3 (by decide)
  refine Pl.fin [(0,_),(1,_),(5,_),(6,_),(7,_)] ⟨rfl,rfl,rfl,rfl,rfl,trivial⟩ ?_
  refine Go'.seq ?_
  refine Go'.region [(0,0),(1,0),(2,1),(3,2),(4,0),(5,0),(6,0),(7,0),(8,0)] rfl ?_
  refine O.mv rfl rfl rfl rfl rfl ?_
  refine O.mv rfl rfl rfl rfl rfl ?_
  refine O.lds rfl rfl rfl (fun w => ⟨isAgg35 w,sizeOf35 w⟩) rfl rfl mi ?_
  refine O.call rfl rfl rfl call61 rfl (place_spec ho hl hi hs (by omega)) ?_
  rintro _ H3 ⟨rfl,hF3⟩
  have hs3 := hF3.size
  replace ho := ho.fr hF3
  replace hi := hi.fr hF3
  replace mi := hF3.rd mi (fun _ _ => nw)
  replace m7 := hF3.wr m7
  replace hF := hF.trans' hF3 (fun _ _ _ h => h) (fun _ _ _ h => h.elim)
  refine ⟨trivial,?_⟩
  refine O.mv rfl rfl rfl rfl rfl ?_
  refine O.ext rfl rfl rfl rfl rfl rfl ?_
  refine O.ext rfl rfl rfl rfl rfl rfl ?_
  refine O.asg rfl rfl rfl rfl rfl ?_
  refine O.asg rfl rfl rfl rfl rfl ?_
  refine Pl.fin [(1,_),(5,_),(6,_),(7,_),(8,_),(9,_)] ⟨rfl,rfl,rfl,rfl,rfl,rfl,trivial⟩ ?_
  refine Go'.seq ?_
  generalize hpi : Pl.pos (OO ord) x l = i at *
  refine Go'.region [(0,2),(1,0),(2,0),(3,0),(4,2),(5,0)] rfl ?_
  refine O.bsl (cs := []) rfl rfl rfl ⟨underlying25,sizeOf35,zeroValue35,⟨_,typeInfo35,rfl⟩,rfl,by decide,by decide⟩ rfl (by decide) (by kernel_rfl) ?_
  intro H4 M4
  have hs4 := M4.size
  replace ho := ho.fr (M4.fr nowhere)
  replace hi := hi.fr (M4.fr nowhere)
  replace mi := (M4.fr nowhere).rd mi (fun _ _ => nw)
  replace m7 := (M4.fr nowhere).wr m7
  replace hF := hF.trans' (M4.fr nowhere) (fun _ _ _ h => h) (fun _ _ _ h => h.elim)
  refine ⟨trivial,?_⟩
  refine O.mv rfl rfl rfl rfl rfl ?_
  refine O.mv rfl rfl rfl rfl rfl ?_
  refine O.slcIn (E := EJ) (jl := 0) (jh := i) rfl rfl rfl rfl underlying25 sizeOf35 rfl hi ⟨_,by rfl⟩ rfl (by omega) (by omega) ?_
  intro v1 hv1
  rw [List.drop_zero,Nat.sub_zero] at hv1
  have hl1 : (l.take i).length = i := by rw [List.length_take]; omega
  refine O.app (m := (l.take i).length) (news := (row EJ (l.take i))) rfl rfl rfl ⟨underlying25,sizeOf35,zeroValue35,⟨_,typeInfo35,rfl⟩,rfl,by decide,by decide⟩ rfl (Sl.none _ _ _ _) rfl hv1.src (row_len EJ _) (row_ones EJ _) (Nat.le_trans (Nat.mul_le_mul_left _ (Nat.le_of_ble_eq_true (n := _) (m := 4096) rfl)) (by omega)) (by omega) ?_
  intro b1 o1 c1 H5 ha
  have hsz5 := ha.fr.size
  have hsl1 : SlE EJ H5 b1 o1 c1 (l.take i) := SlE.of ha.sl (by rw [List.nil_append]) (Nat.zero_add _)
  have hb1 : H.size + 2 ≤ b1 := by rcases ha.place with ⟨r,_⟩ | ⟨r,_⟩ <;> omega
  replace ho := ho.fr ha.quiet
  replace hi := hi.fr ha.quiet
  replace mi := ha.quiet.rd mi (fun _ _ => nw)
  replace m7 := ha.quiet.wr m7
  replace hF := hF.trans' ha.quiet (fun _ _ _ h => h) (fun _ _ _ h => h.elim)
  refine ⟨trivial,?_⟩
  refine O.asg rfl rfl rfl rfl rfl ?_
  refine Pl.fin [(1,_),(5,_),(6,_),(7,_),(8,_),(9,_),(10,_)] ⟨rfl,rfl,rfl,rfl,rfl,rfl,rfl,trivial⟩ ?_
  refine Go'.seq ?_
  rw [Nat.zero_add]
  refine Go'.region [(0,0),(1,1),(2,2),(3,2),(4,0)] rfl ?_
  refine O.mv rfl rfl rfl rfl rfl ?_
  refine O.lds rfl rfl rfl (fun w => ⟨isAgg35 w,sizeOf35 w⟩) rfl rfl mi ?_
  refine O.bsl (cs := (EJ.enc x)) rfl rfl rfl ⟨underlying25,sizeOf35,zeroValue35,⟨_,typeInfo35,rfl⟩,rfl,by decide,by decide⟩ rfl (by decide) (by kernel_rfl) ?_
  intro H6 M6
  have hs6 := M6.size
  replace ho := ho.fr (M6.fr nowhere)
  replace hi := hi.fr (M6.fr nowhere)
  replace mi := (M6.fr nowhere).rd mi (fun _ _ => nw)
  replace m7 := (M6.fr nowhere).wr m7
  replace hF := hF.trans' (M6.fr nowhere) (fun _ _ _ h => h) (fun _ _ _ h => h.elim)
  replace hsl1 := hsl1.fr (M6.fr nowhere) (fun _ _ _ => nw)
  have m6 : Rd H6 H5.size 0 (EJ.enc x) := M6.rd _ [] (by simp)
  refine ⟨trivial,?_⟩
  refine O.app (m := 1) (news := (EJ.enc x)) rfl rfl rfl ⟨underlying25,sizeOf35,zeroValue35,⟨_,typeInfo35,rfl⟩,rfl,by decide,by decide⟩ rfl hsl1 rfl (.inl ⟨_,_,_,rfl,m6⟩) rfl rfl (Nat.le_trans (Nat.mul_le_mul_left _ (Nat.le_of_ble_eq_true (n := _) (m := 4096) rfl)) (by omega)) (by omega) ?_
  intro b2 o2 c2 H7 ha2
  have hsz7 := ha2.fr.size
  have hsl2 : Sl H7 b2 o2 ((l.take i).length + 1) c2 2 (row EJ (l.take i ++ [x])) := by rw [row_append,row_one]; exact ha2.sl
  have hb2 : H.size + 2 ≤ b2 := by rcases ha2.place with ⟨r,_⟩ | ⟨r,_⟩ <;> omega
  replace m7 := ha2.fr.wr m7
  replace hF := hF.trans' ha2.fr (fun _ _ _ h => h) (fun b o hb hz => by have h1 := hz.1; omega)
  replace hi := hi0.fr hF
  refine ⟨trivial,?_⟩
  refine O.asg rfl rfl rfl rfl rfl ?_
  refine Pl.fin [(1,_),(6,_),(7,_),(8,_),(9,_),(10,_)] ⟨rfl,rfl,rfl,rfl,rfl,rfl,trivial⟩ ?_
  refine Go'.seq ?_
  refine Go'.seq ?_
  refine Go'.region [(0,0)] rfl ?_
  refine O.mv rfl rfl rfl rfl rfl ?_
  refine Pl.fin [(1,_),(6,_),(7,_),(8,_),(10,_),(27,_)] ⟨rfl,rfl,rfl,rfl,rfl,rfl,trivial⟩ ?_
  cases hfd : Pl.fnd (OO ord) x l
  · -- new
    refine Go'.condF rfl ?_
    refine Go'.skip ?_
    refine Go'.seq ?_
    refine Go'.region [(0,0),(1,0),(2,0),(3,0),(4,2),(5,0),(6,0),(7,2)] rfl ?_
    refine O.mv rfl rfl rfl rfl rfl ?_
    refine O.mv rfl rfl rfl rfl rfl ?_
    refine O.mv rfl rfl rfl rfl rfl ?_
    refine O.slcIn (E := EJ) (jl := i) (jh := l.length) rfl rfl rfl rfl underlying25 sizeOf35 rfl hi rfl ⟨_,by rfl⟩ (by omega) (by omega) ?_
    intro v2 hv2
    rw [List.take_of_length_le (by rw [List.length_drop]; omega)] at hv2
    refine O.app (m := (l.drop i).length) (news := (row EJ (l.drop i))) rfl rfl rfl ⟨underlying25,sizeOf35,zeroValue35,⟨_,typeInfo35,rfl⟩,rfl,by decide,by decide⟩ rfl hsl2 rfl hv2.src (row_len EJ _) (row_ones EJ _) (Nat.le_trans (Nat.mul_le_mul_left _ (Nat.le_of_ble_eq_true (n := _) (m := 4096) rfl)) (by rw [List.length_drop]; omega)) (by rw [List.length_drop]; omega) ?_
    intro b3 o3 c3 H8 ha3
    have hsz8 := ha3.fr.size
    have hsl3 : SlE EJ H8 b3 o3 c3 (l.take i ++ [x] ++ l.drop i) := SlE.of ha3.sl (by rw [← row_append]) (by rw [List.length_append,List.length_append]; rfl)
    have hb3 : H.size + 2 ≤ b3 := by rcases ha3.place with ⟨r,_⟩ | ⟨r,_⟩ <;> omega
    replace m7 := ha3.fr.wr m7
    replace hF := hF.trans' ha3.fr (fun _ _ _ h => h) (fun b o hb hz => by have h1 := hz.1; omega)
    refine ⟨trivial,?_⟩
    refine O.bld (cs := (fvs none)) rfl rfl rfl rfl (st44) rfl (by kernel_rfl) ?_
    refine O.asg rfl rfl rfl rfl rfl ?_
    refine O.st rfl rfl sizeOf44 rfl rfl rfl rfl rfl m7 ?_
    intro H9 W9
    replace hsl3 := hsl3.fr W9.fr (fun _ _ _ => nr (.inl (by omega)))
    replace hF := hF.trans' W9.fr (fun _ _ _ h => h) (fun b o hb hz => by have h1 := hz.1; omega)
    have hfin : Pl.put (OO ord) x l = l.take i ++ [x] ++ l.drop (i + (Pl.fnd (OO ord) x l).toNat) := by unfold Pl.put; rw [hpi]; simp
    refine ⟨trivial,?_⟩
    refine Pl.fin [(6,_),(7,_)] ⟨rfl,rfl,trivial⟩ ?_
    refine Go'.ret (vs := [_,_]) func68 results68 ⟨rfl,⟨_,_,rfl,fun _ _ => run_loadVar_agg (fun w => ⟨isAgg44 w,sizeOf44 w⟩) rfl W9.all⟩,trivial⟩ ?_
    refine ⟨_,by rw [Pl.got_none _ hfd]; rfl,.inr ⟨b3,o3,c3,?_,by omega,hsl3.lt (by have h1 := hsl3.hle; simp only [List.length_append,List.length_cons,List.length_nil] at h1; show 0 < c3 * 2; omega),?_⟩,hF⟩
    · rw [hfin,hfd]; simp only [Bool.toNat_false,Nat.add_zero,List.length_append]; rfl
    · rw [hfin,hfd]; exact hsl3
  · -- there is one
    refine Go'.condT rfl ?_
    refine Go'.seq ?_
    obtain ⟨y,hy,_,_⟩ := Pl.fnd_at (OO ord) hs hfd
    rw [hpi] at hy
    have hil : i < l.length := (List.getElem?_eq_some_iff.1 hy).1
    obtain ⟨bl,ol,cl',hue,hir⟩ := hi.at hy
    have hbl : bl < H.size := by
      obtain ⟨b0,o0,c0,hue0,hir0⟩ := hi0.at hy
      rw [hue] at hue0
      cases hue0
      exact cl_lt (hir0 0 _ rfl)
    subst hue
    refine Go'.draw (fun H' => Rd H' bl (ol + i * 2) (EJ.enc y)) [(0,0),(1,0),(2,0),(3,0),(4,0),(6,0),(7,0),(8,0),(9,0),(10,0),(5,2),(11,0),(12,3)] (by kernel_rfl) (by kernel_rfl) (hir) ?_
    refine O.mv rfl rfl rfl rfl rfl ?_
    refine O.mv rfl rfl rfl rfl rfl ?_
    refine O.mv rfl rfl rfl rfl rfl ?_
    refine O.add (((i + 1 : Nat) : Int)) rfl rfl rfl rfl rfl rfl (by omega) (by omega) ?_
    refine O.slcIn (E := EJ) (jl := i + 1) (jh := l.length) rfl rfl rfl rfl underlying25 sizeOf35 rfl hi rfl ⟨_,by rfl⟩ (by omega) (by omega) ?_
    intro v2 hv2
    rw [List.take_of_length_le (by rw [List.length_drop]; omega)] at hv2
    refine O.mv rfl rfl rfl rfl rfl ?_
    refine O.mv rfl rfl rfl rfl rfl ?_
    refine O.ix (j := i) rfl rfl rfl rfl underlying25 sizeOf35 rfl rfl (by omega) (by omega) ?_
    refine O.ldsC rfl rfl rfl (fun w => ⟨isAgg35 w,sizeOf35 w⟩) rfl rfl (fun _ h => h) ?_
    refine O.bld (cs := (fvs (some y))) rfl rfl rfl rfl (st44) rfl (by kernel_rfl) ?_
    refine O.app (m := (l.drop (i + 1)).length) (news := (row EJ (l.drop (i + 1)))) rfl rfl rfl ⟨underlying25,sizeOf35,zeroValue35,⟨_,typeInfo35,rfl⟩,rfl,by decide,by decide⟩ rfl hsl2 rfl hv2.src (row_len EJ _) (row_ones EJ _) (Nat.le_trans (Nat.mul_le_mul_left _ (Nat.le_of_ble_eq_true (n := _) (m := 4096) rfl)) (by rw [List.length_drop]; omega)) (by rw [List.length_drop]; omega) ?_
    intro b3 o3 c3 H8 ha3
    have hsz8 := ha3.fr.size
    have hsl3 : SlE EJ H8 b3 o3 c3 (l.take i ++ [x] ++ l.drop (i + 1)) := SlE.of ha3.sl (by rw [← row_append]) (by rw [List.length_append,List.length_append]; rfl)
    have hb3 : H.size + 2 ≤ b3 := by rcases ha3.place with ⟨r,_⟩ | ⟨r,_⟩ <;> omega
    replace m7 := ha3.fr.wr m7
    replace hF := hF.trans' ha3.fr (fun _ _ _ h => h) (fun b o hb hz => by have h1 := hz.1; omega)
    replace hir := ha3.fr.rd hir (fun _ _ => nr (.inl (by omega)))
    refine ⟨hir,?_⟩
    refine O.asg rfl rfl rfl rfl rfl ?_
    refine O.st3 rfl rfl sizeOf44 rfl rfl rfl rfl rfl m7 ?_
    intro H9 W9
    replace hsl3 := hsl3.fr W9.fr (fun _ _ _ => nr (.inl (by omega)))
    replace hF := hF.trans' W9.fr (fun _ _ _ h => h) (fun b o hb hz => by have h1 := hz.1; omega)
    have hfin : Pl.put (OO ord) x l = l.take i ++ [x] ++ l.drop (i + (Pl.fnd (OO ord) x l).toNat) := by unfold Pl.put; rw [hpi]; simp
    refine Pl.fin [(1,_),(6,_),(7,_),(8,_),(10,_)] ⟨rfl,rfl,rfl,rfl,rfl,trivial⟩ ?_
    refine Go'.ret (vs := [_,_]) func68 results68 ⟨rfl,⟨_,_,rfl,fun _ _ => run_loadVar_agg (fun w => ⟨isAgg44 w,sizeOf44 w⟩) rfl W9.all⟩,trivial⟩ ?_
    refine ⟨_,by rw [Pl.got_some _ hfd,hpi,hy]; rfl,.inr ⟨b3,o3,c3,?_,by omega,hsl3.lt (by have h1 := hsl3.hle; simp only [List.length_append,List.length_cons,List.length_nil] at h1; show 0 < c3 * 2; omega),?_⟩,hF⟩
    · rw [hfin,hfd]; simp only [Bool.toNat_true,List.length_append]; rfl
    · rw [hfin,hfd]; exact hsl3

theorem put_spec {B : World} {H : Mem} {v u : Value} {ord : List Int} {l : List (Int × Int)} {x : Int × Int} (ho : InS EN H v ord) (hl : ord.length < 4611686018427387904) (hi : InS EJ H u l) (hs : Pl.Srt (OO ord) l) (hll : l.length ≤ 4294967296) :
    Fn Try.prog B 68 [v,u,.agg (EJ.enc x).toArray] H (fun r H' => ∃ sv,r = .tuple #[sv,FV (Pl.got (OO ord) x l)] ∧ OutS EJ H' sv (Pl.put (OO ord) x l) ∧ Fr nowhere H H') :=
  (put_specA ho hl hi hs hll).mono fun _ _ ⟨sv,e,h,k⟩ => ⟨sv,e,h.out,k⟩

end Go.Bt
namespace Go.Bt
open Go Go.Proofs Go.Proofs.Try
set_option maxRecDepth 20000
set_option maxHeartbeats 4000000
set_option linter.unusedVariables false

def ath (l : List (Int × Int)) (z : Int) : Option (Int × Int) := if z < 0 then none else l[z.toNat]?
theorem ath_nat (l : List (Int × Int)) (i : Nat) : ath l (i : Int) = l[i]? := by unfold ath; rw [if_neg (by omega)]; rfl
def cutl (l : List (Int × Int)) (z : Int) : List (Int × Int) := if z < 0 then l else l.take z.toNat ++ l.drop (z.toNat + 1)

theorem cut_spec {B : World} {H : Mem} {u : Value} {l : List (Int × Int)} (z : Int) (hi : InS EJ H u l) (hll : l.length ≤ 4294967296) :
    Fn Try.prog B 84 [u,.int .i64 z] H (fun r H' => ∃ sv,r = .tuple #[sv,FV (ath l z)] ∧ ((ath l z = none ∧ sv = u) ∨ OutS EJ H' sv (cutl l z)) ∧ Fr nowhere H H') := by
  have hF : Fr nowhere H H := Fr.refl _ _
  obtain ⟨a,c,hu⟩ := hi.len
  subst hu
  have hi0 := hi
  refine fn_of func84 rfl ntmps84 ?_
  refine (show Go' _ _ _ _ 31 [(0,_),(1,_)] [.code _] _ from ?_)
  refine Go'.seq ?_
  refine Go'.region [(0,0),(1,2)] rfl ?_
  refine O.asg rfl rfl rfl rfl rfl ?_
  refine O.alloc rfl rfl rfl zeroValue44 ?_
  intro H1 M1
  refine ⟨trivial,?_⟩
  have hs1 := M1.size
  replace hi := hi.fr (M1.fr nowhere)
  replace hF := hF.trans' (M1.fr nowhere) (fun _ _ _ h => h) (fun _ _ _ h => h.elim)
  have m5 : Wr H1 H.size 0 3 := M1.wr 3 (by decide)
  refine Pl.fin [(0,_),(1,_),(4,_),(5,_)] ⟨rfl,rfl,rfl,rfl,trivial⟩ ?_
  refine Go'.seq ?_
  refine Go'.seq ?_
  by_cases hz : z < 0
  · -- below
    have ha0 : ath l z = none := by unfold ath; rw [if_pos hz]
    refine Go'.region [(0,0),(1,0),(2,0),(3,0),(4,0),(5,0),(6,0),(7,0)] rfl ?_
    refine O.mv rfl rfl rfl rfl rfl ?_
    refine O.cmp rfl rfl rfl rfl rfl rfl (lssT (by omega)) ?_
    refine O.mv rfl rfl rfl rfl rfl ?_
    refine Pl.pass rfl rfl rfl rfl ?_
    refine Pl.pass rfl rfl rfl rfl ?_
    refine Pl.pass rfl rfl rfl rfl ?_
    refine Pl.pass rfl rfl rfl rfl ?_
    refine O.pick rfl rfl rfl rfl rfl rfl ?_
    refine Pl.fin [(0,_),(1,_),(4,_),(5,_),(13,_)] ⟨rfl,rfl,rfl,rfl,rfl,trivial⟩ ?_
    refine Go'.condT rfl ?_
    refine Go'.seq ?_
    refine Go'.region [(0,0),(1,0),(2,0),(3,2)] rfl ?_
    refine O.mv rfl rfl rfl rfl rfl ?_
    refine O.bld (cs := (fvs none)) rfl rfl rfl rfl (st44) rfl (by kernel_rfl) ?_
    refine O.asg rfl rfl rfl rfl rfl ?_
    refine O.st rfl rfl sizeOf44 rfl rfl rfl rfl rfl m5 ?_
    intro H2 W2
    replace hF := hF.trans' W2.fr (fun _ _ _ h => h) (fun b o hb hz => by have h1 := hz.1; omega)
    refine ⟨trivial,?_⟩
    refine Pl.fin [(0,_),(1,_),(4,_),(5,_)] ⟨rfl,rfl,rfl,rfl,trivial⟩ ?_
    refine Go'.ret (vs := [_,_]) func84 results84 ⟨rfl,⟨_,_,rfl,fun _ _ => run_loadVar_agg (fun w => ⟨isAgg44 w,sizeOf44 w⟩) rfl W2.all⟩,trivial⟩ ?_
    exact ⟨_,by rw [ha0]; rfl,.inl ⟨ha0,rfl⟩,hF⟩
  obtain ⟨i,rfl⟩ := Int.eq_ofNat_of_zero_le (by omega : 0 ≤ z)
  by_cases hil : l.length ≤ i
  · -- above
    have ha0 : ath l (i : Int) = none := by rw [ath_nat,List.getElem?_eq_none hil]
    refine Go'.region [(0,0),(1,0),(2,0),(3,0),(4,0),(5,0),(6,0),(7,0)] rfl ?_
    refine O.mv rfl rfl rfl rfl rfl ?_
    refine O.cmp rfl rfl rfl rfl rfl rfl (lssF (by omega)) ?_
    refine O.mv rfl rfl rfl rfl rfl ?_
    refine O.mv rfl rfl rfl rfl rfl ?_
    refine O.mv rfl rfl rfl rfl rfl ?_
    refine O.len rfl rfl rfl rfl underlying25 rfl ?_
    refine O.cmp rfl rfl rfl rfl rfl rfl (geqT (by omega)) ?_
    refine O.pick rfl rfl rfl rfl rfl rfl ?_
    refine Pl.fin [(0,_),(1,_),(4,_),(5,_),(13,_)] ⟨rfl,rfl,rfl,rfl,rfl,trivial⟩ ?_
    refine Go'.condT rfl ?_
    refine Go'.seq ?_
    refine Go'.region [(0,0),(1,0),(2,0),(3,2)] rfl ?_
    refine O.mv rfl rfl rfl rfl rfl ?_
    refine O.bld (cs := (fvs none)) rfl rfl rfl rfl (st44) rfl (by kernel_rfl) ?_
    refine O.asg rfl rfl rfl rfl rfl ?_
    refine O.st rfl rfl sizeOf44 rfl rfl rfl rfl rfl m5 ?_
    intro H2 W2
    replace hF := hF.trans' W2.fr (fun _ _ _ h => h) (fun b o hb hz => by have h1 := hz.1; omega)
    refine ⟨trivial,?_⟩
    refine Pl.fin [(0,_),(1,_),(4,_),(5,_)] ⟨rfl,rfl,rfl,rfl,trivial⟩ ?_
    refine Go'.ret (vs := [_,_]) func84 results84 ⟨rfl,⟨_,_,rfl,fun _ _ => run_loadVar_agg (fun w => ⟨isAgg44 w,sizeOf44 w⟩) rfl W2.all⟩,trivial⟩ ?_
    exact ⟨_,by rw [ha0]; rfl,.inl ⟨ha0,rfl⟩,hF⟩
  replace hil : i < l.length := by omega
  obtain ⟨y,hy⟩ : ∃ y,l[i]? = some y := ⟨l[i],List.getElem?_eq_getElem hil⟩
  obtain ⟨bl,ol,cc,hue,hir⟩ := hi.at hy
  have hbl : bl < H.size := by
    obtain ⟨b0,o0,c0,hue0,hir0⟩ := hi0.at hy
    rw [hue] at hue0
    cases hue0
    exact cl_lt (hir0 0 _ rfl)
  cases hue
  have hl1 : (l.take i).length = i := by rw [List.length_take]; omega
  refine Go'.region [(0,0),(1,0),(2,0),(3,0),(4,0),(5,0),(6,0),(7,0)] rfl ?_
  refine O.mv rfl rfl rfl rfl rfl ?_
  refine O.cmp rfl rfl rfl rfl rfl rfl (lssF (by omega)) ?_
  refine O.mv rfl rfl rfl rfl rfl ?_
  refine O.mv rfl rfl rfl rfl rfl ?_
  refine O.mv rfl rfl rfl rfl rfl ?_
  refine O.len rfl rfl rfl rfl underlying25 rfl ?_
  refine O.cmp rfl rfl rfl rfl rfl rfl (geqF (by omega)) ?_
  refine O.pick rfl rfl rfl rfl rfl rfl ?_
  refine Pl.fin [(0,_),(1,_),(4,_),(5,_),(13,_)] ⟨rfl,rfl,rfl,rfl,rfl,trivial⟩ ?_
  refine Go'.condF rfl ?_
  refine Go'.skip ?_
  refine Go'.seq ?_
  refine Go'.draw (fun H' => Rd H' bl (ol + i * 2) (EJ.enc y)) [(1,0),(2,0),(3,0),(5,0),(6,0),(7,0),(8,0),(10,0),(11,0),(12,0),(13,0),(14,0),(0,2),(4,2),(9,2),(15,0),(16,3)] (by kernel_rfl) (by kernel_rfl) (hir) ?_
  refine O.mv rfl rfl rfl rfl rfl ?_
  refine O.mv rfl rfl rfl rfl rfl ?_
  refine O.slcIn (E := EJ) (jl := 0) (jh := i) rfl rfl rfl rfl underlying25 sizeOf35 rfl hi ⟨_,by rfl⟩ rfl (by omega) (by omega) ?_
  intro v1 hv1
  rw [List.drop_zero,Nat.sub_zero] at hv1
  refine O.mv rfl rfl rfl rfl rfl ?_
  refine O.mv rfl rfl rfl rfl rfl ?_
  refine O.add (((i + 1 : Nat) : Int)) rfl rfl rfl rfl rfl rfl (by omega) (by omega) ?_
  refine O.slcIn (E := EJ) (jl := i + 1) (jh := l.length) rfl rfl rfl rfl underlying25 sizeOf35 rfl hi rfl ⟨_,by rfl⟩ (by omega) (by omega) ?_
  intro v2 hv2
  rw [List.take_of_length_le (by rw [List.length_drop]; omega)] at hv2
  refine O.mv rfl rfl rfl rfl rfl ?_
  refine O.mv rfl rfl rfl rfl rfl ?_
  refine O.ix (j := i) rfl rfl rfl rfl underlying25 sizeOf35 rfl rfl (by omega) hil ?_
  refine O.ldsC rfl rfl rfl (fun w => ⟨isAgg35 w,sizeOf35 w⟩) rfl rfl (fun _ h => h) ?_
  refine O.bld (cs := (fvs (some y))) rfl rfl rfl rfl (st44) rfl (by kernel_rfl) ?_
  refine O.bsl (cs := []) rfl rfl rfl ⟨underlying25,sizeOf35,zeroValue35,⟨_,typeInfo35,rfl⟩,rfl,by decide,by decide⟩ rfl (by decide) (by kernel_rfl) ?_
  intro H4 M4
  have hs4 := M4.size
  replace hi := hi.fr (M4.fr nowhere)
  replace m5 := (M4.fr nowhere).wr m5
  replace hir := (M4.fr nowhere).rd hir (fun _ _ => nw)
  replace hv1 := hv1.fr (M4.fr nowhere)
  replace hv2 := hv2.fr (M4.fr nowhere)
  replace hF := hF.trans' (M4.fr nowhere) (fun _ _ _ h => h) (fun _ _ _ h => h.elim)
  refine ⟨hir,?_⟩
  refine O.app (m := (l.take i).length) (news := (row EJ (l.take i))) rfl rfl rfl ⟨underlying25,sizeOf35,zeroValue35,⟨_,typeInfo35,rfl⟩,rfl,by decide,by decide⟩ rfl (Sl.none _ _ _ _) rfl hv1.src (row_len EJ _) (row_ones EJ _) (Nat.le_trans (Nat.mul_le_mul_left _ (Nat.le_of_ble_eq_true (n := _) (m := 4096) rfl)) (by omega)) (by omega) ?_
  intro b1 o1 c1 H5 ha
  have hsz5 := ha.fr.size
  have hsl1 : Sl H5 b1 o1 (0 + (l.take i).length) c1 2 (row EJ (l.take i)) := ha.sl
  have hb1 : H.size + 1 ≤ b1 := by rcases ha.place with ⟨r,_⟩ | ⟨r,_⟩ <;> omega
  replace hi := hi.fr ha.quiet
  replace m5 := ha.quiet.wr m5
  replace hir := ha.quiet.rd hir (fun _ _ => nw)
  replace hv2 := hv2.fr ha.quiet
  replace hF := hF.trans' ha.quiet (fun _ _ _ h => h) (fun _ _ _ h => h.elim)
  refine ⟨hir,?_⟩
  refine O.app (m := (l.drop (i + 1)).length) (news := (row EJ (l.drop (i + 1)))) rfl rfl rfl ⟨underlying25,sizeOf35,zeroValue35,⟨_,typeInfo35,rfl⟩,rfl,by decide,by decide⟩ rfl hsl1 rfl hv2.src (row_len EJ _) (row_ones EJ _) (Nat.le_trans (Nat.mul_le_mul_left _ (Nat.le_of_ble_eq_true (n := _) (m := 4096) rfl)) (by rw [List.length_drop]; omega)) (by rw [List.length_drop]; omega) ?_
  intro b3 o3 c3 H8 ha3
  have hsz8 := ha3.fr.size
  have hsl3 : SlE EJ H8 b3 o3 c3 (l.take i ++ l.drop (i + 1)) := SlE.of ha3.sl (by rw [← row_append]) (by rw [List.length_append,Nat.zero_add])
  have hb3 : H.size + 1 ≤ b3 := by rcases ha3.place with ⟨r,_⟩ | ⟨r,_⟩ <;> omega
  replace m5 := ha3.fr.wr m5
  replace hir := ha3.fr.rd hir (fun _ _ => nr (.inl (by omega)))
  replace hF := hF.trans' ha3.fr (fun _ _ _ h => h) (fun b o hb hz => by have h1 := hz.1; omega)
  refine ⟨hir,?_⟩
  refine O.asg rfl rfl rfl rfl rfl ?_
  refine O.st3 rfl rfl sizeOf44 rfl rfl rfl rfl rfl m5 ?_
  intro H9 W9
  replace hsl3 := hsl3.fr W9.fr (fun _ _ _ => nr (.inl (by omega)))
  replace hF := hF.trans' W9.fr (fun _ _ _ h => h) (fun b o hb hz => by have h1 := hz.1; omega)
  refine Pl.fin [(4,_),(5,_)] ⟨rfl,rfl,trivial⟩ ?_
  refine Go'.ret (vs := [_,_]) func84 results84 ⟨rfl,⟨_,_,rfl,fun _ _ => run_loadVar_agg (fun w => ⟨isAgg44 w,sizeOf44 w⟩) rfl W9.all⟩,trivial⟩ ?_
  have hc : cutl l (i : Int) = l.take i ++ l.drop (i + 1) := by unfold cutl; rw [if_neg (by omega)]; rfl
  refine ⟨_,by rw [ath_nat,hy]; rfl,.inr ?_,hF⟩
  rw [hc]
  exact .inr ⟨b3,o3,c3,by rw [List.length_append,Nat.zero_add],hsl3⟩

theorem at_spec {B : World} {H : Mem} {u : Value} {l : List (Int × Int)} (z : Int) (hi : InS EJ H u l) (hll : l.length ≤ 4294967296) :
    Fn Try.prog B 58 [u,.int .i64 z] H (fun r H' => r = FV (ath l z) ∧ Fr nowhere H H') := by
  have hF : Fr nowhere H H := Fr.refl _ _
  refine fn_of func58 rfl ntmps58 ?_
  refine (show Go' _ _ _ _ 14 [(0,_),(1,_)] [.code _] _ from ?_)
  refine Go'.seq ?_
  refine Go'.region [(0,2)] rfl ?_
  refine O.alloc rfl rfl rfl zeroValue44 ?_
  intro H1 M1
  refine ⟨trivial,?_⟩
  have hs1 := M1.size
  replace hi := hi.fr (M1.fr nowhere)
  replace hF := hF.trans' (M1.fr nowhere) (fun _ _ _ h => h) (fun _ _ _ h => h.elim)
  have m4 : Wr H1 H.size 0 3 := M1.wr 3 (by decide)
  refine Pl.fin [(0,_),(1,_),(4,_)] ⟨rfl,rfl,rfl,trivial⟩ ?_
  refine Go'.seq ?_
  refine Go'.region [(0,0),(1,0),(2,2),(3,0),(4,0),(5,0),(6,2),(7,0),(8,2)] rfl ?_
  refine O.mv rfl rfl rfl rfl rfl ?_
  refine O.mv rfl rfl rfl rfl rfl ?_
  refine O.call rfl rfl rfl call84 rfl (cut_spec z hi hll) ?_
  rintro _ H2 ⟨sv,rfl,_,hF2⟩
  have hs2 := hF2.size
  replace m4 := hF2.wr m4
  replace hF := hF.trans' hF2 (fun _ _ _ h => h) (fun _ _ _ h => h.elim)
  refine ⟨trivial,?_⟩
  refine O.mv rfl rfl rfl rfl rfl ?_
  refine O.ext rfl rfl rfl rfl rfl rfl ?_
  refine O.ext rfl rfl rfl rfl rfl rfl ?_
  refine O.alloc rfl rfl rfl zeroValue44 ?_
  intro H3 M3
  refine ⟨trivial,?_⟩
  have hs3 := M3.size
  replace m4 := (M3.fr nowhere).wr m4
  replace hF := hF.trans' (M3.fr nowhere) (fun _ _ _ h => h) (fun _ _ _ h => h.elim)
  have m6 : Wr H3 H2.size 0 3 := M3.wr 3 (by decide)
  rw [FV_eq (ath l z)]
  refine O.asg rfl rfl rfl rfl rfl ?_
  refine O.st (vs := (fvs (ath l z))) rfl rfl sizeOf44 rfl rfl rfl (by cases ath l z <;> rfl) (by cases ath l z <;> rfl) m6 ?_
  intro H4 W4
  have hs4 := W4.size
  replace m4 := W4.fr.wr m4
  replace hF := hF.trans' W4.fr (fun _ _ _ h => h) (fun b o hb hz => by have h1 := hz.1; omega)
  refine ⟨trivial,?_⟩
  refine Pl.fin [(4,_),(6,_)] ⟨rfl,rfl,trivial⟩ ?_
  refine Go'.seq ?_
  refine Go'.region [(0,1),(1,2)] rfl ?_
  refine O.lds rfl rfl rfl (fun w => ⟨isAgg44 w,sizeOf44 w⟩) rfl (by cases ath l z <;> rfl) W4.all ?_
  refine O.st (vs := (fvs (ath l z))) rfl rfl sizeOf44 rfl rfl rfl (by cases ath l z <;> rfl) (by cases ath l z <;> rfl) m4 ?_
  intro H5 W5
  replace hF := hF.trans' W5.fr (fun _ _ _ h => h) (fun b o hb hz => by have h1 := hz.1; omega)
  refine ⟨trivial,?_⟩
  refine Pl.fin [(4,_)] ⟨rfl,trivial⟩ ?_
  refine Go'.ret (vs := [_]) func58 results58 ⟨⟨_,_,rfl,fun _ _ => run_loadVar_agg (fun w => ⟨isAgg44 w,sizeOf44 w⟩) (by cases ath l z <;> rfl) W5.all⟩,trivial⟩ ?_
  exact ⟨rfl,hF⟩

theorem tree_spec {B : World} {H : Mem} {v u : Value} {ord : List Int} {l : List (Int × Int)} (ho : InS EN H v ord) (hl : ord.length < 4611686018427387904) (hi : InS EJ H u l) (hll : l.length ≤ 4294967296) :
    Fn Try.prog B 48 [v,u] H (fun r H' => OutS EJ H' r (Pl.puts (OO ord) l) ∧ Fr nowhere H H') := by
  obtain ⟨a,c,hu⟩ := hi.len
  subst hu
  refine fn_of func48 rfl ntmps48 ?_
  refine (show Go' _ _ _ _ 23 [(0,_),(1,_)] [.code _] _ from ?_)
  refine Go'.seq ?_
  refine Go'.region [(0,0)] rfl ?_
  refine O.asg rfl rfl rfl rfl rfl ?_
  refine Pl.fin [(0,_),(1,_),(4,_)] ⟨rfl,rfl,rfl,trivial⟩ ?_
  refine Go'.seq ?_
  refine Go'.region [(0,0)] rfl ?_
  refine O.asg rfl rfl rfl rfl rfl ?_
  refine Pl.fin [(0,_),(1,_),(4,_),(5,_)] ⟨rfl,rfl,rfl,rfl,trivial⟩ ?_
  refine Go'.seq ?_
  refine Go'.seq ?_
  refine Go'.region [(0,0),(1,0),(2,0)] rfl ?_
  refine O.mv rfl rfl rfl rfl rfl ?_
  refine O.len rfl rfl rfl rfl underlying25 rfl ?_
  refine O.mv rfl rfl rfl rfl rfl ?_
  refine Pl.fin [(0,_),(4,_),(5,_),(8,_),(9,_),(10,_)] ⟨rfl,rfl,rfl,rfl,rfl,rfl,trivial⟩ ?_
  refine Go'.block ?_
  refine Go'.loop ?_
  refine Go'.keep [(0,_),(5,_),(8,_),(9,_),(10,_)] ⟨rfl,rfl,rfl,rfl,rfl,trivial⟩ ?_
  refine Go'.ind (σ := Nat × Value) (fun s => l.length - s.1) (fun s H' => Fr nowhere H H' ∧ s.1 ≤ l.length ∧ OutS EJ H' s.2 (Pl.puts (OO ord) (l.take s.1)))
    (fun s => [(0,v),(5,s.2),(8,.slice a l.length c),(9,.int .i64 (l.length : Int)),(10,.int .i64 (s.1 : Int))]) (0,.slice none 0 0) ⟨Fr.refl _ _,Nat.zero_le _,.inl ⟨rfl,rfl⟩⟩ rfl ?_
  rintro ⟨j,sv⟩ H2 ⟨hF,hjl,hsv⟩ ih
  simp only at hjl hsv
  have ho2 := ho.fr hF
  have hi2 := hi.fr hF
  refine Go'.seq ?_
  by_cases hlt : j < l.length
  · skip
    obtain ⟨y,hy⟩ : ∃ y,l[j]? = some y := ⟨l[j],List.getElem?_eq_getElem hlt⟩
    obtain ⟨b,o,c',e,hr⟩ := hi2.at hy
    cases e
    have hpl := Pl.puts_length (OO ord) (l.take j)
    rw [List.length_take] at hpl
    refine Go'.region [(0,0)] rfl ?_
    refine O.cmp rfl rfl rfl rfl rfl rfl (lssT (by omega)) ?_
    refine Pl.fin [(0,_),(5,_),(8,_),(9,_),(10,_),(11,_)] ⟨rfl,rfl,rfl,rfl,rfl,rfl,trivial⟩ ?_
    refine Go'.seq ?_
    refine Go'.condT rfl ?_
    refine Go'.skip ?_
    refine Go'.seq ?_
    refine Go'.block ?_
    refine Go'.seq ?_
    refine Go'.region [(0,0),(1,1),(2,2),(3,2)] rfl ?_
    refine O.ix (j := j) rfl rfl rfl rfl underlying25 sizeOf35 rfl rfl (by omega) hlt ?_
    refine O.lds rfl rfl rfl (fun w => ⟨isAgg35 w,sizeOf35 w⟩) rfl rfl hr ?_
    refine O.alloc rfl rfl rfl zeroValue35 ?_
    intro H3 M3
    refine ⟨trivial,?_⟩
    have hs3 := M3.size
    replace ho2 := ho2.fr (M3.fr nowhere)
    have m7 : Wr H3 H2.size 0 2 := M3.wr 2 (by decide)
    refine O.st rfl rfl sizeOf35 rfl rfl rfl rfl rfl m7 ?_
    intro H4 W4
    have hs4 := W4.size
    have hf4 : Fr nowhere H2 H4 := (M3.fr nowhere).trans' W4.fr (fun _ _ _ h => h) (fun b o hb hz => by have h1 := hz.1; omega)
    have ho4 := (ho.fr hF).fr hf4
    have hsv4 := hsv.inS.fr hf4
    refine ⟨trivial,?_⟩
    refine Pl.fin [(0,_),(5,_),(7,_),(8,_),(9,_),(10,_),(11,_)] ⟨rfl,rfl,rfl,rfl,rfl,rfl,rfl,trivial⟩ ?_
    refine Go'.region [(0,0),(1,0),(2,1),(3,2),(4,0),(5,0),(6,0),(7,0)] rfl ?_
    refine O.mv rfl rfl rfl rfl rfl ?_
    refine O.mv rfl rfl rfl rfl rfl ?_
    refine O.lds rfl rfl rfl (fun w => ⟨isAgg35 w,sizeOf35 w⟩) rfl rfl W4.all ?_
    refine O.call rfl rfl rfl call68 rfl (put_spec ho4 hl hsv4 (Pl.puts_srt _ _) (by omega)) ?_
    rintro _ H5 ⟨sv2,rfl,hsv2,hF5⟩
    refine ⟨trivial,?_⟩
    refine O.mv rfl rfl rfl rfl rfl ?_
    refine O.ext rfl rfl rfl rfl rfl rfl ?_
    refine O.ext rfl rfl rfl rfl rfl rfl ?_
    refine O.asg rfl rfl rfl rfl rfl ?_
    refine Pl.fin [(0,_),(5,_),(7,_),(8,_),(9,_),(10,_),(11,_)] ⟨rfl,rfl,rfl,rfl,rfl,rfl,rfl,trivial⟩ ?_
    refine Go'.inBlock ?_
    refine Go'.region [(0,0),(1,0)] rfl ?_
    refine O.add (((j + 1 : Nat) : Int)) rfl rfl rfl rfl rfl rfl (by omega) (by omega) ?_
    refine O.mv rfl rfl rfl rfl rfl ?_
    refine Pl.fin [(0,_),(5,_),(7,_),(8,_),(9,_),(10,_),(11,_)] ⟨rfl,rfl,rfl,rfl,rfl,rfl,rfl,trivial⟩ ?_
    refine Go'.keep [(0,_),(5,_),(8,_),(9,_),(10,_)] ⟨rfl,rfl,rfl,rfl,rfl,trivial⟩ ?_
    refine Go'.inLoop ?_
    exact ih (j + 1,sv2) H5 ⟨(hF.trans hf4).trans hF5,hlt,by
      rw [List.take_add_one,hy]
      rw [← Pl.puts_snoc] at hsv2
      exact hsv2⟩ (by simp only; omega)
  · skip
    obtain rfl : j = l.length := by omega
    refine Go'.region [(0,0)] rfl ?_
    refine O.cmp rfl rfl rfl rfl rfl rfl (lssF (by omega)) ?_
    refine Pl.fin [(0,_),(5,_),(8,_),(9,_),(10,_),(11,_)] ⟨rfl,rfl,rfl,rfl,rfl,rfl,trivial⟩ ?_
    refine Go'.seq ?_
    refine Go'.condF rfl ?_
    refine Go'.exit rfl ?_
    refine Go'.seq ?_
    refine Go'.region [(0,0),(1,0)] rfl ?_
    refine O.mv rfl rfl rfl rfl rfl ?_
    refine O.asg rfl rfl rfl rfl rfl ?_
    refine Pl.fin [(4,_)] ⟨rfl,trivial⟩ ?_
    refine Go'.ret (vs := [_]) func48 results48 ⟨rfl,trivial⟩ ?_
    rw [List.take_length] at hsv
    exact ⟨hsv,hF⟩

end Go.Bt
namespace Go.Bt.FB
open Go Go.Proofs Go.Proofs.Try
set_option maxRecDepth 20000
set_option maxHeartbeats 4000000
set_option linter.unusedVariables false
set_option linter.unusedSectionVars false

@[reducible] def nilCx : Inhabited Cx := ⟨⟨[],0,0,.bool false,0,fun _ => False⟩⟩
def exl : List (Int × Int) := [(5,1),(3,2),(9,3),(3,4),(1,5),(7,6),(8,7)]
theorem exItems_spec {B : World} {H : Mem} : Fn Try.prog B 14 [] H (fun r H' => InS EJ H' r exl ∧ Fr nowhere H H') := by
  refine fn_of func14 rfl ntmps14 ?_
  refine (show Go' _ _ _ _ 9 [] [.code _] _ from ?_)
  refine Go'.seq ?_
  refine Go'.region [(0,0)] rfl ?_
  refine O.asg rfl rfl rfl rfl rfl ?_
  refine Pl.fin [(0,_)] ⟨rfl,trivial⟩ ?_
  refine Go'.seq ?_
  refine Go'.region [(0,0),(1,0),(2,0),(3,0),(4,0),(5,0),(6,0),(7,2),(8,0)] rfl ?_
  refine O.bld (cs := [.int .i64 5,.int .i64 1]) rfl rfl rfl rfl (st35) rfl (by kernel_rfl) ?_
  refine O.bld (cs := [.int .i64 3,.int .i64 2]) rfl rfl rfl rfl (st35) rfl (by kernel_rfl) ?_
  refine O.bld (cs := [.int .i64 9,.int .i64 3]) rfl rfl rfl rfl (st35) rfl (by kernel_rfl) ?_
  refine O.bld (cs := [.int .i64 3,.int .i64 4]) rfl rfl rfl rfl (st35) rfl (by kernel_rfl) ?_
  refine O.bld (cs := [.int .i64 1,.int .i64 5]) rfl rfl rfl rfl (st35) rfl (by kernel_rfl) ?_
  refine O.bld (cs := [.int .i64 7,.int .i64 6]) rfl rfl rfl rfl (st35) rfl (by kernel_rfl) ?_
  refine O.bld (cs := [.int .i64 8,.int .i64 7]) rfl rfl rfl rfl (st35) rfl (by kernel_rfl) ?_
  refine O.bsl (cs := (row EJ exl)) rfl rfl rfl ⟨underlying25,sizeOf35,zeroValue35,⟨_,typeInfo35,rfl⟩,rfl,by decide,by decide⟩ rfl (by decide) (by kernel_rfl) ?_
  intro H1 M1
  refine ⟨trivial,?_⟩
  refine O.asg rfl rfl rfl rfl rfl ?_
  refine Pl.fin [(0,_)] ⟨rfl,trivial⟩ ?_
  refine Go'.ret (vs := [_]) func14 results14 ⟨rfl,trivial⟩ ?_
  exact ⟨.inl ⟨H.size,0,7,rfl,by decide,M1.rd _ [] (by simp)⟩,M1.fr nowhere⟩

def fitsb (z : Int) : Bool := decide (z = 0) || (decide (2 ≤ z) && decide (z ≤ 128))
theorem fits_spec {B : World} {H : Mem} {z : Int} : Fn Try.prog B 15 [.int .i64 z] H (fun r H' => r = .bool (fitsb z) ∧ H' = H) := by
  refine fn_of func15 rfl ntmps15 ?_
  refine (show Go' _ _ _ _ 13 [(0,_)] [.code _] _ from ?_)
  refine Go'.seq ?_
  refine Go'.region [(0,0)] rfl ?_
  refine O.asg rfl rfl rfl rfl rfl ?_
  refine Pl.fin [(0,_),(2,_)] ⟨rfl,rfl,trivial⟩ ?_
  refine Go'.seq ?_
  by_cases h0 : z = 0
  · skip
    refine Go'.region [(0,0),(1,0),(2,0),(3,0),(4,0),(5,0),(6,0),(7,0),(8,0),(9,0),(10,0)] rfl ?_
    refine O.mv rfl rfl rfl rfl rfl ?_
    refine O.cmp rfl rfl rfl rfl rfl rfl (eqlT (by omega)) ?_
    refine O.mv rfl rfl rfl rfl rfl ?_
    refine Pl.pass rfl rfl rfl rfl ?_
    refine Pl.pass rfl rfl rfl rfl ?_
    refine Pl.pass rfl rfl rfl rfl ?_
    refine Pl.pass rfl rfl rfl rfl ?_
    refine Pl.pass rfl rfl rfl rfl ?_
    refine Pl.pass rfl rfl rfl rfl ?_
    refine O.pick rfl rfl rfl rfl rfl rfl ?_
    refine O.asg rfl rfl rfl rfl rfl ?_
    refine Pl.fin [(2,_)] ⟨rfl,trivial⟩ ?_
    refine Go'.ret (vs := [_]) func15 results15 ⟨rfl,trivial⟩ ?_
    subst h0; exact ⟨rfl,rfl⟩
  by_cases h2 : 2 ≤ z
  · skip
    by_cases h3 : z ≤ 128
    · skip
      refine Go'.region [(0,0),(1,0),(2,0),(3,0),(4,0),(5,0),(6,0),(7,0),(8,0),(9,0),(10,0)] rfl ?_
      refine O.mv rfl rfl rfl rfl rfl ?_
      refine O.cmp rfl rfl rfl rfl rfl rfl (eqlF (by omega)) ?_
      refine O.mv rfl rfl rfl rfl rfl ?_
      refine O.mv rfl rfl rfl rfl rfl ?_
      refine O.cmp rfl rfl rfl rfl rfl rfl (geqT (by omega)) ?_
      refine O.mv rfl rfl rfl rfl rfl ?_
      refine O.mv rfl rfl rfl rfl rfl ?_
      refine O.cmp rfl rfl rfl rfl rfl rfl (leqT (by omega)) ?_
      refine O.pick rfl rfl rfl rfl rfl rfl ?_
      refine O.pick rfl rfl rfl rfl rfl rfl ?_
      refine O.asg rfl rfl rfl rfl rfl ?_
      refine Pl.fin [(2,_)] ⟨rfl,trivial⟩ ?_
      refine Go'.ret (vs := [_]) func15 results15 ⟨rfl,trivial⟩ ?_
      exact ⟨by unfold fitsb; rw [decide_eq_false h0,decide_eq_true h2,decide_eq_true h3]; rfl,rfl⟩
    · skip
      refine Go'.region [(0,0),(1,0),(2,0),(3,0),(4,0),(5,0),(6,0),(7,0),(8,0),(9,0),(10,0)] rfl ?_
      refine O.mv rfl rfl rfl rfl rfl ?_
      refine O.cmp rfl rfl rfl rfl rfl rfl (eqlF (by omega)) ?_
      refine O.mv rfl rfl rfl rfl rfl ?_
      refine O.mv rfl rfl rfl rfl rfl ?_
      refine O.cmp rfl rfl rfl rfl rfl rfl (geqT (by omega)) ?_
      refine O.mv rfl rfl rfl rfl rfl ?_
      refine O.mv rfl rfl rfl rfl rfl ?_
      refine O.cmp rfl rfl rfl rfl rfl rfl (leqF (by omega)) ?_
      refine O.pick rfl rfl rfl rfl rfl rfl ?_
      refine O.pick rfl rfl rfl rfl rfl rfl ?_
      refine O.asg rfl rfl rfl rfl rfl ?_
      refine Pl.fin [(2,_)] ⟨rfl,trivial⟩ ?_
      refine Go'.ret (vs := [_]) func15 results15 ⟨rfl,trivial⟩ ?_
      exact ⟨by unfold fitsb; rw [decide_eq_false h0,decide_eq_true h2,decide_eq_false h3]; rfl,rfl⟩
  · skip
    refine Go'.region [(0,0),(1,0),(2,0),(3,0),(4,0),(5,0),(6,0),(7,0),(8,0),(9,0),(10,0)] rfl ?_
    refine O.mv rfl rfl rfl rfl rfl ?_
    refine O.cmp rfl rfl rfl rfl rfl rfl (eqlF (by omega)) ?_
    refine O.mv rfl rfl rfl rfl rfl ?_
    refine O.mv rfl rfl rfl rfl rfl ?_
    refine O.cmp rfl rfl rfl rfl rfl rfl (geqF (by omega)) ?_
    refine O.mv rfl rfl rfl rfl rfl ?_
    refine Pl.pass rfl rfl rfl rfl ?_
    refine Pl.pass rfl rfl rfl rfl ?_
    refine O.pick rfl rfl rfl rfl rfl rfl ?_
    refine O.pick rfl rfl rfl rfl rfl rfl ?_
    refine O.asg rfl rfl rfl rfl rfl ?_
    refine Pl.fin [(2,_)] ⟨rfl,trivial⟩ ?_
    refine Go'.ret (vs := [_]) func15 results15 ⟨rfl,trivial⟩ ?_
    exact ⟨by unfold fitsb; rw [decide_eq_false h0,decide_eq_false h2]; rfl,rfl⟩

theorem fits_spec' {B : World} {H : Mem} {z : Int} {b : Bool} (h : fitsb z = b) : Fn Try.prog B 15 [.int .i64 z] H (fun r H' => r = .bool b ∧ H' = H) := h ▸ fits_spec
theorem fitsb_nat {z : Int} (h : fitsb z = true) : ∃ d : Nat,z = (d : Int) ∧ (d = 0 ∨ 2 ≤ d ∧ d ≤ 128) := by
  unfold fitsb at h
  simp only [Bool.or_eq_true,Bool.and_eq_true,decide_eq_true_eq] at h
  exact ⟨z.toNat,by omega,by omega⟩

theorem st24 : StT Try.prog 24 [(0,1),(1,1),(2,1)] [.slice none 0 0,.int .i64 0,.bool false] := ⟨⟨_,underlying24,fun w => by simp [Array.mapM_eq_mapM_toList,sizeOf3,sizeOf4,sizeOf22]⟩,zeroValue24⟩

theorem exMake_spec {B : World} {H : Mem} : Fn Try.prog B 13 [] H (fun r H' => r = .agg #[.slice none 0 0,.int .i64 ((2 : Nat) : Int),.bool false] ∧ Fr nowhere H H') := by
  refine fn_of func13 rfl ntmps13 ?_
  refine (show Go' _ _ _ _ 2 [] [.code _] _ from ?_)
  refine Go'.seq ?_
  refine Go'.region [(0,2)] rfl ?_
  refine O.alloc rfl rfl rfl zeroValue24 ?_
  intro H1 M1
  refine ⟨trivial,?_⟩
  have mw : Wr H1 H.size 0 3 := M1.wr 3 (by decide)
  refine Pl.fin [(0,_)] ⟨rfl,trivial⟩ ?_
  refine Go'.seq ?_
  refine Go'.region [(0,0),(1,2)] rfl ?_
  refine O.bld (cs := [.slice none 0 0,.int .i64 ((2 : Nat) : Int),.bool false]) rfl rfl rfl rfl (st24) rfl (by kernel_rfl) ?_
  refine O.st rfl rfl sizeOf24 rfl rfl rfl rfl rfl mw ?_
  intro H2 W2
  refine ⟨trivial,?_⟩
  refine Pl.fin [(0,_)] ⟨rfl,trivial⟩ ?_
  refine Go'.ret (vs := [_]) func13 results13 ⟨⟨_,_,rfl,fun _ _ => run_loadVar_agg (fun w => ⟨isAgg24 w,sizeOf24 w⟩) rfl W2.all⟩,trivial⟩ ?_
  exact ⟨rfl,(M1.fr nowhere).trans' W2.fr (fun _ _ _ h => h) (fun b o hb h => by have h' := h.1; omega)⟩

theorem zzFits1_spec {B : World} {H : Mem} {v : Value} {z : Int} {nl : Bool} {ord : List Int} {b : Bool} (ho : InS EN H v ord) (hb : decide (ord.length ≤ 2147483647) = b) : Fn Try.prog B 11 [.agg #[v,.int .i64 z,.bool nl]] H (fun r H' => r = .bool b ∧ Fr nowhere H H') := by
  obtain ⟨av,cv,hv⟩ := ho.len
  generalize hmv : ord.length = mv at *
  subst hv
  have hF : Fr nowhere H H := Fr.refl _ _
  refine fn_of func11 rfl ntmps11 ?_
  refine (show Go' _ _ _ _ 7 [(0,_)] [.code _] _ from ?_)
  refine Go'.seq ?_
  refine Go'.region [(0,2),(1,0)] rfl ?_
  refine O.box rfl rfl rfl rfl ?_
  intro B1 MB1
  refine ⟨trivial,?_⟩
  have hsB1 := MB1.size
  replace hF := hF.trans (MB1.fr nowhere)
  have mx : Rd B1 H.size 0 [.slice av mv cv,.int .i64 z,.bool nl] := MB1.rd _ [] (by simp [Value.cells])
  have mx0 : cl B1 H.size 0 = some (.slice av mv cv) := mx 0 _ rfl
  have mx1 : cl B1 H.size (0 + 1) = some (.int .i64 z) := mx 1 _ rfl
  refine O.asg rfl rfl rfl rfl rfl ?_
  refine Pl.fin [(1,_),(2,_)] ⟨rfl,rfl,trivial⟩ ?_
  refine Go'.seq ?_
  refine Go'.seq ?_
  cases b
  · skip
    refine Go'.region [(0,0),(1,1),(2,0),(3,0)] rfl ?_
    refine O.faz rfl rfl rfl rfl ⟨_,_,_,underlying24,rfl,rfl,sizeOf22⟩ rfl ?_
    refine O.ld rfl rfl rfl (fun w => ⟨isAgg22 w,sizeOf22 w⟩) rfl mx0 ?_
    refine O.len rfl rfl rfl rfl underlying22 rfl ?_
    refine O.cmp rfl rfl rfl rfl rfl rfl (gtrT (by have := of_decide_eq_false hb; omega)) ?_
    refine Pl.fin [(2,_),(6,_)] ⟨rfl,rfl,trivial⟩ ?_
    refine Go'.condT rfl ?_
    refine Go'.seq ?_
    refine Go'.region [(0,0)] rfl ?_
    refine O.asg rfl rfl rfl rfl rfl ?_
    refine Pl.fin [(2,_)] ⟨rfl,trivial⟩ ?_
    refine Go'.ret (vs := [_]) func11 results11 ⟨rfl,trivial⟩ ?_
    exact ⟨rfl,hF⟩
  · skip
    refine Go'.region [(0,0),(1,1),(2,0),(3,0)] rfl ?_
    refine O.faz rfl rfl rfl rfl ⟨_,_,_,underlying24,rfl,rfl,sizeOf22⟩ rfl ?_
    refine O.ld rfl rfl rfl (fun w => ⟨isAgg22 w,sizeOf22 w⟩) rfl mx0 ?_
    refine O.len rfl rfl rfl rfl underlying22 rfl ?_
    refine O.cmp rfl rfl rfl rfl rfl rfl (gtrF (by have := of_decide_eq_true hb; omega)) ?_
    refine Pl.fin [(2,_),(6,_)] ⟨rfl,rfl,trivial⟩ ?_
    refine Go'.condF rfl ?_
    refine Go'.skip ?_
    refine Go'.seq ?_
    refine Go'.region [(0,0)] rfl ?_
    refine O.asg rfl rfl rfl rfl rfl ?_
    refine Pl.fin [(2,_)] ⟨rfl,trivial⟩ ?_
    refine Go'.ret (vs := [_]) func11 results11 ⟨rfl,trivial⟩ ?_
    exact ⟨rfl,hF⟩

theorem lfits_spec {B : World} {H : Mem} {v : Value} {z : Int} {nl b : Bool} (hv : ∃ a m c,v = .slice a m c) (h : fitsb z = b) : Fn Try.prog B 27 [.agg #[v,.int .i64 z,.bool nl]] H (fun r H' => r = .bool b ∧ Fr nowhere H H') := by
  obtain ⟨av,mv,cv,rfl⟩ := hv
  have hF : Fr nowhere H H := Fr.refl _ _
  refine fn_of func27 rfl ntmps27 ?_
  refine (show Go' _ _ _ _ 6 [(0,_)] [.code _] _ from ?_)
  refine Go'.seq ?_
  refine Go'.region [(0,2),(1,0)] rfl ?_
  refine O.box rfl rfl rfl rfl ?_
  intro B1 MB1
  refine ⟨trivial,?_⟩
  have hsB1 := MB1.size
  replace hF := hF.trans (MB1.fr nowhere)
  have mm : Rd B1 H.size 0 [.slice av mv cv,.int .i64 z,.bool nl] := MB1.rd _ [] (by simp [Value.cells])
  have mm0 : cl B1 H.size 0 = some (.slice av mv cv) := mm 0 _ rfl
  have mm1 : cl B1 H.size (0 + 1) = some (.int .i64 z) := mm 1 _ rfl
  refine O.asg rfl rfl rfl rfl rfl ?_
  refine Pl.fin [(1,_),(2,_)] ⟨rfl,rfl,trivial⟩ ?_
  refine Go'.seq ?_
  refine Go'.region [(0,0),(1,1),(2,2),(3,0)] rfl ?_
  refine O.fa0 (off := 1) rfl rfl rfl rfl ⟨_,_,_,underlying24,rfl,rfl,sizeOf3⟩ rfl ?_
  refine O.ld rfl rfl rfl (fun w => ⟨isAgg3 w,sizeOf3 w⟩) rfl mm1 ?_
  refine O.callQ rfl rfl rfl call15 rfl (fits_spec' h) trivial ?_
  refine O.asg rfl rfl rfl rfl rfl ?_
  refine Pl.fin [(2,_)] ⟨rfl,trivial⟩ ?_
  refine Go'.ret (vs := [_]) func27 results27 ⟨rfl,trivial⟩ ?_
  exact ⟨rfl,hF⟩

theorem foundAny_spec {B : World} {H : Mem} (o : Option (Int × Int)) : Fn Try.prog B 56 [PV o] H (fun r H' => r = FV o ∧ Fr nowhere H H') := by
  have hF : Fr nowhere H H := Fr.refl _ _
  cases o with
  | none =>
    show Fn _ _ _ [.nilIface] _ _
    refine fn_of func56 rfl ntmps56 ?_
    refine (show Go' _ _ _ _ 9 [(0,_)] [.code _] _ from ?_)
    refine Go'.seq ?_
    refine Go'.region [(0,2)] rfl ?_
    refine O.alloc rfl rfl rfl zeroValue44 ?_
    intro B1 MB1
    refine ⟨trivial,?_⟩
    have hsB1 := MB1.size
    replace hF := hF.trans (MB1.fr nowhere)
    have mw0 : Wr B1 H.size 0 3 := MB1.wr 3 (by decide)
    refine Pl.fin [(0,_),(2,_)] ⟨rfl,rfl,trivial⟩ ?_
    refine Go'.seq ?_
    refine Go'.seq ?_
    refine Go'.region [(0,0),(1,0)] rfl ?_
    refine O.mv rfl rfl rfl rfl rfl ?_
    refine O.bin rfl rfl rfl rfl rfl rfl (run_eqNil_nil underlying20) ?_
    refine Pl.fin [(0,_),(2,_),(4,_)] ⟨rfl,rfl,rfl,trivial⟩ ?_
    refine Go'.condT rfl ?_
    refine Go'.seq ?_
    refine Go'.region [(0,0),(1,2)] rfl ?_
    refine O.bld (cs := [.int .i64 0,.int .i64 0,.bool false]) rfl rfl rfl rfl (st44) rfl (by kernel_rfl) ?_
    refine O.st (vs := (fvs none)) rfl rfl sizeOf44 rfl rfl rfl rfl rfl mw0 ?_
    intro H3 W3
    replace hF := hF.trans' W3.fr (fun _ _ _ h => h) (fun b o hb h => by have h' := h.1; omega)
    replace mw0 := W3.fr.wr mw0
    refine ⟨trivial,?_⟩
    refine Pl.fin [(0,_),(2,_)] ⟨rfl,rfl,trivial⟩ ?_
    refine Go'.ret (vs := [_]) func56 results56 ⟨⟨_,_,rfl,fun _ _ => run_loadVar_agg (fun w => ⟨isAgg44 w,sizeOf44 w⟩) rfl W3.all⟩,trivial⟩ ?_
    exact ⟨rfl,hF⟩
  | some y =>
    show Fn _ _ _ [iv y] _ _
    refine fn_of func56 rfl ntmps56 ?_
    refine (show Go' _ _ _ _ 9 [(0,_)] [.code _] _ from ?_)
    refine Go'.seq ?_
    refine Go'.region [(0,2)] rfl ?_
    refine O.alloc rfl rfl rfl zeroValue44 ?_
    intro B1 MB1
    refine ⟨trivial,?_⟩
    have hsB1 := MB1.size
    replace hF := hF.trans (MB1.fr nowhere)
    have mw0 : Wr B1 H.size 0 3 := MB1.wr 3 (by decide)
    refine Pl.fin [(0,_),(2,_)] ⟨rfl,rfl,trivial⟩ ?_
    refine Go'.seq ?_
    refine Go'.seq ?_
    refine Go'.region [(0,0),(1,0)] rfl ?_
    refine O.mv rfl rfl rfl rfl rfl ?_
    refine O.bin rfl rfl rfl rfl rfl rfl (run_eqNil_iface underlying20) ?_
    refine Pl.fin [(0,_),(2,_),(4,_)] ⟨rfl,rfl,rfl,trivial⟩ ?_
    refine Go'.condF rfl ?_
    refine Go'.skip ?_
    refine Go'.seq ?_
    refine Go'.region [(0,0),(1,0),(2,0),(3,2)] rfl ?_
    refine O.mv rfl rfl rfl rfl rfl ?_
    refine O.tya rfl rfl rfl rfl rfl (run_assert_is underlying35 rfl) ?_
    refine O.bld (cs := [.int .i64 y.1,.int .i64 y.2,.bool true]) rfl rfl rfl rfl (st44) rfl (by kernel_rfl) ?_
    refine O.st (vs := (fvs (some y))) rfl rfl sizeOf44 rfl rfl rfl rfl rfl mw0 ?_
    intro H3 W3
    replace hF := hF.trans' W3.fr (fun _ _ _ h => h) (fun b o hb h => by have h' := h.1; omega)
    replace mw0 := W3.fr.wr mw0
    refine ⟨trivial,?_⟩
    refine Pl.fin [(2,_)] ⟨rfl,trivial⟩ ?_
    refine Go'.ret (vs := [_]) func56 results56 ⟨⟨_,_,rfl,fun _ _ => run_loadVar_agg (fun w => ⟨isAgg44 w,sizeOf44 w⟩) rfl W3.all⟩,trivial⟩ ?_
    exact ⟨rfl,hF⟩

end Go.Bt.FB
namespace Go.Bt.FB
open Go Go.Proofs Go.Proofs.Try
set_option maxRecDepth 20000
set_option maxHeartbeats 4000000
set_option linter.unusedVariables false
set_option linter.unusedSectionVars false

theorem fields35 : Try.prog.underlying 35 = some (.struct (Try.prog.fieldsOf 35)) := by unfold Program.fieldsOf; rw [underlying35]
theorem fields44 : Try.prog.underlying 44 = some (.struct (Try.prog.fieldsOf 44)) := by unfold Program.fieldsOf; rw [underlying44]
theorem item_eq (d : Nat) (x : Int × Int) (w : World) : (Op.equalIn (d + 2) 35 (.agg #[.int .i64 x.1,.int .i64 x.2]) (.agg #[.int .i64 x.1,.int .i64 x.2])).run Try.prog w = .ok true w := by
  rw [run_equalIn_agg w (d + 1) 35 _ _ fields35 Try.stoodInHeld35]
  simp [Op.eqFields,Program.fieldsOf,underlying35,part,isAgg3,run_equalIn_int w d 3 _ _ _ _ underlying3]
theorem found_eq (o : Option (Int × Int)) (x y : Operand) (w : World) : (eqGuard .eql 44 x y (.agg (fvs o).toArray) (.agg (fvs o).toArray)).run Try.prog w = .ok () w ∧ (binOp .eql 44 (.agg (fvs o).toArray) (.agg (fvs o).toArray)).run Try.prog w = .ok (.bool true) w := by
  refine ⟨run_eqGuard_agg w _ _ _ _ _ _ Try.eqGuardType44,?_⟩
  rw [run_eql_struct,run_equalIn_agg w 9999 44 _ _ fields44 Try.stoodInHeld44]
  have h : ∀ x y : Int,(Op.equalIn 9999 35 (.agg #[.int .i64 x,.int .i64 y]) (.agg #[.int .i64 x,.int .i64 y])).run Try.prog w = .ok true w := fun x y => item_eq 9997 (x,y) w
  have hb : ∀ b : Bool,(Op.equalIn 9999 4 (.bool b) (.bool b)).run Try.prog w = .ok true w := fun b => by
    have := run_equalIn_bool' w 9998 4 b b underlying4
    simpa using this
  cases o with
  | none => simp [fvs,Op.eqFields,Program.fieldsOf,underlying44,part,isAgg35,sizeOf35,isAgg4,h,hb]
  | some y => simp [fvs,Op.eqFields,Program.fieldsOf,underlying44,part,isAgg35,sizeOf35,isAgg4,h,hb]

theorem found_neq (o : Option (Int × Int)) (a b : Operand) (w : World) : (eqGuard .neq 44 a b (.agg (fvs o).toArray) (.agg (fvs o).toArray)).run Try.prog w = .ok () w ∧ (binOp .neq 44 (.agg (fvs o).toArray) (.agg (fvs o).toArray)).run Try.prog w = .ok (.bool false) w := by
  refine ⟨run_eqGuard_agg w _ _ _ _ _ _ Try.eqGuardType44,?_⟩
  rw [run_neq_struct]
  have h := (found_eq o a b w).2
  rw [run_eql_struct] at h
  have h2 : (Op.equalIn 10000 44 (.agg (fvs o).toArray) (.agg (fvs o).toArray)).run Try.prog w = .ok true w := by
    cases hh : (Op.equalIn 10000 44 (.agg (fvs o).toArray) (.agg (fvs o).toArray)).run Try.prog w with
    | ok x w2 => rw [hh] at h; simp [Result.andThen] at h; obtain ⟨h1,h2⟩ := h; rw [h1,h2]
    | _ => rw [hh] at h; simp [Result.andThen] at h
  rw [h2]; rfl

theorem FVe (o : Option (Int × Int)) : FV o = .agg (fvs o).toArray := FV_eq o
theorem fvs_len (o : Option (Int × Int)) : (fvs o).length = 3 := by cases o <;> rfl
theorem fvs_ones (o : Option (Int × Int)) : ones (fvs o) = true := by cases o <;> rfl

end Go.Bt.FB
namespace Go.Bt.FB
open Go Go.Proofs Go.Proofs.Try
set_option maxRecDepth 20000
set_option maxHeartbeats 4000000
set_option linter.unusedVariables false
set_option linter.unusedSectionVars false

section
variable [Inhabited Cx]

end
end Go.Bt.FB
