/- Contracts of functions of the program, proved by walking through their code. Conditions: those that each theorem names. -/
import Derived.Test.YtknkmaigdgfhlaatA
import Derived.Test.YtknkmaigdgfhlaaAc
namespace Go.Bt
open Go Go.Proofs
set_option maxRecDepth 20000
set_option maxHeartbeats 4000000
set_option linter.unusedVariables false

theorem put_specA {B : World} {H : Mem} {v u : Value} {ord : List Int} {l : List (Int × Int)} {x : Int × Int} (ho : InS EN H v ord) (hl : ord.length < 4611686018427387904) (hi : InS EJ H u l) (hs : Pl.Srt (OO ord) l) (hll : l.length ≤ 4294967296) :
    Fn Try.prog B 112 [v, u, .agg (EJ.enc x).toArray] H (fun r H' => ∃ sv, r = .tuple #[sv, FV (Pl.got (OO ord) x l)] ∧ Acc EJ (fun b => H.size ≤ b) H' sv (Pl.put (OO ord) x l) ∧ Fr nowhere H H') := by
  have hF : Fr nowhere H H := Fr.refl _ _
  have hple := Pl.pos_le (OO ord) x l
  have hi0 := hi
  refine fn_of Go.Proofs.Try.func112 rfl Go.Proofs.Try.ntmps112 ?_
  refine (show Go' _ _ _ _ 45 [(0, _), (1, _), (2, _)] [.code _] _ from ?_)
  refine Go'.seq ?_
  -- region 0 (list.go:48)
  refine Go'.region [(0, 2), (1, 0), (2, 2)] rfl ?_
  refine O.box rfl rfl rfl rfl ?_
  intro H1 M1
  refine ⟨trivial, ?_⟩
  have hs1 := M1.size
  replace ho := ho.fr (M1.fr nowhere)
  replace hi := hi.fr (M1.fr nowhere)
  replace hF := hF.trans' (M1.fr nowhere) (fun _ _ _ h => h) (fun _ _ _ h => h.elim)
  have mi : Rd H1 H.size 0 (EJ.enc x) := M1.rd _ [] (by simp [Value.cells])
  refine O.asg rfl rfl rfl rfl rfl ?_
  refine O.alloc rfl rfl rfl Go.Proofs.Try.zeroValue70 ?_
  intro H2 M2
  refine ⟨trivial, ?_⟩
  have hs2 := M2.size
  replace ho := ho.fr (M2.fr nowhere)
  replace hi := hi.fr (M2.fr nowhere)
  replace mi := (M2.fr nowhere).rd mi (fun _ _ => nw)
  replace hF := hF.trans' (M2.fr nowhere) (fun _ _ _ h => h) (fun _ _ _ h => h.elim)
  have m7 : Wr H2 H1.size 0 3 := M2.wr 3 (by decide)
  refine Pl.fin [(0, _), (1, _), (5, _), (6, _), (7, _)] ⟨rfl, rfl, rfl, rfl, rfl, trivial⟩ ?_
  refine Go'.seq ?_
  -- region 1 (list.go:49)
  refine Go'.region [(0, 0), (1, 0), (2, 1), (3, 2), (4, 0), (5, 0), (6, 0), (7, 0), (8, 0)] rfl ?_
  refine O.mv rfl rfl rfl rfl rfl ?_
  refine O.mv rfl rfl rfl rfl rfl ?_
  refine O.lds rfl rfl rfl (fun w => ⟨Go.Proofs.Try.isAgg68 w, Go.Proofs.Try.sizeOf68 w⟩) rfl rfl mi ?_
  refine O.call rfl rfl rfl Go.Proofs.Try.call89 rfl (place_spec ho hl hi hs (by omega)) ?_
  rintro _ H3 ⟨rfl, hF3⟩
  have hs3 := hF3.size
  replace ho := ho.fr hF3
  replace hi := hi.fr hF3
  replace mi := hF3.rd mi (fun _ _ => nw)
  replace m7 := hF3.wr m7
  replace hF := hF.trans' hF3 (fun _ _ _ h => h) (fun _ _ _ h => h.elim)
  refine ⟨trivial, ?_⟩
  refine O.mv rfl rfl rfl rfl rfl ?_
  refine O.ext rfl rfl rfl rfl rfl rfl ?_
  refine O.ext rfl rfl rfl rfl rfl rfl ?_
  refine O.asg rfl rfl rfl rfl rfl ?_
  refine O.asg rfl rfl rfl rfl rfl ?_
  refine Pl.fin [(1, _), (5, _), (6, _), (7, _), (8, _), (9, _)] ⟨rfl, rfl, rfl, rfl, rfl, rfl, trivial⟩ ?_
  refine Go'.seq ?_
  generalize hpi : Pl.pos (OO ord) x l = i at *
  -- region 2 (list.go:50)
  refine Go'.region [(0, 2), (1, 0), (2, 0), (3, 0), (4, 2), (5, 0)] rfl ?_
  refine O.bsl (cs := []) rfl rfl rfl ⟨Go.Proofs.Try.underlying74, Go.Proofs.Try.sizeOf68, Go.Proofs.Try.zeroValue68, ⟨_, Go.Proofs.Try.typeInfo68, rfl⟩, rfl, by decide, by decide⟩ rfl (by decide) (by kernel_rfl) ?_
  intro H4 M4
  have hs4 := M4.size
  replace ho := ho.fr (M4.fr nowhere)
  replace hi := hi.fr (M4.fr nowhere)
  replace mi := (M4.fr nowhere).rd mi (fun _ _ => nw)
  replace m7 := (M4.fr nowhere).wr m7
  replace hF := hF.trans' (M4.fr nowhere) (fun _ _ _ h => h) (fun _ _ _ h => h.elim)
  refine ⟨trivial, ?_⟩
  refine O.mv rfl rfl rfl rfl rfl ?_
  refine O.mv rfl rfl rfl rfl rfl ?_
  refine O.slcIn (E := EJ) (jl := 0) (jh := i) rfl rfl rfl rfl Go.Proofs.Try.underlying74 Go.Proofs.Try.sizeOf68 rfl hi ⟨_, by rfl⟩ rfl (by omega) (by omega) ?_
  intro v1 hv1
  rw [List.drop_zero, Nat.sub_zero] at hv1
  have hl1 : (l.take i).length = i := by rw [List.length_take]; omega
  refine O.app (m := (l.take i).length) (news := (row EJ (l.take i))) rfl rfl rfl ⟨Go.Proofs.Try.underlying74, Go.Proofs.Try.sizeOf68, Go.Proofs.Try.zeroValue68, ⟨_, Go.Proofs.Try.typeInfo68, rfl⟩, rfl, by decide, by decide⟩ rfl (Sl.none _ _ _ _) rfl hv1.src (row_len EJ _) (row_ones EJ _) (Nat.le_trans (Nat.mul_le_mul_left _ (Nat.le_of_ble_eq_true (n := _) (m := 4096) rfl)) (by omega)) (by omega) ?_
  intro b1 o1 c1 H5 ha
  have hsz5 := ha.fr.size
  have hsl1 : SlE EJ H5 b1 o1 c1 (l.take i) := SlE.of ha.sl (by rw [List.nil_append]) (Nat.zero_add _)
  have hb1 : H.size + 2 ≤ b1 := by rcases ha.place with ⟨r, _⟩ | ⟨r, _⟩ <;> omega
  replace ho := ho.fr ha.quiet
  replace hi := hi.fr ha.quiet
  replace mi := ha.quiet.rd mi (fun _ _ => nw)
  replace m7 := ha.quiet.wr m7
  replace hF := hF.trans' ha.quiet (fun _ _ _ h => h) (fun _ _ _ h => h.elim)
  refine ⟨trivial, ?_⟩
  refine O.asg rfl rfl rfl rfl rfl ?_
  refine Pl.fin [(1, _), (5, _), (6, _), (7, _), (8, _), (9, _), (10, _)] ⟨rfl, rfl, rfl, rfl, rfl, rfl, rfl, trivial⟩ ?_
  refine Go'.seq ?_
  rw [Nat.zero_add]
  -- region 3 (list.go:51)
  refine Go'.region [(0, 0), (1, 1), (2, 2), (3, 2), (4, 0)] rfl ?_
  refine O.mv rfl rfl rfl rfl rfl ?_
  refine O.lds rfl rfl rfl (fun w => ⟨Go.Proofs.Try.isAgg68 w, Go.Proofs.Try.sizeOf68 w⟩) rfl rfl mi ?_
  refine O.bsl (cs := (EJ.enc x)) rfl rfl rfl ⟨Go.Proofs.Try.underlying74, Go.Proofs.Try.sizeOf68, Go.Proofs.Try.zeroValue68, ⟨_, Go.Proofs.Try.typeInfo68, rfl⟩, rfl, by decide, by decide⟩ rfl (by decide) (by kernel_rfl) ?_
  intro H6 M6
  have hs6 := M6.size
  replace ho := ho.fr (M6.fr nowhere)
  replace hi := hi.fr (M6.fr nowhere)
  replace mi := (M6.fr nowhere).rd mi (fun _ _ => nw)
  replace m7 := (M6.fr nowhere).wr m7
  replace hF := hF.trans' (M6.fr nowhere) (fun _ _ _ h => h) (fun _ _ _ h => h.elim)
  replace hsl1 := hsl1.fr (M6.fr nowhere) (fun _ _ _ => nw)
  have m6 : Rd H6 H5.size 0 (EJ.enc x) := M6.rd _ [] (by simp)
  refine ⟨trivial, ?_⟩
  refine O.app (m := 1) (news := (EJ.enc x)) rfl rfl rfl ⟨Go.Proofs.Try.underlying74, Go.Proofs.Try.sizeOf68, Go.Proofs.Try.zeroValue68, ⟨_, Go.Proofs.Try.typeInfo68, rfl⟩, rfl, by decide, by decide⟩ rfl hsl1 rfl (.inl ⟨_, _, _, rfl, m6⟩) rfl rfl (Nat.le_trans (Nat.mul_le_mul_left _ (Nat.le_of_ble_eq_true (n := _) (m := 4096) rfl)) (by omega)) (by omega) ?_
  intro b2 o2 c2 H7 ha2
  have hsz7 := ha2.fr.size
  have hsl2 : Sl H7 b2 o2 ((l.take i).length + 1) c2 2 (row EJ (l.take i ++ [x])) := by rw [row_append, row_one]; exact ha2.sl
  have hb2 : H.size + 2 ≤ b2 := by rcases ha2.place with ⟨r, _⟩ | ⟨r, _⟩ <;> omega
  replace m7 := ha2.fr.wr m7
  replace hF := hF.trans' ha2.fr (fun _ _ _ h => h) (fun b o hb hz => by have h1 := hz.1; omega)
  replace hi := hi0.fr hF
  refine ⟨trivial, ?_⟩
  refine O.asg rfl rfl rfl rfl rfl ?_
  refine Pl.fin [(1, _), (6, _), (7, _), (8, _), (9, _), (10, _)] ⟨rfl, rfl, rfl, rfl, rfl, rfl, trivial⟩ ?_
  refine Go'.seq ?_
  refine Go'.seq ?_
  -- region 4 (list.go:52)
  refine Go'.region [(0, 0)] rfl ?_
  refine O.mv rfl rfl rfl rfl rfl ?_
  refine Pl.fin [(1, _), (6, _), (7, _), (8, _), (10, _), (27, _)] ⟨rfl, rfl, rfl, rfl, rfl, rfl, trivial⟩ ?_
  cases hfd : Pl.fnd (OO ord) x l
  · -- new
    refine Go'.condF rfl ?_
    refine Go'.skip ?_
    refine Go'.seq ?_
    -- region 6 (list.go:55)
    refine Go'.region [(0, 0), (1, 0), (2, 0), (3, 0), (4, 2), (5, 0), (6, 0), (7, 2)] rfl ?_
    refine O.mv rfl rfl rfl rfl rfl ?_
    refine O.mv rfl rfl rfl rfl rfl ?_
    refine O.mv rfl rfl rfl rfl rfl ?_
    refine O.slcIn (E := EJ) (jl := i) (jh := l.length) rfl rfl rfl rfl Go.Proofs.Try.underlying74 Go.Proofs.Try.sizeOf68 rfl hi rfl ⟨_, by rfl⟩ (by omega) (by omega) ?_
    intro v2 hv2
    rw [List.take_of_length_le (by rw [List.length_drop]; omega)] at hv2
    refine O.app (m := (l.drop i).length) (news := (row EJ (l.drop i))) rfl rfl rfl ⟨Go.Proofs.Try.underlying74, Go.Proofs.Try.sizeOf68, Go.Proofs.Try.zeroValue68, ⟨_, Go.Proofs.Try.typeInfo68, rfl⟩, rfl, by decide, by decide⟩ rfl hsl2 rfl hv2.src (row_len EJ _) (row_ones EJ _) (Nat.le_trans (Nat.mul_le_mul_left _ (Nat.le_of_ble_eq_true (n := _) (m := 4096) rfl)) (by rw [List.length_drop]; omega)) (by rw [List.length_drop]; omega) ?_
    intro b3 o3 c3 H8 ha3
    have hsz8 := ha3.fr.size
    have hsl3 : SlE EJ H8 b3 o3 c3 (l.take i ++ [x] ++ l.drop i) := SlE.of ha3.sl (by rw [← row_append]) (by rw [List.length_append, List.length_append]; rfl)
    have hb3 : H.size + 2 ≤ b3 := by rcases ha3.place with ⟨r, _⟩ | ⟨r, _⟩ <;> omega
    replace m7 := ha3.fr.wr m7
    replace hF := hF.trans' ha3.fr (fun _ _ _ h => h) (fun b o hb hz => by have h1 := hz.1; omega)
    refine ⟨trivial, ?_⟩
    refine O.bld (cs := (fvs none)) rfl rfl rfl rfl (st70) rfl (by kernel_rfl) ?_
    refine O.asg rfl rfl rfl rfl rfl ?_
    refine O.st rfl rfl Go.Proofs.Try.sizeOf70 rfl rfl rfl rfl rfl m7 ?_
    intro H9 W9
    replace hsl3 := hsl3.fr W9.fr (fun _ _ _ => nr (.inl (by omega)))
    replace hF := hF.trans' W9.fr (fun _ _ _ h => h) (fun b o hb hz => by have h1 := hz.1; omega)
    have hfin : Pl.put (OO ord) x l = l.take i ++ [x] ++ l.drop (i + (Pl.fnd (OO ord) x l).toNat) := by unfold Pl.put; rw [hpi]; simp
    refine ⟨trivial, ?_⟩
    refine Pl.fin [(6, _), (7, _)] ⟨rfl, rfl, trivial⟩ ?_
    refine Go'.ret (vs := [_, _]) Go.Proofs.Try.func112 Go.Proofs.Try.results112 ⟨rfl, ⟨_, _, rfl, fun _ _ => run_loadVar_agg (fun w => ⟨Go.Proofs.Try.isAgg70 w, Go.Proofs.Try.sizeOf70 w⟩) rfl W9.all⟩, trivial⟩ ?_
    refine ⟨_, by rw [Pl.got_none _ hfd]; rfl, .inr ⟨b3, o3, c3, ?_, by omega, hsl3.lt (by have h1 := hsl3.hle; simp only [List.length_append, List.length_cons, List.length_nil] at h1; show 0 < c3 * 2; omega), ?_⟩, hF⟩
    · rw [hfin, hfd]; simp only [Bool.toNat_false, Nat.add_zero, List.length_append]; rfl
    · rw [hfin, hfd]; exact hsl3
  · -- there is one
    refine Go'.condT rfl ?_
    refine Go'.seq ?_
    obtain ⟨y, hy, _, _⟩ := Pl.fnd_at (OO ord) hs hfd
    rw [hpi] at hy
    have hil : i < l.length := (List.getElem?_eq_some_iff.1 hy).1
    obtain ⟨bl, ol, cl', hue, hir⟩ := hi.at hy
    have hbl : bl < H.size := by
      obtain ⟨b0, o0, c0, hue0, hir0⟩ := hi0.at hy
      rw [hue] at hue0
      cases hue0
      exact cl_lt (hir0 0 _ rfl)
    subst hue
    -- region 5 (list.go:53)
    refine Go'.draw (fun H' => Rd H' bl (ol + i * 2) (EJ.enc y)) [(0, 0), (1, 0), (2, 0), (3, 0), (4, 0), (6, 0), (7, 0), (8, 0), (9, 0), (10, 0), (5, 2), (11, 0), (12, 3)] (by kernel_rfl) (by kernel_rfl) (hir) ?_
    refine O.mv rfl rfl rfl rfl rfl ?_
    refine O.mv rfl rfl rfl rfl rfl ?_
    refine O.mv rfl rfl rfl rfl rfl ?_
    refine O.add (((i + 1 : Nat) : Int)) rfl rfl rfl rfl rfl rfl (by omega) (by omega) ?_
    refine O.slcIn (E := EJ) (jl := i + 1) (jh := l.length) rfl rfl rfl rfl Go.Proofs.Try.underlying74 Go.Proofs.Try.sizeOf68 rfl hi rfl ⟨_, by rfl⟩ (by omega) (by omega) ?_
    intro v2 hv2
    rw [List.take_of_length_le (by rw [List.length_drop]; omega)] at hv2
    refine O.mv rfl rfl rfl rfl rfl ?_
    refine O.mv rfl rfl rfl rfl rfl ?_
    refine O.ix (j := i) rfl rfl rfl rfl Go.Proofs.Try.underlying74 Go.Proofs.Try.sizeOf68 rfl rfl (by omega) (by omega) ?_
    refine O.ldsC rfl rfl rfl (fun w => ⟨Go.Proofs.Try.isAgg68 w, Go.Proofs.Try.sizeOf68 w⟩) rfl rfl (fun _ h => h) ?_
    refine O.bld (cs := (fvs (some y))) rfl rfl rfl rfl (st70) rfl (by kernel_rfl) ?_
    refine O.app (m := (l.drop (i + 1)).length) (news := (row EJ (l.drop (i + 1)))) rfl rfl rfl ⟨Go.Proofs.Try.underlying74, Go.Proofs.Try.sizeOf68, Go.Proofs.Try.zeroValue68, ⟨_, Go.Proofs.Try.typeInfo68, rfl⟩, rfl, by decide, by decide⟩ rfl hsl2 rfl hv2.src (row_len EJ _) (row_ones EJ _) (Nat.le_trans (Nat.mul_le_mul_left _ (Nat.le_of_ble_eq_true (n := _) (m := 4096) rfl)) (by rw [List.length_drop]; omega)) (by rw [List.length_drop]; omega) ?_
    intro b3 o3 c3 H8 ha3
    have hsz8 := ha3.fr.size
    have hsl3 : SlE EJ H8 b3 o3 c3 (l.take i ++ [x] ++ l.drop (i + 1)) := SlE.of ha3.sl (by rw [← row_append]) (by rw [List.length_append, List.length_append]; rfl)
    have hb3 : H.size + 2 ≤ b3 := by rcases ha3.place with ⟨r, _⟩ | ⟨r, _⟩ <;> omega
    replace m7 := ha3.fr.wr m7
    replace hF := hF.trans' ha3.fr (fun _ _ _ h => h) (fun b o hb hz => by have h1 := hz.1; omega)
    replace hir := ha3.fr.rd hir (fun _ _ => nr (.inl (by omega)))
    refine ⟨hir, ?_⟩
    refine O.asg rfl rfl rfl rfl rfl ?_
    refine O.st3 rfl rfl Go.Proofs.Try.sizeOf70 rfl rfl rfl rfl rfl m7 ?_
    intro H9 W9
    replace hsl3 := hsl3.fr W9.fr (fun _ _ _ => nr (.inl (by omega)))
    replace hF := hF.trans' W9.fr (fun _ _ _ h => h) (fun b o hb hz => by have h1 := hz.1; omega)
    have hfin : Pl.put (OO ord) x l = l.take i ++ [x] ++ l.drop (i + (Pl.fnd (OO ord) x l).toNat) := by unfold Pl.put; rw [hpi]; simp
    refine Pl.fin [(1, _), (6, _), (7, _), (8, _), (10, _)] ⟨rfl, rfl, rfl, rfl, rfl, trivial⟩ ?_
    refine Go'.ret (vs := [_, _]) Go.Proofs.Try.func112 Go.Proofs.Try.results112 ⟨rfl, ⟨_, _, rfl, fun _ _ => run_loadVar_agg (fun w => ⟨Go.Proofs.Try.isAgg70 w, Go.Proofs.Try.sizeOf70 w⟩) rfl W9.all⟩, trivial⟩ ?_
    refine ⟨_, by rw [Pl.got_some _ hfd, hpi, hy]; rfl, .inr ⟨b3, o3, c3, ?_, by omega, hsl3.lt (by have h1 := hsl3.hle; simp only [List.length_append, List.length_cons, List.length_nil] at h1; show 0 < c3 * 2; omega), ?_⟩, hF⟩
    · rw [hfin, hfd]; simp only [Bool.toNat_true, List.length_append]; rfl
    · rw [hfin, hfd]; exact hsl3

theorem put_spec {B : World} {H : Mem} {v u : Value} {ord : List Int} {l : List (Int × Int)} {x : Int × Int} (ho : InS EN H v ord) (hl : ord.length < 4611686018427387904) (hi : InS EJ H u l) (hs : Pl.Srt (OO ord) l) (hll : l.length ≤ 4294967296) :
    Fn Try.prog B 112 [v, u, .agg (EJ.enc x).toArray] H (fun r H' => ∃ sv, r = .tuple #[sv, FV (Pl.got (OO ord) x l)] ∧ OutS EJ H' sv (Pl.put (OO ord) x l) ∧ Fr nowhere H H') :=
  (put_specA ho hl hi hs hll).mono fun _ _ ⟨sv, e, h, k⟩ => ⟨sv, e, h.out, k⟩

end Go.Bt