/- Contracts of functions of the program, proved by walking through their code. Conditions: those that each theorem names. -/
import Derived.Test.YtknkmaigdgfhlaatB
namespace Go.Bt
open Go Go.Proofs
set_option maxRecDepth 20000
set_option maxHeartbeats 4000000
set_option linter.unusedVariables false

def ath (l : List (Int × Int)) (z : Int) : Option (Int × Int) := if z < 0 then none else l[z.toNat]?
theorem ath_nat (l : List (Int × Int)) (i : Nat) : ath l (i : Int) = l[i]? := by unfold ath; rw [if_neg (by omega)]; rfl
def cutl (l : List (Int × Int)) (z : Int) : List (Int × Int) := if z < 0 then l else l.take z.toNat ++ l.drop (z.toNat + 1)

theorem cut_spec {B : World} {H : Mem} {u : Value} {l : List (Int × Int)} (z : Int) (hi : InS EJ H u l) (hll : l.length ≤ 4294967296) :
    Fn Try.prog B 123 [u, .int .i64 z] H (fun r H' => ∃ sv, r = .tuple #[sv, FV (ath l z)] ∧ ((ath l z = none ∧ sv = u) ∨ OutS EJ H' sv (cutl l z)) ∧ Fr nowhere H H') := by
  have hF : Fr nowhere H H := Fr.refl _ _
  obtain ⟨a, c, hu⟩ := hi.len
  subst hu
  have hi0 := hi
  refine fn_of Go.Proofs.Try.func123 rfl Go.Proofs.Try.ntmps123 ?_
  refine (show Go' _ _ _ _ 31 [(0, _), (1, _)] [.code _] _ from ?_)
  refine Go'.seq ?_
  -- region 0 (list.go:59)
  refine Go'.region [(0, 0), (1, 2)] rfl ?_
  refine O.asg rfl rfl rfl rfl rfl ?_
  refine O.alloc rfl rfl rfl Go.Proofs.Try.zeroValue70 ?_
  intro H1 M1
  refine ⟨trivial, ?_⟩
  have hs1 := M1.size
  replace hi := hi.fr (M1.fr nowhere)
  replace hF := hF.trans' (M1.fr nowhere) (fun _ _ _ h => h) (fun _ _ _ h => h.elim)
  have m5 : Wr H1 H.size 0 3 := M1.wr 3 (by decide)
  refine Pl.fin [(0, _), (1, _), (4, _), (5, _)] ⟨rfl, rfl, rfl, rfl, trivial⟩ ?_
  refine Go'.seq ?_
  refine Go'.seq ?_
  by_cases hz : z < 0
  · -- below
    have ha0 : ath l z = none := by unfold ath; rw [if_pos hz]
    -- region 1 (list.go:60)
    refine Go'.region [(0, 0), (1, 0), (2, 0), (3, 0), (4, 0), (5, 0), (6, 0), (7, 0)] rfl ?_
    refine O.mv rfl rfl rfl rfl rfl ?_
    refine O.cmp rfl rfl rfl rfl rfl rfl (lssT (by omega)) ?_
    refine O.mv rfl rfl rfl rfl rfl ?_
    refine Pl.pass rfl rfl rfl rfl ?_
    refine Pl.pass rfl rfl rfl rfl ?_
    refine Pl.pass rfl rfl rfl rfl ?_
    refine Pl.pass rfl rfl rfl rfl ?_
    refine O.pick rfl rfl rfl rfl rfl rfl ?_
    refine Pl.fin [(0, _), (1, _), (4, _), (5, _), (13, _)] ⟨rfl, rfl, rfl, rfl, rfl, trivial⟩ ?_
    refine Go'.condT rfl ?_
    refine Go'.seq ?_
    -- region 2 (list.go:61)
    refine Go'.region [(0, 0), (1, 0), (2, 0), (3, 2)] rfl ?_
    refine O.mv rfl rfl rfl rfl rfl ?_
    refine O.bld (cs := (fvs none)) rfl rfl rfl rfl (st70) rfl (by kernel_rfl) ?_
    refine O.asg rfl rfl rfl rfl rfl ?_
    refine O.st rfl rfl Go.Proofs.Try.sizeOf70 rfl rfl rfl rfl rfl m5 ?_
    intro H2 W2
    replace hF := hF.trans' W2.fr (fun _ _ _ h => h) (fun b o hb hz => by have h1 := hz.1; omega)
    refine ⟨trivial, ?_⟩
    refine Pl.fin [(0, _), (1, _), (4, _), (5, _)] ⟨rfl, rfl, rfl, rfl, trivial⟩ ?_
    refine Go'.ret (vs := [_, _]) Go.Proofs.Try.func123 Go.Proofs.Try.results123 ⟨rfl, ⟨_, _, rfl, fun _ _ => run_loadVar_agg (fun w => ⟨Go.Proofs.Try.isAgg70 w, Go.Proofs.Try.sizeOf70 w⟩) rfl W2.all⟩, trivial⟩ ?_
    exact ⟨_, by rw [ha0]; rfl, .inl ⟨ha0, rfl⟩, hF⟩
  obtain ⟨i, rfl⟩ := Int.eq_ofNat_of_zero_le (by omega : 0 ≤ z)
  by_cases hil : l.length ≤ i
  · -- above
    have ha0 : ath l (i : Int) = none := by rw [ath_nat, List.getElem?_eq_none hil]
    -- region 1 (list.go:60)
    refine Go'.region [(0, 0), (1, 0), (2, 0), (3, 0), (4, 0), (5, 0), (6, 0), (7, 0)] rfl ?_
    refine O.mv rfl rfl rfl rfl rfl ?_
    refine O.cmp rfl rfl rfl rfl rfl rfl (lssF (by omega)) ?_
    refine O.mv rfl rfl rfl rfl rfl ?_
    refine O.mv rfl rfl rfl rfl rfl ?_
    refine O.mv rfl rfl rfl rfl rfl ?_
    refine O.len rfl rfl rfl rfl Go.Proofs.Try.underlying74 rfl ?_
    refine O.cmp rfl rfl rfl rfl rfl rfl (geqT (by omega)) ?_
    refine O.pick rfl rfl rfl rfl rfl rfl ?_
    refine Pl.fin [(0, _), (1, _), (4, _), (5, _), (13, _)] ⟨rfl, rfl, rfl, rfl, rfl, trivial⟩ ?_
    refine Go'.condT rfl ?_
    refine Go'.seq ?_
    -- region 2 (list.go:61)
    refine Go'.region [(0, 0), (1, 0), (2, 0), (3, 2)] rfl ?_
    refine O.mv rfl rfl rfl rfl rfl ?_
    refine O.bld (cs := (fvs none)) rfl rfl rfl rfl (st70) rfl (by kernel_rfl) ?_
    refine O.asg rfl rfl rfl rfl rfl ?_
    refine O.st rfl rfl Go.Proofs.Try.sizeOf70 rfl rfl rfl rfl rfl m5 ?_
    intro H2 W2
    replace hF := hF.trans' W2.fr (fun _ _ _ h => h) (fun b o hb hz => by have h1 := hz.1; omega)
    refine ⟨trivial, ?_⟩
    refine Pl.fin [(0, _), (1, _), (4, _), (5, _)] ⟨rfl, rfl, rfl, rfl, trivial⟩ ?_
    refine Go'.ret (vs := [_, _]) Go.Proofs.Try.func123 Go.Proofs.Try.results123 ⟨rfl, ⟨_, _, rfl, fun _ _ => run_loadVar_agg (fun w => ⟨Go.Proofs.Try.isAgg70 w, Go.Proofs.Try.sizeOf70 w⟩) rfl W2.all⟩, trivial⟩ ?_
    exact ⟨_, by rw [ha0]; rfl, .inl ⟨ha0, rfl⟩, hF⟩
  replace hil : i < l.length := by omega
  obtain ⟨y, hy⟩ : ∃ y, l[i]? = some y := ⟨l[i], List.getElem?_eq_getElem hil⟩
  obtain ⟨bl, ol, cc, hue, hir⟩ := hi.at hy
  have hbl : bl < H.size := by
    obtain ⟨b0, o0, c0, hue0, hir0⟩ := hi0.at hy
    rw [hue] at hue0
    cases hue0
    exact cl_lt (hir0 0 _ rfl)
  cases hue
  have hl1 : (l.take i).length = i := by rw [List.length_take]; omega
  -- region 1 (list.go:60)
  refine Go'.region [(0, 0), (1, 0), (2, 0), (3, 0), (4, 0), (5, 0), (6, 0), (7, 0)] rfl ?_
  refine O.mv rfl rfl rfl rfl rfl ?_
  refine O.cmp rfl rfl rfl rfl rfl rfl (lssF (by omega)) ?_
  refine O.mv rfl rfl rfl rfl rfl ?_
  refine O.mv rfl rfl rfl rfl rfl ?_
  refine O.mv rfl rfl rfl rfl rfl ?_
  refine O.len rfl rfl rfl rfl Go.Proofs.Try.underlying74 rfl ?_
  refine O.cmp rfl rfl rfl rfl rfl rfl (geqF (by omega)) ?_
  refine O.pick rfl rfl rfl rfl rfl rfl ?_
  refine Pl.fin [(0, _), (1, _), (4, _), (5, _), (13, _)] ⟨rfl, rfl, rfl, rfl, rfl, trivial⟩ ?_
  refine Go'.condF rfl ?_
  refine Go'.skip ?_
  refine Go'.seq ?_
  -- region 3 (list.go:63)
  refine Go'.draw (fun H' => Rd H' bl (ol + i * 2) (EJ.enc y)) [(1, 0), (2, 0), (3, 0), (5, 0), (6, 0), (7, 0), (8, 0), (10, 0), (11, 0), (12, 0), (13, 0), (14, 0), (0, 2), (4, 2), (9, 2), (15, 0), (16, 3)] (by kernel_rfl) (by kernel_rfl) (hir) ?_
  refine O.mv rfl rfl rfl rfl rfl ?_
  refine O.mv rfl rfl rfl rfl rfl ?_
  refine O.slcIn (E := EJ) (jl := 0) (jh := i) rfl rfl rfl rfl Go.Proofs.Try.underlying74 Go.Proofs.Try.sizeOf68 rfl hi ⟨_, by rfl⟩ rfl (by omega) (by omega) ?_
  intro v1 hv1
  rw [List.drop_zero, Nat.sub_zero] at hv1
  refine O.mv rfl rfl rfl rfl rfl ?_
  refine O.mv rfl rfl rfl rfl rfl ?_
  refine O.add (((i + 1 : Nat) : Int)) rfl rfl rfl rfl rfl rfl (by omega) (by omega) ?_
  refine O.slcIn (E := EJ) (jl := i + 1) (jh := l.length) rfl rfl rfl rfl Go.Proofs.Try.underlying74 Go.Proofs.Try.sizeOf68 rfl hi rfl ⟨_, by rfl⟩ (by omega) (by omega) ?_
  intro v2 hv2
  rw [List.take_of_length_le (by rw [List.length_drop]; omega)] at hv2
  refine O.mv rfl rfl rfl rfl rfl ?_
  refine O.mv rfl rfl rfl rfl rfl ?_
  refine O.ix (j := i) rfl rfl rfl rfl Go.Proofs.Try.underlying74 Go.Proofs.Try.sizeOf68 rfl rfl (by omega) hil ?_
  refine O.ldsC rfl rfl rfl (fun w => ⟨Go.Proofs.Try.isAgg68 w, Go.Proofs.Try.sizeOf68 w⟩) rfl rfl (fun _ h => h) ?_
  refine O.bld (cs := (fvs (some y))) rfl rfl rfl rfl (st70) rfl (by kernel_rfl) ?_
  refine O.bsl (cs := []) rfl rfl rfl ⟨Go.Proofs.Try.underlying74, Go.Proofs.Try.sizeOf68, Go.Proofs.Try.zeroValue68, ⟨_, Go.Proofs.Try.typeInfo68, rfl⟩, rfl, by decide, by decide⟩ rfl (by decide) (by kernel_rfl) ?_
  intro H4 M4
  have hs4 := M4.size
  replace hi := hi.fr (M4.fr nowhere)
  replace m5 := (M4.fr nowhere).wr m5
  replace hir := (M4.fr nowhere).rd hir (fun _ _ => nw)
  replace hv1 := hv1.fr (M4.fr nowhere)
  replace hv2 := hv2.fr (M4.fr nowhere)
  replace hF := hF.trans' (M4.fr nowhere) (fun _ _ _ h => h) (fun _ _ _ h => h.elim)
  refine ⟨hir, ?_⟩
  refine O.app (m := (l.take i).length) (news := (row EJ (l.take i))) rfl rfl rfl ⟨Go.Proofs.Try.underlying74, Go.Proofs.Try.sizeOf68, Go.Proofs.Try.zeroValue68, ⟨_, Go.Proofs.Try.typeInfo68, rfl⟩, rfl, by decide, by decide⟩ rfl (Sl.none _ _ _ _) rfl hv1.src (row_len EJ _) (row_ones EJ _) (Nat.le_trans (Nat.mul_le_mul_left _ (Nat.le_of_ble_eq_true (n := _) (m := 4096) rfl)) (by omega)) (by omega) ?_
  intro b1 o1 c1 H5 ha
  have hsz5 := ha.fr.size
  have hsl1 : Sl H5 b1 o1 (0 + (l.take i).length) c1 2 (row EJ (l.take i)) := ha.sl
  have hb1 : H.size + 1 ≤ b1 := by rcases ha.place with ⟨r, _⟩ | ⟨r, _⟩ <;> omega
  replace hi := hi.fr ha.quiet
  replace m5 := ha.quiet.wr m5
  replace hir := ha.quiet.rd hir (fun _ _ => nw)
  replace hv2 := hv2.fr ha.quiet
  replace hF := hF.trans' ha.quiet (fun _ _ _ h => h) (fun _ _ _ h => h.elim)
  refine ⟨hir, ?_⟩
  refine O.app (m := (l.drop (i + 1)).length) (news := (row EJ (l.drop (i + 1)))) rfl rfl rfl ⟨Go.Proofs.Try.underlying74, Go.Proofs.Try.sizeOf68, Go.Proofs.Try.zeroValue68, ⟨_, Go.Proofs.Try.typeInfo68, rfl⟩, rfl, by decide, by decide⟩ rfl hsl1 rfl hv2.src (row_len EJ _) (row_ones EJ _) (Nat.le_trans (Nat.mul_le_mul_left _ (Nat.le_of_ble_eq_true (n := _) (m := 4096) rfl)) (by rw [List.length_drop]; omega)) (by rw [List.length_drop]; omega) ?_
  intro b3 o3 c3 H8 ha3
  have hsz8 := ha3.fr.size
  have hsl3 : SlE EJ H8 b3 o3 c3 (l.take i ++ l.drop (i + 1)) := SlE.of ha3.sl (by rw [← row_append]) (by rw [List.length_append, Nat.zero_add])
  have hb3 : H.size + 1 ≤ b3 := by rcases ha3.place with ⟨r, _⟩ | ⟨r, _⟩ <;> omega
  replace m5 := ha3.fr.wr m5
  replace hir := ha3.fr.rd hir (fun _ _ => nr (.inl (by omega)))
  replace hF := hF.trans' ha3.fr (fun _ _ _ h => h) (fun b o hb hz => by have h1 := hz.1; omega)
  refine ⟨hir, ?_⟩
  refine O.asg rfl rfl rfl rfl rfl ?_
  refine O.st3 rfl rfl Go.Proofs.Try.sizeOf70 rfl rfl rfl rfl rfl m5 ?_
  intro H9 W9
  replace hsl3 := hsl3.fr W9.fr (fun _ _ _ => nr (.inl (by omega)))
  replace hF := hF.trans' W9.fr (fun _ _ _ h => h) (fun b o hb hz => by have h1 := hz.1; omega)
  refine Pl.fin [(4, _), (5, _)] ⟨rfl, rfl, trivial⟩ ?_
  refine Go'.ret (vs := [_, _]) Go.Proofs.Try.func123 Go.Proofs.Try.results123 ⟨rfl, ⟨_, _, rfl, fun _ _ => run_loadVar_agg (fun w => ⟨Go.Proofs.Try.isAgg70 w, Go.Proofs.Try.sizeOf70 w⟩) rfl W9.all⟩, trivial⟩ ?_
  have hc : cutl l (i : Int) = l.take i ++ l.drop (i + 1) := by unfold cutl; rw [if_neg (by omega)]; rfl
  refine ⟨_, by rw [ath_nat, hy]; rfl, .inr ?_, hF⟩
  rw [hc]
  exact .inr ⟨b3, o3, c3, by rw [List.length_append, Nat.zero_add], hsl3⟩

theorem at_spec {B : World} {H : Mem} {u : Value} {l : List (Int × Int)} (z : Int) (hi : InS EJ H u l) (hll : l.length ≤ 4294967296) :
    Fn Try.prog B 87 [u, .int .i64 z] H (fun r H' => r = FV (ath l z) ∧ Fr nowhere H H') := by
  have hF : Fr nowhere H H := Fr.refl _ _
  refine fn_of Go.Proofs.Try.func87 rfl Go.Proofs.Try.ntmps87 ?_
  refine (show Go' _ _ _ _ 14 [(0, _), (1, _)] [.code _] _ from ?_)
  refine Go'.seq ?_
  -- region 0 (list.go:76)
  refine Go'.region [(0, 2)] rfl ?_
  refine O.alloc rfl rfl rfl Go.Proofs.Try.zeroValue70 ?_
  intro H1 M1
  refine ⟨trivial, ?_⟩
  have hs1 := M1.size
  replace hi := hi.fr (M1.fr nowhere)
  replace hF := hF.trans' (M1.fr nowhere) (fun _ _ _ h => h) (fun _ _ _ h => h.elim)
  have m4 : Wr H1 H.size 0 3 := M1.wr 3 (by decide)
  refine Pl.fin [(0, _), (1, _), (4, _)] ⟨rfl, rfl, rfl, trivial⟩ ?_
  refine Go'.seq ?_
  -- region 1 (list.go:77)
  refine Go'.region [(0, 0), (1, 0), (2, 2), (3, 0), (4, 0), (5, 0), (6, 2), (7, 0), (8, 2)] rfl ?_
  refine O.mv rfl rfl rfl rfl rfl ?_
  refine O.mv rfl rfl rfl rfl rfl ?_
  refine O.call rfl rfl rfl Go.Proofs.Try.call123 rfl (cut_spec z hi hll) ?_
  rintro _ H2 ⟨sv, rfl, _, hF2⟩
  have hs2 := hF2.size
  replace m4 := hF2.wr m4
  replace hF := hF.trans' hF2 (fun _ _ _ h => h) (fun _ _ _ h => h.elim)
  refine ⟨trivial, ?_⟩
  refine O.mv rfl rfl rfl rfl rfl ?_
  refine O.ext rfl rfl rfl rfl rfl rfl ?_
  refine O.ext rfl rfl rfl rfl rfl rfl ?_
  refine O.alloc rfl rfl rfl Go.Proofs.Try.zeroValue70 ?_
  intro H3 M3
  refine ⟨trivial, ?_⟩
  have hs3 := M3.size
  replace m4 := (M3.fr nowhere).wr m4
  replace hF := hF.trans' (M3.fr nowhere) (fun _ _ _ h => h) (fun _ _ _ h => h.elim)
  have m6 : Wr H3 H2.size 0 3 := M3.wr 3 (by decide)
  rw [FV_eq (ath l z)]
  refine O.asg rfl rfl rfl rfl rfl ?_
  refine O.st (vs := (fvs (ath l z))) rfl rfl Go.Proofs.Try.sizeOf70 rfl rfl rfl (by cases ath l z <;> rfl) (by cases ath l z <;> rfl) m6 ?_
  intro H4 W4
  have hs4 := W4.size
  replace m4 := W4.fr.wr m4
  replace hF := hF.trans' W4.fr (fun _ _ _ h => h) (fun b o hb hz => by have h1 := hz.1; omega)
  refine ⟨trivial, ?_⟩
  refine Pl.fin [(4, _), (6, _)] ⟨rfl, rfl, trivial⟩ ?_
  refine Go'.seq ?_
  -- region 2 (list.go:78)
  refine Go'.region [(0, 1), (1, 2)] rfl ?_
  refine O.lds rfl rfl rfl (fun w => ⟨Go.Proofs.Try.isAgg70 w, Go.Proofs.Try.sizeOf70 w⟩) rfl (by cases ath l z <;> rfl) W4.all ?_
  refine O.st (vs := (fvs (ath l z))) rfl rfl Go.Proofs.Try.sizeOf70 rfl rfl rfl (by cases ath l z <;> rfl) (by cases ath l z <;> rfl) m4 ?_
  intro H5 W5
  replace hF := hF.trans' W5.fr (fun _ _ _ h => h) (fun b o hb hz => by have h1 := hz.1; omega)
  refine ⟨trivial, ?_⟩
  refine Pl.fin [(4, _)] ⟨rfl, trivial⟩ ?_
  refine Go'.ret (vs := [_]) Go.Proofs.Try.func87 Go.Proofs.Try.results87 ⟨⟨_, _, rfl, fun _ _ => run_loadVar_agg (fun w => ⟨Go.Proofs.Try.isAgg70 w, Go.Proofs.Try.sizeOf70 w⟩) (by cases ath l z <;> rfl) W5.all⟩, trivial⟩ ?_
  exact ⟨rfl, hF⟩

theorem tree_spec {B : World} {H : Mem} {v u : Value} {ord : List Int} {l : List (Int × Int)} (ho : InS EN H v ord) (hl : ord.length < 4611686018427387904) (hi : InS EJ H u l) (hll : l.length ≤ 4294967296) :
    Fn Try.prog B 69 [v, u] H (fun r H' => OutS EJ H' r (Pl.puts (OO ord) l) ∧ Fr nowhere H H') := by
  obtain ⟨a, c, hu⟩ := hi.len
  subst hu
  refine fn_of Go.Proofs.Try.func69 rfl Go.Proofs.Try.ntmps69 ?_
  refine (show Go' _ _ _ _ 23 [(0, _), (1, _)] [.code _] _ from ?_)
  refine Go'.seq ?_
  -- region 0 (list.go:82)
  refine Go'.region [(0, 0)] rfl ?_
  refine O.asg rfl rfl rfl rfl rfl ?_
  refine Pl.fin [(0, _), (1, _), (4, _)] ⟨rfl, rfl, rfl, trivial⟩ ?_
  refine Go'.seq ?_
  -- region 1 (list.go:83)
  refine Go'.region [(0, 0)] rfl ?_
  refine O.asg rfl rfl rfl rfl rfl ?_
  refine Pl.fin [(0, _), (1, _), (4, _), (5, _)] ⟨rfl, rfl, rfl, rfl, trivial⟩ ?_
  refine Go'.seq ?_
  refine Go'.seq ?_
  -- region 2 (list.go:84)
  refine Go'.region [(0, 0), (1, 0), (2, 0)] rfl ?_
  refine O.mv rfl rfl rfl rfl rfl ?_
  refine O.len rfl rfl rfl rfl Go.Proofs.Try.underlying74 rfl ?_
  refine O.mv rfl rfl rfl rfl rfl ?_
  refine Pl.fin [(0, _), (4, _), (5, _), (8, _), (9, _), (10, _)] ⟨rfl, rfl, rfl, rfl, rfl, rfl, trivial⟩ ?_
  refine Go'.block ?_
  refine Go'.loop ?_
  refine Go'.keep [(0, _), (5, _), (8, _), (9, _), (10, _)] ⟨rfl, rfl, rfl, rfl, rfl, trivial⟩ ?_
  refine Go'.ind (σ := Nat × Value) (fun s => l.length - s.1) (fun s H' => Fr nowhere H H' ∧ s.1 ≤ l.length ∧ OutS EJ H' s.2 (Pl.puts (OO ord) (l.take s.1)))
    (fun s => [(0, v), (5, s.2), (8, .slice a l.length c), (9, .int .i64 (l.length : Int)), (10, .int .i64 (s.1 : Int))]) (0, .slice none 0 0) ⟨Fr.refl _ _, Nat.zero_le _, .inl ⟨rfl, rfl⟩⟩ rfl ?_
  rintro ⟨j, sv⟩ H2 ⟨hF, hjl, hsv⟩ ih
  simp only at hjl hsv
  have ho2 := ho.fr hF
  have hi2 := hi.fr hF
  refine Go'.seq ?_
  by_cases hlt : j < l.length
  · skip
    obtain ⟨y, hy⟩ : ∃ y, l[j]? = some y := ⟨l[j], List.getElem?_eq_getElem hlt⟩
    obtain ⟨b, o, c', e, hr⟩ := hi2.at hy
    cases e
    have hpl := Pl.puts_length (OO ord) (l.take j)
    rw [List.length_take] at hpl
    -- region 3 (list.go:84)
    refine Go'.region [(0, 0)] rfl ?_
    refine O.cmp rfl rfl rfl rfl rfl rfl (lssT (by omega)) ?_
    refine Pl.fin [(0, _), (5, _), (8, _), (9, _), (10, _), (11, _)] ⟨rfl, rfl, rfl, rfl, rfl, rfl, trivial⟩ ?_
    refine Go'.seq ?_
    refine Go'.condT rfl ?_
    refine Go'.skip ?_
    refine Go'.seq ?_
    refine Go'.block ?_
    refine Go'.seq ?_
    -- region 4 (list.go:84)
    refine Go'.region [(0, 0), (1, 1), (2, 2), (3, 2)] rfl ?_
    refine O.ix (j := j) rfl rfl rfl rfl Go.Proofs.Try.underlying74 Go.Proofs.Try.sizeOf68 rfl rfl (by omega) hlt ?_
    refine O.lds rfl rfl rfl (fun w => ⟨Go.Proofs.Try.isAgg68 w, Go.Proofs.Try.sizeOf68 w⟩) rfl rfl hr ?_
    refine O.alloc rfl rfl rfl Go.Proofs.Try.zeroValue68 ?_
    intro H3 M3
    refine ⟨trivial, ?_⟩
    have hs3 := M3.size
    replace ho2 := ho2.fr (M3.fr nowhere)
    have m7 : Wr H3 H2.size 0 2 := M3.wr 2 (by decide)
    refine O.st rfl rfl Go.Proofs.Try.sizeOf68 rfl rfl rfl rfl rfl m7 ?_
    intro H4 W4
    have hs4 := W4.size
    have hf4 : Fr nowhere H2 H4 := (M3.fr nowhere).trans' W4.fr (fun _ _ _ h => h) (fun b o hb hz => by have h1 := hz.1; omega)
    have ho4 := (ho.fr hF).fr hf4
    have hsv4 := hsv.inS.fr hf4
    refine ⟨trivial, ?_⟩
    refine Pl.fin [(0, _), (5, _), (7, _), (8, _), (9, _), (10, _), (11, _)] ⟨rfl, rfl, rfl, rfl, rfl, rfl, rfl, trivial⟩ ?_
    -- region 5 (list.go:85)
    refine Go'.region [(0, 0), (1, 0), (2, 1), (3, 2), (4, 0), (5, 0), (6, 0), (7, 0)] rfl ?_
    refine O.mv rfl rfl rfl rfl rfl ?_
    refine O.mv rfl rfl rfl rfl rfl ?_
    refine O.lds rfl rfl rfl (fun w => ⟨Go.Proofs.Try.isAgg68 w, Go.Proofs.Try.sizeOf68 w⟩) rfl rfl W4.all ?_
    refine O.call rfl rfl rfl Go.Proofs.Try.call112 rfl (put_spec ho4 hl hsv4 (Pl.puts_srt _ _) (by omega)) ?_
    rintro _ H5 ⟨sv2, rfl, hsv2, hF5⟩
    refine ⟨trivial, ?_⟩
    refine O.mv rfl rfl rfl rfl rfl ?_
    refine O.ext rfl rfl rfl rfl rfl rfl ?_
    refine O.ext rfl rfl rfl rfl rfl rfl ?_
    refine O.asg rfl rfl rfl rfl rfl ?_
    refine Pl.fin [(0, _), (5, _), (7, _), (8, _), (9, _), (10, _), (11, _)] ⟨rfl, rfl, rfl, rfl, rfl, rfl, rfl, trivial⟩ ?_
    refine Go'.inBlock ?_
    -- region 6 (list.go:84)
    refine Go'.region [(0, 0), (1, 0)] rfl ?_
    refine O.add (((j + 1 : Nat) : Int)) rfl rfl rfl rfl rfl rfl (by omega) (by omega) ?_
    refine O.mv rfl rfl rfl rfl rfl ?_
    refine Pl.fin [(0, _), (5, _), (7, _), (8, _), (9, _), (10, _), (11, _)] ⟨rfl, rfl, rfl, rfl, rfl, rfl, rfl, trivial⟩ ?_
    refine Go'.keep [(0, _), (5, _), (8, _), (9, _), (10, _)] ⟨rfl, rfl, rfl, rfl, rfl, trivial⟩ ?_
    refine Go'.inLoop ?_
    exact ih (j + 1, sv2) H5 ⟨(hF.trans hf4).trans hF5, hlt, by
      rw [List.take_add_one, hy]
      rw [← Pl.puts_snoc] at hsv2
      exact hsv2⟩ (by simp only; omega)
  · skip
    obtain rfl : j = l.length := by omega
    -- region 3 (list.go:84)
    refine Go'.region [(0, 0)] rfl ?_
    refine O.cmp rfl rfl rfl rfl rfl rfl (lssF (by omega)) ?_
    refine Pl.fin [(0, _), (5, _), (8, _), (9, _), (10, _), (11, _)] ⟨rfl, rfl, rfl, rfl, rfl, rfl, trivial⟩ ?_
    refine Go'.seq ?_
    refine Go'.condF rfl ?_
    refine Go'.exit rfl ?_
    refine Go'.seq ?_
    -- region 7 (list.go:87)
    refine Go'.region [(0, 0), (1, 0)] rfl ?_
    refine O.mv rfl rfl rfl rfl rfl ?_
    refine O.asg rfl rfl rfl rfl rfl ?_
    refine Pl.fin [(4, _)] ⟨rfl, trivial⟩ ?_
    refine Go'.ret (vs := [_]) Go.Proofs.Try.func69 Go.Proofs.Try.results69 ⟨rfl, trivial⟩ ?_
    rw [List.take_length] at hsv
    exact ⟨hsv, hF⟩

theorem gmin_spec {B : World} {H : Mem} {v u dg nl : Value} {ord : List Int} {l : List (Int × Int)} (ho : InS EN H v ord) (hl : ord.length < 4611686018427387904) (hi : InS EJ H u l) (hll : l.length ≤ 4294967296) :
    Fn Try.prog B 42 [.agg #[v, dg, nl], u] H (fun r H' => r = FV (Pl.puts (OO ord) l)[0]? ∧ Fr nowhere H H') := by
  have hF : Fr nowhere H H := Fr.refl _ _
  have hpl := Pl.puts_length (OO ord) l
  refine fn_of Go.Proofs.Try.func42 rfl Go.Proofs.Try.ntmps42 ?_
  refine (show Go' _ _ _ _ 10 [(0, _), (1, _)] [.code _] _ from ?_)
  refine Go'.seq ?_
  -- region 0 (tree.go:66)
  refine Go'.region [(0, 2), (1, 2)] rfl ?_
  refine O.box rfl rfl rfl rfl ?_
  intro H1 M1
  refine ⟨trivial, ?_⟩
  have hs1 := M1.size
  replace ho := ho.fr (M1.fr nowhere)
  replace hi := hi.fr (M1.fr nowhere)
  replace hF := hF.trans' (M1.fr nowhere) (fun _ _ _ h => h) (fun _ _ _ h => h.elim)
  have mi : cl H1 H.size 0 = some v := (M1.cl 0).trans rfl
  refine O.alloc rfl rfl rfl Go.Proofs.Try.zeroValue70 ?_
  intro H2 M2
  refine ⟨trivial, ?_⟩
  have hs2 := M2.size
  replace ho := ho.fr (M2.fr nowhere)
  replace hi := hi.fr (M2.fr nowhere)
  replace mi := (M2.fr nowhere).keep mi nw
  replace hF := hF.trans' (M2.fr nowhere) (fun _ _ _ h => h) (fun _ _ _ h => h.elim)
  have m4 : Wr H2 H1.size 0 3 := M2.wr 3 (by decide)
  refine Pl.fin [(1, _), (2, _), (4, _)] ⟨rfl, rfl, rfl, trivial⟩ ?_
  refine Go'.seq ?_
  -- region 1 (tree.go:66)
  refine Go'.region [(0, 0), (1, 1), (2, 0), (3, 2), (4, 2), (5, 2)] rfl ?_
  refine O.faz rfl rfl rfl rfl ⟨_, _, _, Go.Proofs.Try.underlying73, rfl, rfl, Go.Proofs.Try.sizeOf22⟩ rfl ?_
  refine O.ld rfl rfl rfl (fun w => ⟨Go.Proofs.Try.isAgg22 w, Go.Proofs.Try.sizeOf22 w⟩) rfl mi ?_
  refine O.mv rfl rfl rfl rfl rfl ?_
  refine O.call rfl rfl rfl Go.Proofs.Try.call69 rfl (tree_spec ho hl hi hll) ?_
  rintro sv H3 ⟨hsv, hF3⟩
  have hs3 := hF3.size
  replace m4 := hF3.wr m4
  replace hF := hF.trans' hF3 (fun _ _ _ h => h) (fun _ _ _ h => h.elim)
  refine ⟨trivial, ?_⟩
  refine O.call rfl rfl rfl Go.Proofs.Try.call87 rfl (at_spec 0 hsv.inS (by omega)) ?_
  rintro _ H4 ⟨rfl, hF4⟩
  have hs4 := hF4.size
  replace m4 := hF4.wr m4
  replace hF := hF.trans' hF4 (fun _ _ _ h => h) (fun _ _ _ h => h.elim)
  have e0 : ath (Pl.puts (OO ord) l) 0 = (Pl.puts (OO ord) l)[0]? := ath_nat _ 0
  rw [e0, FV_eq (Pl.puts (OO ord) l)[0]?]
  refine ⟨trivial, ?_⟩
  refine O.st (vs := (fvs (Pl.puts (OO ord) l)[0]?)) rfl rfl Go.Proofs.Try.sizeOf70 rfl rfl rfl (by cases (Pl.puts (OO ord) l)[0]? <;> rfl) (by cases (Pl.puts (OO ord) l)[0]? <;> rfl) m4 ?_
  intro H5 W5
  replace hF := hF.trans' W5.fr (fun _ _ _ h => h) (fun b o hb hz => by have h1 := hz.1; omega)
  refine ⟨trivial, ?_⟩
  refine Pl.fin [(4, _)] ⟨rfl, trivial⟩ ?_
  refine Go'.ret (vs := [_]) Go.Proofs.Try.func42 Go.Proofs.Try.results42 ⟨⟨_, _, rfl, fun _ _ => run_loadVar_agg (fun w => ⟨Go.Proofs.Try.isAgg70 w, Go.Proofs.Try.sizeOf70 w⟩) (by cases (Pl.puts (OO ord) l)[0]? <;> rfl) W5.all⟩, trivial⟩ ?_
  exact ⟨rfl, hF⟩

end Go.Bt