/- Contracts of functions of the program, proved by walking through their code. Conditions: those that each theorem names. -/
import Derived.Laws.StructEq
import Derived.Test.YtgmmhpmchibakaaTosB
namespace Go.Bt
open Go Go.Proofs
set_option maxRecDepth 20000
set_option maxHeartbeats 4000000
set_option linter.unusedVariables false

def ath (l : List (Int × Int)) (z : Int) : Option (Int × Int) := if z < 0 then none else l[z.toNat]?
theorem ath_nat (l : List (Int × Int)) (i : Nat) : ath l (i : Int) = l[i]? := by unfold ath; rw [if_neg (by omega)]; rfl
def cutl (l : List (Int × Int)) (z : Int) : List (Int × Int) := if z < 0 then l else l.take z.toNat ++ l.drop (z.toNat + 1)

theorem cut_spec {B : World} {H : Mem} {u : Value} {l : List (Int × Int)} (z : Int) (hi : InS EJ H u l) (hll : l.length ≤ 4294967296) :
    Fn Try.prog B 110 [u, .int .i64 z] H (fun r H' => ∃ sv, r = .tuple #[sv, FV (ath l z)] ∧ ((ath l z = none ∧ sv = u) ∨ OutS EJ H' sv (cutl l z)) ∧ Fr nowhere H H') := by
  have hF : Fr nowhere H H := Fr.refl _ _
  obtain ⟨a, c, hu⟩ := hi.len
  subst hu
  have hi0 := hi
  refine fn_of Go.Proofs.Try.func110 rfl Go.Proofs.Try.ntmps110 ?_
  refine (show Go' _ _ _ _ 31 [(0, _), (1, _)] [.code _] _ from ?_)
  refine Go'.seq ?_
  -- region 0 (list.go:59)
  refine Go'.region [(0, 0), (1, 2)] rfl ?_
  refine O.asg rfl rfl rfl rfl rfl ?_
  refine O.alloc rfl rfl rfl Go.Proofs.Try.zeroValue37 ?_
  intro H1 M1
  refine ⟨trivial, ?_⟩
  have hs1 := M1.size
  replace hi := hi.fr (M1.fr nowhere)
  replace hF := hF.trans' (M1.fr nowhere) (fun _ _ _ h => h) (fun _ _ _ h => h.elim)
  have m5 : Wr H1 H.size 0 3 := M1.wr 3 (by decide)
  refine Pl.fin [(0, _), (1, _), (4, _), (5, _)] ⟨rfl, rfl, rfl, rfl, trivial⟩ ?_
  refine Go'.seq ?_
  refine Go'.seq ?_
  by_cases hz : z < 0
  · -- below
    have ha0 : ath l z = none := by unfold ath; rw [if_pos hz]
    -- region 1 (list.go:60)
    refine Go'.region [(0, 0), (1, 0), (2, 0), (3, 0), (4, 0), (5, 0), (6, 0), (7, 0)] rfl ?_
    refine O.mv rfl rfl rfl rfl rfl ?_
    refine O.cmp rfl rfl rfl rfl rfl rfl (lssT (by omega)) ?_
    refine O.mv rfl rfl rfl rfl rfl ?_
    refine Pl.pass rfl rfl rfl rfl ?_
    refine Pl.pass rfl rfl rfl rfl ?_
    refine Pl.pass rfl rfl rfl rfl ?_
    refine Pl.pass rfl rfl rfl rfl ?_
    refine O.pick rfl rfl rfl rfl rfl rfl ?_
    refine Pl.fin [(0, _), (1, _), (4, _), (5, _), (13, _)] ⟨rfl, rfl, rfl, rfl, rfl, trivial⟩ ?_
    refine Go'.condT rfl ?_
    refine Go'.seq ?_
    -- region 2 (list.go:61)
    refine Go'.region [(0, 0), (1, 0), (2, 0), (3, 2)] rfl ?_
    refine O.mv rfl rfl rfl rfl rfl ?_
    refine O.bld (cs := (fvs none)) rfl rfl rfl rfl (st37) rfl (by kernel_rfl) ?_
    refine O.asg rfl rfl rfl rfl rfl ?_
    refine O.st rfl rfl Go.Proofs.Try.sizeOf37 rfl rfl rfl rfl rfl m5 ?_
    intro H2 W2
    replace hF := hF.trans' W2.fr (fun _ _ _ h => h) (fun b o hb hz => by have h1 := hz.1; omega)
    refine ⟨trivial, ?_⟩
    refine Pl.fin [(0, _), (1, _), (4, _), (5, _)] ⟨rfl, rfl, rfl, rfl, trivial⟩ ?_
    refine Go'.ret (vs := [_, _]) Go.Proofs.Try.func110 Go.Proofs.Try.results110 ⟨rfl, ⟨_, _, rfl, fun _ _ => run_loadVar_agg (fun w => ⟨Go.Proofs.Try.isAgg37 w, Go.Proofs.Try.sizeOf37 w⟩) rfl W2.all⟩, trivial⟩ ?_
    exact ⟨_, by rw [ha0]; rfl, .inl ⟨ha0, rfl⟩, hF⟩
  obtain ⟨i, rfl⟩ := Int.eq_ofNat_of_zero_le (by omega : 0 ≤ z)
  by_cases hil : l.length ≤ i
  · -- above
    have ha0 : ath l (i : Int) = none := by rw [ath_nat, List.getElem?_eq_none hil]
    -- region 1 (list.go:60)
    refine Go'.region [(0, 0), (1, 0), (2, 0), (3, 0), (4, 0), (5, 0), (6, 0), (7, 0)] rfl ?_
    refine O.mv rfl rfl rfl rfl rfl ?_
    refine O.cmp rfl rfl rfl rfl rfl rfl (lssF (by omega)) ?_
    refine O.mv rfl rfl rfl rfl rfl ?_
    refine O.mv rfl rfl rfl rfl rfl ?_
    refine O.mv rfl rfl rfl rfl rfl ?_
    refine O.len rfl rfl rfl rfl Go.Proofs.Try.underlying22 rfl ?_
    refine O.cmp rfl rfl rfl rfl rfl rfl (geqT (by omega)) ?_
    refine O.pick rfl rfl rfl rfl rfl rfl ?_
    refine Pl.fin [(0, _), (1, _), (4, _), (5, _), (13, _)] ⟨rfl, rfl, rfl, rfl, rfl, trivial⟩ ?_
    refine Go'.condT rfl ?_
    refine Go'.seq ?_
    -- region 2 (list.go:61)
    refine Go'.region [(0, 0), (1, 0), (2, 0), (3, 2)] rfl ?_
    refine O.mv rfl rfl rfl rfl rfl ?_
    refine O.bld (cs := (fvs none)) rfl rfl rfl rfl (st37) rfl (by kernel_rfl) ?_
    refine O.asg rfl rfl rfl rfl rfl ?_
    refine O.st rfl rfl Go.Proofs.Try.sizeOf37 rfl rfl rfl rfl rfl m5 ?_
    intro H2 W2
    replace hF := hF.trans' W2.fr (fun _ _ _ h => h) (fun b o hb hz => by have h1 := hz.1; omega)
    refine ⟨trivial, ?_⟩
    refine Pl.fin [(0, _), (1, _), (4, _), (5, _)] ⟨rfl, rfl, rfl, rfl, trivial⟩ ?_
    refine Go'.ret (vs := [_, _]) Go.Proofs.Try.func110 Go.Proofs.Try.results110 ⟨rfl, ⟨_, _, rfl, fun _ _ => run_loadVar_agg (fun w => ⟨Go.Proofs.Try.isAgg37 w, Go.Proofs.Try.sizeOf37 w⟩) rfl W2.all⟩, trivial⟩ ?_
    exact ⟨_, by rw [ha0]; rfl, .inl ⟨ha0, rfl⟩, hF⟩
  replace hil : i < l.length := by omega
  obtain ⟨y, hy⟩ : ∃ y, l[i]? = some y := ⟨l[i], List.getElem?_eq_getElem hil⟩
  obtain ⟨bl, ol, cc, hue, hir⟩ := hi.at hy
  have hbl : bl < H.size := by
    obtain ⟨b0, o0, c0, hue0, hir0⟩ := hi0.at hy
    rw [hue] at hue0
    cases hue0
    exact cl_lt (hir0 0 _ rfl)
  cases hue
  have hl1 : (l.take i).length = i := by rw [List.length_take]; omega
  -- region 1 (list.go:60)
  refine Go'.region [(0, 0), (1, 0), (2, 0), (3, 0), (4, 0), (5, 0), (6, 0), (7, 0)] rfl ?_
  refine O.mv rfl rfl rfl rfl rfl ?_
  refine O.cmp rfl rfl rfl rfl rfl rfl (lssF (by omega)) ?_
  refine O.mv rfl rfl rfl rfl rfl ?_
  refine O.mv rfl rfl rfl rfl rfl ?_
  refine O.mv rfl rfl rfl rfl rfl ?_
  refine O.len rfl rfl rfl rfl Go.Proofs.Try.underlying22 rfl ?_
  refine O.cmp rfl rfl rfl rfl rfl rfl (geqF (by omega)) ?_
  refine O.pick rfl rfl rfl rfl rfl rfl ?_
  refine Pl.fin [(0, _), (1, _), (4, _), (5, _), (13, _)] ⟨rfl, rfl, rfl, rfl, rfl, trivial⟩ ?_
  refine Go'.condF rfl ?_
  refine Go'.skip ?_
  refine Go'.seq ?_
  -- region 3 (list.go:63)
  refine Go'.draw (fun H' => Rd H' bl (ol + i * 2) (EJ.enc y)) [(1, 0), (2, 0), (3, 0), (5, 0), (6, 0), (7, 0), (8, 0), (10, 0), (11, 0), (12, 0), (13, 0), (14, 0), (0, 2), (4, 2), (9, 2), (15, 0), (16, 3)] (by kernel_rfl) (by kernel_rfl) (hir) ?_
  refine O.mv rfl rfl rfl rfl rfl ?_
  refine O.mv rfl rfl rfl rfl rfl ?_
  refine O.slcIn (E := EJ) (jl := 0) (jh := i) rfl rfl rfl rfl Go.Proofs.Try.underlying22 Go.Proofs.Try.sizeOf35 rfl hi ⟨_, by rfl⟩ rfl (by omega) (by omega) ?_
  intro v1 hv1
  rw [List.drop_zero, Nat.sub_zero] at hv1
  refine O.mv rfl rfl rfl rfl rfl ?_
  refine O.mv rfl rfl rfl rfl rfl ?_
  refine O.add (((i + 1 : Nat) : Int)) rfl rfl rfl rfl rfl rfl (by omega) (by omega) ?_
  refine O.slcIn (E := EJ) (jl := i + 1) (jh := l.length) rfl rfl rfl rfl Go.Proofs.Try.underlying22 Go.Proofs.Try.sizeOf35 rfl hi rfl ⟨_, by rfl⟩ (by omega) (by omega) ?_
  intro v2 hv2
  rw [List.take_of_length_le (by rw [List.length_drop]; omega)] at hv2
  refine O.mv rfl rfl rfl rfl rfl ?_
  refine O.mv rfl rfl rfl rfl rfl ?_
  refine O.ix (j := i) rfl rfl rfl rfl Go.Proofs.Try.underlying22 Go.Proofs.Try.sizeOf35 rfl rfl (by omega) hil ?_
  refine O.ldsC rfl rfl rfl (fun w => ⟨Go.Proofs.Try.isAgg35 w, Go.Proofs.Try.sizeOf35 w⟩) rfl rfl (fun _ h => h) ?_
  refine O.bld (cs := (fvs (some y))) rfl rfl rfl rfl (st37) rfl (by kernel_rfl) ?_
  refine O.bsl (cs := []) rfl rfl rfl ⟨Go.Proofs.Try.underlying22, Go.Proofs.Try.sizeOf35, Go.Proofs.Try.zeroValue35, ⟨_, Go.Proofs.Try.typeInfo35, rfl⟩, rfl, by decide, by decide⟩ rfl (by decide) (by kernel_rfl) ?_
  intro H4 M4
  have hs4 := M4.size
  replace hi := hi.fr (M4.fr nowhere)
  replace m5 := (M4.fr nowhere).wr m5
  replace hir := (M4.fr nowhere).rd hir (fun _ _ => nw)
  replace hv1 := hv1.fr (M4.fr nowhere)
  replace hv2 := hv2.fr (M4.fr nowhere)
  replace hF := hF.trans' (M4.fr nowhere) (fun _ _ _ h => h) (fun _ _ _ h => h.elim)
  refine ⟨hir, ?_⟩
  refine O.app (m := (l.take i).length) (news := (row EJ (l.take i))) rfl rfl rfl ⟨Go.Proofs.Try.underlying22, Go.Proofs.Try.sizeOf35, Go.Proofs.Try.zeroValue35, ⟨_, Go.Proofs.Try.typeInfo35, rfl⟩, rfl, by decide, by decide⟩ rfl (Sl.none _ _ _ _) rfl hv1.src (row_len EJ _) (row_ones EJ _) (Nat.le_trans (Nat.mul_le_mul_left _ (Nat.le_of_ble_eq_true (n := _) (m := 4096) rfl)) (by omega)) (by omega) ?_
  intro b1 o1 c1 H5 ha
  have hsz5 := ha.fr.size
  have hsl1 : Sl H5 b1 o1 (0 + (l.take i).length) c1 2 (row EJ (l.take i)) := ha.sl
  have hb1 : H.size + 1 ≤ b1 := by rcases ha.place with ⟨r, _⟩ | ⟨r, _⟩ <;> omega
  replace hi := hi.fr ha.quiet
  replace m5 := ha.quiet.wr m5
  replace hir := ha.quiet.rd hir (fun _ _ => nw)
  replace hv2 := hv2.fr ha.quiet
  replace hF := hF.trans' ha.quiet (fun _ _ _ h => h) (fun _ _ _ h => h.elim)
  refine ⟨hir, ?_⟩
  refine O.app (m := (l.drop (i + 1)).length) (news := (row EJ (l.drop (i + 1)))) rfl rfl rfl ⟨Go.Proofs.Try.underlying22, Go.Proofs.Try.sizeOf35, Go.Proofs.Try.zeroValue35, ⟨_, Go.Proofs.Try.typeInfo35, rfl⟩, rfl, by decide, by decide⟩ rfl hsl1 rfl hv2.src (row_len EJ _) (row_ones EJ _) (Nat.le_trans (Nat.mul_le_mul_left _ (Nat.le_of_ble_eq_true (n := _) (m := 4096) rfl)) (by rw [List.length_drop]; omega)) (by rw [List.length_drop]; omega) ?_
  intro b3 o3 c3 H8 ha3
  have hsz8 := ha3.fr.size
  have hsl3 : SlE EJ H8 b3 o3 c3 (l.take i ++ l.drop (i + 1)) := SlE.of ha3.sl (by rw [← row_append]) (by rw [List.length_append, Nat.zero_add])
  have hb3 : H.size + 1 ≤ b3 := by rcases ha3.place with ⟨r, _⟩ | ⟨r, _⟩ <;> omega
  replace m5 := ha3.fr.wr m5
  replace hir := ha3.fr.rd hir (fun _ _ => nr (.inl (by omega)))
  replace hF := hF.trans' ha3.fr (fun _ _ _ h => h) (fun b o hb hz => by have h1 := hz.1; omega)
  refine ⟨hir, ?_⟩
  refine O.asg rfl rfl rfl rfl rfl ?_
  refine O.st3 rfl rfl Go.Proofs.Try.sizeOf37 rfl rfl rfl rfl rfl m5 ?_
  intro H9 W9
  replace hsl3 := hsl3.fr W9.fr (fun _ _ _ => nr (.inl (by omega)))
  replace hF := hF.trans' W9.fr (fun _ _ _ h => h) (fun b o hb hz => by have h1 := hz.1; omega)
  refine Pl.fin [(4, _), (5, _)] ⟨rfl, rfl, trivial⟩ ?_
  refine Go'.ret (vs := [_, _]) Go.Proofs.Try.func110 Go.Proofs.Try.results110 ⟨rfl, ⟨_, _, rfl, fun _ _ => run_loadVar_agg (fun w => ⟨Go.Proofs.Try.isAgg37 w, Go.Proofs.Try.sizeOf37 w⟩) rfl W9.all⟩, trivial⟩ ?_
  have hc : cutl l (i : Int) = l.take i ++ l.drop (i + 1) := by unfold cutl; rw [if_neg (by omega)]; rfl
  refine ⟨_, by rw [ath_nat, hy]; rfl, .inr ?_, hF⟩
  rw [hc]
  exact .inr ⟨b3, o3, c3, by rw [List.length_append, Nat.zero_add], hsl3⟩

theorem at_spec {B : World} {H : Mem} {u : Value} {l : List (Int × Int)} (z : Int) (hi : InS EJ H u l) (hll : l.length ≤ 4294967296) :
    Fn Try.prog B 77 [u, .int .i64 z] H (fun r H' => r = FV (ath l z) ∧ Fr nowhere H H') := by
  have hF : Fr nowhere H H := Fr.refl _ _
  refine fn_of Go.Proofs.Try.func77 rfl Go.Proofs.Try.ntmps77 ?_
  refine (show Go' _ _ _ _ 14 [(0, _), (1, _)] [.code _] _ from ?_)
  refine Go'.seq ?_
  -- region 0 (list.go:76)
  refine Go'.region [(0, 2)] rfl ?_
  refine O.alloc rfl rfl rfl Go.Proofs.Try.zeroValue37 ?_
  intro H1 M1
  refine ⟨trivial, ?_⟩
  have hs1 := M1.size
  replace hi := hi.fr (M1.fr nowhere)
  replace hF := hF.trans' (M1.fr nowhere) (fun _ _ _ h => h) (fun _ _ _ h => h.elim)
  have m4 : Wr H1 H.size 0 3 := M1.wr 3 (by decide)
  refine Pl.fin [(0, _), (1, _), (4, _)] ⟨rfl, rfl, rfl, trivial⟩ ?_
  refine Go'.seq ?_
  -- region 1 (list.go:77)
  refine Go'.region [(0, 0), (1, 0), (2, 2), (3, 0), (4, 0), (5, 0), (6, 2), (7, 0), (8, 2)] rfl ?_
  refine O.mv rfl rfl rfl rfl rfl ?_
  refine O.mv rfl rfl rfl rfl rfl ?_
  refine O.call rfl rfl rfl Go.Proofs.Try.call110 rfl (cut_spec z hi hll) ?_
  rintro _ H2 ⟨sv, rfl, _, hF2⟩
  have hs2 := hF2.size
  replace m4 := hF2.wr m4
  replace hF := hF.trans' hF2 (fun _ _ _ h => h) (fun _ _ _ h => h.elim)
  refine ⟨trivial, ?_⟩
  refine O.mv rfl rfl rfl rfl rfl ?_
  refine O.ext rfl rfl rfl rfl rfl rfl ?_
  refine O.ext rfl rfl rfl rfl rfl rfl ?_
  refine O.alloc rfl rfl rfl Go.Proofs.Try.zeroValue37 ?_
  intro H3 M3
  refine ⟨trivial, ?_⟩
  have hs3 := M3.size
  replace m4 := (M3.fr nowhere).wr m4
  replace hF := hF.trans' (M3.fr nowhere) (fun _ _ _ h => h) (fun _ _ _ h => h.elim)
  have m6 : Wr H3 H2.size 0 3 := M3.wr 3 (by decide)
  rw [FV_eq (ath l z)]
  refine O.asg rfl rfl rfl rfl rfl ?_
  refine O.st (vs := (fvs (ath l z))) rfl rfl Go.Proofs.Try.sizeOf37 rfl rfl rfl (by cases ath l z <;> rfl) (by cases ath l z <;> rfl) m6 ?_
  intro H4 W4
  have hs4 := W4.size
  replace m4 := W4.fr.wr m4
  replace hF := hF.trans' W4.fr (fun _ _ _ h => h) (fun b o hb hz => by have h1 := hz.1; omega)
  refine ⟨trivial, ?_⟩
  refine Pl.fin [(4, _), (6, _)] ⟨rfl, rfl, trivial⟩ ?_
  refine Go'.seq ?_
  -- region 2 (list.go:78)
  refine Go'.region [(0, 1), (1, 2)] rfl ?_
  refine O.lds rfl rfl rfl (fun w => ⟨Go.Proofs.Try.isAgg37 w, Go.Proofs.Try.sizeOf37 w⟩) rfl (by cases ath l z <;> rfl) W4.all ?_
  refine O.st (vs := (fvs (ath l z))) rfl rfl Go.Proofs.Try.sizeOf37 rfl rfl rfl (by cases ath l z <;> rfl) (by cases ath l z <;> rfl) m4 ?_
  intro H5 W5
  replace hF := hF.trans' W5.fr (fun _ _ _ h => h) (fun b o hb hz => by have h1 := hz.1; omega)
  refine ⟨trivial, ?_⟩
  refine Pl.fin [(4, _)] ⟨rfl, trivial⟩ ?_
  refine Go'.ret (vs := [_]) Go.Proofs.Try.func77 Go.Proofs.Try.results77 ⟨⟨_, _, rfl, fun _ _ => run_loadVar_agg (fun w => ⟨Go.Proofs.Try.isAgg37 w, Go.Proofs.Try.sizeOf37 w⟩) (by cases ath l z <;> rfl) W5.all⟩, trivial⟩ ?_
  exact ⟨rfl, hF⟩

theorem tree_spec {B : World} {H : Mem} {v u : Value} {ord : List Int} {l : List (Int × Int)} (ho : InS EN H v ord) (hl : ord.length < 4611686018427387904) (hi : InS EJ H u l) (hll : l.length ≤ 4294967296) :
    Fn Try.prog B 47 [v, u] H (fun r H' => OutS EJ H' r (Pl.puts (OO ord) l) ∧ Fr nowhere H H') := by
  obtain ⟨a, c, hu⟩ := hi.len
  subst hu
  refine fn_of Go.Proofs.Try.func47 rfl Go.Proofs.Try.ntmps47 ?_
  refine (show Go' _ _ _ _ 23 [(0, _), (1, _)] [.code _] _ from ?_)
  refine Go'.seq ?_
  -- region 0 (list.go:82)
  refine Go'.region [(0, 0)] rfl ?_
  refine O.asg rfl rfl rfl rfl rfl ?_
  refine Pl.fin [(0, _), (1, _), (4, _)] ⟨rfl, rfl, rfl, trivial⟩ ?_
  refine Go'.seq ?_
  -- region 1 (list.go:83)
  refine Go'.region [(0, 0)] rfl ?_
  refine O.asg rfl rfl rfl rfl rfl ?_
  refine Pl.fin [(0, _), (1, _), (4, _), (5, _)] ⟨rfl, rfl, rfl, rfl, trivial⟩ ?_
  refine Go'.seq ?_
  refine Go'.seq ?_
  -- region 2 (list.go:84)
  refine Go'.region [(0, 0), (1, 0), (2, 0)] rfl ?_
  refine O.mv rfl rfl rfl rfl rfl ?_
  refine O.len rfl rfl rfl rfl Go.Proofs.Try.underlying22 rfl ?_
  refine O.mv rfl rfl rfl rfl rfl ?_
  refine Pl.fin [(0, _), (4, _), (5, _), (8, _), (9, _), (10, _)] ⟨rfl, rfl, rfl, rfl, rfl, rfl, trivial⟩ ?_
  refine Go'.block ?_
  refine Go'.loop ?_
  refine Go'.keep [(0, _), (5, _), (8, _), (9, _), (10, _)] ⟨rfl, rfl, rfl, rfl, rfl, trivial⟩ ?_
  refine Go'.ind (σ := Nat × Value) (fun s => l.length - s.1) (fun s H' => Fr nowhere H H' ∧ s.1 ≤ l.length ∧ OutS EJ H' s.2 (Pl.puts (OO ord) (l.take s.1)))
    (fun s => [(0, v), (5, s.2), (8, .slice a l.length c), (9, .int .i64 (l.length : Int)), (10, .int .i64 (s.1 : Int))]) (0, .slice none 0 0) ⟨Fr.refl _ _, Nat.zero_le _, .inl ⟨rfl, rfl⟩⟩ rfl ?_
  rintro ⟨j, sv⟩ H2 ⟨hF, hjl, hsv⟩ ih
  simp only at hjl hsv
  have ho2 := ho.fr hF
  have hi2 := hi.fr hF
  refine Go'.seq ?_
  by_cases hlt : j < l.length
  · skip
    obtain ⟨y, hy⟩ : ∃ y, l[j]? = some y := ⟨l[j], List.getElem?_eq_getElem hlt⟩
    obtain ⟨b, o, c', e, hr⟩ := hi2.at hy
    cases e
    have hpl := Pl.puts_length (OO ord) (l.take j)
    rw [List.length_take] at hpl
    -- region 3 (list.go:84)
    refine Go'.region [(0, 0)] rfl ?_
    refine O.cmp rfl rfl rfl rfl rfl rfl (lssT (by omega)) ?_
    refine Pl.fin [(0, _), (5, _), (8, _), (9, _), (10, _), (11, _)] ⟨rfl, rfl, rfl, rfl, rfl, rfl, trivial⟩ ?_
    refine Go'.seq ?_
    refine Go'.condT rfl ?_
    refine Go'.skip ?_
    refine Go'.seq ?_
    refine Go'.block ?_
    refine Go'.seq ?_
    -- region 4 (list.go:84)
    refine Go'.region [(0, 0), (1, 1), (2, 2), (3, 2)] rfl ?_
    refine O.ix (j := j) rfl rfl rfl rfl Go.Proofs.Try.underlying22 Go.Proofs.Try.sizeOf35 rfl rfl (by omega) hlt ?_
    refine O.lds rfl rfl rfl (fun w => ⟨Go.Proofs.Try.isAgg35 w, Go.Proofs.Try.sizeOf35 w⟩) rfl rfl hr ?_
    refine O.alloc rfl rfl rfl Go.Proofs.Try.zeroValue35 ?_
    intro H3 M3
    refine ⟨trivial, ?_⟩
    have hs3 := M3.size
    replace ho2 := ho2.fr (M3.fr nowhere)
    have m7 : Wr H3 H2.size 0 2 := M3.wr 2 (by decide)
    refine O.st rfl rfl Go.Proofs.Try.sizeOf35 rfl rfl rfl rfl rfl m7 ?_
    intro H4 W4
    have hs4 := W4.size
    have hf4 : Fr nowhere H2 H4 := (M3.fr nowhere).trans' W4.fr (fun _ _ _ h => h) (fun b o hb hz => by have h1 := hz.1; omega)
    have ho4 := (ho.fr hF).fr hf4
    have hsv4 := hsv.inS.fr hf4
    refine ⟨trivial, ?_⟩
    refine Pl.fin [(0, _), (5, _), (7, _), (8, _), (9, _), (10, _), (11, _)] ⟨rfl, rfl, rfl, rfl, rfl, rfl, rfl, trivial⟩ ?_
    -- region 5 (list.go:85)
    refine Go'.region [(0, 0), (1, 0), (2, 1), (3, 2), (4, 0), (5, 0), (6, 0), (7, 0)] rfl ?_
    refine O.mv rfl rfl rfl rfl rfl ?_
    refine O.mv rfl rfl rfl rfl rfl ?_
    refine O.lds rfl rfl rfl (fun w => ⟨Go.Proofs.Try.isAgg35 w, Go.Proofs.Try.sizeOf35 w⟩) rfl rfl W4.all ?_
    refine O.call rfl rfl rfl Go.Proofs.Try.call79 rfl (put_spec ho4 hl hsv4 (Pl.puts_srt _ _) (by omega)) ?_
    rintro _ H5 ⟨sv2, rfl, hsv2, hF5⟩
    refine ⟨trivial, ?_⟩
    refine O.mv rfl rfl rfl rfl rfl ?_
    refine O.ext rfl rfl rfl rfl rfl rfl ?_
    refine O.ext rfl rfl rfl rfl rfl rfl ?_
    refine O.asg rfl rfl rfl rfl rfl ?_
    refine Pl.fin [(0, _), (5, _), (7, _), (8, _), (9, _), (10, _), (11, _)] ⟨rfl, rfl, rfl, rfl, rfl, rfl, rfl, trivial⟩ ?_
    refine Go'.inBlock ?_
    -- region 6 (list.go:84)
    refine Go'.region [(0, 0), (1, 0)] rfl ?_
    refine O.add (((j + 1 : Nat) : Int)) rfl rfl rfl rfl rfl rfl (by omega) (by omega) ?_
    refine O.mv rfl rfl rfl rfl rfl ?_
    refine Pl.fin [(0, _), (5, _), (7, _), (8, _), (9, _), (10, _), (11, _)] ⟨rfl, rfl, rfl, rfl, rfl, rfl, rfl, trivial⟩ ?_
    refine Go'.keep [(0, _), (5, _), (8, _), (9, _), (10, _)] ⟨rfl, rfl, rfl, rfl, rfl, trivial⟩ ?_
    refine Go'.inLoop ?_
    exact ih (j + 1, sv2) H5 ⟨(hF.trans hf4).trans hF5, hlt, by
      rw [List.take_add_one, hy]
      rw [← Pl.puts_snoc] at hsv2
      exact hsv2⟩ (by simp only; omega)
  · skip
    obtain rfl : j = l.length := by omega
    -- region 3 (list.go:84)
    refine Go'.region [(0, 0)] rfl ?_
    refine O.cmp rfl rfl rfl rfl rfl rfl (lssF (by omega)) ?_
    refine Pl.fin [(0, _), (5, _), (8, _), (9, _), (10, _), (11, _)] ⟨rfl, rfl, rfl, rfl, rfl, rfl, trivial⟩ ?_
    refine Go'.seq ?_
    refine Go'.condF rfl ?_
    refine Go'.exit rfl ?_
    refine Go'.seq ?_
    -- region 7 (list.go:87)
    refine Go'.region [(0, 0), (1, 0)] rfl ?_
    refine O.mv rfl rfl rfl rfl rfl ?_
    refine O.asg rfl rfl rfl rfl rfl ?_
    refine Pl.fin [(4, _)] ⟨rfl, trivial⟩ ?_
    refine Go'.ret (vs := [_]) Go.Proofs.Try.func47 Go.Proofs.Try.results47 ⟨rfl, trivial⟩ ?_
    rw [List.take_length] at hsv
    exact ⟨hsv, hF⟩

theorem gmin_spec {B : World} {H : Mem} {v u dg nl : Value} {ord : List Int} {l : List (Int × Int)} (ho : InS EN H v ord) (hl : ord.length < 4611686018427387904) (hi : InS EJ H u l) (hll : l.length ≤ 4294967296) :
    Fn Try.prog B 45 [.agg #[v, dg, nl], u] H (fun r H' => r = FV (Pl.puts (OO ord) l)[0]? ∧ Fr nowhere H H') := by
  have hF : Fr nowhere H H := Fr.refl _ _
  have hpl := Pl.puts_length (OO ord) l
  refine fn_of Go.Proofs.Try.func45 rfl Go.Proofs.Try.ntmps45 ?_
  refine (show Go' _ _ _ _ 10 [(0, _), (1, _)] [.code _] _ from ?_)
  refine Go'.seq ?_
  -- region 0 (tree.go:66)
  refine Go'.region [(0, 2), (1, 2)] rfl ?_
  refine O.box rfl rfl rfl rfl ?_
  intro H1 M1
  refine ⟨trivial, ?_⟩
  have hs1 := M1.size
  replace ho := ho.fr (M1.fr nowhere)
  replace hi := hi.fr (M1.fr nowhere)
  replace hF := hF.trans' (M1.fr nowhere) (fun _ _ _ h => h) (fun _ _ _ h => h.elim)
  have mi : cl H1 H.size 0 = some v := (M1.cl 0).trans rfl
  refine O.alloc rfl rfl rfl Go.Proofs.Try.zeroValue37 ?_
  intro H2 M2
  refine ⟨trivial, ?_⟩
  have hs2 := M2.size
  replace ho := ho.fr (M2.fr nowhere)
  replace hi := hi.fr (M2.fr nowhere)
  replace mi := (M2.fr nowhere).keep mi nw
  replace hF := hF.trans' (M2.fr nowhere) (fun _ _ _ h => h) (fun _ _ _ h => h.elim)
  have m4 : Wr H2 H1.size 0 3 := M2.wr 3 (by decide)
  refine Pl.fin [(1, _), (2, _), (4, _)] ⟨rfl, rfl, rfl, trivial⟩ ?_
  refine Go'.seq ?_
  -- region 1 (tree.go:66)
  refine Go'.region [(0, 0), (1, 1), (2, 0), (3, 2), (4, 2), (5, 2)] rfl ?_
  refine O.faz rfl rfl rfl rfl ⟨_, _, _, Go.Proofs.Try.underlying58, rfl, rfl, Go.Proofs.Try.sizeOf39⟩ rfl ?_
  refine O.ld rfl rfl rfl (fun w => ⟨Go.Proofs.Try.isAgg39 w, Go.Proofs.Try.sizeOf39 w⟩) rfl mi ?_
  refine O.mv rfl rfl rfl rfl rfl ?_
  refine O.call rfl rfl rfl Go.Proofs.Try.call47 rfl (tree_spec ho hl hi hll) ?_
  rintro sv H3 ⟨hsv, hF3⟩
  have hs3 := hF3.size
  replace m4 := hF3.wr m4
  replace hF := hF.trans' hF3 (fun _ _ _ h => h) (fun _ _ _ h => h.elim)
  refine ⟨trivial, ?_⟩
  refine O.call rfl rfl rfl Go.Proofs.Try.call77 rfl (at_spec 0 hsv.inS (by omega)) ?_
  rintro _ H4 ⟨rfl, hF4⟩
  have hs4 := hF4.size
  replace m4 := hF4.wr m4
  replace hF := hF.trans' hF4 (fun _ _ _ h => h) (fun _ _ _ h => h.elim)
  have e0 : ath (Pl.puts (OO ord) l) 0 = (Pl.puts (OO ord) l)[0]? := ath_nat _ 0
  rw [e0, FV_eq (Pl.puts (OO ord) l)[0]?]
  refine ⟨trivial, ?_⟩
  refine O.st (vs := (fvs (Pl.puts (OO ord) l)[0]?)) rfl rfl Go.Proofs.Try.sizeOf37 rfl rfl rfl (by cases (Pl.puts (OO ord) l)[0]? <;> rfl) (by cases (Pl.puts (OO ord) l)[0]? <;> rfl) m4 ?_
  intro H5 W5
  replace hF := hF.trans' W5.fr (fun _ _ _ h => h) (fun b o hb hz => by have h1 := hz.1; omega)
  refine ⟨trivial, ?_⟩
  refine Pl.fin [(4, _)] ⟨rfl, trivial⟩ ?_
  refine Go'.ret (vs := [_]) Go.Proofs.Try.func45 Go.Proofs.Try.results45 ⟨⟨_, _, rfl, fun _ _ => run_loadVar_agg (fun w => ⟨Go.Proofs.Try.isAgg37 w, Go.Proofs.Try.sizeOf37 w⟩) (by cases (Pl.puts (OO ord) l)[0]? <;> rfl) W5.all⟩, trivial⟩ ?_
  exact ⟨rfl, hF⟩

def ok? (x : Int × Int) : Bool → Option (Int × Int)
  | true => some x
  | false => none
theorem found_spec {B : World} {H : Mem} {x : Int × Int} {ok : Bool} : Fn Try.prog B 87 [.agg (EJ.enc x).toArray, .bool ok] H (fun r H' => r = FV (ok? x ok) ∧ Fr nowhere H H') := by
  have hF : Fr nowhere H H := Fr.refl _ _
  refine fn_of Go.Proofs.Try.func87 rfl Go.Proofs.Try.ntmps87 ?_
  refine (show Go' _ _ _ _ 10 [(0, _), (1, _)] [.code _] _ from ?_)
  refine Go'.seq ?_
  -- region 0 (impl.go:180)
  refine Go'.region [(0, 2), (1, 2)] rfl ?_
  refine O.box rfl rfl rfl rfl ?_
  intro H1 M1
  refine ⟨trivial, ?_⟩
  have hs1 := M1.size
  
  replace hF := hF.trans' (M1.fr nowhere) (fun _ _ _ h => h) (fun _ _ _ h => h.elim)
  have mi : Rd H1 H.size 0 (EJ.enc x) := M1.rd _ [] (by simp [Value.cells])
  refine O.alloc rfl rfl rfl Go.Proofs.Try.zeroValue37 ?_
  intro H2 M2
  refine ⟨trivial, ?_⟩
  have hs2 := M2.size
  replace mi := (M2.fr nowhere).rd mi (fun _ _ => nw)
  replace hF := hF.trans' (M2.fr nowhere) (fun _ _ _ h => h) (fun _ _ _ h => h.elim)
  have m4 : Wr H2 H1.size 0 3 := M2.wr 3 (by decide)
  refine Pl.fin [(1, _), (2, _), (4, _)] ⟨rfl, rfl, rfl, trivial⟩ ?_
  refine Go'.seq ?_
  refine Go'.seq ?_
  -- region 1 (impl.go:181)
  refine Go'.region [(0, 0), (1, 0)] rfl ?_
  refine O.mv rfl rfl rfl rfl rfl ?_
  refine O.not rfl rfl rfl rfl rfl ?_
  refine Pl.fin [(2, _), (4, _), (6, _)] ⟨rfl, rfl, rfl, trivial⟩ ?_
  cases ok
  · skip
    refine Go'.condT rfl ?_
    refine Go'.seq ?_
    -- region 2 (impl.go:182)
    refine Go'.region [(0, 0), (1, 2)] rfl ?_
    refine O.bld (cs := (fvs none)) rfl rfl rfl rfl (st37) rfl (by kernel_rfl) ?_
    refine O.st rfl rfl Go.Proofs.Try.sizeOf37 rfl rfl rfl rfl rfl m4 ?_
    intro H5 W5
    replace hF := hF.trans' W5.fr (fun _ _ _ h => h) (fun b o hb hz => by have h1 := hz.1; omega)
    refine ⟨trivial, ?_⟩
    refine Pl.fin [(2, _), (4, _)] ⟨rfl, rfl, trivial⟩ ?_
    refine Go'.ret (vs := [_]) Go.Proofs.Try.func87 Go.Proofs.Try.results87 ⟨⟨_, _, rfl, fun _ _ => run_loadVar_agg (fun w => ⟨Go.Proofs.Try.isAgg37 w, Go.Proofs.Try.sizeOf37 w⟩) rfl W5.all⟩, trivial⟩ ?_
    exact ⟨rfl, hF⟩
  · skip
    refine Go'.condF rfl ?_
    refine Go'.skip ?_
    refine Go'.seq ?_
    -- region 3 (impl.go:184)
    refine Go'.region [(0, 1), (1, 0), (2, 2)] rfl ?_
    refine O.lds rfl rfl rfl (fun w => ⟨Go.Proofs.Try.isAgg35 w, Go.Proofs.Try.sizeOf35 w⟩) rfl rfl mi ?_
    refine O.bld (cs := (fvs (some x))) rfl rfl rfl rfl (st37) rfl (by kernel_rfl) ?_
    refine O.st rfl rfl Go.Proofs.Try.sizeOf37 rfl rfl rfl rfl rfl m4 ?_
    intro H5 W5
    replace hF := hF.trans' W5.fr (fun _ _ _ h => h) (fun b o hb hz => by have h1 := hz.1; omega)
    refine ⟨trivial, ?_⟩
    refine Pl.fin [(4, _)] ⟨rfl, trivial⟩ ?_
    refine Go'.ret (vs := [_]) Go.Proofs.Try.func87 Go.Proofs.Try.results87 ⟨⟨_, _, rfl, fun _ _ => run_loadVar_agg (fun w => ⟨Go.Proofs.Try.isAgg37 w, Go.Proofs.Try.sizeOf37 w⟩) rfl W5.all⟩, trivial⟩ ?_
    exact ⟨rfl, hF⟩

theorem pair_spec {B : World} {H : Mem} {x : Int × Int} {ok : Bool} : Fn Try.prog B 54 [.int .i64 x.1, .int .i64 x.2, .bool ok] H (fun r H' => r = FV (ok? x ok) ∧ Fr nowhere H H') := by
  have hF : Fr nowhere H H := Fr.refl _ _
  refine fn_of Go.Proofs.Try.func54 rfl Go.Proofs.Try.ntmps54 ?_
  refine (show Go' _ _ _ _ 12 [(0, _), (1, _), (2, _)] [.code _] _ from ?_)
  refine Go'.seq ?_
  -- region 0 (impl.go:188)
  refine Go'.region [(0, 2)] rfl ?_
  refine O.alloc rfl rfl rfl Go.Proofs.Try.zeroValue37 ?_
  intro H1 M1
  refine ⟨trivial, ?_⟩
  have hs1 := M1.size
  
  replace hF := hF.trans' (M1.fr nowhere) (fun _ _ _ h => h) (fun _ _ _ h => h.elim)
  have m4 : Wr H1 H.size 0 3 := M1.wr 3 (by decide)
  refine Pl.fin [(0, _), (1, _), (2, _), (6, _)] ⟨rfl, rfl, rfl, rfl, trivial⟩ ?_
  refine Go'.seq ?_
  -- region 1 (impl.go:189)
  refine Go'.region [(0, 0), (1, 0), (2, 0), (3, 0), (4, 2), (5, 2)] rfl ?_
  refine O.mv rfl rfl rfl rfl rfl ?_
  refine O.mv rfl rfl rfl rfl rfl ?_
  refine O.bld (cs := (EJ.enc x)) rfl rfl rfl rfl (st35) rfl (by kernel_rfl) ?_
  refine O.mv rfl rfl rfl rfl rfl ?_
  refine O.call rfl rfl rfl Go.Proofs.Try.call87 rfl found_spec ?_
  rintro _ H2 ⟨rfl, hF2⟩
  have hs2 := hF2.size
  replace m4 := hF2.wr m4
  replace hF := hF.trans' hF2 (fun _ _ _ h => h) (fun _ _ _ h => h.elim)
  rw [FV_eq (ok? x ok)]
  refine ⟨trivial, ?_⟩
  refine O.st (vs := (fvs (ok? x ok))) rfl rfl Go.Proofs.Try.sizeOf37 rfl rfl rfl (by cases ok <;> rfl) (by cases ok <;> rfl) m4 ?_
  intro H5 W5
  replace hF := hF.trans' W5.fr (fun _ _ _ h => h) (fun b o hb hz => by have h1 := hz.1; omega)
  refine ⟨trivial, ?_⟩
  refine Pl.fin [(6, _)] ⟨rfl, trivial⟩ ?_
  refine Go'.ret (vs := [_]) Go.Proofs.Try.func54 Go.Proofs.Try.results54 ⟨⟨_, _, rfl, fun _ _ => run_loadVar_agg (fun w => ⟨Go.Proofs.Try.isAgg37 w, Go.Proofs.Try.sizeOf37 w⟩) (by cases ok <;> rfl) W5.all⟩, trivial⟩ ?_
  exact ⟨rfl, hF⟩

end Go.Bt
namespace Go.Bt
open Go Go.Proofs
set_option maxRecDepth 20000
set_option maxHeartbeats 4000000
set_option linter.unusedVariables false

theorem OO_nil : OO [] = OI := rfl
theorem Gt.Good.some {H : Mem} {P : Ps} : ∀ {h : Nat} {t : Gt EI h}, Gt.Good H P h t → 1 ≤ (Gt.X h t).length → 1 ≤ (Gt.L h t).length
  | 0, _, _, h1 => h1
  | h + 1, (g, X, K), hg, h1 => Nat.le_trans h1 (Pl.sublist_inter X (K.map (Gt.L h)) (by have := hg.2.2.2.2.2.1; simp only at this; rw [List.length_map, this]; omega)).length_le

theorem growMap_spec {B : World} {H : Mem} {d : Nat} {u : Value} {l : List (Int × Int)} (hd : 2 ≤ d ∧ d ≤ 128) (hi : InS EJ H u l) (hll : l.length ≤ 4294967296) :
    Fn Try.prog B 52 [.int .i64 (d : Int), u] H (fun r H' => ∃ tr S, r = ptr tr ∧ MapM H' tr ⟨0, 2 * d - 1, d - 1⟩ S (Pl.puts OI l) ∧ Fr nowhere H H' ∧ ∀ b, S b → H.size ≤ b) := by
  have hP : PsOk ⟨0, 2 * d - 1, d - 1⟩ := ⟨by show 2 * d - 1 = 2 * (d - 1) + 1; omega, by show 1 ≤ d - 1; omega, by show 2 * d - 1 ≤ 255; omega⟩
  obtain ⟨a, c, hu⟩ := hi.len
  subst hu
  refine fn_of Go.Proofs.Try.func52 rfl Go.Proofs.Try.ntmps52 ?_
  refine (show Go' _ _ _ _ 24 [(0, _), (1, _)] [.code _] _ from ?_)
  refine Go'.seq ?_
  -- region 0 (map.go:12)
  refine Go'.region [(0, 0)] rfl ?_
  refine O.asg rfl rfl rfl rfl rfl ?_
  refine Pl.fin [(0, _), (1, _), (4, _)] ⟨rfl, rfl, rfl, trivial⟩ ?_
  refine Go'.seq ?_
  -- region 1 (map.go:13)
  refine Go'.region [(0, 0), (1, 2), (2, 0)] rfl ?_
  refine O.mv rfl rfl rfl rfl rfl ?_
  refine O.call rfl rfl rfl Go.Proofs.Try.call84 rfl (newMap_spec hd) ?_
  rintro _ H1 ⟨rfl, hs1, hF1, hM1⟩
  unfold ptr
  refine ⟨trivial, ?_⟩
  refine O.asg rfl rfl rfl rfl rfl ?_
  refine Pl.fin [(1, _), (4, _), (5, _)] ⟨rfl, rfl, rfl, trivial⟩ ?_
  refine Go'.seq ?_
  refine Go'.seq ?_
  -- region 2 (map.go:14)
  refine Go'.region [(0, 0), (1, 0), (2, 0)] rfl ?_
  refine O.mv rfl rfl rfl rfl rfl ?_
  refine O.len rfl rfl rfl rfl Go.Proofs.Try.underlying22 rfl ?_
  refine O.mv rfl rfl rfl rfl rfl ?_
  refine Pl.fin [(4, _), (5, _), (10, _), (11, _), (12, _)] ⟨rfl, rfl, rfl, rfl, rfl, trivial⟩ ?_
  refine Go'.block ?_
  refine Go'.loop ?_
  refine Go'.keep [(5, _), (10, _), (11, _), (12, _)] ⟨rfl, rfl, rfl, rfl, trivial⟩ ?_
  refine Go'.ind (σ := Nat) (fun j => l.length - j) (fun j H' => Fr nowhere H H' ∧ j ≤ l.length ∧ ∃ S, MapM H' H.size ⟨0, 2 * d - 1, d - 1⟩ S (Pl.puts OI (l.take j)) ∧ ∀ b, S b → H.size ≤ b)
    (fun j => [(5, .pointer (some ⟨H.size, 0, none⟩)), (10, .slice a l.length c), (11, .int .i64 (l.length : Int)), (12, .int .i64 (j : Int))]) 0 ⟨hF1, Nat.zero_le _, _, hM1, fun b hb => by omega⟩ rfl ?_
  rintro j H2 ⟨hF, hjl, S, hM, hS⟩ ih
  have hi2 := hi.fr hF
  refine Go'.seq ?_
  by_cases hlt : j < l.length
  · skip
    obtain ⟨y, hy⟩ : ∃ y, l[j]? = some y := ⟨l[j], List.getElem?_eq_getElem hlt⟩
    obtain ⟨b, o, c', e, hr⟩ := hi2.at hy
    cases e
    have hpl := Pl.puts_length OI (l.take j)
    have hSn : ∀ b, H2.size ≤ b → ¬ S b := fun b hb hs => by have := hM.lt b hs; omega
    rw [List.length_take] at hpl
    -- region 3 (map.go:14)
    refine Go'.region [(0, 0)] rfl ?_
    refine O.cmp rfl rfl rfl rfl rfl rfl (lssT (by omega)) ?_
    refine Pl.fin [(5, _), (10, _), (11, _), (12, _), (13, _)] ⟨rfl, rfl, rfl, rfl, rfl, trivial⟩ ?_
    refine Go'.seq ?_
    refine Go'.condT rfl ?_
    refine Go'.skip ?_
    refine Go'.seq ?_
    refine Go'.block ?_
    refine Go'.seq ?_
    -- region 4 (map.go:14)
    refine Go'.region [(0, 0), (1, 1), (2, 2), (3, 2)] rfl ?_
    refine O.ix (j := j) rfl rfl rfl rfl Go.Proofs.Try.underlying22 Go.Proofs.Try.sizeOf35 rfl rfl (by omega) hlt ?_
    refine O.lds rfl rfl rfl (fun w => ⟨Go.Proofs.Try.isAgg35 w, Go.Proofs.Try.sizeOf35 w⟩) rfl rfl hr ?_
    refine O.alloc rfl rfl rfl Go.Proofs.Try.zeroValue35 ?_
    intro H3 M3
    refine ⟨trivial, ?_⟩
    have hs3 := M3.size
    replace hM := hM.fr (M3.fr nowhere) (fun _ _ _ => nw)
    have m7 : Wr H3 H2.size 0 2 := M3.wr 2 (by decide)
    have hlt2 : ∀ b, S b → b < H2.size := fun b hb => by
      rcases Nat.lt_or_ge b H2.size with h | h
      · exact h
      · exact absurd hb (hSn b h)
    refine O.st rfl rfl Go.Proofs.Try.sizeOf35 rfl rfl rfl rfl rfl m7 ?_
    intro H4 W4
    have hs4 := W4.size
    replace hM := hM.fr W4.fr (fun b o hb hz => by have h1 := hz.1; have h2 := hlt2 b hb; omega)
    have hf4 : Fr nowhere H H4 := hF.trans' ((M3.fr nowhere).trans' W4.fr (Z := nowhere) (fun _ _ _ h => h) (fun b o hb hz => by have h1 := hz.1; omega)) (fun _ _ _ h => h) (fun _ _ _ h => h)
    have k0 : cl H4 H2.size 0 = some (.int .i64 y.1) := W4.all 0 _ rfl
    have k1 : cl H4 H2.size 1 = some (.int .i64 y.2) := W4.all 1 _ rfl
    refine ⟨trivial, ?_⟩
    refine Pl.fin [(5, _), (7, _), (10, _), (11, _), (12, _), (13, _)] ⟨rfl, rfl, rfl, rfl, rfl, rfl, trivial⟩ ?_
    -- region 5 (map.go:15)
    refine Go'.region [(0, 0), (1, 0), (2, 1), (3, 0), (4, 1), (5, 2)] rfl ?_
    refine O.mv rfl rfl rfl rfl rfl ?_
    refine O.faz rfl rfl rfl rfl ⟨_, _, _, Go.Proofs.Try.underlying35, rfl, rfl, Go.Proofs.Try.sizeOf3⟩ rfl ?_
    refine O.ld rfl rfl rfl (fun w => ⟨Go.Proofs.Try.isAgg3 w, Go.Proofs.Try.sizeOf3 w⟩) rfl k0 ?_
    refine O.fa0 (off := 1) rfl rfl rfl rfl ⟨_, _, _, Go.Proofs.Try.underlying35, rfl, rfl, Go.Proofs.Try.sizeOf3⟩ rfl ?_
    refine O.ld rfl rfl rfl (fun w => ⟨Go.Proofs.Try.isAgg3 w, Go.Proofs.Try.sizeOf3 w⟩) rfl k1 ?_
    refine O.call rfl rfl rfl Go.Proofs.Try.call56 rfl (mset_spec hP (x := y) hM (by omega)) ?_
    rintro _ H5 ⟨rfl, S', hM', hF', hS'⟩
    refine ⟨trivial, ?_⟩
    refine Pl.fin [(5, _), (7, _), (10, _), (11, _), (12, _), (13, _)] ⟨rfl, rfl, rfl, rfl, rfl, rfl, trivial⟩ ?_
    refine Go'.inBlock ?_
    -- region 6 (map.go:14)
    refine Go'.region [(0, 0), (1, 0)] rfl ?_
    refine O.add (((j + 1 : Nat) : Int)) rfl rfl rfl rfl rfl rfl (by omega) (by omega) ?_
    refine O.mv rfl rfl rfl rfl rfl ?_
    refine Pl.fin [(5, _), (7, _), (10, _), (11, _), (12, _), (13, _)] ⟨rfl, rfl, rfl, rfl, rfl, rfl, trivial⟩ ?_
    refine Go'.keep [(5, _), (10, _), (11, _), (12, _)] ⟨rfl, rfl, rfl, rfl, trivial⟩ ?_
    refine Go'.inLoop ?_
    exact ih (j + 1) H5 ⟨hf4.trans' hF' (fun _ _ _ h => h) (fun b o hb hz => by have h1 := hS b hz; omega), hlt, S', by
      rw [List.take_add_one, hy]
      rw [← Pl.puts_snoc] at hM'
      exact hM', fun b hb => (hS' b hb).elim (hS b) (fun h => by have := hf4.size; omega)⟩ (by omega)
  · skip
    obtain rfl : j = l.length := by omega
    -- region 3 (map.go:14)
    refine Go'.region [(0, 0)] rfl ?_
    refine O.cmp rfl rfl rfl rfl rfl rfl (lssF (by omega)) ?_
    refine Pl.fin [(5, _), (10, _), (11, _), (12, _), (13, _)] ⟨rfl, rfl, rfl, rfl, rfl, trivial⟩ ?_
    refine Go'.seq ?_
    refine Go'.condF rfl ?_
    refine Go'.exit rfl ?_
    refine Go'.seq ?_
    -- region 7 (map.go:17)
    refine Go'.region [(0, 0), (1, 0)] rfl ?_
    refine O.mv rfl rfl rfl rfl rfl ?_
    refine O.asg rfl rfl rfl rfl rfl ?_
    refine Pl.fin [(4, _)] ⟨rfl, trivial⟩ ?_
    refine Go'.ret (vs := [_]) Go.Proofs.Try.func52 Go.Proofs.Try.results52 ⟨rfl, trivial⟩ ?_
    rw [List.take_length] at hM
    exact ⟨H.size, S, rfl, hM, hF, hS⟩

def kv? : Option (Int × Int) → Value
  | some y => .tuple #[.int .i64 y.1, .int .i64 y.2, .bool true]
  | none => .tuple #[.int .i64 0, .int .i64 0, .bool false]
theorem minMut_spec {B : World} {H : Mem} {tr : Nat} {P : Ps} (hP : PsOk P) {S : Nat → Prop} {l : List (Int × Int)} (hM : MapM H tr P S l) (mt : Bool) :
    Fn Try.prog B 111 [.pointer (some ⟨tr, 0, none⟩), .bool mt] H (fun r H' => r = kv? l[0]? ∧ Fr nowhere H H') := by
  have hh1 := hP.h1
  obtain ⟨tc, srt, cnt, own, lt, hr⟩ := hM
  rcases hr with ⟨rfl, hptr⟩ | ⟨h, t, hg, hx1, e, hc, hnt, hown⟩
  · skip
    refine fn_of Go.Proofs.Try.func111 rfl Go.Proofs.Try.ntmps111 ?_
    refine (show Go' _ _ _ _ 44 [(0, _), (1, _)] [.code _] _ from ?_)
    refine Go'.seq ?_
    -- region 0 (map.go:671)
    refine Go'.region [(0, 0), (1, 0), (2, 0)] rfl ?_
    refine O.asg rfl rfl rfl rfl rfl ?_
    refine O.asg rfl rfl rfl rfl rfl ?_
    refine O.asg rfl rfl rfl rfl rfl ?_
    refine Pl.fin [(0, _), (1, _), (4, _), (5, _), (6, _)] ⟨rfl, rfl, rfl, rfl, rfl, trivial⟩ ?_
    refine Go'.seq ?_
    refine Go'.seq ?_
    -- region 1 (map.go:672)
    refine Go'.region [(0, 0), (1, 0), (2, 0), (3, 1), (4, 0)] rfl ?_
    refine O.mv rfl rfl rfl rfl rfl ?_
    refine O.nc rfl rfl rfl rfl rfl ?_
    refine O.fa0 (off := 2) rfl rfl rfl rfl ⟨_, _, _, Go.Proofs.Try.underlying105, rfl, rfl, Go.Proofs.Try.sizeOf103⟩ rfl ?_
    refine O.ld rfl rfl rfl (fun w => ⟨Go.Proofs.Try.isAgg103 w, Go.Proofs.Try.sizeOf103 w⟩) rfl hptr ?_
    refine O.isNil rfl rfl rfl rfl Go.Proofs.Try.underlying103 rfl rfl ?_
    refine Pl.fin [(0, _), (1, _), (4, _), (5, _), (6, _), (13, _)] ⟨rfl, rfl, rfl, rfl, rfl, rfl, trivial⟩ ?_
    refine Go'.condT rfl ?_
    refine Go'.seq ?_
    -- region 2 (map.go:673)
    refine Go'.region [(0, 0), (1, 0), (2, 0), (3, 0), (4, 0)] rfl ?_
    refine O.mv rfl rfl rfl rfl rfl ?_
    refine O.mv rfl rfl rfl rfl rfl ?_
    refine O.asg rfl rfl rfl rfl rfl ?_
    refine O.asg rfl rfl rfl rfl rfl ?_
    refine O.asg rfl rfl rfl rfl rfl ?_
    refine Pl.fin [(0, _), (1, _), (4, _), (5, _), (6, _)] ⟨rfl, rfl, rfl, rfl, rfl, trivial⟩ ?_
    refine Go'.ret (vs := [_, _, _]) Go.Proofs.Try.func111 Go.Proofs.Try.results111 ⟨rfl, rfl, rfl, trivial⟩ ?_
    exact ⟨rfl, Fr.refl _ _⟩
  · skip
    obtain ⟨kp, hN⟩ := hg.node
    have hiso : (Gt.g h t).iso = P.iso := hg.isoe
    have hc0 := hN.c0
    rw [hiso] at hc0
    have hptr : cl H tr 2 = some (.pointer (some ⟨Gt.p h t, 0, none⟩)) := hc
    refine fn_of Go.Proofs.Try.func111 rfl Go.Proofs.Try.ntmps111 ?_
    refine (show Go' _ _ _ _ 44 [(0, _), (1, _)] [.code _] _ from ?_)
    refine Go'.seq ?_
    -- region 0 (map.go:671)
    refine Go'.region [(0, 0), (1, 0), (2, 0)] rfl ?_
    refine O.asg rfl rfl rfl rfl rfl ?_
    refine O.asg rfl rfl rfl rfl rfl ?_
    refine O.asg rfl rfl rfl rfl rfl ?_
    refine Pl.fin [(0, _), (1, _), (4, _), (5, _), (6, _)] ⟨rfl, rfl, rfl, rfl, rfl, trivial⟩ ?_
    refine Go'.seq ?_
    refine Go'.seq ?_
    -- region 1 (map.go:672)
    refine Go'.region [(0, 0), (1, 0), (2, 0), (3, 1), (4, 0)] rfl ?_
    refine O.mv rfl rfl rfl rfl rfl ?_
    refine O.nc rfl rfl rfl rfl rfl ?_
    refine O.fa0 (off := 2) rfl rfl rfl rfl ⟨_, _, _, Go.Proofs.Try.underlying105, rfl, rfl, Go.Proofs.Try.sizeOf103⟩ rfl ?_
    refine O.ld rfl rfl rfl (fun w => ⟨Go.Proofs.Try.isAgg103 w, Go.Proofs.Try.sizeOf103 w⟩) rfl hptr ?_
    refine O.isNil rfl rfl rfl rfl Go.Proofs.Try.underlying103 rfl rfl ?_
    refine Pl.fin [(0, _), (1, _), (4, _), (5, _), (6, _), (13, _)] ⟨rfl, rfl, rfl, rfl, rfl, rfl, trivial⟩ ?_
    refine Go'.condF rfl ?_
    refine Go'.skip ?_
    refine Go'.seq ?_
    -- region 3 (map.go:675)
    refine Go'.region [(0, 0), (1, 0), (2, 0), (3, 0), (4, 0), (5, 2), (6, 0)] rfl ?_
    refine O.mv rfl rfl rfl rfl rfl ?_
    refine O.mv rfl rfl rfl rfl rfl ?_
    refine O.nc rfl rfl rfl rfl rfl ?_
    refine O.fa0 (off := 2) rfl rfl rfl rfl ⟨_, _, _, Go.Proofs.Try.underlying105, rfl, rfl, Go.Proofs.Try.sizeOf103⟩ rfl ?_
    refine O.mv rfl rfl rfl rfl rfl ?_
    refine O.callQ rfl rfl rfl Go.Proofs.Try.call85 rfl (isoLoad_spec mt hc hc0 tc.iso) trivial ?_
    refine O.asg rfl rfl rfl rfl rfl ?_
    refine Pl.fin [(0, _), (1, _), (4, _), (5, _), (6, _), (7, _)] ⟨rfl, rfl, rfl, rfl, rfl, rfl, trivial⟩ ?_
    refine Go'.block ?_
    refine Go'.loop ?_
    refine Go'.keep [(0, _), (1, _), (4, _), (5, _), (6, _), (7, _)] ⟨rfl, rfl, rfl, rfl, rfl, rfl, trivial⟩ ?_
    refine Go'.ind (σ := (h : Nat) × Gt EI h) (fun s => s.1) (fun s H' => H' = H ∧ Gt.Good H P s.1 s.2 ∧ 1 ≤ (Gt.X s.1 s.2).length ∧ (Gt.L s.1 s.2)[0]? = l[0]?)
      (fun s => [(0, .pointer (some ⟨tr, 0, none⟩)), (1, .bool mt), (4, .int .i64 0), (5, .int .i64 0), (6, .bool false), (7, .pointer (some ⟨Gt.p s.1 s.2, 0, none⟩))]) ⟨h, t⟩ ⟨rfl, hg, hx1, by rw [e]⟩ rfl ?_
    clear hg hx1 e hc hnt hown hN hiso hc0 hptr t h kp
    rintro ⟨h, t⟩ H2 ⟨hHH, hg, hx1, hL⟩ ih
    have eH : H = H2 := hHH.symm
    subst eH
    simp only at hg hx1 hL
    clear hHH
    refine Go'.block ?_
    refine Go'.seq ?_
    refine Go'.seq ?_
    rcases h with _ | h
    · -- a leaf
      obtain ⟨g, X⟩ := t
      have hN : NodeM EI H g X (.pointer none) := hg.1
      replace hx1 : 1 ≤ X.length := hx1
      replace hL : X[0]? = l[0]? := hL
      obtain ⟨y, hy⟩ : ∃ y, X[0]? = some y := ⟨X[0], List.getElem?_eq_getElem (by omega)⟩
      rw [← hL, hy]
      -- region 4 (map.go:677)
      refine Go'.region [(0, 0), (1, 2)] rfl ?_
      refine O.mv rfl rfl rfl rfl rfl ?_
      refine O.callQ rfl rfl rfl Go.Proofs.Try.call86 rfl (leaf_spec hN.c3) trivial ?_
      refine Pl.fin [(0, _), (1, _), (4, _), (5, _), (6, _), (7, _), (23, _)] ⟨rfl, rfl, rfl, rfl, rfl, rfl, rfl, trivial⟩ ?_
      refine Go'.condT rfl ?_
      refine Go'.seq ?_
      -- region 5 (map.go:678)
      refine Go'.region [(0, 0), (1, 0), (2, 0), (3, 1), (4, 0), (5, 1), (6, 2), (7, 2)] rfl ?_
      refine O.mv rfl rfl rfl rfl rfl ?_
      refine O.nc rfl rfl rfl rfl rfl ?_
      refine O.fa0 (off := 2) rfl rfl rfl rfl ⟨_, _, _, Go.Proofs.Try.underlying111, rfl, rfl, Go.Proofs.Try.sizeOf108⟩ rfl ?_
      refine O.ld rfl rfl rfl (fun w => ⟨Go.Proofs.Try.isAgg108 w, Go.Proofs.Try.sizeOf108 w⟩) rfl hN.c2 ?_
      refine O.ix (j := 0) rfl rfl rfl rfl Go.Proofs.Try.underlying108 Go.Proofs.Try.sizeOf100 rfl rfl rfl (by omega) ?_
      refine O.lds rfl rfl rfl (fun w => ⟨Go.Proofs.Try.isAgg100 w, Go.Proofs.Try.sizeOf100 w⟩) rfl rfl (hN.sl.item hy) ?_
      refine O.alloc rfl rfl rfl Go.Proofs.Try.zeroValue100 ?_
      intro H3 M3
      refine ⟨trivial, ?_⟩
      have hs3 := M3.size
      have m8 : Wr H3 H.size 0 2 := M3.wr 2 (by decide)
      refine O.st rfl rfl Go.Proofs.Try.sizeOf100 rfl rfl rfl rfl rfl m8 ?_
      intro H4 W4
      have hF4 : Fr nowhere H H4 := (M3.fr nowhere).trans' W4.fr (fun _ _ _ h => h) (fun b o hb hz => by have h1 := hz.1; omega)
      have k0 : cl H4 H.size 0 = some (.int .i64 y.2) := W4.all 0 _ rfl
      have k1 : cl H4 H.size 1 = some (.int .i64 y.1) := W4.all 1 _ rfl
      refine ⟨trivial, ?_⟩
      refine Pl.fin [(0, _), (1, _), (4, _), (5, _), (6, _), (7, _), (8, _), (23, _)] ⟨rfl, rfl, rfl, rfl, rfl, rfl, rfl, rfl, trivial⟩ ?_
      refine Go'.seq ?_
      -- region 6 (map.go:679)
      refine Go'.draw (fun _ => True) [(0, 0), (1, 1), (2, 0), (3, 1), (4, 0), (5, 0), (6, 0)] (by kernel_rfl) (by kernel_rfl) (trivial) ?_
      refine O.fa0 (off := 1) rfl rfl rfl rfl ⟨_, _, _, Go.Proofs.Try.underlying100, rfl, rfl, Go.Proofs.Try.sizeOf3⟩ rfl ?_
      refine O.ld rfl rfl rfl (fun w => ⟨Go.Proofs.Try.isAgg3 w, Go.Proofs.Try.sizeOf3 w⟩) rfl k1 ?_
      refine O.faz rfl rfl rfl rfl ⟨_, _, _, Go.Proofs.Try.underlying100, rfl, rfl, Go.Proofs.Try.sizeOf3⟩ rfl ?_
      refine O.ld rfl rfl rfl (fun w => ⟨Go.Proofs.Try.isAgg3 w, Go.Proofs.Try.sizeOf3 w⟩) rfl k0 ?_
      refine O.asg rfl rfl rfl rfl rfl ?_
      refine O.asg rfl rfl rfl rfl rfl ?_
      refine O.asg rfl rfl rfl rfl rfl ?_
      refine Pl.fin [(0, _), (1, _), (4, _), (5, _), (6, _), (7, _), (8, _), (23, _)] ⟨rfl, rfl, rfl, rfl, rfl, rfl, rfl, rfl, trivial⟩ ?_
      refine Go'.ret (vs := [_, _, _]) Go.Proofs.Try.func111 Go.Proofs.Try.results111 ⟨rfl, rfl, rfl, trivial⟩ ?_
      exact ⟨rfl, hF4⟩
    · -- an inner node
      obtain ⟨g, X, K⟩ := t
      have hI : Inn H P h g X ((Gt.ps h K).map some) K := hg.inn
      have hKl : K.length = X.length + 1 := hg.2.2.2.2.2.1
      obtain ⟨k, K', rfl⟩ : ∃ k K', K = k :: K' := by
        cases K with
        | nil => simp at hKl
        | cons k K' => exact ⟨k, K', rfl⟩
      obtain ⟨hgk, hmk, _⟩ := hI.c.1 k List.mem_cons_self
      obtain ⟨kp, hNk⟩ := hgk.node
      have hc0 := hNk.c0
      rw [hgk.isoe] at hc0
      have hck : cl H g.kb (g.ko + 0 * 1) = some (ptr (Gt.p h k)) := hI.k.at (i := 0) rfl
      have hLk : (Gt.L h k)[0]? = l[0]? := by
        rw [← hL]
        show _ = (Pl.inter X ((k :: K').map (Gt.L h)))[0]?
        rw [List.map_cons, Pl.inter_post _ _ _ (by rw [List.length_map]; simpa using hKl.symm), List.getElem?_append_left (by have := hgk.some (by omega); omega)]
      -- region 4 (map.go:677)
      refine Go'.region [(0, 0), (1, 2)] rfl ?_
      refine O.mv rfl rfl rfl rfl rfl ?_
      refine O.callQ rfl rfl rfl Go.Proofs.Try.call86 rfl (leaf_spec hI.n.c3) trivial ?_
      refine Pl.fin [(0, _), (1, _), (4, _), (5, _), (6, _), (7, _), (23, _)] ⟨rfl, rfl, rfl, rfl, rfl, rfl, rfl, trivial⟩ ?_
      refine Go'.condF rfl ?_
      refine Go'.skip ?_
      -- region 7 (map.go:681)
      refine Go'.region [(0, 0), (1, 0), (2, 0), (3, 0), (4, 1), (5, 0), (6, 1), (7, 0), (8, 0), (9, 2), (10, 0)] rfl ?_
      refine O.mv rfl rfl rfl rfl rfl ?_
      refine O.mv rfl rfl rfl rfl rfl ?_
      refine O.nc rfl rfl rfl rfl rfl ?_
      refine O.fa0 (off := 3) rfl rfl rfl rfl ⟨_, _, _, Go.Proofs.Try.underlying111, rfl, rfl, Go.Proofs.Try.sizeOf109⟩ rfl ?_
      refine O.ld rfl rfl rfl (fun w => ⟨Go.Proofs.Try.isAgg109 w, Go.Proofs.Try.sizeOf109 w⟩) rfl hI.n.c3 ?_
      refine O.nc rfl rfl rfl rfl rfl ?_
      refine O.ld rfl rfl rfl (fun w => ⟨Go.Proofs.Try.isAgg112 w, Go.Proofs.Try.sizeOf112 w⟩) rfl hI.k.c ?_
      refine O.ix (j := 0) rfl rfl rfl rfl Go.Proofs.Try.underlying112 Go.Proofs.Try.sizeOf103 rfl rfl rfl (by rw [List.length_map, Gt.ps, List.length_map]; exact Nat.succ_pos _) ?_
      refine O.mv rfl rfl rfl rfl rfl ?_
      refine O.callQ rfl rfl rfl Go.Proofs.Try.call85 rfl (isoLoad_spec mt hck hc0 tc.iso) trivial ?_
      refine O.asg rfl rfl rfl rfl rfl ?_
      refine Pl.fin [(0, _), (1, _), (4, _), (5, _), (6, _), (7, _), (23, _)] ⟨rfl, rfl, rfl, rfl, rfl, rfl, rfl, trivial⟩ ?_
      refine Go'.inBlock ?_
      refine Go'.keep [(0, _), (1, _), (4, _), (5, _), (6, _), (7, _)] ⟨rfl, rfl, rfl, rfl, rfl, rfl, trivial⟩ ?_
      refine Go'.inLoop ?_
      exact ih ⟨h, k⟩ H ⟨rfl, hgk, Nat.le_trans hh1 hmk, hLk⟩ (Nat.lt_succ_self h)

theorem min_spec {B : World} {H : Mem} {tr : Nat} {P : Ps} (hP : PsOk P) {S : Nat → Prop} {l : List (Int × Int)} (hM : MapM H tr P S l) :
    Fn Try.prog B 76 [.pointer (some ⟨tr, 0, none⟩)] H (fun r H' => r = kv? l[0]? ∧ Fr nowhere H H') := by
  refine fn_of Go.Proofs.Try.func76 rfl Go.Proofs.Try.ntmps76 ?_
  refine (show Go' _ _ _ _ 10 [(0, _)] [.code _] _ from ?_)
  refine Go'.seq ?_
  -- region 0 (map.go:663)
  refine Go'.region [(0, 0), (1, 0), (2, 0)] rfl ?_
  refine O.asg rfl rfl rfl rfl rfl ?_
  refine O.asg rfl rfl rfl rfl rfl ?_
  refine O.asg rfl rfl rfl rfl rfl ?_
  refine Pl.fin [(0, _), (2, _), (3, _), (4, _)] ⟨rfl, rfl, rfl, rfl, trivial⟩ ?_
  refine Go'.seq ?_
  cases hl0 : l[0]?
  · skip
    -- region 1 (map.go:664)
    refine Go'.region [(0, 0), (1, 2), (2, 0), (3, 0), (4, 0), (5, 0), (6, 0), (7, 0)] rfl ?_
    refine O.mv rfl rfl rfl rfl rfl ?_
    refine O.call rfl rfl rfl Go.Proofs.Try.call111 rfl (minMut_spec hP hM false) ?_
    rintro _ H2 ⟨rfl, hF2⟩
    rw [hl0]
    unfold kv?
    refine ⟨trivial, ?_⟩
    refine O.ext rfl rfl rfl rfl rfl rfl ?_
    refine O.ext rfl rfl rfl rfl rfl rfl ?_
    refine O.ext rfl rfl rfl rfl rfl rfl ?_
    refine O.asg rfl rfl rfl rfl rfl ?_
    refine O.asg rfl rfl rfl rfl rfl ?_
    refine O.asg rfl rfl rfl rfl rfl ?_
    refine Pl.fin [(2, _), (3, _), (4, _)] ⟨rfl, rfl, rfl, trivial⟩ ?_
    refine Go'.ret (vs := [_, _, _]) Go.Proofs.Try.func76 Go.Proofs.Try.results76 ⟨rfl, rfl, rfl, trivial⟩ ?_
    exact ⟨rfl, hF2⟩
  · skip
    -- region 1 (map.go:664)
    refine Go'.region [(0, 0), (1, 2), (2, 0), (3, 0), (4, 0), (5, 0), (6, 0), (7, 0)] rfl ?_
    refine O.mv rfl rfl rfl rfl rfl ?_
    refine O.call rfl rfl rfl Go.Proofs.Try.call111 rfl (minMut_spec hP hM false) ?_
    rintro _ H2 ⟨rfl, hF2⟩
    rw [hl0]
    unfold kv?
    refine ⟨trivial, ?_⟩
    refine O.ext rfl rfl rfl rfl rfl rfl ?_
    refine O.ext rfl rfl rfl rfl rfl rfl ?_
    refine O.ext rfl rfl rfl rfl rfl rfl ?_
    refine O.asg rfl rfl rfl rfl rfl ?_
    refine O.asg rfl rfl rfl rfl rfl ?_
    refine O.asg rfl rfl rfl rfl rfl ?_
    refine Pl.fin [(2, _), (3, _), (4, _)] ⟨rfl, rfl, rfl, trivial⟩ ?_
    refine Go'.ret (vs := [_, _, _]) Go.Proofs.Try.func76 Go.Proofs.Try.results76 ⟨rfl, rfl, rfl, trivial⟩ ?_
    exact ⟨rfl, hF2⟩

theorem mmin_spec {B : World} {H : Mem} {d : Nat} {u : Value} {l : List (Int × Int)} (hd : 2 ≤ d ∧ d ≤ 128) (hi : InS EJ H u l) (hll : l.length ≤ 4294967296) :
    Fn Try.prog B 44 [.int .i64 (d : Int), u] H (fun r H' => r = FV (Pl.puts OI l)[0]? ∧ Fr nowhere H H') := by
  have hP : PsOk ⟨0, 2 * d - 1, d - 1⟩ := ⟨by show 2 * d - 1 = 2 * (d - 1) + 1; omega, by show 1 ≤ d - 1; omega, by show 2 * d - 1 ≤ 255; omega⟩
  have hF : Fr nowhere H H := Fr.refl _ _
  refine fn_of Go.Proofs.Try.func44 rfl Go.Proofs.Try.ntmps44 ?_
  refine (show Go' _ _ _ _ 13 [(0, _), (1, _)] [.code _] _ from ?_)
  refine Go'.seq ?_
  -- region 0 (map.go:119)
  refine Go'.region [(0, 2)] rfl ?_
  refine O.alloc rfl rfl rfl Go.Proofs.Try.zeroValue37 ?_
  intro H1 M1
  refine ⟨trivial, ?_⟩
  have hs1 := M1.size
  replace hi := hi.fr (M1.fr nowhere)
  replace hF := hF.trans' (M1.fr nowhere) (fun _ _ _ h => h) (fun _ _ _ h => h.elim)
  have m4 : Wr H1 H.size 0 3 := M1.wr 3 (by decide)
  refine Pl.fin [(0, _), (1, _), (4, _)] ⟨rfl, rfl, rfl, trivial⟩ ?_
  refine Go'.seq ?_
  cases hl0 : (Pl.puts OI l)[0]? with
  | none =>
    -- region 1 (map.go:120)
    refine Go'.region [(0, 0), (1, 0), (2, 2), (3, 2), (4, 0), (5, 0), (6, 0), (7, 2), (8, 2)] rfl ?_
    refine O.mv rfl rfl rfl rfl rfl ?_
    refine O.mv rfl rfl rfl rfl rfl ?_
    refine O.call rfl rfl rfl Go.Proofs.Try.call52 rfl (growMap_spec hd hi hll) ?_
    rintro _ H2 ⟨tr, S, rfl, hM, hF2, _⟩
    have hs2 := hF2.size
    replace m4 := hF2.wr m4
    replace hF := hF.trans' hF2 (fun _ _ _ h => h) (fun _ _ _ h => h.elim)
    refine ⟨trivial, ?_⟩
    refine O.call rfl rfl rfl Go.Proofs.Try.call76 rfl (min_spec hP hM) ?_
    rintro _ H3 ⟨rfl, hF3⟩
    have hs3 := hF3.size
    replace m4 := hF3.wr m4
    replace hF := hF.trans' hF3 (fun _ _ _ h => h) (fun _ _ _ h => h.elim)
    rw [hl0]
    unfold kv?
    refine ⟨trivial, ?_⟩
    refine O.ext rfl rfl rfl rfl rfl rfl ?_
    refine O.ext rfl rfl rfl rfl rfl rfl ?_
    refine O.ext rfl rfl rfl rfl rfl rfl ?_
    refine O.call rfl rfl rfl Go.Proofs.Try.call54 rfl (pair_spec (x := ((0 : Int), (0 : Int))) (ok := false)) ?_
    rintro _ H4 ⟨rfl, hF4⟩
    have hs4 := hF4.size
    replace m4 := hF4.wr m4
    replace hF := hF.trans' hF4 (fun _ _ _ h => h) (fun _ _ _ h => h.elim)
    refine ⟨trivial, ?_⟩
    refine O.st (vs := (fvs none)) rfl rfl Go.Proofs.Try.sizeOf37 rfl rfl rfl rfl rfl m4 ?_
    intro H5 W5
    replace hF := hF.trans' W5.fr (fun _ _ _ h => h) (fun b o hb hz => by have h1 := hz.1; omega)
    refine ⟨trivial, ?_⟩
    refine Pl.fin [(4, _)] ⟨rfl, trivial⟩ ?_
    refine Go'.ret (vs := [_]) Go.Proofs.Try.func44 Go.Proofs.Try.results44 ⟨⟨_, _, rfl, fun _ _ => run_loadVar_agg (fun w => ⟨Go.Proofs.Try.isAgg37 w, Go.Proofs.Try.sizeOf37 w⟩) rfl W5.all⟩, trivial⟩ ?_
    exact ⟨rfl, hF⟩
  | some y =>
    -- region 1 (map.go:120)
    refine Go'.region [(0, 0), (1, 0), (2, 2), (3, 2), (4, 0), (5, 0), (6, 0), (7, 2), (8, 2)] rfl ?_
    refine O.mv rfl rfl rfl rfl rfl ?_
    refine O.mv rfl rfl rfl rfl rfl ?_
    refine O.call rfl rfl rfl Go.Proofs.Try.call52 rfl (growMap_spec hd hi hll) ?_
    rintro _ H2 ⟨tr, S, rfl, hM, hF2, _⟩
    have hs2 := hF2.size
    replace m4 := hF2.wr m4
    replace hF := hF.trans' hF2 (fun _ _ _ h => h) (fun _ _ _ h => h.elim)
    refine ⟨trivial, ?_⟩
    refine O.call rfl rfl rfl Go.Proofs.Try.call76 rfl (min_spec hP hM) ?_
    rintro _ H3 ⟨rfl, hF3⟩
    have hs3 := hF3.size
    replace m4 := hF3.wr m4
    replace hF := hF.trans' hF3 (fun _ _ _ h => h) (fun _ _ _ h => h.elim)
    rw [hl0]
    unfold kv?
    refine ⟨trivial, ?_⟩
    refine O.ext rfl rfl rfl rfl rfl rfl ?_
    refine O.ext rfl rfl rfl rfl rfl rfl ?_
    refine O.ext rfl rfl rfl rfl rfl rfl ?_
    refine O.call rfl rfl rfl Go.Proofs.Try.call54 rfl (pair_spec (x := y) (ok := true)) ?_
    rintro _ H4 ⟨rfl, hF4⟩
    have hs4 := hF4.size
    replace m4 := hF4.wr m4
    replace hF := hF.trans' hF4 (fun _ _ _ h => h) (fun _ _ _ h => h.elim)
    refine ⟨trivial, ?_⟩
    refine O.st (vs := (fvs (some y))) rfl rfl Go.Proofs.Try.sizeOf37 rfl rfl rfl rfl rfl m4 ?_
    intro H5 W5
    replace hF := hF.trans' W5.fr (fun _ _ _ h => h) (fun b o hb hz => by have h1 := hz.1; omega)
    refine ⟨trivial, ?_⟩
    refine Pl.fin [(4, _)] ⟨rfl, trivial⟩ ?_
    refine Go'.ret (vs := [_]) Go.Proofs.Try.func44 Go.Proofs.Try.results44 ⟨⟨_, _, rfl, fun _ _ => run_loadVar_agg (fun w => ⟨Go.Proofs.Try.isAgg37 w, Go.Proofs.Try.sizeOf37 w⟩) rfl W5.all⟩, trivial⟩ ?_
    exact ⟨rfl, hF⟩

end Go.Bt
namespace Go.Bt
open Go Go.Proofs
set_option maxRecDepth 20000
set_option maxHeartbeats 4000000
set_option linter.unusedVariables false

namespace Pl
theorem pre_snoc {α : Type} : ∀ (X : List α) (K : List (List α)) (x : α) (k : List α), X.length = K.length → pre (X ++ [x]) (K ++ [k]) = pre X K ++ (k ++ [x])
  | [], [], x, k, _ => by simp [pre]
  | y :: X, l :: K, x, k, h => by
    simp only [List.cons_append, pre]
    rw [pre_snoc X K x k (by simpa using h)]
    simp
  | [], _ :: _, _, _, h => by simp at h
  | _ :: _, [], _, _, h => by simp at h
theorem inter_last {α : Type} {X : List α} {K : List (List α)} {k : List α} (hl : K.length = X.length + 1) (hk : K[X.length]? = some k) : inter X K = pre X (K.take X.length) ++ k := by
  have hsp : K = K.take X.length ++ [k] := by
    have h1 := (List.getElem?_eq_some_iff.1 hk)
    obtain ⟨h1, h2⟩ := h1
    conv => lhs; rw [← List.take_append_drop X.length K]
    rw [← List.getElem_cons_drop (h := h1), h2, List.drop_of_length_le (by omega)]
  have := inter_focus X [] (K.take X.length) k [] (by rw [List.length_take]; omega) rfl
  rw [List.append_nil] at this
  rw [hsp] at this ⊢
  simp only [post, List.append_nil] at this
  rw [show (List.take X.length K ++ [k]).take X.length = K.take X.length by rw [List.take_append_of_le_length (by rw [List.length_take]; omega), List.take_take, Nat.min_self]]
  rw [show (List.take X.length K ++ [k]).take X.length = K.take X.length by rw [List.take_append_of_le_length (by rw [List.length_take]; omega), List.take_take, Nat.min_self]] at this
  exact this
end Pl
/-- What a reader of a tree is called with that appends to a slice. -/
structure RPre {β : Type} (E : Elt β) (H : Mem) (tr : Nat) (P : Ps) (h : Nat) (t : Gt EI h) (bp op b o c : Nat) (acc : List β) : Prop where
  tc : TrC H tr P.iso P.mx P.mn
  g : Gt.Good H P h t
  cel : cl H bp op = some (ptr (Gt.p h t))
  nb : ∀ o, ¬ Gt.af h t b o
  np : bp ≠ b
  nt : tr ≠ b
  sl : SlE E H b o c acc
  len : acc.length + (Gt.L h t).length ≤ 4294967296
def RPost {β : Type} (E : Elt β) (H : Mem) (b : Nat) (l : List β) (r : Value) (H' : Mem) : Prop := ∃ b' o' c', r = .slice (some ⟨b', o', none⟩) l.length c' ∧ SlE E H' b' o' c' l ∧ Fr (fun b1 _ => b1 = b) H H' ∧ (b' = b ∨ H.size ≤ b')
theorem App.rp {H H' : Mem} {b o len c m s : Nat} {xs news : List Value} {b' o' c' : Nat} (ha : App H H' b o len c m s xs news b' o' c') : Fr (fun b1 _ => b1 = b) H H' ∧ (b' = b ∨ H.size ≤ b') :=
  ⟨ha.fr.mono fun b1 o1 _ hz => hz.1, by rcases ha.place with ⟨h, _⟩ | ⟨h, _⟩ <;> omega⟩
theorem Fr.rp {b b1 : Nat} {H H1 H2 : Mem} (h1 : Fr (fun x _ => x = b) H H1) (hb : b1 = b ∨ H.size ≤ b1) (h2 : Fr (fun x _ => x = b1) H1 H2) : Fr (fun x _ => x = b) H H2 :=
  h1.trans' h2 (fun _ _ _ h => h) fun x o hx h => by have h' : x = b1 := h; rcases hb with hb | hb <;> omega

theorem nval0 {B : World} {H : Mem} {tr bp op b o c : Nat} {P : Ps} {acc : List Int} {t : Gt EI 0} (mt : Bool) (hp : RPre EN H tr P 0 t bp op b o c acc) : Fn Try.prog B 118 [.pointer (some ⟨tr, 0, none⟩), .pointer (some ⟨bp, op, none⟩), .slice (some ⟨b, o, none⟩) acc.length c, .bool mt] H (RPost EN H b (acc ++ (Gt.L 0 t).map (fun x : Int × Int => x.2))) := by
  obtain ⟨g, X⟩ := t
  obtain ⟨tc, hg, hc, hnb, hnp, hnt, hsl, hlen⟩ := hp
  have hN : NodeM EI H g X (.pointer none) := hg.1
  have hiso : g.iso = P.iso := hg.2.1
  replace hlen : acc.length + X.length ≤ 4294967296 := hlen
  have hc0 := hN.c0
  rw [hiso] at hc0
  refine fn_of Go.Proofs.Try.func118 rfl Go.Proofs.Try.ntmps118 ?_
  refine (show Go' _ _ _ _ 90 [(0, _), (1, _), (2, _), (3, _)] [.code _] _ from ?_)
  refine Go'.seq ?_
  -- region 0 (map.go:1133)
  refine Go'.region [(0, 0)] rfl ?_
  refine O.asg rfl rfl rfl rfl rfl ?_
  refine Pl.fin [(0, _), (1, _), (2, _), (3, _), (8, _)] ⟨rfl, rfl, rfl, rfl, rfl, trivial⟩ ?_
  refine Go'.seq ?_
  -- region 1 (map.go:1134)
  refine Go'.region [(0, 0), (1, 0), (2, 0), (3, 2), (4, 0)] rfl ?_
  refine O.mv rfl rfl rfl rfl rfl ?_
  refine O.mv rfl rfl rfl rfl rfl ?_
  refine O.mv rfl rfl rfl rfl rfl ?_
  refine O.callQ rfl rfl rfl Go.Proofs.Try.call85 rfl (isoLoad_spec mt hc hc0 tc.iso) trivial ?_
  refine O.asg rfl rfl rfl rfl rfl ?_
  refine Pl.fin [(0, _), (2, _), (3, _), (8, _), (9, _)] ⟨rfl, rfl, rfl, rfl, rfl, trivial⟩ ?_
  refine Go'.seq ?_
  refine Go'.seq ?_
  unfold ptr
  -- region 2 (map.go:1135)
  refine Go'.region [(0, 0), (1, 2)] rfl ?_
  refine O.mv rfl rfl rfl rfl rfl ?_
  refine O.callQ rfl rfl rfl Go.Proofs.Try.call86 rfl (leaf_spec hN.c3) trivial ?_
  refine Pl.fin [(0, _), (2, _), (3, _), (8, _), (9, _), (17, _)] ⟨rfl, rfl, rfl, rfl, rfl, rfl, trivial⟩ ?_
  refine Go'.condT rfl ?_
  refine Go'.seq ?_
  refine Go'.seq ?_
  -- region 3 (map.go:1136)
  refine Go'.region [(0, 0)] rfl ?_
  refine O.asg rfl rfl rfl rfl rfl ?_
  refine Pl.fin [(0, _), (2, _), (3, _), (8, _), (9, _), (10, _)] ⟨rfl, rfl, rfl, rfl, rfl, rfl, trivial⟩ ?_
  refine Go'.block ?_
  refine Go'.loop ?_
  refine Go'.keep [(2, _), (9, _), (10, _)] ⟨rfl, rfl, rfl, trivial⟩ ?_
  refine Go'.ind (σ := Nat × Nat × Nat × Nat) (fun s => X.length - s.1) (fun s H' => s.1 ≤ X.length ∧ Fr (fun b1 _ => b1 = b) H H' ∧ (s.2.1 = b ∨ H.size ≤ s.2.1) ∧ SlE EN H' s.2.1 s.2.2.1 s.2.2.2 (acc ++ (X.take s.1).map (fun x : Int × Int => x.2)))
    (fun s => [(2, .slice (some ⟨s.2.1, s.2.2.1, none⟩) (acc ++ (X.take s.1).map (fun x : Int × Int => x.2)).length s.2.2.2), (9, .pointer (some ⟨g.p, 0, none⟩)), (10, .int .i64 (s.1 : Int))]) (0, b, o, c) ⟨Nat.zero_le _, Fr.refl _ _, .inl rfl, by simpa using hsl⟩ (by simp; rfl) ?_
  rintro ⟨j, b1, o1, c1⟩ H2 ⟨hj, hF, hb1, hs1⟩ ih
  simp only at hj hb1 hs1
  replace hN := NodeM.fr EI hN hF (fun x y hxy hz => hnb y (by have hz' : x = b := hz; rw [← hz']; exact hxy))
  refine Go'.seq ?_
  refine Go'.seq ?_
  by_cases hlt : j < X.length
  · skip
    obtain ⟨y, hy⟩ : ∃ y, X[j]? = some y := ⟨X[j], List.getElem?_eq_getElem hlt⟩
    have hal : (acc ++ (X.take j).map (fun x : Int × Int => x.2)).length = acc.length + j := by rw [List.length_append, List.length_map, List.length_take]; omega
    -- region 4 (map.go:1136)
    refine Go'.region [(0, 0), (1, 0), (2, 0), (3, 0), (4, 1), (5, 0), (6, 0)] rfl ?_
    refine O.mv rfl rfl rfl rfl rfl ?_
    refine O.mv rfl rfl rfl rfl rfl ?_
    refine O.nc rfl rfl rfl rfl rfl ?_
    refine O.fa0 (off := 2) rfl rfl rfl rfl ⟨_, _, _, Go.Proofs.Try.underlying111, rfl, rfl, Go.Proofs.Try.sizeOf108⟩ rfl ?_
    refine O.ld rfl rfl rfl (fun w => ⟨Go.Proofs.Try.isAgg108 w, Go.Proofs.Try.sizeOf108 w⟩) rfl hN.c2 ?_
    refine O.len rfl rfl rfl rfl Go.Proofs.Try.underlying108 rfl ?_
    refine O.cmp rfl rfl rfl rfl rfl rfl (lssT (by omega)) ?_
    refine Pl.fin [(2, _), (9, _), (10, _), (24, _)] ⟨rfl, rfl, rfl, rfl, trivial⟩ ?_
    refine Go'.condT rfl ?_
    refine Go'.skip ?_
    refine Go'.seq ?_
    refine Go'.block ?_
    -- region 6 (map.go:1137)
    refine Go'.region [(0, 0), (1, 0), (2, 0), (3, 0), (4, 1), (5, 0), (6, 0), (7, 0), (8, 1), (9, 2), (10, 2), (11, 0)] rfl ?_
    refine O.mv rfl rfl rfl rfl rfl ?_
    refine O.mv rfl rfl rfl rfl rfl ?_
    refine O.nc rfl rfl rfl rfl rfl ?_
    refine O.fa0 (off := 2) rfl rfl rfl rfl ⟨_, _, _, Go.Proofs.Try.underlying111, rfl, rfl, Go.Proofs.Try.sizeOf108⟩ rfl ?_
    refine O.ld rfl rfl rfl (fun w => ⟨Go.Proofs.Try.isAgg108 w, Go.Proofs.Try.sizeOf108 w⟩) rfl hN.c2 ?_
    refine O.mv rfl rfl rfl rfl rfl ?_
    refine O.ix (j := j) rfl rfl rfl rfl Go.Proofs.Try.underlying108 Go.Proofs.Try.sizeOf100 rfl rfl (by omega) hlt ?_
    refine O.faz rfl rfl rfl rfl ⟨_, _, _, Go.Proofs.Try.underlying100, rfl, rfl, Go.Proofs.Try.sizeOf3⟩ rfl ?_
    refine O.ld rfl rfl rfl (fun w => ⟨Go.Proofs.Try.isAgg3 w, Go.Proofs.Try.sizeOf3 w⟩) rfl (hN.sl.cell hy (j := 0) rfl) ?_
    refine O.bsl (cs := (EN.enc y.2)) rfl rfl rfl ⟨Go.Proofs.Try.underlying39, Go.Proofs.Try.sizeOf3, Go.Proofs.Try.zeroValue3, ⟨_, Go.Proofs.Try.typeInfo3, rfl⟩, rfl, by decide, by decide⟩ rfl (by decide) (by kernel_rfl) ?_
    intro H3 M3
    replace hs1 := hs1.fr (M3.fr nowhere) (fun _ _ _ => nw)
    have m3 : Rd H3 H2.size 0 (EN.enc y.2) := M3.rd _ [] (by simp)
    refine ⟨trivial, ?_⟩
    refine O.app (m := 1) (news := (EN.enc y.2)) rfl rfl rfl ⟨Go.Proofs.Try.underlying39, Go.Proofs.Try.sizeOf3, Go.Proofs.Try.zeroValue3, ⟨_, Go.Proofs.Try.typeInfo3, rfl⟩, rfl, by decide, by decide⟩ rfl hs1 rfl (.inl ⟨_, _, _, rfl, m3⟩) rfl rfl (Nat.le_trans (Nat.mul_le_mul_left _ (Nat.le_of_ble_eq_true (n := _) (m := 4096) rfl)) (by rw [hal]; omega)) (by rw [hal]; omega) ?_
    intro b2 o2 c2 H4 ha
    have hs2 := SlE.app (E := EN) ha
    obtain ⟨fa, pa⟩ : Fr (fun x _ => x = b1) H3 H4 ∧ (b2 = b1 ∨ H3.size ≤ b2) := ha.rp
    have hsz := hF.size
    have hsz3 := M3.size
    refine ⟨trivial, ?_⟩
    refine O.asg rfl rfl rfl rfl rfl ?_
    refine Pl.fin [(2, _), (9, _), (10, _), (24, _)] ⟨rfl, rfl, rfl, rfl, trivial⟩ ?_
    refine Go'.inBlock ?_
    -- region 5 (map.go:1136)
    refine Go'.region [(0, 0), (1, 0), (2, 0)] rfl ?_
    refine O.mv rfl rfl rfl rfl rfl ?_
    refine O.add (((j + 1 : Nat) : Int)) rfl rfl rfl rfl rfl rfl (by omega) (by omega) ?_
    refine O.asg rfl rfl rfl rfl rfl ?_
    refine Pl.fin [(2, _), (9, _), (10, _), (24, _)] ⟨rfl, rfl, rfl, rfl, trivial⟩ ?_
    have hx : X.take (j + 1) = X.take j ++ [y] := by rw [List.take_add_one, hy]; rfl
    have hx2 : acc ++ (X.take (j + 1)).map (fun x : Int × Int => x.2) = acc ++ (X.take j).map (fun x : Int × Int => x.2) ++ [y.2] := by rw [hx, List.map_append, List.append_assoc]; rfl
    have hx3 : (acc ++ (X.take j).map (fun x : Int × Int => x.2)).length + 1 = (acc ++ (X.take (j + 1)).map (fun x : Int × Int => x.2)).length := by rw [hx2, List.length_append (bs := [y.2])]; rfl
    rw [hx3]
    refine Go'.keep [(2, _), (9, _), (10, _)] ⟨rfl, rfl, rfl, trivial⟩ ?_
    refine Go'.inLoop ?_
    exact ih (j + 1, b2, o2, c2) H4 ⟨hlt, (hF.trans' (M3.fr nowhere) (fun _ _ _ h => h) (fun _ _ _ h => h.elim)).rp hb1 fa, by simp only; omega, by rw [hx2]; exact hs2⟩ (by simp only; omega)
  · skip
    obtain rfl : j = X.length := by omega
    -- region 4 (map.go:1136)
    refine Go'.region [(0, 0), (1, 0), (2, 0), (3, 0), (4, 1), (5, 0), (6, 0)] rfl ?_
    refine O.mv rfl rfl rfl rfl rfl ?_
    refine O.mv rfl rfl rfl rfl rfl ?_
    refine O.nc rfl rfl rfl rfl rfl ?_
    refine O.fa0 (off := 2) rfl rfl rfl rfl ⟨_, _, _, Go.Proofs.Try.underlying111, rfl, rfl, Go.Proofs.Try.sizeOf108⟩ rfl ?_
    refine O.ld rfl rfl rfl (fun w => ⟨Go.Proofs.Try.isAgg108 w, Go.Proofs.Try.sizeOf108 w⟩) rfl hN.c2 ?_
    refine O.len rfl rfl rfl rfl Go.Proofs.Try.underlying108 rfl ?_
    refine O.cmp rfl rfl rfl rfl rfl rfl (lssF (by omega)) ?_
    refine Pl.fin [(2, _), (9, _), (10, _), (24, _)] ⟨rfl, rfl, rfl, rfl, trivial⟩ ?_
    refine Go'.condF rfl ?_
    refine Go'.exit rfl ?_
    refine Go'.seq ?_
    -- region 7 (map.go:1139)
    refine Go'.region [(0, 0), (1, 0)] rfl ?_
    refine O.mv rfl rfl rfl rfl rfl ?_
    refine O.asg rfl rfl rfl rfl rfl ?_
    refine Pl.fin [(2, _), (8, _), (9, _)] ⟨rfl, rfl, rfl, trivial⟩ ?_
    refine Go'.ret (vs := [_]) Go.Proofs.Try.func118 Go.Proofs.Try.results118 ⟨rfl, trivial⟩ ?_
    rw [List.take_length] at hs1
    exact ⟨b1, o1, c1, by rw [List.take_length]; rfl, hs1, hF, hb1⟩

theorem nval {B : World} {tr : Nat} {P : Ps} (hP : PsOk P) (mt : Bool) : ∀ (h : Nat) {H : Mem} {bp op b o c : Nat} {acc : List Int} {t : Gt EI h}, RPre EN H tr P h t bp op b o c acc → Fn Try.prog B 118 [.pointer (some ⟨tr, 0, none⟩), .pointer (some ⟨bp, op, none⟩), .slice (some ⟨b, o, none⟩) acc.length c, .bool mt] H (RPost EN H b (acc ++ (Gt.L h t).map (fun x : Int × Int => x.2)))
  | 0, _, _, _, _, _, _, _, _, hp => nval0 mt hp
  | h + 1, H, bp, op, b, o, c, acc, (g, X, K), hp => by
    have ih := @nval B tr P hP mt h
    obtain ⟨tc, hg, hc, hnb, hnp, hnt, hsl, hlen⟩ := hp
    have hI : Inn H P h g X ((Gt.ps h K).map some) K := hg.inn
    have hKl : K.length = X.length + 1 := hg.2.2.2.2.2.1
    have hxm : X.length ≤ P.mx := hg.2.2.2.2.1
    have hx255 := hP.hx
    have hKL : (K.map (Gt.L h)).length = X.length + 1 := by rw [List.length_map]; exact hKl
    have hol : ((Gt.ps h K).map some).length = X.length + 1 := by rw [List.length_map, Gt.ps, List.length_map]; exact hKl
    replace hlen : acc.length + (Pl.inter X (K.map (Gt.L h))).length ≤ 4294967296 := hlen
    have hlt : ∀ x y, innc h g K x y → x < H.size := fun x y hb => hI.lt hb
    obtain ⟨_, _, _, hkb⟩ := hI.cells
    have hkbb : g.kb ≠ b := fun e => hnb g.ko (.inr (.inl (show kcl g b g.ko from .inr ⟨e.symm, Nat.le_refl _, by have := hI.k.kc; omega⟩)))
    have htl : tr < H.size := cl_lt tc.iso
    have hc0 := hI.n.c0
    rw [hI.iso] at hc0
    have hlj : ∀ j, j ≤ X.length → (Pl.pre (X.take j) ((K.map (Gt.L h)).take j)).length ≤ (Pl.inter X (K.map (Gt.L h))).length := fun j hj => by
      rcases Nat.lt_or_ge j X.length with hl | hl
      · have hk1 : (K.map (Gt.L h))[j]? = some (K.map (Gt.L h))[j] := List.getElem?_eq_getElem (by omega)
        have e := Pl.inter_focus (X.take j) (X.drop j) ((K.map (Gt.L h)).take j) (K.map (Gt.L h))[j] ((K.map (Gt.L h)).drop (j + 1)) (by rw [List.length_take, List.length_take]; omega) (by rw [List.length_drop, List.length_drop]; omega)
        rw [List.take_append_drop, List.getElem_cons_drop, List.take_append_drop] at e
        rw [e, List.length_append, List.length_append]; omega
      · obtain rfl : j = X.length := by omega
        rw [Pl.inter_last hKL (List.getElem?_eq_getElem (by omega)), List.length_append, List.take_length]; omega
    have hlj2 : ∀ j k, j < X.length → K[j]? = some k → (Pl.pre (X.take j) ((K.map (Gt.L h)).take j)).length + (Gt.L h k).length + 1 ≤ (Pl.inter X (K.map (Gt.L h))).length := fun j k hj hk => by
      have h1 := hlj (j + 1) hj
      obtain ⟨y, hy⟩ : ∃ y, X[j]? = some y := ⟨X[j], List.getElem?_eq_getElem hj⟩
      have e1 : X.take (j + 1) = X.take j ++ [y] := by rw [List.take_add_one, hy]; rfl
      have e2 : (K.map (Gt.L h)).take (j + 1) = (K.map (Gt.L h)).take j ++ [Gt.L h k] := by rw [List.take_add_one, List.getElem?_map, hk]; rfl
      rw [e1, e2, Pl.pre_snoc _ _ _ _ (by rw [List.length_take, List.length_take]; omega), List.length_append, List.length_append, List.length_singleton] at h1
      omega
    refine fn_of Go.Proofs.Try.func118 rfl Go.Proofs.Try.ntmps118 ?_
    refine (show Go' _ _ _ _ 90 [(0, _), (1, _), (2, _), (3, _)] [.code _] _ from ?_)
    refine Go'.seq ?_
    -- region 0 (map.go:1133)
    refine Go'.region [(0, 0)] rfl ?_
    refine O.asg rfl rfl rfl rfl rfl ?_
    refine Pl.fin [(0, _), (1, _), (2, _), (3, _), (8, _)] ⟨rfl, rfl, rfl, rfl, rfl, trivial⟩ ?_
    refine Go'.seq ?_
    -- region 1 (map.go:1134)
    refine Go'.region [(0, 0), (1, 0), (2, 0), (3, 2), (4, 0)] rfl ?_
    refine O.mv rfl rfl rfl rfl rfl ?_
    refine O.mv rfl rfl rfl rfl rfl ?_
    refine O.mv rfl rfl rfl rfl rfl ?_
    refine O.callQ rfl rfl rfl Go.Proofs.Try.call85 rfl (isoLoad_spec mt hc hc0 tc.iso) trivial ?_
    refine O.asg rfl rfl rfl rfl rfl ?_
    refine Pl.fin [(0, _), (2, _), (3, _), (8, _), (9, _)] ⟨rfl, rfl, rfl, rfl, rfl, trivial⟩ ?_
    refine Go'.seq ?_
    refine Go'.seq ?_
    unfold ptr
    -- region 2 (map.go:1135)
    refine Go'.region [(0, 0), (1, 2)] rfl ?_
    refine O.mv rfl rfl rfl rfl rfl ?_
    refine O.callQ rfl rfl rfl Go.Proofs.Try.call86 rfl (leaf_spec hI.n.c3) trivial ?_
    refine Pl.fin [(0, _), (2, _), (3, _), (8, _), (9, _), (17, _)] ⟨rfl, rfl, rfl, rfl, rfl, rfl, trivial⟩ ?_
    refine Go'.condF rfl ?_
    refine Go'.skip ?_
    refine Go'.seq ?_
    refine Go'.seq ?_
    -- region 8 (map.go:1141)
    refine Go'.region [(0, 0)] rfl ?_
    refine O.asg rfl rfl rfl rfl rfl ?_
    refine Pl.fin [(0, _), (2, _), (3, _), (8, _), (9, _), (11, _)] ⟨rfl, rfl, rfl, rfl, rfl, rfl, trivial⟩ ?_
    refine Go'.block ?_
    refine Go'.loop ?_
    refine Go'.keep [(0, _), (2, _), (3, _), (9, _), (11, _)] ⟨rfl, rfl, rfl, rfl, rfl, trivial⟩ ?_
    refine Go'.ind (σ := Nat × Nat × Nat × Nat) (fun s => X.length - s.1) (fun s H' => s.1 ≤ X.length ∧ Fr (fun b1 _ => b1 = b) H H' ∧ (s.2.1 = b ∨ H.size ≤ s.2.1) ∧ SlE EN H' s.2.1 s.2.2.1 s.2.2.2 (acc ++ (Pl.pre (X.take s.1) ((K.map (Gt.L h)).take s.1)).map (fun x : Int × Int => x.2)))
      (fun s => [(0, .pointer (some ⟨tr, 0, none⟩)), (2, .slice (some ⟨s.2.1, s.2.2.1, none⟩) (acc ++ (Pl.pre (X.take s.1) ((K.map (Gt.L h)).take s.1)).map (fun x : Int × Int => x.2)).length s.2.2.2), (3, .bool mt), (9, .pointer (some ⟨g.p, 0, none⟩)), (11, .int .i64 (s.1 : Int))]) (0, b, o, c) ⟨Nat.zero_le _, Fr.refl _ _, .inl rfl, by simpa [Pl.pre] using hsl⟩ (by simp [Pl.pre]; rfl) ?_
    rintro ⟨j, b1, o1, c1⟩ H2 ⟨hj, hF, hb1, hs1⟩ ih2
    simp only at hj hb1 hs1
    have hin : ∀ H', Fr (fun x _ => x = b) H H' → Inn H' P h g X ((Gt.ps h K).map some) K := fun H' hf => hI.fr hf (fun x y hxy hz => hnb y (by have hz' : x = b := hz; rw [← hz']; exact hxy))
    have htc : ∀ H', Fr (fun x _ => x = b) H H' → TrC H' tr P.iso P.mx P.mn := fun H' hf => tc.fr hf fun _ _ _ hz => hnt hz
    have hsz := hF.size
    have hI2 := hin H2 hF
    have hpj := hlj j hj
    obtain ⟨k, hkk⟩ : ∃ k, K[j]? = some k := ⟨K[j], List.getElem?_eq_getElem (by omega)⟩
    have hkK : k ∈ K := List.mem_of_getElem? hkk
    have hok : ((Gt.ps h K).map some)[j]? = some (some (Gt.p h k)) := by rw [Gt.ps, List.map_map, List.getElem?_map, hkk]; rfl
    have hnbk : ∀ y, ¬ Gt.af h k b1 y := fun y hy => by
      rcases hb1 with rfl | hb1
      · exact hnb y (.inr (.inr ⟨k, hkK, hy⟩))
      · have := hlt b1 y (.inr (.inr ⟨k, hkK, hy⟩)); omega
    have hal : (acc ++ (Pl.pre (X.take j) ((K.map (Gt.L h)).take j)).map (fun x : Int × Int => x.2)).length = acc.length + (Pl.pre (X.take j) ((K.map (Gt.L h)).take j)).length := by rw [List.length_append, List.length_map]
    have hpre : (Pl.pre (X.take j) ((K.map (Gt.L h)).take j)).length + (Gt.L h k).length ≤ (Pl.inter X (K.map (Gt.L h))).length := by
      rcases Nat.lt_or_ge j X.length with hl | hl
      · have := hlj2 j k hl hkk; omega
      · obtain rfl : j = X.length := by omega
        rw [Pl.inter_last hKL (by rw [List.getElem?_map, hkk]; rfl), List.length_append, List.take_length]; omega
    have hrp : RPre EN H2 tr P h k g.kb (g.ko + j * 1) b1 o1 c1 (acc ++ (Pl.pre (X.take j) ((K.map (Gt.L h)).take j)).map (fun x : Int × Int => x.2)) := ⟨htc H2 hF, (hI2.c.1 k hkK).1, hI2.k.at hok, hnbk, by omega, by omega, hs1, by rw [hal]; omega⟩
    refine Go'.seq ?_
    refine Go'.seq ?_
    by_cases hlt2 : j < X.length
    · skip
      obtain ⟨y, hy⟩ : ∃ y, X[j]? = some y := ⟨X[j], List.getElem?_eq_getElem hlt2⟩
      have hp2 := hlj2 j k hlt2 hkk
      -- region 9 (map.go:1141)
      refine Go'.region [(0, 0), (1, 0), (2, 0), (3, 0), (4, 1), (5, 0), (6, 0)] rfl ?_
      refine O.mv rfl rfl rfl rfl rfl ?_
      refine O.mv rfl rfl rfl rfl rfl ?_
      refine O.nc rfl rfl rfl rfl rfl ?_
      refine O.fa0 (off := 2) rfl rfl rfl rfl ⟨_, _, _, Go.Proofs.Try.underlying111, rfl, rfl, Go.Proofs.Try.sizeOf108⟩ rfl ?_
      refine O.ld rfl rfl rfl (fun w => ⟨Go.Proofs.Try.isAgg108 w, Go.Proofs.Try.sizeOf108 w⟩) rfl hI2.n.c2 ?_
      refine O.len rfl rfl rfl rfl Go.Proofs.Try.underlying108 rfl ?_
      refine O.cmp rfl rfl rfl rfl rfl rfl (lssT (by omega)) ?_
      refine Pl.fin [(0, _), (2, _), (3, _), (9, _), (11, _), (45, _)] ⟨rfl, rfl, rfl, rfl, rfl, rfl, trivial⟩ ?_
      refine Go'.condT rfl ?_
      refine Go'.skip ?_
      refine Go'.seq ?_
      refine Go'.block ?_
      refine Go'.seq ?_
      -- region 11 (map.go:1142)
      refine Go'.region [(0, 0), (1, 0), (2, 0), (3, 0), (4, 1), (5, 0), (6, 1), (7, 0), (8, 0), (9, 0), (10, 0), (11, 2), (12, 0)] rfl ?_
      refine O.mv rfl rfl rfl rfl rfl ?_
      refine O.mv rfl rfl rfl rfl rfl ?_
      refine O.nc rfl rfl rfl rfl rfl ?_
      refine O.fa0 (off := 3) rfl rfl rfl rfl ⟨_, _, _, Go.Proofs.Try.underlying111, rfl, rfl, Go.Proofs.Try.sizeOf109⟩ rfl ?_
      refine O.ld rfl rfl rfl (fun w => ⟨Go.Proofs.Try.isAgg109 w, Go.Proofs.Try.sizeOf109 w⟩) rfl hI2.n.c3 ?_
      refine O.nc rfl rfl rfl rfl rfl ?_
      refine O.ld rfl rfl rfl (fun w => ⟨Go.Proofs.Try.isAgg112 w, Go.Proofs.Try.sizeOf112 w⟩) rfl hI2.k.c ?_
      refine O.mv rfl rfl rfl rfl rfl ?_
      refine O.ix (j := j) rfl rfl rfl rfl Go.Proofs.Try.underlying112 Go.Proofs.Try.sizeOf103 rfl rfl (by omega) (by omega) ?_
      refine O.mv rfl rfl rfl rfl rfl ?_
      refine O.mv rfl rfl rfl rfl rfl ?_
      refine O.call rfl rfl rfl Go.Proofs.Try.call118 rfl (ih hrp) ?_
      rintro _ H3 ⟨b2, o2, c2, rfl, hs2, f2, p2⟩
      refine ⟨trivial, ?_⟩
      refine O.asg rfl rfl rfl rfl rfl ?_
      refine Pl.fin [(0, _), (2, _), (3, _), (9, _), (11, _), (45, _)] ⟨rfl, rfl, rfl, rfl, rfl, rfl, trivial⟩ ?_
      replace p2 : b2 = b1 ∨ H2.size ≤ b2 := p2
      have hF3 := hF.rp hb1 f2
      have hI3 := hin H3 hF3
      have hsz3 := f2.size
      -- region 12 (map.go:1143)
      refine Go'.region [(0, 0), (1, 0), (2, 0), (3, 0), (4, 1), (5, 0), (6, 0), (7, 0), (8, 1), (9, 2), (10, 2), (11, 0)] rfl ?_
      refine O.mv rfl rfl rfl rfl rfl ?_
      refine O.mv rfl rfl rfl rfl rfl ?_
      refine O.nc rfl rfl rfl rfl rfl ?_
      refine O.fa0 (off := 2) rfl rfl rfl rfl ⟨_, _, _, Go.Proofs.Try.underlying111, rfl, rfl, Go.Proofs.Try.sizeOf108⟩ rfl ?_
      refine O.ld rfl rfl rfl (fun w => ⟨Go.Proofs.Try.isAgg108 w, Go.Proofs.Try.sizeOf108 w⟩) rfl hI3.n.c2 ?_
      refine O.mv rfl rfl rfl rfl rfl ?_
      refine O.ix (j := j) rfl rfl rfl rfl Go.Proofs.Try.underlying108 Go.Proofs.Try.sizeOf100 rfl rfl (by omega) hlt2 ?_
      refine O.faz rfl rfl rfl rfl ⟨_, _, _, Go.Proofs.Try.underlying100, rfl, rfl, Go.Proofs.Try.sizeOf3⟩ rfl ?_
      refine O.ld rfl rfl rfl (fun w => ⟨Go.Proofs.Try.isAgg3 w, Go.Proofs.Try.sizeOf3 w⟩) rfl (hI3.n.sl.cell hy (j := 0) rfl) ?_
      refine O.bsl (cs := (EN.enc y.2)) rfl rfl rfl ⟨Go.Proofs.Try.underlying39, Go.Proofs.Try.sizeOf3, Go.Proofs.Try.zeroValue3, ⟨_, Go.Proofs.Try.typeInfo3, rfl⟩, rfl, by decide, by decide⟩ rfl (by decide) (by kernel_rfl) ?_
      intro H4 M4
      have hsz4 := M4.size
      replace hs2 := hs2.fr (M4.fr nowhere) (fun _ _ _ => nw)
      have m4 : Rd H4 H3.size 0 (EN.enc y.2) := M4.rd _ [] (by simp)
      refine ⟨trivial, ?_⟩
      refine O.app (m := 1) (news := (EN.enc y.2)) rfl rfl rfl ⟨Go.Proofs.Try.underlying39, Go.Proofs.Try.sizeOf3, Go.Proofs.Try.zeroValue3, ⟨_, Go.Proofs.Try.typeInfo3, rfl⟩, rfl, by decide, by decide⟩ rfl hs2 rfl (.inl ⟨_, _, _, rfl, m4⟩) rfl rfl (Nat.le_trans (Nat.mul_le_mul_left _ (Nat.le_of_ble_eq_true (n := _) (m := 4096) rfl)) (by rw [List.length_append, List.length_map, hal]; omega)) (by rw [List.length_append, List.length_map, hal]; omega) ?_
      intro b3 o3 c3 H5 ha
      have hs3 := SlE.app (E := EN) ha
      obtain ⟨fa, pa⟩ : Fr (fun x _ => x = b2) H4 H5 ∧ (b3 = b2 ∨ H4.size ≤ b3) := ha.rp
      refine ⟨trivial, ?_⟩
      refine O.asg rfl rfl rfl rfl rfl ?_
      refine Pl.fin [(0, _), (2, _), (3, _), (9, _), (11, _), (45, _)] ⟨rfl, rfl, rfl, rfl, rfl, rfl, trivial⟩ ?_
      refine Go'.inBlock ?_
      -- region 10 (map.go:1141)
      refine Go'.region [(0, 0), (1, 0), (2, 0)] rfl ?_
      refine O.mv rfl rfl rfl rfl rfl ?_
      refine O.add (((j + 1 : Nat) : Int)) rfl rfl rfl rfl rfl rfl (by omega) (by omega) ?_
      refine O.asg rfl rfl rfl rfl rfl ?_
      refine Pl.fin [(0, _), (2, _), (3, _), (9, _), (11, _), (45, _)] ⟨rfl, rfl, rfl, rfl, rfl, rfl, trivial⟩ ?_
      have e1 : X.take (j + 1) = X.take j ++ [y] := by rw [List.take_add_one, hy]; rfl
      have e2 : (K.map (Gt.L h)).take (j + 1) = (K.map (Gt.L h)).take j ++ [Gt.L h k] := by rw [List.take_add_one, List.getElem?_map, hkk]; rfl
      have hx2 : acc ++ (Pl.pre (X.take (j + 1)) ((K.map (Gt.L h)).take (j + 1))).map (fun x : Int × Int => x.2) = acc ++ (Pl.pre (X.take j) ((K.map (Gt.L h)).take j)).map (fun x : Int × Int => x.2) ++ (Gt.L h k).map (fun x : Int × Int => x.2) ++ [y.2] := by
        rw [e1, e2, Pl.pre_snoc _ _ _ _ (by rw [List.length_take, List.length_take]; omega), List.map_append, List.map_append]
        simp only [List.append_assoc]; rfl
      have hx3 : (acc ++ (Pl.pre (X.take j) ((K.map (Gt.L h)).take j)).map (fun x : Int × Int => x.2) ++ (Gt.L h k).map (fun x : Int × Int => x.2)).length + 1 = (acc ++ (Pl.pre (X.take (j + 1)) ((K.map (Gt.L h)).take (j + 1))).map (fun x : Int × Int => x.2)).length := by rw [hx2, List.length_append (bs := [y.2])]; rfl
      rw [hx3]
      have hb2 : b2 = b ∨ H.size ≤ b2 := by omega
      refine Go'.keep [(0, _), (2, _), (3, _), (9, _), (11, _)] ⟨rfl, rfl, rfl, rfl, rfl, trivial⟩ ?_
      refine Go'.inLoop ?_
      exact ih2 (j + 1, b3, o3, c3) H5 ⟨hlt2, (hF3.trans' (M4.fr nowhere) (fun _ _ _ h => h) (fun _ _ _ h => h.elim)).rp hb2 fa, by simp only; omega, by rw [hx2]; exact hs3⟩ (by simp only; omega)
    · skip
      obtain rfl : j = X.length := by omega
      -- region 9 (map.go:1141)
      refine Go'.region [(0, 0), (1, 0), (2, 0), (3, 0), (4, 1), (5, 0), (6, 0)] rfl ?_
      refine O.mv rfl rfl rfl rfl rfl ?_
      refine O.mv rfl rfl rfl rfl rfl ?_
      refine O.nc rfl rfl rfl rfl rfl ?_
      refine O.fa0 (off := 2) rfl rfl rfl rfl ⟨_, _, _, Go.Proofs.Try.underlying111, rfl, rfl, Go.Proofs.Try.sizeOf108⟩ rfl ?_
      refine O.ld rfl rfl rfl (fun w => ⟨Go.Proofs.Try.isAgg108 w, Go.Proofs.Try.sizeOf108 w⟩) rfl hI2.n.c2 ?_
      refine O.len rfl rfl rfl rfl Go.Proofs.Try.underlying108 rfl ?_
      refine O.cmp rfl rfl rfl rfl rfl rfl (lssF (by omega)) ?_
      refine Pl.fin [(0, _), (2, _), (3, _), (9, _), (11, _), (45, _)] ⟨rfl, rfl, rfl, rfl, rfl, rfl, trivial⟩ ?_
      refine Go'.condF rfl ?_
      refine Go'.exit rfl ?_
      refine Go'.seq ?_
      -- region 13 (map.go:1145)
      refine Go'.draw (fun _ => True) [(0, 0), (1, 0), (2, 0), (3, 0), (4, 1), (5, 0), (6, 1), (7, 0), (8, 0), (9, 0), (10, 1), (11, 0), (12, 1), (13, 0), (14, 0), (15, 0), (16, 0), (17, 0), (18, 2), (19, 0)] (by kernel_rfl) (by kernel_rfl) (trivial) ?_
      refine O.mv rfl rfl rfl rfl rfl ?_
      refine O.mv rfl rfl rfl rfl rfl ?_
      refine O.nc rfl rfl rfl rfl rfl ?_
      refine O.fa0 (off := 3) rfl rfl rfl rfl ⟨_, _, _, Go.Proofs.Try.underlying111, rfl, rfl, Go.Proofs.Try.sizeOf109⟩ rfl ?_
      refine O.ld rfl rfl rfl (fun w => ⟨Go.Proofs.Try.isAgg109 w, Go.Proofs.Try.sizeOf109 w⟩) rfl hI2.n.c3 ?_
      refine O.nc rfl rfl rfl rfl rfl ?_
      refine O.ld rfl rfl rfl (fun w => ⟨Go.Proofs.Try.isAgg112 w, Go.Proofs.Try.sizeOf112 w⟩) rfl hI2.k.c ?_
      refine O.mv rfl rfl rfl rfl rfl ?_
      refine O.nc rfl rfl rfl rfl rfl ?_
      refine O.fa0 (off := 3) rfl rfl rfl rfl ⟨_, _, _, Go.Proofs.Try.underlying111, rfl, rfl, Go.Proofs.Try.sizeOf109⟩ rfl ?_
      refine O.ld rfl rfl rfl (fun w => ⟨Go.Proofs.Try.isAgg109 w, Go.Proofs.Try.sizeOf109 w⟩) rfl hI2.n.c3 ?_
      refine O.nc rfl rfl rfl rfl rfl ?_
      refine O.ld rfl rfl rfl (fun w => ⟨Go.Proofs.Try.isAgg112 w, Go.Proofs.Try.sizeOf112 w⟩) rfl hI2.k.c ?_
      refine O.len rfl rfl rfl rfl Go.Proofs.Try.underlying112 rfl ?_
      refine O.sub (((X.length : Nat) : Int)) rfl rfl rfl rfl rfl rfl (by omega) (by omega) ?_
      refine O.ix (j := X.length) rfl rfl rfl rfl Go.Proofs.Try.underlying112 Go.Proofs.Try.sizeOf103 rfl rfl (by omega) (by omega) ?_
      refine O.mv rfl rfl rfl rfl rfl ?_
      refine O.mv rfl rfl rfl rfl rfl ?_
      refine O.call rfl rfl rfl Go.Proofs.Try.call118 rfl (ih hrp) ?_
      rintro _ H3 ⟨b2, o2, c2, rfl, hs2, f2, p2⟩
      refine ⟨trivial, ?_⟩
      refine O.asg rfl rfl rfl rfl rfl ?_
      refine Pl.fin [(8, _)] ⟨rfl, trivial⟩ ?_
      refine Go'.ret (vs := [_]) Go.Proofs.Try.func118 Go.Proofs.Try.results118 ⟨rfl, trivial⟩ ?_
      replace p2 : b2 = b1 ∨ H2.size ≤ b2 := p2
      have hL : Gt.L (h + 1) ((g, X, K) : Gt EI (h + 1)) = Pl.pre X ((K.map (Gt.L h)).take X.length) ++ Gt.L h k := Pl.inter_last hKL (by rw [List.getElem?_map, hkk]; rfl)
      rw [List.take_length, List.append_assoc, ← List.map_append, ← hL] at hs2
      exact ⟨b2, o2, c2, by rw [List.take_length, List.append_assoc, ← List.map_append, ← hL]; rfl, hs2, hF.rp hb1 f2, by omega⟩

end Go.Bt
namespace Go.Bt
open Go Go.Proofs
set_option maxRecDepth 20000
set_option maxHeartbeats 4000000
set_option linter.unusedVariables false

theorem fields35 : Try.prog.underlying 35 = some (.struct (Try.prog.fieldsOf 35)) := by unfold Program.fieldsOf; rw [Try.underlying35]
theorem fields37 : Try.prog.underlying 37 = some (.struct (Try.prog.fieldsOf 37)) := by unfold Program.fieldsOf; rw [Try.underlying37]
theorem item_eq (d : Nat) (x : Int × Int) (w : World) : (Op.equalIn (d + 2) 35 (.agg #[.int .i64 x.1, .int .i64 x.2]) (.agg #[.int .i64 x.1, .int .i64 x.2])).run Try.prog w = .ok true w := by
  rw [run_equalIn_agg w (d + 1) 35 _ _ fields35 Try.stoodInHeld35]
  simp [Op.eqFields, Program.fieldsOf, Try.underlying35, part, Try.isAgg3, run_equalIn_int w d 3 _ _ _ _ Try.underlying3]
theorem found_eq (o : Option (Int × Int)) (x y : Operand) (w : World) : (eqGuard .eql 37 x y (.agg (fvs o).toArray) (.agg (fvs o).toArray)).run Try.prog w = .ok () w ∧ (binOp .eql 37 (.agg (fvs o).toArray) (.agg (fvs o).toArray)).run Try.prog w = .ok (.bool true) w := by
  refine ⟨run_eqGuard_agg w _ _ _ _ _ _ Try.eqGuardType37, ?_⟩
  rw [run_eql_struct, run_equalIn_agg w 9999 37 _ _ fields37 Try.stoodInHeld37]
  have h : ∀ x y : Int, (Op.equalIn 9999 35 (.agg #[.int .i64 x, .int .i64 y]) (.agg #[.int .i64 x, .int .i64 y])).run Try.prog w = .ok true w := fun x y => item_eq 9997 (x, y) w
  have hb : ∀ b : Bool, (Op.equalIn 9999 4 (.bool b) (.bool b)).run Try.prog w = .ok true w := fun b => by
    have := run_equalIn_bool' w 9998 4 b b Try.underlying4
    simpa using this
  cases o with
  | none => simp [fvs, Op.eqFields, Program.fieldsOf, Try.underlying37, part, Try.isAgg35, Try.sizeOf35, Try.isAgg4, h, hb]
  | some y => simp [fvs, Op.eqFields, Program.fieldsOf, Try.underlying37, part, Try.isAgg35, Try.sizeOf35, Try.isAgg4, h, hb]

theorem st58 : StT Try.prog 58 [(0, 1), (1, 1), (2, 1)] [.slice none 0 0, .int .i64 0, .bool false] := ⟨⟨_, Try.underlying58, fun w => by simp [Array.mapM_eq_mapM_toList, Try.sizeOf3, Try.sizeOf4, Try.sizeOf39]⟩, Try.zeroValue58⟩
theorem lawMMin_spec {B : World} {H : Mem} {d : Nat} {u : Value} {l : List (Int × Int)} (hd : 2 ≤ d ∧ d ≤ 128) (hi : InS EJ H u l) (hll : l.length ≤ 4294967296) :
    Fn Try.prog B 14 [.int .i64 (d : Int), u] H (fun r H' => r = .bool true ∧ Fr nowhere H H') := by
  have hF : Fr nowhere H H := Fr.refl _ _
  have hi0 := hi
  refine fn_of Go.Proofs.Try.func14 rfl Go.Proofs.Try.ntmps14 ?_
  refine (show Go' _ _ _ _ 16 [(0, _), (1, _)] [.code _] _ from ?_)
  refine Go'.seq ?_
  -- region 0 (exact.go:1234)
  refine Go'.region [(0, 0)] rfl ?_
  refine O.asg rfl rfl rfl rfl rfl ?_
  refine Pl.fin [(0, _), (1, _), (4, _)] ⟨rfl, rfl, rfl, trivial⟩ ?_
  refine Go'.seq ?_
  -- region 1 (exact.go:1235)
  refine Go'.region [(0, 0), (1, 0), (2, 2), (3, 2), (4, 2)] rfl ?_
  refine O.mv rfl rfl rfl rfl rfl ?_
  refine O.mv rfl rfl rfl rfl rfl ?_
  refine O.call rfl rfl rfl Go.Proofs.Try.call44 rfl (mmin_spec hd hi hll) ?_
  rintro _ H1 ⟨rfl, hF1⟩
  have hs1 := hF1.size
  replace hi := hi.fr hF1
  replace hF := hF.trans' hF1 (fun _ _ _ h => h) (fun _ _ _ h => h.elim)
  refine ⟨trivial, ?_⟩
  refine O.alloc rfl rfl rfl Go.Proofs.Try.zeroValue37 ?_
  intro H2 M2
  refine ⟨trivial, ?_⟩
  have hs2 := M2.size
  replace hi := hi.fr (M2.fr nowhere)
  replace hF := hF.trans' (M2.fr nowhere) (fun _ _ _ h => h) (fun _ _ _ h => h.elim)
  have m5 : Wr H2 H1.size 0 3 := M2.wr 3 (by decide)
  rw [FV_eq (Pl.puts OI l)[0]?]
  refine O.st (vs := (fvs (Pl.puts OI l)[0]?)) rfl rfl Go.Proofs.Try.sizeOf37 rfl rfl rfl (by cases (Pl.puts OI l)[0]? <;> rfl) (by cases (Pl.puts OI l)[0]? <;> rfl) m5 ?_
  intro H3 W3
  have hs3 := W3.size
  have hf3 : Fr nowhere H H3 := hF.trans' W3.fr (fun _ _ _ h => h) (fun b o hb hz => by have h1 := hz.1; have := hF1.size; omega)
  replace hi := hi0.fr hf3
  clear hF
  have hF := hf3
  have r5 : Rd H3 H1.size 0 (fvs (Pl.puts OI l)[0]?) := W3.all
  refine ⟨trivial, ?_⟩
  refine Pl.fin [(1, _), (4, _), (5, _)] ⟨rfl, rfl, rfl, trivial⟩ ?_
  refine Go'.seq ?_
  -- region 2 (exact.go:1236)
  refine Go'.region [(0, 0), (1, 0), (2, 2), (3, 2), (4, 2)] rfl ?_
  refine O.bld (cs := [.slice none 0 0, .int .i64 0, .bool false]) rfl rfl rfl rfl (st58) rfl (by kernel_rfl) ?_
  refine O.mv rfl rfl rfl rfl rfl ?_
  refine O.call rfl rfl rfl Go.Proofs.Try.call45 rfl (gmin_spec (ord := []) (InS.nil EN H3) (by simp) hi hll) ?_
  rintro _ H4 ⟨rfl, hF4⟩
  rw [OO_nil]
  have hs4 := hF4.size
  replace r5 := hF4.rd r5 (fun _ _ => nw)
  replace hF := hF.trans' hF4 (fun _ _ _ h => h) (fun _ _ _ h => h.elim)
  refine ⟨trivial, ?_⟩
  refine O.alloc rfl rfl rfl Go.Proofs.Try.zeroValue37 ?_
  intro H5 M5
  refine ⟨trivial, ?_⟩
  have hs5 := M5.size
  replace r5 := (M5.fr nowhere).rd r5 (fun _ _ => nw)
  replace hF := hF.trans' (M5.fr nowhere) (fun _ _ _ h => h) (fun _ _ _ h => h.elim)
  have m6 : Wr H5 H4.size 0 3 := M5.wr 3 (by decide)
  rw [FV_eq (Pl.puts OI l)[0]?]
  refine O.st (vs := (fvs (Pl.puts OI l)[0]?)) rfl rfl Go.Proofs.Try.sizeOf37 rfl rfl rfl (by cases (Pl.puts OI l)[0]? <;> rfl) (by cases (Pl.puts OI l)[0]? <;> rfl) m6 ?_
  intro H6 W6
  have hs6 := W6.size
  replace r5 := W6.fr.rd r5 (fun _ _ => nr (.inl (by omega)))
  replace hF := hF.trans' W6.fr (fun _ _ _ h => h) (fun b o hb hz => by have h1 := hz.1; have := hF.size; omega)
  have r6 : Rd H6 H4.size 0 (fvs (Pl.puts OI l)[0]?) := W6.all
  refine ⟨trivial, ?_⟩
  refine Pl.fin [(4, _), (5, _), (6, _)] ⟨rfl, rfl, rfl, trivial⟩ ?_
  refine Go'.seq ?_
  -- region 3 (exact.go:1237)
  refine Go'.region [(0, 1), (1, 1), (2, 0), (3, 0)] rfl ?_
  refine O.lds rfl rfl rfl (fun w => ⟨Go.Proofs.Try.isAgg37 w, Go.Proofs.Try.sizeOf37 w⟩) rfl (by cases (Pl.puts OI l)[0]? <;> rfl) r5 ?_
  refine O.lds rfl rfl rfl (fun w => ⟨Go.Proofs.Try.isAgg37 w, Go.Proofs.Try.sizeOf37 w⟩) rfl (by cases (Pl.puts OI l)[0]? <;> rfl) r6 ?_
  refine O.bin rfl rfl rfl rfl rfl rfl (found_eq (Pl.puts OI l)[0]? _ _) ?_
  refine O.asg rfl rfl rfl rfl rfl ?_
  refine Pl.fin [(4, _)] ⟨rfl, trivial⟩ ?_
  refine Go'.ret (vs := [_]) Go.Proofs.Try.func14 Go.Proofs.Try.results14 ⟨rfl, trivial⟩ ?_
  exact ⟨rfl, hF⟩

def exl : List (Int × Int) := [(5, 1), (3, 2), (9, 3), (3, 4), (1, 5), (7, 6), (8, 7)]
theorem exItems_spec {B : World} {H : Mem} : Fn Try.prog B 15 [] H (fun r H' => InS EJ H' r exl ∧ Fr nowhere H H') := by
  refine fn_of Go.Proofs.Try.func15 rfl Go.Proofs.Try.ntmps15 ?_
  refine (show Go' _ _ _ _ 9 [] [.code _] _ from ?_)
  refine Go'.seq ?_
  -- region 0 (help.go:72)
  refine Go'.region [(0, 0)] rfl ?_
  refine O.asg rfl rfl rfl rfl rfl ?_
  refine Pl.fin [(0, _)] ⟨rfl, trivial⟩ ?_
  refine Go'.seq ?_
  -- region 1 (help.go:73)
  refine Go'.region [(0, 0), (1, 0), (2, 0), (3, 0), (4, 0), (5, 0), (6, 0), (7, 2), (8, 0)] rfl ?_
  refine O.bld (cs := [.int .i64 5, .int .i64 1]) rfl rfl rfl rfl (st35) rfl (by kernel_rfl) ?_
  refine O.bld (cs := [.int .i64 3, .int .i64 2]) rfl rfl rfl rfl (st35) rfl (by kernel_rfl) ?_
  refine O.bld (cs := [.int .i64 9, .int .i64 3]) rfl rfl rfl rfl (st35) rfl (by kernel_rfl) ?_
  refine O.bld (cs := [.int .i64 3, .int .i64 4]) rfl rfl rfl rfl (st35) rfl (by kernel_rfl) ?_
  refine O.bld (cs := [.int .i64 1, .int .i64 5]) rfl rfl rfl rfl (st35) rfl (by kernel_rfl) ?_
  refine O.bld (cs := [.int .i64 7, .int .i64 6]) rfl rfl rfl rfl (st35) rfl (by kernel_rfl) ?_
  refine O.bld (cs := [.int .i64 8, .int .i64 7]) rfl rfl rfl rfl (st35) rfl (by kernel_rfl) ?_
  refine O.bsl (cs := (row EJ exl)) rfl rfl rfl ⟨Go.Proofs.Try.underlying22, Go.Proofs.Try.sizeOf35, Go.Proofs.Try.zeroValue35, ⟨_, Go.Proofs.Try.typeInfo35, rfl⟩, rfl, by decide, by decide⟩ rfl (by decide) (by kernel_rfl) ?_
  intro H1 M1
  refine ⟨trivial, ?_⟩
  refine O.asg rfl rfl rfl rfl rfl ?_
  refine Pl.fin [(0, _)] ⟨rfl, trivial⟩ ?_
  refine Go'.ret (vs := [_]) Go.Proofs.Try.func15 Go.Proofs.Try.results15 ⟨rfl, trivial⟩ ?_
  exact ⟨.inl ⟨H.size, 0, 7, rfl, by decide, M1.rd _ [] (by simp)⟩, M1.fr nowhere⟩

def fitsb (z : Int) : Bool := decide (z = 0) || (decide (2 ≤ z) && decide (z ≤ 128))
theorem fits_spec {B : World} {H : Mem} {z : Int} : Fn Try.prog B 16 [.int .i64 z] H (fun r H' => r = .bool (fitsb z) ∧ H' = H) := by
  refine fn_of Go.Proofs.Try.func16 rfl Go.Proofs.Try.ntmps16 ?_
  refine (show Go' _ _ _ _ 13 [(0, _)] [.code _] _ from ?_)
  refine Go'.seq ?_
  -- region 0 (tree.go:291)
  refine Go'.region [(0, 0)] rfl ?_
  refine O.asg rfl rfl rfl rfl rfl ?_
  refine Pl.fin [(0, _), (2, _)] ⟨rfl, rfl, trivial⟩ ?_
  refine Go'.seq ?_
  by_cases h0 : z = 0
  · skip
    -- region 1 (tree.go:291)
    refine Go'.region [(0, 0), (1, 0), (2, 0), (3, 0), (4, 0), (5, 0), (6, 0), (7, 0), (8, 0), (9, 0), (10, 0)] rfl ?_
    refine O.mv rfl rfl rfl rfl rfl ?_
    refine O.cmp rfl rfl rfl rfl rfl rfl (eqlT (by omega)) ?_
    refine O.mv rfl rfl rfl rfl rfl ?_
    refine Pl.pass rfl rfl rfl rfl ?_
    refine Pl.pass rfl rfl rfl rfl ?_
    refine Pl.pass rfl rfl rfl rfl ?_
    refine Pl.pass rfl rfl rfl rfl ?_
    refine Pl.pass rfl rfl rfl rfl ?_
    refine Pl.pass rfl rfl rfl rfl ?_
    refine O.pick rfl rfl rfl rfl rfl rfl ?_
    refine O.asg rfl rfl rfl rfl rfl ?_
    refine Pl.fin [(2, _)] ⟨rfl, trivial⟩ ?_
    refine Go'.ret (vs := [_]) Go.Proofs.Try.func16 Go.Proofs.Try.results16 ⟨rfl, trivial⟩ ?_
    subst h0; exact ⟨rfl, rfl⟩
  by_cases h2 : 2 ≤ z
  · skip
    by_cases h3 : z ≤ 128
    · skip
      -- region 1 (tree.go:291)
      refine Go'.region [(0, 0), (1, 0), (2, 0), (3, 0), (4, 0), (5, 0), (6, 0), (7, 0), (8, 0), (9, 0), (10, 0)] rfl ?_
      refine O.mv rfl rfl rfl rfl rfl ?_
      refine O.cmp rfl rfl rfl rfl rfl rfl (eqlF (by omega)) ?_
      refine O.mv rfl rfl rfl rfl rfl ?_
      refine O.mv rfl rfl rfl rfl rfl ?_
      refine O.cmp rfl rfl rfl rfl rfl rfl (geqT (by omega)) ?_
      refine O.mv rfl rfl rfl rfl rfl ?_
      refine O.mv rfl rfl rfl rfl rfl ?_
      refine O.cmp rfl rfl rfl rfl rfl rfl (leqT (by omega)) ?_
      refine O.pick rfl rfl rfl rfl rfl rfl ?_
      refine O.pick rfl rfl rfl rfl rfl rfl ?_
      refine O.asg rfl rfl rfl rfl rfl ?_
      refine Pl.fin [(2, _)] ⟨rfl, trivial⟩ ?_
      refine Go'.ret (vs := [_]) Go.Proofs.Try.func16 Go.Proofs.Try.results16 ⟨rfl, trivial⟩ ?_
      exact ⟨by unfold fitsb; rw [decide_eq_false h0, decide_eq_true h2, decide_eq_true h3]; rfl, rfl⟩
    · skip
      -- region 1 (tree.go:291)
      refine Go'.region [(0, 0), (1, 0), (2, 0), (3, 0), (4, 0), (5, 0), (6, 0), (7, 0), (8, 0), (9, 0), (10, 0)] rfl ?_
      refine O.mv rfl rfl rfl rfl rfl ?_
      refine O.cmp rfl rfl rfl rfl rfl rfl (eqlF (by omega)) ?_
      refine O.mv rfl rfl rfl rfl rfl ?_
      refine O.mv rfl rfl rfl rfl rfl ?_
      refine O.cmp rfl rfl rfl rfl rfl rfl (geqT (by omega)) ?_
      refine O.mv rfl rfl rfl rfl rfl ?_
      refine O.mv rfl rfl rfl rfl rfl ?_
      refine O.cmp rfl rfl rfl rfl rfl rfl (leqF (by omega)) ?_
      refine O.pick rfl rfl rfl rfl rfl rfl ?_
      refine O.pick rfl rfl rfl rfl rfl rfl ?_
      refine O.asg rfl rfl rfl rfl rfl ?_
      refine Pl.fin [(2, _)] ⟨rfl, trivial⟩ ?_
      refine Go'.ret (vs := [_]) Go.Proofs.Try.func16 Go.Proofs.Try.results16 ⟨rfl, trivial⟩ ?_
      exact ⟨by unfold fitsb; rw [decide_eq_false h0, decide_eq_true h2, decide_eq_false h3]; rfl, rfl⟩
  · skip
    -- region 1 (tree.go:291)
    refine Go'.region [(0, 0), (1, 0), (2, 0), (3, 0), (4, 0), (5, 0), (6, 0), (7, 0), (8, 0), (9, 0), (10, 0)] rfl ?_
    refine O.mv rfl rfl rfl rfl rfl ?_
    refine O.cmp rfl rfl rfl rfl rfl rfl (eqlF (by omega)) ?_
    refine O.mv rfl rfl rfl rfl rfl ?_
    refine O.mv rfl rfl rfl rfl rfl ?_
    refine O.cmp rfl rfl rfl rfl rfl rfl (geqF (by omega)) ?_
    refine O.mv rfl rfl rfl rfl rfl ?_
    refine Pl.pass rfl rfl rfl rfl ?_
    refine Pl.pass rfl rfl rfl rfl ?_
    refine O.pick rfl rfl rfl rfl rfl rfl ?_
    refine O.pick rfl rfl rfl rfl rfl rfl ?_
    refine O.asg rfl rfl rfl rfl rfl ?_
    refine Pl.fin [(2, _)] ⟨rfl, trivial⟩ ?_
    refine Go'.ret (vs := [_]) Go.Proofs.Try.func16 Go.Proofs.Try.results16 ⟨rfl, trivial⟩ ?_
    exact ⟨by unfold fitsb; rw [decide_eq_false h0, decide_eq_false h2]; rfl, rfl⟩

end Go.Bt
namespace Go.Bt
open Go Go.Proofs
set_option maxRecDepth 20000
set_option maxHeartbeats 4000000
set_option linter.unusedVariables false

theorem fits_spec' {B : World} {H : Mem} {z : Int} {b : Bool} (h : fitsb z = b) : Fn Try.prog B 16 [.int .i64 z] H (fun r H' => r = .bool b ∧ H' = H) := h ▸ fits_spec
theorem fnMMin {B : World} {H : Mem} {z : Int} {u : Value} {l : List (Int × Int)} (hi : InS EJ H u l) :
    Fn Try.prog B 3 [.int .i64 z, u] H (fun r H' => r = .bool true ∧ Fr nowhere H H') := by
  obtain ⟨a, c, hu⟩ := hi.len
  subst hu
  have hi0 := hi
  refine fn_of Go.Proofs.Try.func3 rfl Go.Proofs.Try.ntmps3 ?_
  refine (show Go' _ _ _ _ 24 [(0, _), (1, _)] [.code _] _ from ?_)
  refine Go'.seq ?_
  -- region 0 (exact.go:1227)
  refine Go'.region [(0, 0)] rfl ?_
  refine O.asg rfl rfl rfl rfl rfl ?_
  refine Pl.fin [(0, _), (1, _), (4, _)] ⟨rfl, rfl, rfl, trivial⟩ ?_
  refine Go'.seq ?_
  refine Go'.seq ?_
  by_cases hbig : (2147483647 : Int) < (l.length : Int)
  · skip
    -- region 1 (exact.go:1228)
    refine Go'.region [(0, 0), (1, 0), (2, 0)] rfl ?_
    refine O.mv rfl rfl rfl rfl rfl ?_
    refine O.len rfl rfl rfl rfl Go.Proofs.Try.underlying22 rfl ?_
    refine O.cmp rfl rfl rfl rfl rfl rfl (gtrT (by omega)) ?_
    refine Pl.fin [(0, _), (1, _), (4, _), (7, _)] ⟨rfl, rfl, rfl, rfl, trivial⟩ ?_
    refine Go'.condT rfl ?_
    refine Go'.seq ?_
    -- region 2 (exact.go:1229)
    refine Go'.region [(0, 0)] rfl ?_
    refine O.asg rfl rfl rfl rfl rfl ?_
    refine Pl.fin [(0, _), (1, _), (4, _)] ⟨rfl, rfl, rfl, trivial⟩ ?_
    refine Go'.ret (vs := [_]) Go.Proofs.Try.func3 Go.Proofs.Try.results3 ⟨rfl, trivial⟩ ?_
    exact ⟨rfl, Fr.refl _ _⟩
  · skip
    -- region 1 (exact.go:1228)
    refine Go'.region [(0, 0), (1, 0), (2, 0)] rfl ?_
    refine O.mv rfl rfl rfl rfl rfl ?_
    refine O.len rfl rfl rfl rfl Go.Proofs.Try.underlying22 rfl ?_
    refine O.cmp rfl rfl rfl rfl rfl rfl (gtrF (by omega)) ?_
    refine Pl.fin [(0, _), (1, _), (4, _), (7, _)] ⟨rfl, rfl, rfl, rfl, trivial⟩ ?_
    refine Go'.condF rfl ?_
    refine Go'.skip ?_
    refine Go'.seq ?_
    cases hfz : fitsb z
    · skip
      -- region 3 (exact.go:1231)
      refine Go'.region [(0, 2), (1, 2), (2, 0), (3, 0), (4, 2), (5, 0), (6, 0), (7, 0), (8, 0), (9, 0), (10, 0), (11, 0), (12, 0), (13, 2), (14, 0), (15, 0), (16, 0)] rfl ?_
      refine O.call rfl rfl rfl Go.Proofs.Try.call15 rfl exItems_spec ?_
      rintro ev H1 ⟨hev, hF1⟩
      refine ⟨trivial, ?_⟩
      refine O.call rfl rfl rfl Go.Proofs.Try.call14 rfl (lawMMin_spec (d := 2) (by decide) hev (by decide)) ?_
      rintro _ H2 ⟨rfl, hF2⟩
      have hF := hF1.trans hF2
      have hi2 := hi0.fr hF
      refine ⟨trivial, ?_⟩
      refine O.mv rfl rfl rfl rfl rfl ?_
      refine O.mv rfl rfl rfl rfl rfl ?_
      refine O.callQ rfl rfl rfl Go.Proofs.Try.call16 rfl (fits_spec' hfz) trivial ?_
      refine O.mv rfl rfl rfl rfl rfl ?_
      refine Pl.pass rfl rfl rfl rfl ?_
      refine Pl.pass rfl rfl rfl rfl ?_
      refine O.pick rfl rfl rfl rfl rfl rfl ?_
      refine O.not rfl rfl rfl rfl rfl ?_
      refine O.mv rfl rfl rfl rfl rfl ?_
      refine Pl.pass rfl rfl rfl rfl ?_
      refine Pl.pass rfl rfl rfl rfl ?_
      refine Pl.pass2 rfl rfl rfl rfl trivial ?_
      refine O.pick rfl rfl rfl rfl rfl rfl ?_
      refine O.pick rfl rfl rfl rfl rfl rfl ?_
      refine O.asg rfl rfl rfl rfl rfl ?_
      refine Pl.fin [(4, _)] ⟨rfl, trivial⟩ ?_
      refine Go'.ret (vs := [_]) Go.Proofs.Try.func3 Go.Proofs.Try.results3 ⟨rfl, trivial⟩ ?_
      exact ⟨rfl, hF⟩
    · skip
      by_cases hp : 0 < z
      · skip
        obtain ⟨d, rfl⟩ := Int.eq_ofNat_of_zero_le (by omega : 0 ≤ z)
        have hd : 2 ≤ d ∧ d ≤ 128 := by
          unfold fitsb at hfz
          simp only [Bool.or_eq_true, Bool.and_eq_true, decide_eq_true_eq] at hfz
          omega
        -- region 3 (exact.go:1231)
        refine Go'.region [(0, 2), (1, 2), (2, 0), (3, 0), (4, 2), (5, 0), (6, 0), (7, 0), (8, 0), (9, 0), (10, 0), (11, 0), (12, 0), (13, 2), (14, 0), (15, 0), (16, 0)] rfl ?_
        refine O.call rfl rfl rfl Go.Proofs.Try.call15 rfl exItems_spec ?_
        rintro ev H1 ⟨hev, hF1⟩
        refine ⟨trivial, ?_⟩
        refine O.call rfl rfl rfl Go.Proofs.Try.call14 rfl (lawMMin_spec (d := 2) (by decide) hev (by decide)) ?_
        rintro _ H2 ⟨rfl, hF2⟩
        have hF := hF1.trans hF2
        have hi2 := hi0.fr hF
        refine ⟨trivial, ?_⟩
        refine O.mv rfl rfl rfl rfl rfl ?_
        refine O.mv rfl rfl rfl rfl rfl ?_
        refine O.callQ rfl rfl rfl Go.Proofs.Try.call16 rfl (fits_spec' hfz) trivial ?_
        refine O.mv rfl rfl rfl rfl rfl ?_
        refine O.mv rfl rfl rfl rfl rfl ?_
        refine O.cmp rfl rfl rfl rfl rfl rfl (gtrT (by omega)) ?_
        refine O.pick rfl rfl rfl rfl rfl rfl ?_
        refine O.not rfl rfl rfl rfl rfl ?_
        refine O.mv rfl rfl rfl rfl rfl ?_
        refine O.mv rfl rfl rfl rfl rfl ?_
        refine O.mv rfl rfl rfl rfl rfl ?_
        refine O.call rfl rfl rfl Go.Proofs.Try.call14 rfl (lawMMin_spec hd hi2 (by omega)) ?_
        rintro _ H3 ⟨rfl, hF3⟩
        replace hF := hF.trans hF3
        refine ⟨trivial, ?_⟩
        refine O.pick rfl rfl rfl rfl rfl rfl ?_
        refine O.pick rfl rfl rfl rfl rfl rfl ?_
        refine O.asg rfl rfl rfl rfl rfl ?_
        refine Pl.fin [(4, _)] ⟨rfl, trivial⟩ ?_
        refine Go'.ret (vs := [_]) Go.Proofs.Try.func3 Go.Proofs.Try.results3 ⟨rfl, trivial⟩ ?_
        exact ⟨rfl, hF⟩
      · skip
        -- region 3 (exact.go:1231)
        refine Go'.region [(0, 2), (1, 2), (2, 0), (3, 0), (4, 2), (5, 0), (6, 0), (7, 0), (8, 0), (9, 0), (10, 0), (11, 0), (12, 0), (13, 2), (14, 0), (15, 0), (16, 0)] rfl ?_
        refine O.call rfl rfl rfl Go.Proofs.Try.call15 rfl exItems_spec ?_
        rintro ev H1 ⟨hev, hF1⟩
        refine ⟨trivial, ?_⟩
        refine O.call rfl rfl rfl Go.Proofs.Try.call14 rfl (lawMMin_spec (d := 2) (by decide) hev (by decide)) ?_
        rintro _ H2 ⟨rfl, hF2⟩
        have hF := hF1.trans hF2
        have hi2 := hi0.fr hF
        refine ⟨trivial, ?_⟩
        refine O.mv rfl rfl rfl rfl rfl ?_
        refine O.mv rfl rfl rfl rfl rfl ?_
        refine O.callQ rfl rfl rfl Go.Proofs.Try.call16 rfl (fits_spec' hfz) trivial ?_
        refine O.mv rfl rfl rfl rfl rfl ?_
        refine O.mv rfl rfl rfl rfl rfl ?_
        refine O.cmp rfl rfl rfl rfl rfl rfl (gtrF (by omega)) ?_
        refine O.pick rfl rfl rfl rfl rfl rfl ?_
        refine O.not rfl rfl rfl rfl rfl ?_
        refine O.mv rfl rfl rfl rfl rfl ?_
        refine Pl.pass rfl rfl rfl rfl ?_
        refine Pl.pass rfl rfl rfl rfl ?_
        refine Pl.pass2 rfl rfl rfl rfl trivial ?_
        refine O.pick rfl rfl rfl rfl rfl rfl ?_
        refine O.pick rfl rfl rfl rfl rfl rfl ?_
        refine O.asg rfl rfl rfl rfl rfl ?_
        refine Pl.fin [(4, _)] ⟨rfl, trivial⟩ ?_
        refine Go'.ret (vs := [_]) Go.Proofs.Try.func3 Go.Proofs.Try.results3 ⟨rfl, trivial⟩ ?_
        exact ⟨rfl, hF⟩

end Go.Bt
