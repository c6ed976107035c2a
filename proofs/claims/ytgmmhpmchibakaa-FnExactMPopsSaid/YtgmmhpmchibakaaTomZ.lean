/- Contracts of functions of the program, proved by walking through their code. Conditions: those that each theorem names. -/
import Derived.Test.YtgmmhpmchibakaaTonO
import Derived.Test.YtgmmhpmchibakaaTomW
import Derived.Test.YtgmmhpmchibakaaToSt
import Derived.Test.YtgmmhpmchibakaaTosB
import Derived.Test.YtgmmhpmchibakaaToKb
namespace Go.Bt
open Go Go.Proofs
set_option maxRecDepth 20000
set_option maxHeartbeats 4000000
set_option linter.unusedVariables false

theorem found_neq (o : Option (Int × Int)) (a b : Operand) (w : World) : (eqGuard .neq 37 a b (.agg (fvs o).toArray) (.agg (fvs o).toArray)).run Try.prog w = .ok () w ∧ (binOp .neq 37 (.agg (fvs o).toArray) (.agg (fvs o).toArray)).run Try.prog w = .ok (.bool false) w := by
  refine ⟨run_eqGuard_agg w _ _ _ _ _ _ Try.eqGuardType37, ?_⟩
  rw [run_neq_struct]
  have h := (found_eq o a b w).2
  rw [run_eql_struct] at h
  have h2 : (Op.equalIn 10000 37 (.agg (fvs o).toArray) (.agg (fvs o).toArray)).run Try.prog w = .ok true w := by
    cases hh : (Op.equalIn 10000 37 (.agg (fvs o).toArray) (.agg (fvs o).toArray)).run Try.prog w with
    | ok x w2 => rw [hh] at h; simp [Result.andThen] at h; obtain ⟨h1, h2⟩ := h; rw [h1, h2]
    | _ => rw [hh] at h; simp [Result.andThen] at h
  rw [h2]; rfl

theorem eqFounds_spec {B : World} {H : Mem} {u v : Value} {l : List (Option (Int × Int))} (hu : InS EF H u l) (hv : InS EF H v l) (hll : l.length ≤ 4294967296) :
    Fn Try.prog B 26 [u, v] H (fun r H' => r = .bool true ∧ H' = H) := by
  obtain ⟨a, c, e⟩ := hu.len
  subst e
  obtain ⟨a', c', e⟩ := hv.len
  subst e
  refine fn_of Go.Proofs.Try.func26 rfl Go.Proofs.Try.ntmps26 ?_
  refine (show Go' _ _ _ _ 26 [(0, _), (1, _)] [.code _] _ from ?_)
  refine Go'.seq ?_
  -- region 0 (slices.go:20)
  refine Go'.region [(0, 0)] rfl ?_
  refine O.asg rfl rfl rfl rfl rfl ?_
  refine Pl.fin [(0, _), (1, _), (4, _)] ⟨rfl, rfl, rfl, trivial⟩ ?_
  refine Go'.seq ?_
  refine Go'.seq ?_
  -- region 1 (slices.go:21)
  refine Go'.region [(0, 0), (1, 0), (2, 0), (3, 0), (4, 0)] rfl ?_
  refine O.mv rfl rfl rfl rfl rfl ?_
  refine O.len rfl rfl rfl rfl Go.Proofs.Try.underlying30 rfl ?_
  refine O.mv rfl rfl rfl rfl rfl ?_
  refine O.len rfl rfl rfl rfl Go.Proofs.Try.underlying30 rfl ?_
  refine O.cmp rfl rfl rfl rfl rfl rfl (neqF (by omega)) ?_
  refine Pl.fin [(0, _), (1, _), (4, _), (10, _)] ⟨rfl, rfl, rfl, rfl, trivial⟩ ?_
  refine Go'.condF rfl ?_
  refine Go'.skip ?_
  refine Go'.seq ?_
  refine Go'.seq ?_
  -- region 3 (slices.go:24)
  refine Go'.region [(0, 0), (1, 0), (2, 0)] rfl ?_
  refine O.mv rfl rfl rfl rfl rfl ?_
  refine O.len rfl rfl rfl rfl Go.Proofs.Try.underlying30 rfl ?_
  refine O.mv rfl rfl rfl rfl rfl ?_
  refine Pl.fin [(0, _), (1, _), (4, _), (12, _), (13, _)] ⟨rfl, rfl, rfl, rfl, rfl, trivial⟩ ?_
  refine Go'.block ?_
  refine Go'.loop ?_
  refine Go'.keep [(0, _), (1, _), (4, _), (12, _), (13, _)] ⟨rfl, rfl, rfl, rfl, rfl, trivial⟩ ?_
  refine Go'.ind (σ := Nat) (fun j => l.length - j) (fun j H' => H' = H ∧ j ≤ l.length)
    (fun j => [(0, .slice a l.length c), (1, .slice a' l.length c'), (4, .bool false), (12, .int .i64 (l.length : Int)), (13, .int .i64 (j : Int))]) 0 ⟨rfl, Nat.zero_le _⟩ rfl ?_
  rintro j H2 ⟨hHH, hjl⟩ ih
  have eH : H = H2 := hHH.symm
  subst eH
  clear hHH
  refine Go'.seq ?_
  by_cases hlt : j < l.length
  · skip
    obtain ⟨y, hy⟩ : ∃ y, l[j]? = some y := ⟨l[j], List.getElem?_eq_getElem hlt⟩
    obtain ⟨b, o, cc, e, hr⟩ := hu.at hy
    cases e
    obtain ⟨b', o', cc', e, hr'⟩ := hv.at hy
    cases e
    -- region 4 (slices.go:24)
    refine Go'.region [(0, 0)] rfl ?_
    refine O.cmp rfl rfl rfl rfl rfl rfl (lssT (by omega)) ?_
    refine Pl.fin [(0, _), (1, _), (4, _), (12, _), (13, _), (14, _)] ⟨rfl, rfl, rfl, rfl, rfl, rfl, trivial⟩ ?_
    refine Go'.seq ?_
    refine Go'.condT rfl ?_
    refine Go'.skip ?_
    refine Go'.seq ?_
    refine Go'.block ?_
    refine Go'.seq ?_
    -- region 5 (slices.go:24)
    refine Go'.region [(0, 0), (1, 0)] rfl ?_
    refine O.mv rfl rfl rfl rfl rfl ?_
    refine O.asg rfl rfl rfl rfl rfl ?_
    refine Pl.fin [(0, _), (1, _), (4, _), (5, _), (12, _), (13, _), (14, _)] ⟨rfl, rfl, rfl, rfl, rfl, rfl, rfl, trivial⟩ ?_
    refine Go'.seq ?_
    -- region 6 (slices.go:25)
    refine Go'.draw (fun _ => True) [(0, 0), (1, 0), (2, 0), (3, 1), (4, 0), (5, 0), (6, 0), (7, 1), (8, 0)] (by kernel_rfl) (by kernel_rfl) (trivial) ?_
    refine O.mv rfl rfl rfl rfl rfl ?_
    refine O.mv rfl rfl rfl rfl rfl ?_
    refine O.ix (j := j) rfl rfl rfl rfl Go.Proofs.Try.underlying30 Go.Proofs.Try.sizeOf37 rfl rfl (by omega) hlt ?_
    refine O.lds rfl rfl rfl (fun w => ⟨Go.Proofs.Try.isAgg37 w, Go.Proofs.Try.sizeOf37 w⟩) rfl (by cases y <;> rfl) hr ?_
    refine O.mv rfl rfl rfl rfl rfl ?_
    refine O.mv rfl rfl rfl rfl rfl ?_
    refine O.ix (j := j) rfl rfl rfl rfl Go.Proofs.Try.underlying30 Go.Proofs.Try.sizeOf37 rfl rfl (by omega) hlt ?_
    refine O.lds rfl rfl rfl (fun w => ⟨Go.Proofs.Try.isAgg37 w, Go.Proofs.Try.sizeOf37 w⟩) rfl (by cases y <;> rfl) hr' ?_
    refine O.bin rfl rfl rfl rfl rfl rfl (found_neq y _ _) ?_
    refine Pl.fin [(0, _), (1, _), (4, _), (5, _), (12, _), (13, _), (14, _), (24, _)] ⟨rfl, rfl, rfl, rfl, rfl, rfl, rfl, rfl, trivial⟩ ?_
    refine Go'.condF rfl ?_
    refine Go'.skip ?_
    refine Go'.inBlock ?_
    -- region 8 (slices.go:24)
    refine Go'.region [(0, 0), (1, 0)] rfl ?_
    refine O.add (((j + 1 : Nat) : Int)) rfl rfl rfl rfl rfl rfl (by omega) (by omega) ?_
    refine O.mv rfl rfl rfl rfl rfl ?_
    refine Pl.fin [(0, _), (1, _), (4, _), (5, _), (12, _), (13, _), (14, _), (24, _)] ⟨rfl, rfl, rfl, rfl, rfl, rfl, rfl, rfl, trivial⟩ ?_
    refine Go'.keep [(0, _), (1, _), (4, _), (12, _), (13, _)] ⟨rfl, rfl, rfl, rfl, rfl, trivial⟩ ?_
    refine Go'.inLoop ?_
    exact ih (j + 1) H ⟨rfl, hlt⟩ (by omega)
  · skip
    -- region 4 (slices.go:24)
    refine Go'.region [(0, 0)] rfl ?_
    refine O.cmp rfl rfl rfl rfl rfl rfl (lssF (by omega)) ?_
    refine Pl.fin [(0, _), (1, _), (4, _), (12, _), (13, _), (14, _)] ⟨rfl, rfl, rfl, rfl, rfl, rfl, trivial⟩ ?_
    refine Go'.seq ?_
    refine Go'.condF rfl ?_
    refine Go'.exit rfl ?_
    refine Go'.seq ?_
    -- region 9 (slices.go:29)
    refine Go'.region [(0, 0)] rfl ?_
    refine O.asg rfl rfl rfl rfl rfl ?_
    refine Pl.fin [(4, _)] ⟨rfl, trivial⟩ ?_
    refine Go'.ret (vs := [_]) Go.Proofs.Try.func26 Go.Proofs.Try.results26 ⟨rfl, trivial⟩ ?_
    exact ⟨rfl, rfl⟩

end Go.Bt
namespace Go.Bt
open Go Go.Proofs
set_option maxRecDepth 20000
set_option maxHeartbeats 4000000
set_option linter.unusedVariables false

end Go.Bt
namespace Go.Bt
open Go Go.Proofs
set_option maxRecDepth 20000
set_option maxHeartbeats 4000000
set_option linter.unusedVariables false

theorem cut_specA {B : World} {H : Mem} {u : Value} {l : List (Int × Int)} (z : Int) (hi : InS EJ H u l) (hll : l.length ≤ 4294967296) :
    Fn Try.prog B 110 [u, .int .i64 z] H (fun r H' => ∃ sv, r = .tuple #[sv, FV (ath l z)] ∧ ((ath l z = none ∧ sv = u) ∨ Acc EJ (fun b => H.size ≤ b) H' sv (cutl l z)) ∧ Fr nowhere H H') := by
  have hF : Fr nowhere H H := Fr.refl _ _
  obtain ⟨a, c, hu⟩ := hi.len
  subst hu
  have hi0 := hi
  refine fn_of Go.Proofs.Try.func110 rfl Go.Proofs.Try.ntmps110 ?_
  refine (show Go' _ _ _ _ 31 [(0, _), (1, _)] [.code _] _ from ?_)
  refine Go'.seq ?_
  -- region 0 (list.go:59)
  refine Go'.region [(0, 0), (1, 2)] rfl ?_
  refine O.asg rfl rfl rfl rfl rfl ?_
  refine O.alloc rfl rfl rfl Go.Proofs.Try.zeroValue37 ?_
  intro H1 M1
  refine ⟨trivial, ?_⟩
  have hs1 := M1.size
  replace hi := hi.fr (M1.fr nowhere)
  replace hF := hF.trans' (M1.fr nowhere) (fun _ _ _ h => h) (fun _ _ _ h => h.elim)
  have m5 : Wr H1 H.size 0 3 := M1.wr 3 (by decide)
  refine Pl.fin [(0, _), (1, _), (4, _), (5, _)] ⟨rfl, rfl, rfl, rfl, trivial⟩ ?_
  refine Go'.seq ?_
  refine Go'.seq ?_
  by_cases hz : z < 0
  · -- below
    have ha0 : ath l z = none := by unfold ath; rw [if_pos hz]
    -- region 1 (list.go:60)
    refine Go'.region [(0, 0), (1, 0), (2, 0), (3, 0), (4, 0), (5, 0), (6, 0), (7, 0)] rfl ?_
    refine O.mv rfl rfl rfl rfl rfl ?_
    refine O.cmp rfl rfl rfl rfl rfl rfl (lssT (by omega)) ?_
    refine O.mv rfl rfl rfl rfl rfl ?_
    refine Pl.pass rfl rfl rfl rfl ?_
    refine Pl.pass rfl rfl rfl rfl ?_
    refine Pl.pass rfl rfl rfl rfl ?_
    refine Pl.pass rfl rfl rfl rfl ?_
    refine O.pick rfl rfl rfl rfl rfl rfl ?_
    refine Pl.fin [(0, _), (1, _), (4, _), (5, _), (13, _)] ⟨rfl, rfl, rfl, rfl, rfl, trivial⟩ ?_
    refine Go'.condT rfl ?_
    refine Go'.seq ?_
    -- region 2 (list.go:61)
    refine Go'.region [(0, 0), (1, 0), (2, 0), (3, 2)] rfl ?_
    refine O.mv rfl rfl rfl rfl rfl ?_
    refine O.bld (cs := (fvs none)) rfl rfl rfl rfl (st37) rfl (by kernel_rfl) ?_
    refine O.asg rfl rfl rfl rfl rfl ?_
    refine O.st rfl rfl Go.Proofs.Try.sizeOf37 rfl rfl rfl rfl rfl m5 ?_
    intro H2 W2
    replace hF := hF.trans' W2.fr (fun _ _ _ h => h) (fun b o hb hz => by have h1 := hz.1; omega)
    refine ⟨trivial, ?_⟩
    refine Pl.fin [(0, _), (1, _), (4, _), (5, _)] ⟨rfl, rfl, rfl, rfl, trivial⟩ ?_
    refine Go'.ret (vs := [_, _]) Go.Proofs.Try.func110 Go.Proofs.Try.results110 ⟨rfl, ⟨_, _, rfl, fun _ _ => run_loadVar_agg (fun w => ⟨Go.Proofs.Try.isAgg37 w, Go.Proofs.Try.sizeOf37 w⟩) rfl W2.all⟩, trivial⟩ ?_
    exact ⟨_, by rw [ha0]; rfl, .inl ⟨ha0, rfl⟩, hF⟩
  obtain ⟨i, rfl⟩ := Int.eq_ofNat_of_zero_le (by omega : 0 ≤ z)
  by_cases hil : l.length ≤ i
  · -- above
    have ha0 : ath l (i : Int) = none := by rw [ath_nat, List.getElem?_eq_none hil]
    -- region 1 (list.go:60)
    refine Go'.region [(0, 0), (1, 0), (2, 0), (3, 0), (4, 0), (5, 0), (6, 0), (7, 0)] rfl ?_
    refine O.mv rfl rfl rfl rfl rfl ?_
    refine O.cmp rfl rfl rfl rfl rfl rfl (lssF (by omega)) ?_
    refine O.mv rfl rfl rfl rfl rfl ?_
    refine O.mv rfl rfl rfl rfl rfl ?_
    refine O.mv rfl rfl rfl rfl rfl ?_
    refine O.len rfl rfl rfl rfl Go.Proofs.Try.underlying22 rfl ?_
    refine O.cmp rfl rfl rfl rfl rfl rfl (geqT (by omega)) ?_
    refine O.pick rfl rfl rfl rfl rfl rfl ?_
    refine Pl.fin [(0, _), (1, _), (4, _), (5, _), (13, _)] ⟨rfl, rfl, rfl, rfl, rfl, trivial⟩ ?_
    refine Go'.condT rfl ?_
    refine Go'.seq ?_
    -- region 2 (list.go:61)
    refine Go'.region [(0, 0), (1, 0), (2, 0), (3, 2)] rfl ?_
    refine O.mv rfl rfl rfl rfl rfl ?_
    refine O.bld (cs := (fvs none)) rfl rfl rfl rfl (st37) rfl (by kernel_rfl) ?_
    refine O.asg rfl rfl rfl rfl rfl ?_
    refine O.st rfl rfl Go.Proofs.Try.sizeOf37 rfl rfl rfl rfl rfl m5 ?_
    intro H2 W2
    replace hF := hF.trans' W2.fr (fun _ _ _ h => h) (fun b o hb hz => by have h1 := hz.1; omega)
    refine ⟨trivial, ?_⟩
    refine Pl.fin [(0, _), (1, _), (4, _), (5, _)] ⟨rfl, rfl, rfl, rfl, trivial⟩ ?_
    refine Go'.ret (vs := [_, _]) Go.Proofs.Try.func110 Go.Proofs.Try.results110 ⟨rfl, ⟨_, _, rfl, fun _ _ => run_loadVar_agg (fun w => ⟨Go.Proofs.Try.isAgg37 w, Go.Proofs.Try.sizeOf37 w⟩) rfl W2.all⟩, trivial⟩ ?_
    exact ⟨_, by rw [ha0]; rfl, .inl ⟨ha0, rfl⟩, hF⟩
  replace hil : i < l.length := by omega
  obtain ⟨y, hy⟩ : ∃ y, l[i]? = some y := ⟨l[i], List.getElem?_eq_getElem hil⟩
  obtain ⟨bl, ol, cc, hue, hir⟩ := hi.at hy
  have hbl : bl < H.size := by
    obtain ⟨b0, o0, c0, hue0, hir0⟩ := hi0.at hy
    rw [hue] at hue0
    cases hue0
    exact cl_lt (hir0 0 _ rfl)
  cases hue
  have hl1 : (l.take i).length = i := by rw [List.length_take]; omega
  -- region 1 (list.go:60)
  refine Go'.region [(0, 0), (1, 0), (2, 0), (3, 0), (4, 0), (5, 0), (6, 0), (7, 0)] rfl ?_
  refine O.mv rfl rfl rfl rfl rfl ?_
  refine O.cmp rfl rfl rfl rfl rfl rfl (lssF (by omega)) ?_
  refine O.mv rfl rfl rfl rfl rfl ?_
  refine O.mv rfl rfl rfl rfl rfl ?_
  refine O.mv rfl rfl rfl rfl rfl ?_
  refine O.len rfl rfl rfl rfl Go.Proofs.Try.underlying22 rfl ?_
  refine O.cmp rfl rfl rfl rfl rfl rfl (geqF (by omega)) ?_
  refine O.pick rfl rfl rfl rfl rfl rfl ?_
  refine Pl.fin [(0, _), (1, _), (4, _), (5, _), (13, _)] ⟨rfl, rfl, rfl, rfl, rfl, trivial⟩ ?_
  refine Go'.condF rfl ?_
  refine Go'.skip ?_
  refine Go'.seq ?_
  -- region 3 (list.go:63)
  refine Go'.draw (fun H' => Rd H' bl (ol + i * 2) (EJ.enc y)) [(1, 0), (2, 0), (3, 0), (5, 0), (6, 0), (7, 0), (8, 0), (10, 0), (11, 0), (12, 0), (13, 0), (14, 0), (0, 2), (4, 2), (9, 2), (15, 0), (16, 3)] (by kernel_rfl) (by kernel_rfl) (hir) ?_
  refine O.mv rfl rfl rfl rfl rfl ?_
  refine O.mv rfl rfl rfl rfl rfl ?_
  refine O.slcIn (E := EJ) (jl := 0) (jh := i) rfl rfl rfl rfl Go.Proofs.Try.underlying22 Go.Proofs.Try.sizeOf35 rfl hi ⟨_, by rfl⟩ rfl (by omega) (by omega) ?_
  intro v1 hv1
  rw [List.drop_zero, Nat.sub_zero] at hv1
  refine O.mv rfl rfl rfl rfl rfl ?_
  refine O.mv rfl rfl rfl rfl rfl ?_
  refine O.add (((i + 1 : Nat) : Int)) rfl rfl rfl rfl rfl rfl (by omega) (by omega) ?_
  refine O.slcIn (E := EJ) (jl := i + 1) (jh := l.length) rfl rfl rfl rfl Go.Proofs.Try.underlying22 Go.Proofs.Try.sizeOf35 rfl hi rfl ⟨_, by rfl⟩ (by omega) (by omega) ?_
  intro v2 hv2
  rw [List.take_of_length_le (by rw [List.length_drop]; omega)] at hv2
  refine O.mv rfl rfl rfl rfl rfl ?_
  refine O.mv rfl rfl rfl rfl rfl ?_
  refine O.ix (j := i) rfl rfl rfl rfl Go.Proofs.Try.underlying22 Go.Proofs.Try.sizeOf35 rfl rfl (by omega) hil ?_
  refine O.ldsC rfl rfl rfl (fun w => ⟨Go.Proofs.Try.isAgg35 w, Go.Proofs.Try.sizeOf35 w⟩) rfl rfl (fun _ h => h) ?_
  refine O.bld (cs := (fvs (some y))) rfl rfl rfl rfl (st37) rfl (by kernel_rfl) ?_
  refine O.bsl (cs := []) rfl rfl rfl ⟨Go.Proofs.Try.underlying22, Go.Proofs.Try.sizeOf35, Go.Proofs.Try.zeroValue35, ⟨_, Go.Proofs.Try.typeInfo35, rfl⟩, rfl, by decide, by decide⟩ rfl (by decide) (by kernel_rfl) ?_
  intro H4 M4
  have hs4 := M4.size
  replace hi := hi.fr (M4.fr nowhere)
  replace m5 := (M4.fr nowhere).wr m5
  replace hir := (M4.fr nowhere).rd hir (fun _ _ => nw)
  replace hv1 := hv1.fr (M4.fr nowhere)
  replace hv2 := hv2.fr (M4.fr nowhere)
  replace hF := hF.trans' (M4.fr nowhere) (fun _ _ _ h => h) (fun _ _ _ h => h.elim)
  refine ⟨hir, ?_⟩
  refine O.app (m := (l.take i).length) (news := (row EJ (l.take i))) rfl rfl rfl ⟨Go.Proofs.Try.underlying22, Go.Proofs.Try.sizeOf35, Go.Proofs.Try.zeroValue35, ⟨_, Go.Proofs.Try.typeInfo35, rfl⟩, rfl, by decide, by decide⟩ rfl (Sl.none _ _ _ _) rfl hv1.src (row_len EJ _) (row_ones EJ _) (Nat.le_trans (Nat.mul_le_mul_left _ (Nat.le_of_ble_eq_true (n := _) (m := 4096) rfl)) (by omega)) (by omega) ?_
  intro b1 o1 c1 H5 ha
  have hsz5 := ha.fr.size
  have hsl1 : Sl H5 b1 o1 (0 + (l.take i).length) c1 2 (row EJ (l.take i)) := ha.sl
  have hb1 : H.size + 1 ≤ b1 := by rcases ha.place with ⟨r, _⟩ | ⟨r, _⟩ <;> omega
  have hb1x : b1 < H5.size := by rcases ha.place with ⟨r, _⟩ | ⟨r, _, r3⟩ <;> omega
  replace hi := hi.fr ha.quiet
  replace m5 := ha.quiet.wr m5
  replace hir := ha.quiet.rd hir (fun _ _ => nw)
  replace hv2 := hv2.fr ha.quiet
  replace hF := hF.trans' ha.quiet (fun _ _ _ h => h) (fun _ _ _ h => h.elim)
  refine ⟨hir, ?_⟩
  refine O.app (m := (l.drop (i + 1)).length) (news := (row EJ (l.drop (i + 1)))) rfl rfl rfl ⟨Go.Proofs.Try.underlying22, Go.Proofs.Try.sizeOf35, Go.Proofs.Try.zeroValue35, ⟨_, Go.Proofs.Try.typeInfo35, rfl⟩, rfl, by decide, by decide⟩ rfl hsl1 rfl hv2.src (row_len EJ _) (row_ones EJ _) (Nat.le_trans (Nat.mul_le_mul_left _ (Nat.le_of_ble_eq_true (n := _) (m := 4096) rfl)) (by rw [List.length_drop]; omega)) (by rw [List.length_drop]; omega) ?_
  intro b3 o3 c3 H8 ha3
  have hsz8 := ha3.fr.size
  have hsl3 : SlE EJ H8 b3 o3 c3 (l.take i ++ l.drop (i + 1)) := SlE.of ha3.sl (by rw [← row_append]) (by rw [List.length_append, Nat.zero_add])
  have hb3 : H.size + 1 ≤ b3 := by rcases ha3.place with ⟨r, _⟩ | ⟨r, _⟩ <;> omega
  have hb3x : b3 < H8.size := by rcases ha3.place with ⟨r, _⟩ | ⟨r, _, r3⟩ <;> omega
  replace m5 := ha3.fr.wr m5
  replace hir := ha3.fr.rd hir (fun _ _ => nr (.inl (by omega)))
  replace hF := hF.trans' ha3.fr (fun _ _ _ h => h) (fun b o hb hz => by have h1 := hz.1; omega)
  refine ⟨hir, ?_⟩
  refine O.asg rfl rfl rfl rfl rfl ?_
  refine O.st3 rfl rfl Go.Proofs.Try.sizeOf37 rfl rfl rfl rfl rfl m5 ?_
  intro H9 W9
  replace hsl3 := hsl3.fr W9.fr (fun _ _ _ => nr (.inl (by omega)))
  replace hF := hF.trans' W9.fr (fun _ _ _ h => h) (fun b o hb hz => by have h1 := hz.1; omega)
  refine Pl.fin [(4, _), (5, _)] ⟨rfl, rfl, trivial⟩ ?_
  refine Go'.ret (vs := [_, _]) Go.Proofs.Try.func110 Go.Proofs.Try.results110 ⟨rfl, ⟨_, _, rfl, fun _ _ => run_loadVar_agg (fun w => ⟨Go.Proofs.Try.isAgg37 w, Go.Proofs.Try.sizeOf37 w⟩) rfl W9.all⟩, trivial⟩ ?_
  have hc : cutl l (i : Int) = l.take i ++ l.drop (i + 1) := by unfold cutl; rw [if_neg (by omega)]; rfl
  refine ⟨_, by rw [ath_nat, hy]; rfl, .inr ?_, hF⟩
  rw [hc]
  exact .inr ⟨b3, o3, c3, by rw [List.length_append, Nat.zero_add], by omega, by have := W9.size; omega, hsl3⟩


end Go.Bt
namespace Go.Bt
open Go Go.Proofs
set_option maxRecDepth 20000
set_option maxHeartbeats 4000000
set_option linter.unusedVariables false

theorem pv_ok (o : Option (Int × Int)) : ∃ k v b, pv? o = .tuple #[.int .i64 k, .int .i64 v, .bool b] ∧ ok? (k, v) b = o := by
  cases o with
  | none => exact ⟨_, _, _, rfl, rfl⟩
  | some y => exact ⟨_, _, _, rfl, rfl⟩

theorem mpops_spec {B : World} {H : Mem} {d : Nat} {u v : Value} {l : List (Int × Int)} {ks : List Bool} (hd : 2 ≤ d ∧ d ≤ 128) (hi : InS EJ H u l) (hll : l.length ≤ 4294967296) (hk : InS EB H v ks) (hkl : ks.length ≤ 4294967296) :
    Fn Try.prog B 74 [.int .i64 (d : Int), u, v] H (fun r H' => ∃ v1 v2, r = .tuple #[v1, v2] ∧ OutS EF H' v1 (Pl.runs Pl.popk (Pl.puts OI l) ks).2 ∧ OutS EJ H' v2 (Pl.runs Pl.popk (Pl.puts OI l) ks).1 ∧ Fr nowhere H H') := by
  have hP : PsOk ⟨0, 2 * d - 1, d - 1⟩ := ⟨by show 2 * d - 1 = 2 * (d - 1) + 1; omega, by show 1 ≤ d - 1; omega, by show 2 * d - 1 ≤ 255; omega⟩
  have hpl0 := Pl.puts_length OI l
  obtain ⟨a, c, hu⟩ := hk.len
  subst hu
  refine fn_of Go.Proofs.Try.func74 rfl Go.Proofs.Try.ntmps74 ?_
  refine (show Go' _ _ _ _ 44 [(0, _), (1, _), (2, _)] [.code _] _ from ?_)
  refine Go'.seq ?_
  -- region 0 (map.go:139)
  refine Go'.region [(0, 0), (1, 0)] rfl ?_
  refine O.asg rfl rfl rfl rfl rfl ?_
  refine O.asg rfl rfl rfl rfl rfl ?_
  refine Pl.fin [(0, _), (1, _), (2, _), (6, _), (7, _)] ⟨rfl, rfl, rfl, rfl, rfl, trivial⟩ ?_
  refine Go'.seq ?_
  -- region 1 (map.go:140)
  refine Go'.region [(0, 0), (1, 0), (2, 2), (3, 0)] rfl ?_
  refine O.mv rfl rfl rfl rfl rfl ?_
  refine O.mv rfl rfl rfl rfl rfl ?_
  refine O.call rfl rfl rfl Go.Proofs.Try.call52 rfl (growMap_spec hd hi hll) ?_
  rintro _ H1 ⟨tr, S0, rfl, hM1, hF1, hS0⟩
  unfold ptr
  refine ⟨trivial, ?_⟩
  refine O.asg rfl rfl rfl rfl rfl ?_
  refine Pl.fin [(2, _), (6, _), (7, _), (8, _)] ⟨rfl, rfl, rfl, rfl, trivial⟩ ?_
  refine Go'.seq ?_
  -- region 2 (map.go:141)
  refine Go'.region [(0, 0)] rfl ?_
  refine O.asg rfl rfl rfl rfl rfl ?_
  refine Pl.fin [(2, _), (6, _), (7, _), (8, _), (9, _)] ⟨rfl, rfl, rfl, rfl, rfl, trivial⟩ ?_
  refine Go'.seq ?_
  refine Go'.seq ?_
  -- region 3 (map.go:142)
  refine Go'.region [(0, 0), (1, 0), (2, 0)] rfl ?_
  refine O.mv rfl rfl rfl rfl rfl ?_
  refine O.len rfl rfl rfl rfl Go.Proofs.Try.underlying53 rfl ?_
  refine O.mv rfl rfl rfl rfl rfl ?_
  refine Pl.fin [(6, _), (7, _), (8, _), (9, _), (15, _), (16, _), (17, _)] ⟨rfl, rfl, rfl, rfl, rfl, rfl, rfl, trivial⟩ ?_
  refine Go'.block ?_
  refine Go'.loop ?_
  refine Go'.keep [(8, _), (9, _), (15, _), (16, _), (17, _)] ⟨rfl, rfl, rfl, rfl, rfl, trivial⟩ ?_
  refine Go'.ind (σ := Nat × Value) (fun s => ks.length - s.1) (fun s H' => Fr nowhere H H' ∧ s.1 ≤ ks.length ∧ ∃ S Zo, MapM H' tr ⟨0, 2 * d - 1, d - 1⟩ S (Pl.runs Pl.popk (Pl.puts OI l) (ks.take s.1)).1 ∧ (∀ b, S b → H.size ≤ b) ∧ Acc EF Zo H' s.2 (Pl.runs Pl.popk (Pl.puts OI l) (ks.take s.1)).2 ∧ ∀ b, Zo b → H.size ≤ b ∧ b < H'.size ∧ ¬ S b)
    (fun s => [(8, .pointer (some ⟨tr, 0, none⟩)), (9, s.2), (15, .slice a ks.length c), (16, .int .i64 (ks.length : Int)), (17, .int .i64 (s.1 : Int))]) (0, .slice none 0 0) ⟨hF1, Nat.zero_le _, S0, fun _ => False, hM1, hS0, Acc.nil _ _ _, fun _ h => h.elim⟩ rfl ?_
  rintro ⟨j, sv⟩ H2 ⟨hF, hjl, S, Zo, hM, hS, hA, hZ⟩ ih
  simp only at hjl hM hA
  have hi2 := hk.fr hF
  have hsz := hF.size
  have hpl := Pl.runs_le Pl.popk_le (Pl.puts OI l) (ks.take j)
  have hlout := Pl.runs_len Pl.popk (Pl.puts OI l) (ks.take j)
  rw [List.length_take] at hlout
  refine Go'.seq ?_
  by_cases hlt : j < ks.length
  · skip
    obtain ⟨y, hy⟩ : ∃ y, ks[j]? = some y := ⟨ks[j], List.getElem?_eq_getElem hlt⟩
    obtain ⟨b, o, c', e, hr⟩ := hi2.at hy
    cases e
    have erun := Pl.runs_take Pl.popk (Pl.puts OI l) hy
    generalize hL : (Pl.runs Pl.popk (Pl.puts OI l) (ks.take j)).1 = L at *
    generalize hG : (Pl.runs Pl.popk (Pl.puts OI l) (ks.take j)).2 = G at *
    -- region 4 (map.go:142)
    refine Go'.region [(0, 0)] rfl ?_
    refine O.cmp rfl rfl rfl rfl rfl rfl (lssT (by omega)) ?_
    refine Pl.fin [(8, _), (9, _), (15, _), (16, _), (17, _), (18, _)] ⟨rfl, rfl, rfl, rfl, rfl, rfl, trivial⟩ ?_
    refine Go'.seq ?_
    refine Go'.condT rfl ?_
    refine Go'.skip ?_
    refine Go'.seq ?_
    refine Go'.block ?_
    refine Go'.seq ?_
    -- region 5 (map.go:142)
    refine Go'.region [(0, 0), (1, 1), (2, 0)] rfl ?_
    refine O.ix (j := j) rfl rfl rfl rfl Go.Proofs.Try.underlying53 Go.Proofs.Try.sizeOf4 rfl rfl (by omega) hlt ?_
    refine O.ld rfl rfl rfl (fun w => ⟨Go.Proofs.Try.isAgg4 w, Go.Proofs.Try.sizeOf4 w⟩) rfl (hr 0 _ rfl) ?_
    refine O.asg rfl rfl rfl rfl rfl ?_
    refine Pl.fin [(8, _), (9, _), (11, _), (15, _), (16, _), (17, _), (18, _)] ⟨rfl, rfl, rfl, rfl, rfl, rfl, rfl, trivial⟩ ?_
    refine Go'.seq ?_
    -- region 6 (map.go:143)
    refine Go'.region [(0, 0)] rfl ?_
    refine O.mv rfl rfl rfl rfl rfl ?_
    refine Pl.fin [(8, _), (9, _), (11, _), (15, _), (16, _), (17, _), (18, _), (21, _)] ⟨rfl, rfl, rfl, rfl, rfl, rfl, rfl, rfl, trivial⟩ ?_
    cases y
    · skip
      refine Go'.condF rfl ?_
      obtain ⟨pk, pv, pb, hpe, hpo⟩ := pv_ok (Pl.popk L false).2
      generalize hfo : (Pl.popk L false).2 = fo at *
      -- region 8 (map.go:146)
      refine Go'.region [(0, 0), (1, 0), (2, 2), (3, 0), (4, 0), (5, 0), (6, 2), (7, 2), (8, 2), (9, 0)] rfl ?_
      refine O.mv rfl rfl rfl rfl rfl ?_
      refine O.mv rfl rfl rfl rfl rfl ?_
      refine O.call rfl rfl rfl Go.Proofs.Try.call109 rfl (popMin_spec hP hM (by omega)) ?_
      rintro _ H5 ⟨hre, S', hM', hF', hS'⟩
      rw [hfo, hpe] at hre
      subst hre
      have hs5 := hF'.size
      replace hA := hA.fr hF' (fun b o hb hb2 hz => (hZ b hb2).2.2 hz)
      refine ⟨trivial, ?_⟩
      refine O.ext rfl rfl rfl rfl rfl rfl ?_
      refine O.ext rfl rfl rfl rfl rfl rfl ?_
      refine O.ext rfl rfl rfl rfl rfl rfl ?_
      refine O.call rfl rfl rfl Go.Proofs.Try.call54 rfl (pair_spec (x := (pk, pv)) (ok := pb)) ?_
      rintro _ H6 ⟨rfl, hF6⟩
      rw [hpo, FV_eq]
      have hs6 := hF6.size
      replace hM' := hM'.fr hF6 (fun _ _ _ => nw)
      replace hA := hA.fr hF6 (fun _ _ _ _ => nw)
      refine ⟨trivial, ?_⟩
      refine O.bsl (cs := (fvs fo)) rfl rfl rfl ⟨Go.Proofs.Try.underlying30, Go.Proofs.Try.sizeOf37, Go.Proofs.Try.zeroValue37, ⟨_, Go.Proofs.Try.typeInfo37, rfl⟩, rfl, by decide, by decide⟩ rfl (by decide) (by clear hpo hfo erun; cases fo <;> kernel_rfl) ?_
      intro H7 M7
      have hs7 := M7.size
      replace hM' := hM'.fr (M7.fr nowhere) (fun _ _ _ => nw)
      replace hA := hA.fr (M7.fr nowhere) (fun _ _ _ _ => nw)
      have m5 : Rd H7 H6.size 0 (row EF [fo]) := M7.rd _ [] (by simp [row, EF])
      refine ⟨trivial, ?_⟩
      refine O.appA (E := EF) (Y := [fo]) rfl rfl rfl ⟨Go.Proofs.Try.underlying30, Go.Proofs.Try.sizeOf37, Go.Proofs.Try.zeroValue37, ⟨_, Go.Proofs.Try.typeInfo37, rfl⟩, rfl, by decide, by decide⟩ rfl hA rfl ⟨_, _, _, rfl, m5⟩ (Nat.succ_pos _) (by rw [hlout]; exact Nat.le_trans (Nat.mul_le_mul_left _ (Nat.le_of_ble_eq_true (n := _) (m := 4096) rfl)) (by simp only [List.length_cons, List.length_nil]; omega)) (by rw [hlout]; simp only [List.length_cons, List.length_nil]; omega) ?_
      intro v8 H8 hA8 hF8 hs8
      have hS2 : ∀ b, S' b → ¬ Zo b := fun b hb hz => (hS' b hb).elim (hZ b hz).2.2 (fun h => by have := (hZ b hz).2.1; omega)
      have hlt5 : ∀ b, S' b → b < H7.size := hM'.lt
      have hM8 := hM'.fr hF8 (fun b _ hb => hS2 b hb)
      have hg8 := hF8.size
      refine ⟨trivial, ?_⟩
      refine O.asg rfl rfl rfl rfl rfl ?_
      refine Pl.fin [(8, _), (9, _), (11, _), (15, _), (16, _), (17, _), (18, _), (21, _)] ⟨rfl, rfl, rfl, rfl, rfl, rfl, rfl, rfl, trivial⟩ ?_
      refine Go'.inBlock ?_
      -- region 9 (map.go:142)
      refine Go'.region [(0, 0), (1, 0)] rfl ?_
      refine O.add (((j + 1 : Nat) : Int)) rfl rfl rfl rfl rfl rfl (by omega) (by omega) ?_
      refine O.mv rfl rfl rfl rfl rfl ?_
      refine Pl.fin [(8, _), (9, _), (11, _), (15, _), (16, _), (17, _), (18, _), (21, _)] ⟨rfl, rfl, rfl, rfl, rfl, rfl, rfl, rfl, trivial⟩ ?_
      refine Go'.keep [(8, _), (9, _), (15, _), (16, _), (17, _)] ⟨rfl, rfl, rfl, rfl, rfl, trivial⟩ ?_
      refine Go'.inLoop ?_
      exact ih (j + 1, v8) H8 ⟨(((hF.trans' hF' (fun _ _ _ h => h) (fun b o hb hz => by have h1 := hS b hz; omega)).trans hF6).trans (M7.fr nowhere)).trans' hF8 (fun _ _ _ h => h) (fun b o hb hz => by have h1 := (hZ b hz).1; omega), hlt, S', (fun b => Zo b ∨ (b = H7.size ∧ b < H8.size)), by
        simp only
        rw [erun]
        exact hM8, fun b hb => (hS' b hb).elim (hS b) (fun h => by omega), by
        simp only
        rw [erun]
        exact hA8, fun b hb => hb.elim (fun h => ⟨(hZ b h).1, by have := (hZ b h).2.1; omega, fun hs => hS2 b hs h⟩) (fun h => ⟨by omega, h.2, fun hs => by have := hlt5 b hs; omega⟩)⟩ (by simp only; omega)
    · skip
      refine Go'.condT rfl ?_
      obtain ⟨pk, pv, pb, hpe, hpo⟩ := pv_ok (Pl.popk L true).2
      generalize hfo : (Pl.popk L true).2 = fo at *
      -- region 7 (map.go:144)
      refine Go'.region [(0, 0), (1, 0), (2, 2), (3, 0), (4, 0), (5, 0), (6, 2), (7, 2), (8, 2), (9, 0)] rfl ?_
      refine O.mv rfl rfl rfl rfl rfl ?_
      refine O.mv rfl rfl rfl rfl rfl ?_
      refine O.call rfl rfl rfl Go.Proofs.Try.call108 rfl (popMax_spec hP hM (by omega)) ?_
      rintro _ H5 ⟨hre, S', hM', hF', hS'⟩
      rw [hfo, hpe] at hre
      subst hre
      have hs5 := hF'.size
      replace hA := hA.fr hF' (fun b o hb hb2 hz => (hZ b hb2).2.2 hz)
      refine ⟨trivial, ?_⟩
      refine O.ext rfl rfl rfl rfl rfl rfl ?_
      refine O.ext rfl rfl rfl rfl rfl rfl ?_
      refine O.ext rfl rfl rfl rfl rfl rfl ?_
      refine O.call rfl rfl rfl Go.Proofs.Try.call54 rfl (pair_spec (x := (pk, pv)) (ok := pb)) ?_
      rintro _ H6 ⟨rfl, hF6⟩
      rw [hpo, FV_eq]
      have hs6 := hF6.size
      replace hM' := hM'.fr hF6 (fun _ _ _ => nw)
      replace hA := hA.fr hF6 (fun _ _ _ _ => nw)
      refine ⟨trivial, ?_⟩
      refine O.bsl (cs := (fvs fo)) rfl rfl rfl ⟨Go.Proofs.Try.underlying30, Go.Proofs.Try.sizeOf37, Go.Proofs.Try.zeroValue37, ⟨_, Go.Proofs.Try.typeInfo37, rfl⟩, rfl, by decide, by decide⟩ rfl (by decide) (by clear hpo hfo erun; cases fo <;> kernel_rfl) ?_
      intro H7 M7
      have hs7 := M7.size
      replace hM' := hM'.fr (M7.fr nowhere) (fun _ _ _ => nw)
      replace hA := hA.fr (M7.fr nowhere) (fun _ _ _ _ => nw)
      have m5 : Rd H7 H6.size 0 (row EF [fo]) := M7.rd _ [] (by simp [row, EF])
      refine ⟨trivial, ?_⟩
      refine O.appA (E := EF) (Y := [fo]) rfl rfl rfl ⟨Go.Proofs.Try.underlying30, Go.Proofs.Try.sizeOf37, Go.Proofs.Try.zeroValue37, ⟨_, Go.Proofs.Try.typeInfo37, rfl⟩, rfl, by decide, by decide⟩ rfl hA rfl ⟨_, _, _, rfl, m5⟩ (Nat.succ_pos _) (by rw [hlout]; exact Nat.le_trans (Nat.mul_le_mul_left _ (Nat.le_of_ble_eq_true (n := _) (m := 4096) rfl)) (by simp only [List.length_cons, List.length_nil]; omega)) (by rw [hlout]; simp only [List.length_cons, List.length_nil]; omega) ?_
      intro v8 H8 hA8 hF8 hs8
      have hS2 : ∀ b, S' b → ¬ Zo b := fun b hb hz => (hS' b hb).elim (hZ b hz).2.2 (fun h => by have := (hZ b hz).2.1; omega)
      have hlt5 : ∀ b, S' b → b < H7.size := hM'.lt
      have hM8 := hM'.fr hF8 (fun b _ hb => hS2 b hb)
      have hg8 := hF8.size
      refine ⟨trivial, ?_⟩
      refine O.asg rfl rfl rfl rfl rfl ?_
      refine Pl.fin [(8, _), (9, _), (11, _), (15, _), (16, _), (17, _), (18, _), (21, _)] ⟨rfl, rfl, rfl, rfl, rfl, rfl, rfl, rfl, trivial⟩ ?_
      refine Go'.inBlock ?_
      -- region 9 (map.go:142)
      refine Go'.region [(0, 0), (1, 0)] rfl ?_
      refine O.add (((j + 1 : Nat) : Int)) rfl rfl rfl rfl rfl rfl (by omega) (by omega) ?_
      refine O.mv rfl rfl rfl rfl rfl ?_
      refine Pl.fin [(8, _), (9, _), (11, _), (15, _), (16, _), (17, _), (18, _), (21, _)] ⟨rfl, rfl, rfl, rfl, rfl, rfl, rfl, rfl, trivial⟩ ?_
      refine Go'.keep [(8, _), (9, _), (15, _), (16, _), (17, _)] ⟨rfl, rfl, rfl, rfl, rfl, trivial⟩ ?_
      refine Go'.inLoop ?_
      exact ih (j + 1, v8) H8 ⟨(((hF.trans' hF' (fun _ _ _ h => h) (fun b o hb hz => by have h1 := hS b hz; omega)).trans hF6).trans (M7.fr nowhere)).trans' hF8 (fun _ _ _ h => h) (fun b o hb hz => by have h1 := (hZ b hz).1; omega), hlt, S', (fun b => Zo b ∨ (b = H7.size ∧ b < H8.size)), by
        simp only
        rw [erun]
        exact hM8, fun b hb => (hS' b hb).elim (hS b) (fun h => by omega), by
        simp only
        rw [erun]
        exact hA8, fun b hb => hb.elim (fun h => ⟨(hZ b h).1, by have := (hZ b h).2.1; omega, fun hs => hS2 b hs h⟩) (fun h => ⟨by omega, h.2, fun hs => by have := hlt5 b hs; omega⟩)⟩ (by simp only; omega)
  · skip
    obtain rfl : j = ks.length := by omega
    rw [List.take_length] at hM hA hpl
    -- region 4 (map.go:142)
    refine Go'.region [(0, 0)] rfl ?_
    refine O.cmp rfl rfl rfl rfl rfl rfl (lssF (by omega)) ?_
    refine Pl.fin [(8, _), (9, _), (15, _), (16, _), (17, _), (18, _)] ⟨rfl, rfl, rfl, rfl, rfl, rfl, trivial⟩ ?_
    refine Go'.seq ?_
    refine Go'.condF rfl ?_
    refine Go'.exit rfl ?_
    refine Go'.seq ?_
    -- region 10 (map.go:149)
    refine Go'.region [(0, 0), (1, 0), (2, 2), (3, 0), (4, 0)] rfl ?_
    refine O.mv rfl rfl rfl rfl rfl ?_
    refine O.mv rfl rfl rfl rfl rfl ?_
    refine O.call rfl rfl rfl Go.Proofs.Try.call55 rfl (entries_spec hP hM (by omega)) ?_
    rintro v9 H9 ⟨hv9, hF9⟩
    refine ⟨trivial, ?_⟩
    refine O.asg rfl rfl rfl rfl rfl ?_
    refine O.asg rfl rfl rfl rfl rfl ?_
    refine Pl.fin [(6, _), (7, _)] ⟨rfl, rfl, trivial⟩ ?_
    refine Go'.ret (vs := [_, _]) Go.Proofs.Try.func74 Go.Proofs.Try.results74 ⟨rfl, rfl, trivial⟩ ?_
    exact ⟨_, _, rfl, (hA.fr hF9 (fun _ _ _ _ => nw)).out, hv9, hF.trans hF9⟩

theorem popk_cut (l : List (Int × Int)) (b : Bool) : ath l (bif b then (l.length : Int) - 1 else 0) = (Pl.popk l b).2 ∧ (ath l (bif b then (l.length : Int) - 1 else 0) ≠ none → cutl l (bif b then (l.length : Int) - 1 else 0) = (Pl.popk l b).1) ∧ ((Pl.popk l b).2 = none → (Pl.popk l b).1 = l) := by
  cases b with
  | true =>
    simp only [cond_true, Pl.popk]
    cases l with
    | nil => simp [ath]
    | cons x l =>
      have e : (((x :: l).length : Int) - 1).toNat = l.length := by simp
      have hz : ¬ (((x :: l).length : Int) - 1 < 0) := by simp
      refine ⟨?_, fun _ => ?_, fun h => by simp at h⟩
      · unfold ath
        rw [if_neg hz, e, List.getLast?_eq_getElem?]; simp
      · unfold cutl
        rw [if_neg hz, e, List.dropLast_eq_take]
        simp
  | false =>
    simp only [cond_false, Pl.popk]
    cases l with
    | nil => simp [ath]
    | cons x l => simp [ath, cutl]
theorem gpops_spec {B : World} {H : Mem} {v u z dg nl : Value} {ord : List Int} {l : List (Int × Int)} {ks : List Bool} (ho : InS EN H v ord) (hl : ord.length < 4611686018427387904) (hi : InS EJ H u l) (hll : l.length ≤ 4294967296) (hk : InS EB H z ks) (hkl : ks.length ≤ 4294967296) :
    Fn Try.prog B 75 [.agg #[v, dg, nl], u, z] H (fun r H' => ∃ v1 v2, r = .tuple #[v1, v2] ∧ OutS EF H' v1 (Pl.runs Pl.popk (Pl.puts (OO ord) l) ks).2 ∧ InS EJ H' v2 (Pl.runs Pl.popk (Pl.puts (OO ord) l) ks).1 ∧ Fr nowhere H H') := by
  obtain ⟨a, c, hu⟩ := hk.len
  subst hu
  have hpl0 := Pl.puts_length (OO ord) l
  refine fn_of Go.Proofs.Try.func75 rfl Go.Proofs.Try.ntmps75 ?_
  refine (show Go' _ _ _ _ 41 [(0, _), (1, _), (2, _)] [.code _] _ from ?_)
  refine Go'.seq ?_
  -- region 0 (tree.go:74)
  refine Go'.region [(0, 2), (1, 0), (2, 0)] rfl ?_
  refine O.box rfl rfl rfl rfl ?_
  intro H1 M1
  refine ⟨trivial, ?_⟩
  have hs1 := M1.size
  have hF1 := M1.fr nowhere
  replace ho := ho.fr hF1
  replace hi := hi.fr hF1
  replace hk := hk.fr hF1
  have mi : cl H1 H.size 0 = some v := (M1.cl 0).trans rfl
  refine O.asg rfl rfl rfl rfl rfl ?_
  refine O.asg rfl rfl rfl rfl rfl ?_
  refine Pl.fin [(1, _), (2, _), (3, _), (6, _), (7, _)] ⟨rfl, rfl, rfl, rfl, rfl, trivial⟩ ?_
  refine Go'.seq ?_
  -- region 1 (tree.go:75)
  refine Go'.region [(0, 0), (1, 1), (2, 0), (3, 2), (4, 0)] rfl ?_
  refine O.faz rfl rfl rfl rfl ⟨_, _, _, Go.Proofs.Try.underlying58, rfl, rfl, Go.Proofs.Try.sizeOf39⟩ rfl ?_
  refine O.ld rfl rfl rfl (fun w => ⟨Go.Proofs.Try.isAgg39 w, Go.Proofs.Try.sizeOf39 w⟩) rfl mi ?_
  refine O.mv rfl rfl rfl rfl rfl ?_
  refine O.call rfl rfl rfl Go.Proofs.Try.call47 rfl (tree_spec ho hl hi hll) ?_
  rintro iv0 H2 ⟨hv0, hF2⟩
  have hs2 := hF2.size
  replace hk := hk.fr hF2
  have hF12 := hF1.trans hF2
  clear hi ho mi
  refine ⟨trivial, ?_⟩
  refine O.asg rfl rfl rfl rfl rfl ?_
  refine Pl.fin [(2, _), (6, _), (7, _), (8, _)] ⟨rfl, rfl, rfl, rfl, trivial⟩ ?_
  refine Go'.seq ?_
  -- region 2 (tree.go:76)
  refine Go'.region [(0, 0)] rfl ?_
  refine O.asg rfl rfl rfl rfl rfl ?_
  refine Pl.fin [(2, _), (6, _), (7, _), (8, _), (9, _)] ⟨rfl, rfl, rfl, rfl, rfl, trivial⟩ ?_
  refine Go'.seq ?_
  refine Go'.seq ?_
  -- region 3 (tree.go:77)
  refine Go'.region [(0, 0), (1, 0), (2, 0)] rfl ?_
  refine O.mv rfl rfl rfl rfl rfl ?_
  refine O.len rfl rfl rfl rfl Go.Proofs.Try.underlying53 rfl ?_
  refine O.mv rfl rfl rfl rfl rfl ?_
  refine Pl.fin [(6, _), (7, _), (8, _), (9, _), (18, _), (19, _), (20, _)] ⟨rfl, rfl, rfl, rfl, rfl, rfl, rfl, trivial⟩ ?_
  refine Go'.block ?_
  refine Go'.loop ?_
  refine Go'.keep [(8, _), (9, _), (18, _), (19, _), (20, _)] ⟨rfl, rfl, rfl, rfl, rfl, trivial⟩ ?_
  refine Go'.ind (σ := Nat × Value × Value × (Nat → Prop)) (fun s => ks.length - s.1) (fun s H' => Fr nowhere H2 H' ∧ s.1 ≤ ks.length ∧ Acc EF s.2.2.2 H' s.2.1 (Pl.runs Pl.popk (Pl.puts (OO ord) l) (ks.take s.1)).2 ∧ ((s.2.2.1 = iv0 ∧ (Pl.runs Pl.popk (Pl.puts (OO ord) l) (ks.take s.1)).1 = Pl.puts (OO ord) l) ∨ Acc EJ (fun b => ¬ s.2.2.2 b) H' s.2.2.1 (Pl.runs Pl.popk (Pl.puts (OO ord) l) (ks.take s.1)).1) ∧ ∀ b, s.2.2.2 b → H2.size ≤ b ∧ b < H'.size)
    (fun s => [(8, s.2.2.1), (9, s.2.1), (18, .slice a ks.length c), (19, .int .i64 (ks.length : Int)), (20, .int .i64 (s.1 : Int))]) (0, .slice none 0 0, iv0, fun _ => False) ⟨Fr.refl _ _, Nat.zero_le _, Acc.nil _ _ _, .inl ⟨rfl, rfl⟩, fun _ h => h.elim⟩ rfl ?_
  rintro ⟨j, sv, iv, Zo⟩ H3 ⟨hF, hjl, hA, hB, hZ⟩ ih
  simp only at hjl hA hB hZ
  have hi2 := hk.fr hF
  have hsz := hF.size
  have hpl := Pl.runs_le Pl.popk_le (Pl.puts (OO ord) l) (ks.take j)
  have hlout := Pl.runs_len Pl.popk (Pl.puts (OO ord) l) (ks.take j)
  rw [List.length_take] at hlout
  have hin : InS EJ H3 iv (Pl.runs Pl.popk (Pl.puts (OO ord) l) (ks.take j)).1 := by
    rcases hB with ⟨e1, e2⟩ | hB
    · rw [e1, e2]; exact hv0.inS.fr hF
    · exact hB.inS
  refine Go'.seq ?_
  by_cases hlt : j < ks.length
  · skip
    obtain ⟨y, hy⟩ : ∃ y, ks[j]? = some y := ⟨ks[j], List.getElem?_eq_getElem hlt⟩
    obtain ⟨b, o, c', e, hr⟩ := hi2.at hy
    cases e
    have erun := Pl.runs_take Pl.popk (Pl.puts (OO ord) l) hy
    generalize hL : (Pl.runs Pl.popk (Pl.puts (OO ord) l) (ks.take j)).1 = L at *
    generalize hG : (Pl.runs Pl.popk (Pl.puts (OO ord) l) (ks.take j)).2 = G at *
    obtain ⟨hp1, hp2, hp3⟩ := popk_cut L y
    obtain ⟨ia, ic, hiv⟩ := hin.len
    -- region 4 (tree.go:77)
    refine Go'.region [(0, 0)] rfl ?_
    refine O.cmp rfl rfl rfl rfl rfl rfl (lssT (by omega)) ?_
    refine Pl.fin [(8, _), (9, _), (18, _), (19, _), (20, _), (21, _)] ⟨rfl, rfl, rfl, rfl, rfl, rfl, trivial⟩ ?_
    refine Go'.seq ?_
    refine Go'.condT rfl ?_
    refine Go'.skip ?_
    refine Go'.seq ?_
    refine Go'.block ?_
    refine Go'.seq ?_
    -- region 5 (tree.go:77)
    refine Go'.region [(0, 0), (1, 1), (2, 0)] rfl ?_
    refine O.ix (j := j) rfl rfl rfl rfl Go.Proofs.Try.underlying53 Go.Proofs.Try.sizeOf4 rfl rfl (by omega) hlt ?_
    refine O.ld rfl rfl rfl (fun w => ⟨Go.Proofs.Try.isAgg4 w, Go.Proofs.Try.sizeOf4 w⟩) rfl (hr 0 _ rfl) ?_
    refine O.asg rfl rfl rfl rfl rfl ?_
    refine Pl.fin [(8, _), (9, _), (11, _), (18, _), (19, _), (20, _), (21, _)] ⟨rfl, rfl, rfl, rfl, rfl, rfl, rfl, trivial⟩ ?_
    refine Go'.seq ?_
    -- region 6 (tree.go:78)
    refine Go'.region [(0, 0)] rfl ?_
    refine O.asg rfl rfl rfl rfl rfl ?_
    refine Pl.fin [(8, _), (9, _), (11, _), (12, _), (18, _), (19, _), (20, _), (21, _)] ⟨rfl, rfl, rfl, rfl, rfl, rfl, rfl, rfl, trivial⟩ ?_
    refine Go'.seq ?_
    refine Go'.seq ?_
    -- region 7 (tree.go:79)
    refine Go'.region [(0, 0)] rfl ?_
    refine O.mv rfl rfl rfl rfl rfl ?_
    refine Pl.fin [(8, _), (9, _), (11, _), (12, _), (18, _), (19, _), (20, _), (21, _), (24, _)] ⟨rfl, rfl, rfl, rfl, rfl, rfl, rfl, rfl, rfl, trivial⟩ ?_
    refine Go'.join (σ := Unit) (fun _ H' => H' = H3) (fun _ => [(8, iv), (9, sv), (12, .int .i64 (bif y then (L.length : Int) - 1 else 0)), (18, .slice (some ⟨b, o, none⟩) ks.length c), (19, .int .i64 (ks.length : Int)), (20, .int .i64 (j : Int))]) ?_ ?_
    rotate_left
    · intro tail
      cases y
      · skip
        refine Go'.condF rfl ?_
        refine Go'.skip ?_
        refine Go'.keep [(8, _), (9, _), (12, _), (18, _), (19, _), (20, _)] ⟨rfl, rfl, rfl, rfl, rfl, rfl, trivial⟩ ?_
        exact tail () H3 rfl
      · skip
        refine Go'.condT rfl ?_
        subst hiv
        -- region 8 (tree.go:80)
        refine Go'.region [(0, 0), (1, 0), (2, 0), (3, 0)] rfl ?_
        refine O.mv rfl rfl rfl rfl rfl ?_
        refine O.len rfl rfl rfl rfl Go.Proofs.Try.underlying22 rfl ?_
        refine O.sub (((L.length : Int) - 1)) rfl rfl rfl rfl rfl rfl rfl (by omega) ?_
        refine O.asg rfl rfl rfl rfl rfl ?_
        refine Pl.fin [(8, _), (9, _), (11, _), (12, _), (18, _), (19, _), (20, _), (21, _), (24, _)] ⟨rfl, rfl, rfl, rfl, rfl, rfl, rfl, rfl, rfl, trivial⟩ ?_
        refine Go'.keep [(8, _), (9, _), (12, _), (18, _), (19, _), (20, _)] ⟨rfl, rfl, rfl, rfl, rfl, rfl, trivial⟩ ?_
        exact tail () H3 rfl
    intro _ H' hHH
    have e : H3 = H' := hHH.symm
    subst e
    clear hHH
    refine Go'.seq ?_
    generalize hzz : (bif y then (L.length : Int) - 1 else 0) = zz at *
    -- region 9 (tree.go:82)
    refine Go'.region [(0, 2)] rfl ?_
    refine O.alloc rfl rfl rfl Go.Proofs.Try.zeroValue37 ?_
    intro H6 M6
    refine ⟨trivial, ?_⟩
    have hs6 := M6.size
    have m12 : Wr H6 H3.size 0 3 := M6.wr 3 (by decide)
    have hf6 : Fr nowhere H3 H6 := M6.fr nowhere
    have hin6 := hin.fr hf6
    have hA6 := hA.fr hf6 (fun _ _ _ _ => nw)
    have hB6 := hB.imp id (fun h => (h.mono (Y := fun b => ¬ Zo b ∧ b < H3.size) (fun b hb hz => ⟨hz, hb⟩)).fr hf6 (fun _ _ _ _ => nw))
    refine Pl.fin [(8, _), (9, _), (12, _), (13, _), (18, _), (19, _), (20, _)] ⟨rfl, rfl, rfl, rfl, rfl, rfl, rfl, trivial⟩ ?_
    refine Go'.seq ?_
    -- region 10 (tree.go:83)
    refine Go'.region [(0, 0), (1, 0), (2, 2), (3, 0), (4, 0), (5, 0), (6, 0), (7, 2)] rfl ?_
    refine O.mv rfl rfl rfl rfl rfl ?_
    refine O.mv rfl rfl rfl rfl rfl ?_
    refine O.call rfl rfl rfl Go.Proofs.Try.call110 rfl (cut_specA zz hin6 (by omega)) ?_
    rintro _ H7 ⟨iv2, rfl, hB7, hF7⟩
    have hs7 := hF7.size
    replace m12 := hF7.wr m12
    have hA7 := hA6.fr hF7 (fun _ _ _ _ => nw)
    have hB7 : (iv2 = iv0 ∧ (Pl.popk L y).1 = Pl.puts (OO ord) l) ∨ Acc EJ (fun b => ¬ Zo b ∧ b ≠ H3.size) H7 iv2 (Pl.popk L y).1 := by
      by_cases hno : ath L zz = none
      · have e9 := hp3 (by rw [← hp1]; exact hno)
        rw [e9]
        rcases hB7 with ⟨_, rfl⟩ | hB7
        · rcases hB6 with h | h
          · exact .inl h
          · exact .inr ((h.fr hF7 (fun _ _ _ _ => nw)).mono (fun b hb hz => ⟨hz.1, by have := hz.2; omega⟩))
        · have hcu : cutl L zz = L := by
            unfold ath at hno
            unfold cutl
            split at hno
            · rw [if_pos (by assumption)]
            · rw [if_neg (by assumption), List.take_of_length_le (List.getElem?_eq_none_iff.1 hno), List.drop_of_length_le (by have := List.getElem?_eq_none_iff.1 hno; omega), List.append_nil]
          rw [hcu] at hB7
          exact .inr (hB7.mono fun b _ hz => ⟨fun h => by have := (hZ b h).2; omega, by omega⟩)
      · rcases hB7 with ⟨h, _⟩ | hB7
        · exact (hno h).elim
        · rw [hp2 hno] at hB7
          exact .inr (hB7.mono fun b _ hz => ⟨fun h => by have := (hZ b h).2; omega, by omega⟩)
    rw [hp1]
    generalize hgo : (Pl.popk L y).2 = fo at *
    rw [FV_eq]
    refine ⟨trivial, ?_⟩
    refine O.mv rfl rfl rfl rfl rfl ?_
    refine O.ext rfl rfl rfl rfl rfl rfl ?_
    refine O.ext rfl rfl rfl rfl rfl rfl ?_
    refine O.asg rfl rfl rfl rfl rfl ?_
    refine O.st (vs := (fvs fo)) rfl rfl Go.Proofs.Try.sizeOf37 rfl rfl rfl (by cases fo <;> rfl) (by cases fo <;> rfl) m12 ?_
    intro H8 W8
    have hs8 := W8.size
    have hA8 := hA7.fr W8.fr (fun b o hb hz hr => by have h1 := hr.1; have h2 := hZ b hz; omega)
    have hB8 := hB7.imp id (fun h => h.fr W8.fr (fun b o hb hz hr => hz.2 hr.1))
    have hx8 : Rd H8 H3.size 0 (fvs fo) := W8.all
    have hf8 : Fr nowhere H3 H8 := (hf6.trans hF7).trans' W8.fr (fun _ _ _ h => h) (fun b o hb hz => by have h1 := hz.1; omega)
    refine ⟨trivial, ?_⟩
    refine Pl.fin [(8, _), (9, _), (12, _), (13, _), (18, _), (19, _), (20, _)] ⟨rfl, rfl, rfl, rfl, rfl, rfl, rfl, trivial⟩ ?_
    -- region 11 (tree.go:84)
    refine Go'.region [(0, 0), (1, 1), (2, 2), (3, 2), (4, 0)] rfl ?_
    refine O.mv rfl rfl rfl rfl rfl ?_
    refine O.lds rfl rfl rfl (fun w => ⟨Go.Proofs.Try.isAgg37 w, Go.Proofs.Try.sizeOf37 w⟩) rfl (by cases fo <;> rfl) hx8 ?_
    refine O.bsl (cs := (fvs fo)) rfl rfl rfl ⟨Go.Proofs.Try.underlying30, Go.Proofs.Try.sizeOf37, Go.Proofs.Try.zeroValue37, ⟨_, Go.Proofs.Try.typeInfo37, rfl⟩, rfl, by decide, by decide⟩ rfl (by decide) (by clear hgo hp1 hp2 hp3 erun; cases fo <;> kernel_rfl) ?_
    intro H9 M9
    have hs9 := M9.size
    have hA9 := hA8.fr (M9.fr nowhere) (fun _ _ _ _ => nw)
    have hB9 := hB8.imp id (fun h => h.fr (M9.fr nowhere) (fun _ _ _ _ => nw))
    have m5 : Rd H9 H8.size 0 (row EF [fo]) := M9.rd _ [] (by simp [row, EF])
    refine ⟨trivial, ?_⟩
    refine O.appA (E := EF) (Y := [fo]) rfl rfl rfl ⟨Go.Proofs.Try.underlying30, Go.Proofs.Try.sizeOf37, Go.Proofs.Try.zeroValue37, ⟨_, Go.Proofs.Try.typeInfo37, rfl⟩, rfl, by decide, by decide⟩ rfl hA9 rfl ⟨_, _, _, rfl, m5⟩ (Nat.succ_pos _) (by rw [hlout]; exact Nat.le_trans (Nat.mul_le_mul_left _ (Nat.le_of_ble_eq_true (n := _) (m := 4096) rfl)) (by simp only [List.length_cons, List.length_nil]; omega)) (by rw [hlout]; simp only [List.length_cons, List.length_nil]; omega) ?_
    intro v9 H10 hA10 hF10 hs10
    have hB10 : (iv2 = iv0 ∧ (Pl.popk L y).1 = Pl.puts (OO ord) l) ∨ Acc EJ (fun b => ¬ (Zo b ∨ (b = H9.size ∧ b < H10.size))) H10 iv2 (Pl.popk L y).1 := hB9.imp id (fun h => ((h.mono (Y := fun b => ¬ Zo b ∧ b < H9.size) (fun b hb hz => ⟨hz.1, hb⟩)).fr hF10 (fun b o hb hz hr => hz.1 hr)).mono (fun b hb hz h => h.elim hz.1 (fun h => by have := hz.2; omega)))
    have hg10 := hF10.size
    refine ⟨trivial, ?_⟩
    refine O.asg rfl rfl rfl rfl rfl ?_
    refine Pl.fin [(8, _), (9, _), (12, _), (13, _), (18, _), (19, _), (20, _)] ⟨rfl, rfl, rfl, rfl, rfl, rfl, rfl, trivial⟩ ?_
    refine Go'.inBlock ?_
    -- region 12 (tree.go:77)
    refine Go'.region [(0, 0), (1, 0)] rfl ?_
    refine O.add (((j + 1 : Nat) : Int)) rfl rfl rfl rfl rfl rfl (by omega) (by omega) ?_
    refine O.mv rfl rfl rfl rfl rfl ?_
    refine Pl.fin [(8, _), (9, _), (12, _), (13, _), (18, _), (19, _), (20, _)] ⟨rfl, rfl, rfl, rfl, rfl, rfl, rfl, trivial⟩ ?_
    refine Go'.keep [(8, _), (9, _), (18, _), (19, _), (20, _)] ⟨rfl, rfl, rfl, rfl, rfl, trivial⟩ ?_
    refine Go'.inLoop ?_
    refine ih (j + 1, v9, iv2, fun b => Zo b ∨ (b = H9.size ∧ b < H10.size)) H10 ⟨((hF.trans hf8).trans (M9.fr nowhere)).trans' hF10 (fun _ _ _ h => h) (fun b o hb hz => by have h1 := (hZ b hz).1; omega), hlt, ?_, ?_, fun b hb => hb.elim (fun h => ⟨(hZ b h).1, by have := (hZ b h).2; omega⟩) (fun h => ⟨by omega, h.2⟩)⟩ (by simp only; omega)
    · simp only
      rw [erun]
      exact hA10
    · simp only
      rw [erun]
      exact hB10
  · skip
    obtain rfl : j = ks.length := by omega
    rw [List.take_length] at hA hin
    -- region 4 (tree.go:77)
    refine Go'.region [(0, 0)] rfl ?_
    refine O.cmp rfl rfl rfl rfl rfl rfl (lssF (by omega)) ?_
    refine Pl.fin [(8, _), (9, _), (18, _), (19, _), (20, _), (21, _)] ⟨rfl, rfl, rfl, rfl, rfl, rfl, trivial⟩ ?_
    refine Go'.seq ?_
    refine Go'.condF rfl ?_
    refine Go'.exit rfl ?_
    refine Go'.seq ?_
    -- region 13 (tree.go:86)
    refine Go'.region [(0, 0), (1, 0), (2, 0), (3, 0)] rfl ?_
    refine O.mv rfl rfl rfl rfl rfl ?_
    refine O.mv rfl rfl rfl rfl rfl ?_
    refine O.asg rfl rfl rfl rfl rfl ?_
    refine O.asg rfl rfl rfl rfl rfl ?_
    refine Pl.fin [(6, _), (7, _)] ⟨rfl, rfl, trivial⟩ ?_
    refine Go'.ret (vs := [_, _]) Go.Proofs.Try.func75 Go.Proofs.Try.results75 ⟨rfl, rfl, trivial⟩ ?_
    exact ⟨_, _, rfl, hA.out, hin, hF12.trans hF⟩

end Go.Bt
namespace Go.Bt
open Go Go.Proofs
set_option maxRecDepth 20000
set_option maxHeartbeats 4000000
set_option linter.unusedVariables false

theorem lawMPops_spec {B : World} {H : Mem} {d : Nat} {u v : Value} {l : List (Int × Int)} {ks : List Bool} (hd : 2 ≤ d ∧ d ≤ 128) (hi : InS EJ H u l) (hll : l.length ≤ 4294967296) (hk : InS EB H v ks) (hkl : ks.length ≤ 4294967296) :
    Fn Try.prog B 43 [.int .i64 (d : Int), u, v] H (fun r H' => r = .bool true ∧ Fr nowhere H H') := by
  have hpl := Pl.puts_length OI l
  have h1l := Pl.runs_len Pl.popk (Pl.puts OI l) ks
  have h2l := Pl.runs_le Pl.popk_le (Pl.puts OI l) ks
  refine fn_of Go.Proofs.Try.func43 rfl Go.Proofs.Try.ntmps43 ?_
  refine (show Go' _ _ _ _ 33 [(0, _), (1, _), (2, _)] [.code _] _ from ?_)
  refine Go'.seq ?_
  -- region 0 (exact.go:1290)
  refine Go'.region [(0, 0)] rfl ?_
  refine O.asg rfl rfl rfl rfl rfl ?_
  refine Pl.fin [(0, _), (1, _), (2, _), (6, _)] ⟨rfl, rfl, rfl, rfl, trivial⟩ ?_
  refine Go'.seq ?_
  -- region 1 (exact.go:1291)
  refine Go'.region [(0, 0), (1, 0), (2, 0), (3, 2), (4, 0), (5, 0), (6, 0), (7, 0), (8, 0)] rfl ?_
  refine O.mv rfl rfl rfl rfl rfl ?_
  refine O.mv rfl rfl rfl rfl rfl ?_
  refine O.mv rfl rfl rfl rfl rfl ?_
  refine O.call rfl rfl rfl Go.Proofs.Try.call74 rfl (mpops_spec hd hi hll hk hkl) ?_
  rintro _ H1 ⟨v1, v2, rfl, h1, h2, hF1⟩
  refine ⟨trivial, ?_⟩
  refine O.mv rfl rfl rfl rfl rfl ?_
  refine O.ext rfl rfl rfl rfl rfl rfl ?_
  refine O.ext rfl rfl rfl rfl rfl rfl ?_
  refine O.asg rfl rfl rfl rfl rfl ?_
  refine O.asg rfl rfl rfl rfl rfl ?_
  refine Pl.fin [(1, _), (2, _), (6, _), (7, _), (8, _)] ⟨rfl, rfl, rfl, rfl, rfl, trivial⟩ ?_
  refine Go'.seq ?_
  -- region 2 (exact.go:1292)
  refine Go'.region [(0, 0), (1, 0), (2, 0), (3, 2), (4, 0), (5, 0), (6, 0), (7, 0), (8, 0)] rfl ?_
  refine O.bld (cs := [.slice none 0 0, .int .i64 0, .bool false]) rfl rfl rfl rfl (st58) rfl (by kernel_rfl) ?_
  refine O.mv rfl rfl rfl rfl rfl ?_
  refine O.mv rfl rfl rfl rfl rfl ?_
  refine O.call rfl rfl rfl Go.Proofs.Try.call75 rfl (gpops_spec (ord := []) (InS.nil EN H1) (by simp) (hi.fr hF1) hll (hk.fr hF1) hkl) ?_
  rintro _ H3 ⟨v3, v4, rfl, h3, h4, hF3⟩
  rw [OO_nil] at h3 h4
  refine ⟨trivial, ?_⟩
  refine O.mv rfl rfl rfl rfl rfl ?_
  refine O.ext rfl rfl rfl rfl rfl rfl ?_
  refine O.ext rfl rfl rfl rfl rfl rfl ?_
  refine O.asg rfl rfl rfl rfl rfl ?_
  refine O.asg rfl rfl rfl rfl rfl ?_
  refine Pl.fin [(6, _), (7, _), (8, _), (9, _), (10, _)] ⟨rfl, rfl, rfl, rfl, rfl, trivial⟩ ?_
  refine Go'.seq ?_
  -- region 3 (exact.go:1293)
  refine Go'.region [(0, 0), (1, 0), (2, 2), (3, 0), (4, 0), (5, 0), (6, 2), (7, 0), (8, 0)] rfl ?_
  refine O.mv rfl rfl rfl rfl rfl ?_
  refine O.mv rfl rfl rfl rfl rfl ?_
  refine O.callQ rfl rfl rfl Go.Proofs.Try.call26 rfl (eqFounds_spec (h1.inS.fr hF3) h3.inS (by omega)) trivial ?_
  refine O.mv rfl rfl rfl rfl rfl ?_
  refine O.mv rfl rfl rfl rfl rfl ?_
  refine O.mv rfl rfl rfl rfl rfl ?_
  refine O.callQ rfl rfl rfl Go.Proofs.Try.call27 rfl (eqItems_spec (h2.inS.fr hF3) h4 (by omega)) trivial ?_
  refine O.pick rfl rfl rfl rfl rfl rfl ?_
  refine O.asg rfl rfl rfl rfl rfl ?_
  refine Pl.fin [(6, _)] ⟨rfl, trivial⟩ ?_
  refine Go'.ret (vs := [_]) Go.Proofs.Try.func43 Go.Proofs.Try.results43 ⟨rfl, trivial⟩ ?_
  exact ⟨rfl, hF1.trans hF3⟩

theorem fnExactMPops {B : World} {H : Mem} {z : Int} {u v : Value} {l : List (Int × Int)} {ks : List Bool} (hi : InS EJ H u l) (hk : InS EB H v ks) :
    Fn Try.prog B 13 [.int .i64 z, u, v] H (fun r H' => r = .bool true ∧ Fr nowhere H H') := by
  obtain ⟨a, c, hu⟩ := hi.len
  subst hu
  obtain ⟨a2, c2, hu⟩ := hk.len
  subst hu
  have hi0 := hi
  have hk0 := hk
  refine fn_of Go.Proofs.Try.func13 rfl Go.Proofs.Try.ntmps13 ?_
  refine (show Go' _ _ _ _ 33 [(0, _), (1, _), (2, _)] [.code _] _ from ?_)
  refine Go'.seq ?_
  -- region 0 (exact.go:1283)
  refine Go'.region [(0, 0)] rfl ?_
  refine O.asg rfl rfl rfl rfl rfl ?_
  refine Pl.fin [(0, _), (1, _), (2, _), (6, _)] ⟨rfl, rfl, rfl, rfl, trivial⟩ ?_
  refine Go'.seq ?_
  refine Go'.seq ?_
  by_cases hbig : (2147483647 : Int) < (l.length : Int)
  · skip
    -- region 1 (exact.go:1284)
    refine Go'.region [(0, 0), (1, 0), (2, 0), (3, 0), (4, 0), (5, 0), (6, 0), (7, 0)] rfl ?_
    refine O.mv rfl rfl rfl rfl rfl ?_
    refine O.len rfl rfl rfl rfl Go.Proofs.Try.underlying22 rfl ?_
    refine O.cmp rfl rfl rfl rfl rfl rfl (gtrT (by omega)) ?_
    refine O.mv rfl rfl rfl rfl rfl ?_
    refine Pl.pass rfl rfl rfl rfl ?_
    refine Pl.pass rfl rfl rfl rfl ?_
    refine Pl.pass rfl rfl rfl rfl ?_
    refine O.pick rfl rfl rfl rfl rfl rfl ?_
    refine Pl.fin [(0, _), (1, _), (2, _), (6, _), (14, _)] ⟨rfl, rfl, rfl, rfl, rfl, trivial⟩ ?_
    refine Go'.condT rfl ?_
    refine Go'.seq ?_
    -- region 2 (exact.go:1285)
    refine Go'.region [(0, 0)] rfl ?_
    refine O.asg rfl rfl rfl rfl rfl ?_
    refine Pl.fin [(0, _), (1, _), (2, _), (6, _)] ⟨rfl, rfl, rfl, rfl, trivial⟩ ?_
    refine Go'.ret (vs := [_]) Go.Proofs.Try.func13 Go.Proofs.Try.results13 ⟨rfl, trivial⟩ ?_
    exact ⟨rfl, Fr.refl _ _⟩
  by_cases hbig2 : (2147483647 : Int) < (ks.length : Int)
  · skip
    -- region 1 (exact.go:1284)
    refine Go'.region [(0, 0), (1, 0), (2, 0), (3, 0), (4, 0), (5, 0), (6, 0), (7, 0)] rfl ?_
    refine O.mv rfl rfl rfl rfl rfl ?_
    refine O.len rfl rfl rfl rfl Go.Proofs.Try.underlying22 rfl ?_
    refine O.cmp rfl rfl rfl rfl rfl rfl (gtrF (by omega)) ?_
    refine O.mv rfl rfl rfl rfl rfl ?_
    refine O.mv rfl rfl rfl rfl rfl ?_
    refine O.len rfl rfl rfl rfl Go.Proofs.Try.underlying53 rfl ?_
    refine O.cmp rfl rfl rfl rfl rfl rfl (gtrT (by omega)) ?_
    refine O.pick rfl rfl rfl rfl rfl rfl ?_
    refine Pl.fin [(0, _), (1, _), (2, _), (6, _), (14, _)] ⟨rfl, rfl, rfl, rfl, rfl, trivial⟩ ?_
    refine Go'.condT rfl ?_
    refine Go'.seq ?_
    -- region 2 (exact.go:1285)
    refine Go'.region [(0, 0)] rfl ?_
    refine O.asg rfl rfl rfl rfl rfl ?_
    refine Pl.fin [(0, _), (1, _), (2, _), (6, _)] ⟨rfl, rfl, rfl, rfl, trivial⟩ ?_
    refine Go'.ret (vs := [_]) Go.Proofs.Try.func13 Go.Proofs.Try.results13 ⟨rfl, trivial⟩ ?_
    exact ⟨rfl, Fr.refl _ _⟩
  -- region 1 (exact.go:1284)
  refine Go'.region [(0, 0), (1, 0), (2, 0), (3, 0), (4, 0), (5, 0), (6, 0), (7, 0)] rfl ?_
  refine O.mv rfl rfl rfl rfl rfl ?_
  refine O.len rfl rfl rfl rfl Go.Proofs.Try.underlying22 rfl ?_
  refine O.cmp rfl rfl rfl rfl rfl rfl (gtrF (by omega)) ?_
  refine O.mv rfl rfl rfl rfl rfl ?_
  refine O.mv rfl rfl rfl rfl rfl ?_
  refine O.len rfl rfl rfl rfl Go.Proofs.Try.underlying53 rfl ?_
  refine O.cmp rfl rfl rfl rfl rfl rfl (gtrF (by omega)) ?_
  refine O.pick rfl rfl rfl rfl rfl rfl ?_
  refine Pl.fin [(0, _), (1, _), (2, _), (6, _), (14, _)] ⟨rfl, rfl, rfl, rfl, rfl, trivial⟩ ?_
  refine Go'.condF rfl ?_
  refine Go'.skip ?_
  refine Go'.seq ?_
  cases hfz : fitsb z
  · skip
    -- region 3 (exact.go:1287)
    refine Go'.region [(0, 2), (1, 2), (2, 2), (3, 0), (4, 0), (5, 2), (6, 0), (7, 0), (8, 0), (9, 0), (10, 0), (11, 0), (12, 0), (13, 0), (14, 0), (15, 2), (16, 0), (17, 0), (18, 0)] rfl ?_
    refine O.call rfl rfl rfl Go.Proofs.Try.call15 rfl exItems_spec ?_
    rintro ev H1 ⟨hev, hF1⟩
    refine ⟨trivial, ?_⟩
    refine O.bsl (cs := [.bool true, .bool false]) rfl rfl rfl ⟨Go.Proofs.Try.underlying53, Go.Proofs.Try.sizeOf4, Go.Proofs.Try.zeroValue4, ⟨_, Go.Proofs.Try.typeInfo4, rfl⟩, rfl, by decide, by decide⟩ rfl (by decide) (by kernel_rfl) ?_
    intro H2 M2
    have hF2 := hF1.trans (M2.fr nowhere)
    replace hev := hev.fr (M2.fr nowhere)
    have hek : InS EB H2 (.slice (some ⟨H1.size, 0, none⟩) 2 2) [true, false] := .inl ⟨_, _, _, rfl, Nat.le_refl _, M2.rd _ [] rfl⟩
    refine ⟨trivial, ?_⟩
    refine O.call rfl rfl rfl Go.Proofs.Try.call43 rfl (lawMPops_spec (d := 2) (by decide) hev (by decide) hek (by decide)) ?_
    rintro _ H3 ⟨rfl, hF3⟩
    have hF := hF2.trans hF3
    have hi2 := hi0.fr hF
    have hk2 := hk0.fr hF
    refine ⟨trivial, ?_⟩
    refine O.mv rfl rfl rfl rfl rfl ?_
    refine O.mv rfl rfl rfl rfl rfl ?_
    refine O.callQ rfl rfl rfl Go.Proofs.Try.call16 rfl (fits_spec' hfz) trivial ?_
    refine O.mv rfl rfl rfl rfl rfl ?_
    refine Pl.pass rfl rfl rfl rfl ?_
    refine Pl.pass rfl rfl rfl rfl ?_
    refine O.pick rfl rfl rfl rfl rfl rfl ?_
    refine O.not rfl rfl rfl rfl rfl ?_
    refine O.mv rfl rfl rfl rfl rfl ?_
    refine Pl.pass rfl rfl rfl rfl ?_
    refine Pl.pass rfl rfl rfl rfl ?_
    refine Pl.pass rfl rfl rfl rfl ?_
    refine Pl.pass2 rfl rfl rfl rfl trivial ?_
    refine O.pick rfl rfl rfl rfl rfl rfl ?_
    refine O.pick rfl rfl rfl rfl rfl rfl ?_
    refine O.asg rfl rfl rfl rfl rfl ?_
    refine Pl.fin [(6, _)] ⟨rfl, trivial⟩ ?_
    refine Go'.ret (vs := [_]) Go.Proofs.Try.func13 Go.Proofs.Try.results13 ⟨rfl, trivial⟩ ?_
    exact ⟨rfl, hF⟩
  · skip
    by_cases hp : 0 < z
    · skip
      obtain ⟨d, rfl⟩ := Int.eq_ofNat_of_zero_le (by omega : 0 ≤ z)
      have hd : 2 ≤ d ∧ d ≤ 128 := by
        unfold fitsb at hfz
        simp only [Bool.or_eq_true, Bool.and_eq_true, decide_eq_true_eq] at hfz
        omega
      -- region 3 (exact.go:1287)
      refine Go'.region [(0, 2), (1, 2), (2, 2), (3, 0), (4, 0), (5, 2), (6, 0), (7, 0), (8, 0), (9, 0), (10, 0), (11, 0), (12, 0), (13, 0), (14, 0), (15, 2), (16, 0), (17, 0), (18, 0)] rfl ?_
      refine O.call rfl rfl rfl Go.Proofs.Try.call15 rfl exItems_spec ?_
      rintro ev H1 ⟨hev, hF1⟩
      refine ⟨trivial, ?_⟩
      refine O.bsl (cs := [.bool true, .bool false]) rfl rfl rfl ⟨Go.Proofs.Try.underlying53, Go.Proofs.Try.sizeOf4, Go.Proofs.Try.zeroValue4, ⟨_, Go.Proofs.Try.typeInfo4, rfl⟩, rfl, by decide, by decide⟩ rfl (by decide) (by kernel_rfl) ?_
      intro H2 M2
      have hF2 := hF1.trans (M2.fr nowhere)
      replace hev := hev.fr (M2.fr nowhere)
      have hek : InS EB H2 (.slice (some ⟨H1.size, 0, none⟩) 2 2) [true, false] := .inl ⟨_, _, _, rfl, Nat.le_refl _, M2.rd _ [] rfl⟩
      refine ⟨trivial, ?_⟩
      refine O.call rfl rfl rfl Go.Proofs.Try.call43 rfl (lawMPops_spec (d := 2) (by decide) hev (by decide) hek (by decide)) ?_
      rintro _ H3 ⟨rfl, hF3⟩
      have hF := hF2.trans hF3
      have hi2 := hi0.fr hF
      have hk2 := hk0.fr hF
      refine ⟨trivial, ?_⟩
      refine O.mv rfl rfl rfl rfl rfl ?_
      refine O.mv rfl rfl rfl rfl rfl ?_
      refine O.callQ rfl rfl rfl Go.Proofs.Try.call16 rfl (fits_spec' hfz) trivial ?_
      refine O.mv rfl rfl rfl rfl rfl ?_
      refine O.mv rfl rfl rfl rfl rfl ?_
      refine O.cmp rfl rfl rfl rfl rfl rfl (gtrT (by omega)) ?_
      refine O.pick rfl rfl rfl rfl rfl rfl ?_
      refine O.not rfl rfl rfl rfl rfl ?_
      refine O.mv rfl rfl rfl rfl rfl ?_
      refine O.mv rfl rfl rfl rfl rfl ?_
      refine O.mv rfl rfl rfl rfl rfl ?_
      refine O.mv rfl rfl rfl rfl rfl ?_
      refine O.call rfl rfl rfl Go.Proofs.Try.call43 rfl (lawMPops_spec hd hi2 (by omega) hk2 (by omega)) ?_
      rintro _ H4 ⟨rfl, hF4⟩
      replace hF := hF.trans hF4
      refine ⟨trivial, ?_⟩
      refine O.pick rfl rfl rfl rfl rfl rfl ?_
      refine O.pick rfl rfl rfl rfl rfl rfl ?_
      refine O.asg rfl rfl rfl rfl rfl ?_
      refine Pl.fin [(6, _)] ⟨rfl, trivial⟩ ?_
      refine Go'.ret (vs := [_]) Go.Proofs.Try.func13 Go.Proofs.Try.results13 ⟨rfl, trivial⟩ ?_
      exact ⟨rfl, hF⟩
    · skip
      -- region 3 (exact.go:1287)
      refine Go'.region [(0, 2), (1, 2), (2, 2), (3, 0), (4, 0), (5, 2), (6, 0), (7, 0), (8, 0), (9, 0), (10, 0), (11, 0), (12, 0), (13, 0), (14, 0), (15, 2), (16, 0), (17, 0), (18, 0)] rfl ?_
      refine O.call rfl rfl rfl Go.Proofs.Try.call15 rfl exItems_spec ?_
      rintro ev H1 ⟨hev, hF1⟩
      refine ⟨trivial, ?_⟩
      refine O.bsl (cs := [.bool true, .bool false]) rfl rfl rfl ⟨Go.Proofs.Try.underlying53, Go.Proofs.Try.sizeOf4, Go.Proofs.Try.zeroValue4, ⟨_, Go.Proofs.Try.typeInfo4, rfl⟩, rfl, by decide, by decide⟩ rfl (by decide) (by kernel_rfl) ?_
      intro H2 M2
      have hF2 := hF1.trans (M2.fr nowhere)
      replace hev := hev.fr (M2.fr nowhere)
      have hek : InS EB H2 (.slice (some ⟨H1.size, 0, none⟩) 2 2) [true, false] := .inl ⟨_, _, _, rfl, Nat.le_refl _, M2.rd _ [] rfl⟩
      refine ⟨trivial, ?_⟩
      refine O.call rfl rfl rfl Go.Proofs.Try.call43 rfl (lawMPops_spec (d := 2) (by decide) hev (by decide) hek (by decide)) ?_
      rintro _ H3 ⟨rfl, hF3⟩
      have hF := hF2.trans hF3
      have hi2 := hi0.fr hF
      have hk2 := hk0.fr hF
      refine ⟨trivial, ?_⟩
      refine O.mv rfl rfl rfl rfl rfl ?_
      refine O.mv rfl rfl rfl rfl rfl ?_
      refine O.callQ rfl rfl rfl Go.Proofs.Try.call16 rfl (fits_spec' hfz) trivial ?_
      refine O.mv rfl rfl rfl rfl rfl ?_
      refine O.mv rfl rfl rfl rfl rfl ?_
      refine O.cmp rfl rfl rfl rfl rfl rfl (gtrF (by omega)) ?_
      refine O.pick rfl rfl rfl rfl rfl rfl ?_
      refine O.not rfl rfl rfl rfl rfl ?_
      refine O.mv rfl rfl rfl rfl rfl ?_
      refine Pl.pass rfl rfl rfl rfl ?_
      refine Pl.pass rfl rfl rfl rfl ?_
      refine Pl.pass rfl rfl rfl rfl ?_
      refine Pl.pass2 rfl rfl rfl rfl trivial ?_
      refine O.pick rfl rfl rfl rfl rfl rfl ?_
      refine O.pick rfl rfl rfl rfl rfl rfl ?_
      refine O.asg rfl rfl rfl rfl rfl ?_
      refine Pl.fin [(6, _)] ⟨rfl, trivial⟩ ?_
      refine Go'.ret (vs := [_]) Go.Proofs.Try.func13 Go.Proofs.Try.results13 ⟨rfl, trivial⟩ ?_
      exact ⟨rfl, hF⟩

end Go.Bt
