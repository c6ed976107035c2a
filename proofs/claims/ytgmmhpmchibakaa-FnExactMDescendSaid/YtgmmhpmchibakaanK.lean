/- Contracts of functions of the program, proved by walking through their code. Conditions: those that each theorem names. -/
import Derived.Test.YtgmmhpmchibakaanJ
import Derived.Test.YtgmmhpmchibakaanF
namespace Go.Bt
open Go Go.Proofs
set_option maxRecDepth 20000
set_option maxHeartbeats 4000000
set_option linter.unusedVariables false

theorem turned_spec {B : World} {H : Mem} {u : Value} {l : List (Int × Int)} (hi : InS EJ H u l) (hll : l.length ≤ 4294967296) :
    Fn Try.prog B 81 [u] H (fun r H' => OutS EJ H' r l.reverse ∧ Fr nowhere H H') := by
  obtain ⟨a, c, hu⟩ := hi.len
  subst hu
  refine fn_of Go.Proofs.Try.func81 rfl Go.Proofs.Try.ntmps81 ?_
  refine (show Go' _ _ _ _ 20 [(0, _)] [.code _] _ from ?_)
  refine Go'.seq ?_
  -- region 0 (list.go:91)
  refine Go'.region [(0, 0)] rfl ?_
  refine O.asg rfl rfl rfl rfl rfl ?_
  refine Pl.fin [(0, _), (2, _)] ⟨rfl, rfl, trivial⟩ ?_
  refine Go'.seq ?_
  -- region 1 (list.go:92)
  refine Go'.region [(0, 0)] rfl ?_
  refine O.asg rfl rfl rfl rfl rfl ?_
  refine Pl.fin [(0, _), (2, _), (3, _)] ⟨rfl, rfl, rfl, trivial⟩ ?_
  refine Go'.seq ?_
  refine Go'.seq ?_
  -- region 2 (list.go:93)
  refine Go'.region [(0, 0), (1, 0), (2, 0), (3, 0)] rfl ?_
  refine O.mv rfl rfl rfl rfl rfl ?_
  refine O.len rfl rfl rfl rfl Go.Proofs.Try.underlying22 rfl ?_
  refine O.sub (((l.length : Nat) : Int) - 1) rfl rfl rfl rfl rfl rfl (by omega) (by omega) ?_
  refine O.asg rfl rfl rfl rfl rfl ?_
  refine Pl.fin [(0, _), (2, _), (3, _), (4, _)] ⟨rfl, rfl, rfl, rfl, trivial⟩ ?_
  refine Go'.block ?_
  refine Go'.loop ?_
  refine Go'.keep [(0, _), (3, _), (4, _)] ⟨rfl, rfl, rfl, trivial⟩ ?_
  refine Go'.ind (σ := Nat × Value) (fun s => s.1) (fun s H' => Fr nowhere H H' ∧ s.1 ≤ l.length ∧ OutS EJ H' s.2 (l.drop s.1).reverse ∧ (s.2 = .slice none 0 0 ∧ s.1 = l.length ∨ ∃ b o c, s.2 = .slice (some ⟨b, o, none⟩) (l.length - s.1) c ∧ H.size ≤ b ∧ Sl H' b o (l.length - s.1) c 2 (row EJ (l.drop s.1).reverse)))
    (fun s => [(0, .slice a l.length c), (3, s.2), (4, .int .i64 ((s.1 : Int) - 1))]) (l.length, .slice none 0 0) ⟨Fr.refl _ _, Nat.le_refl _, .inl ⟨rfl, by simp⟩, .inl ⟨rfl, rfl⟩⟩ rfl ?_
  rintro ⟨j, sv⟩ H2 ⟨hF, hjl, hsv, hcase⟩ ih
  simp only at hjl hsv hcase
  have hi2 := hi.fr hF
  refine Go'.seq ?_
  refine Go'.seq ?_
  rcases j with _ | j
  · skip
    -- region 3 (list.go:93)
    refine Go'.region [(0, 0), (1, 0)] rfl ?_
    refine O.mv rfl rfl rfl rfl rfl ?_
    refine O.cmp rfl rfl rfl rfl rfl rfl (geqF (by show ((0 : Nat) : Int) - 1 < 0; omega)) ?_
    refine Pl.fin [(0, _), (3, _), (4, _), (9, _)] ⟨rfl, rfl, rfl, rfl, trivial⟩ ?_
    refine Go'.condF rfl ?_
    refine Go'.exit rfl ?_
    refine Go'.seq ?_
    -- region 6 (list.go:96)
    refine Go'.region [(0, 0), (1, 0)] rfl ?_
    refine O.mv rfl rfl rfl rfl rfl ?_
    refine O.asg rfl rfl rfl rfl rfl ?_
    refine Pl.fin [(2, _)] ⟨rfl, trivial⟩ ?_
    refine Go'.ret (vs := [_]) Go.Proofs.Try.func81 Go.Proofs.Try.results81 ⟨rfl, trivial⟩ ?_
    rw [List.drop_zero] at hsv
    exact ⟨hsv, hF⟩
  · skip
    obtain ⟨y, hy⟩ : ∃ y, l[j]? = some y := ⟨l[j], List.getElem?_eq_getElem (by omega)⟩
    obtain ⟨b, o, c', e, hr⟩ := hi2.at hy
    cases e
    have ej : (((j + 1 : Nat) : Int) - 1) = (j : Int) := by omega
    have hx : (l.drop j).reverse = (l.drop (j + 1)).reverse ++ [y] := by
      obtain ⟨h1, h2⟩ := List.getElem?_eq_some_iff.1 hy
      rw [← List.getElem_cons_drop (h := h1), h2, List.reverse_cons]
    have hl1 : (l.drop j).reverse.length = l.length - j := by rw [List.length_reverse, List.length_drop]
    rw [ej]
    -- region 3 (list.go:93)
    refine Go'.region [(0, 0), (1, 0)] rfl ?_
    refine O.mv rfl rfl rfl rfl rfl ?_
    refine O.cmp rfl rfl rfl rfl rfl rfl (geqT (by omega)) ?_
    refine Pl.fin [(0, _), (3, _), (4, _), (9, _)] ⟨rfl, rfl, rfl, rfl, trivial⟩ ?_
    refine Go'.condT rfl ?_
    refine Go'.skip ?_
    refine Go'.seq ?_
    refine Go'.block ?_
    rcases hcase with ⟨rfl, hj0⟩ | ⟨b1, o1, c1, rfl, hb1, hs1⟩
    · skip
      -- region 5 (list.go:94)
      refine Go'.region [(0, 0), (1, 0), (2, 0), (3, 0), (4, 1), (5, 2), (6, 2), (7, 0)] rfl ?_
      refine O.mv rfl rfl rfl rfl rfl ?_
      refine O.mv rfl rfl rfl rfl rfl ?_
      refine O.mv rfl rfl rfl rfl rfl ?_
      refine O.ix (j := j) rfl rfl rfl rfl Go.Proofs.Try.underlying22 Go.Proofs.Try.sizeOf35 rfl rfl (by omega) (by omega) ?_
      refine O.lds rfl rfl rfl (fun w => ⟨Go.Proofs.Try.isAgg35 w, Go.Proofs.Try.sizeOf35 w⟩) rfl rfl hr ?_
      refine O.bsl (cs := (EJ.enc y)) rfl rfl rfl ⟨Go.Proofs.Try.underlying22, Go.Proofs.Try.sizeOf35, Go.Proofs.Try.zeroValue35, ⟨_, Go.Proofs.Try.typeInfo35, rfl⟩, rfl, by decide⟩ rfl (by decide) (by kernel_rfl) ?_
      intro H5 M5
      have hs5 := M5.size
      have hsz := hF.size
      have m5 : Rd H5 H2.size 0 (EJ.enc y) := M5.rd _ [] (by simp)
      refine ⟨trivial, ?_⟩
      refine O.appN (m := 1) (news := (EJ.enc y)) rfl rfl rfl ⟨Go.Proofs.Try.underlying22, Go.Proofs.Try.sizeOf35, Go.Proofs.Try.zeroValue35, ⟨_, Go.Proofs.Try.typeInfo35, rfl⟩, rfl, by decide⟩ rfl rfl ⟨_, _, _, rfl, m5⟩ rfl (Nat.le_trans (Nat.mul_le_mul_left _ (Nat.le_of_ble_eq_true (n := _) (m := 4096) rfl)) (by omega)) (by omega) (by omega) ?_
      intro c2 H6 hsl6 fa hs6
      have hF6 : Fr nowhere H H6 := (hF.trans (M5.fr nowhere)).trans fa
      have hlj : l.length - j = 1 := by omega
      have hrow : row EJ (l.drop j).reverse = EJ.enc y := by rw [hx, show l.drop (j + 1) = [] from List.drop_of_length_le (by omega)]; simp [row]
      refine ⟨trivial, ?_⟩
      refine O.asg rfl rfl rfl rfl rfl ?_
      refine Pl.fin [(0, _), (3, _), (4, _), (9, _)] ⟨rfl, rfl, rfl, rfl, trivial⟩ ?_
      refine Go'.inBlock ?_
      -- region 4 (list.go:93)
      refine Go'.region [(0, 0), (1, 0), (2, 0)] rfl ?_
      refine O.mv rfl rfl rfl rfl rfl ?_
      refine O.sub (((j : Nat) : Int) - 1) rfl rfl rfl rfl rfl rfl (by omega) (by omega) ?_
      refine O.asg rfl rfl rfl rfl rfl ?_
      refine Pl.fin [(0, _), (3, _), (4, _), (9, _)] ⟨rfl, rfl, rfl, rfl, trivial⟩ ?_
      refine Go'.keep [(0, _), (3, _), (4, _)] ⟨rfl, rfl, rfl, trivial⟩ ?_
      refine Go'.inLoop ?_
      refine ih (j, .slice (some ⟨H5.size, 0, none⟩) 1 c2) H6 ⟨hF6, by simp only; omega, .inr ⟨H5.size, 0, c2, by rw [hl1, hlj], SlE.of (hrow ▸ hsl6) rfl (by rw [hl1, hlj])⟩, .inr ⟨H5.size, 0, c2, by rw [hlj], by omega, by rw [hlj]; exact hrow ▸ hsl6⟩⟩ (by simp only; omega)
    · skip
      -- region 5 (list.go:94)
      refine Go'.region [(0, 0), (1, 0), (2, 0), (3, 0), (4, 1), (5, 2), (6, 2), (7, 0)] rfl ?_
      refine O.mv rfl rfl rfl rfl rfl ?_
      refine O.mv rfl rfl rfl rfl rfl ?_
      refine O.mv rfl rfl rfl rfl rfl ?_
      refine O.ix (j := j) rfl rfl rfl rfl Go.Proofs.Try.underlying22 Go.Proofs.Try.sizeOf35 rfl rfl (by omega) (by omega) ?_
      refine O.lds rfl rfl rfl (fun w => ⟨Go.Proofs.Try.isAgg35 w, Go.Proofs.Try.sizeOf35 w⟩) rfl rfl hr ?_
      refine O.bsl (cs := (EJ.enc y)) rfl rfl rfl ⟨Go.Proofs.Try.underlying22, Go.Proofs.Try.sizeOf35, Go.Proofs.Try.zeroValue35, ⟨_, Go.Proofs.Try.typeInfo35, rfl⟩, rfl, by decide⟩ rfl (by decide) (by kernel_rfl) ?_
      intro H5 M5
      have hs5 := M5.size
      have hsz := hF.size
      have m5 : Rd H5 H2.size 0 (EJ.enc y) := M5.rd _ [] (by simp)
      replace hs1 := hs1.fr (M5.fr nowhere) (fun _ _ => nw)
      refine ⟨trivial, ?_⟩
      refine O.app (m := 1) (news := (EJ.enc y)) rfl rfl rfl ⟨Go.Proofs.Try.underlying22, Go.Proofs.Try.sizeOf35, Go.Proofs.Try.zeroValue35, ⟨_, Go.Proofs.Try.typeInfo35, rfl⟩, rfl, by decide⟩ rfl hs1 rfl (.inl ⟨_, _, _, rfl, m5⟩) rfl rfl (Nat.le_trans (Nat.mul_le_mul_left _ (Nat.le_of_ble_eq_true (n := _) (m := 4096) rfl)) (by omega)) (by omega) ?_
      intro b2 o2 c2 H6 ha
      obtain ⟨fa, pa⟩ : Fr (fun x _ => x = b1) H5 H6 ∧ (b2 = b1 ∨ H5.size ≤ b2) := ha.rp
      have hF6 : Fr nowhere H H6 := (hF.trans (M5.fr nowhere)).trans' fa (fun _ _ _ h => h) (fun x o hx hz => by have hz' : x = b1 := hz; omega)
      have ejj : l.length - (j + 1) + 1 = l.length - j := by omega
      have hsl6 : Sl H6 b2 o2 (l.length - j) c2 2 (row EJ (l.drop j).reverse) := by rw [hx, row_append, row_one, ← ejj]; exact ha.sl
      rw [ejj]
      refine ⟨trivial, ?_⟩
      refine O.asg rfl rfl rfl rfl rfl ?_
      refine Pl.fin [(0, _), (3, _), (4, _), (9, _)] ⟨rfl, rfl, rfl, rfl, trivial⟩ ?_
      refine Go'.inBlock ?_
      -- region 4 (list.go:93)
      refine Go'.region [(0, 0), (1, 0), (2, 0)] rfl ?_
      refine O.mv rfl rfl rfl rfl rfl ?_
      refine O.sub (((j : Nat) : Int) - 1) rfl rfl rfl rfl rfl rfl (by omega) (by omega) ?_
      refine O.asg rfl rfl rfl rfl rfl ?_
      refine Pl.fin [(0, _), (3, _), (4, _), (9, _)] ⟨rfl, rfl, rfl, rfl, trivial⟩ ?_
      refine Go'.keep [(0, _), (3, _), (4, _)] ⟨rfl, rfl, rfl, trivial⟩ ?_
      refine Go'.inLoop ?_
      refine ih (j, .slice (some ⟨b2, o2, none⟩) (l.length - j) c2) H6 ⟨hF6, by simp only; omega, .inr ⟨b2, o2, c2, by rw [hl1], SlE.of hsl6 rfl hl1.symm⟩, .inr ⟨b2, o2, c2, rfl, by omega, hsl6⟩⟩ (by simp only; omega)

theorem first_spec {B : World} {H : Mem} {u : Value} {l : List (Int × Int)} {n : Int} (hi : InS EJ H u l) :
    Fn Try.prog B 80 [u, .int .i64 n] H (fun r H' => InS EJ H' r (firstN l n) ∧ H' = H) := by
  obtain ⟨a, c, hu⟩ := hi.len
  subst hu
  refine fn_of Go.Proofs.Try.func80 rfl Go.Proofs.Try.ntmps80 ?_
  refine (show Go' _ _ _ _ 17 [(0, _), (1, _)] [.code _] _ from ?_)
  refine Go'.seq ?_
  -- region 0 (list.go:100)
  refine Go'.region [(0, 0)] rfl ?_
  refine O.asg rfl rfl rfl rfl rfl ?_
  refine Pl.fin [(0, _), (1, _), (4, _)] ⟨rfl, rfl, rfl, trivial⟩ ?_
  refine Go'.seq ?_
  refine Go'.seq ?_
  by_cases h1 : n < 1
  · skip
    -- region 1 (list.go:101)
    refine Go'.region [(0, 0), (1, 0), (2, 0), (3, 0), (4, 0), (5, 0), (6, 0), (7, 0)] rfl ?_
    refine O.mv rfl rfl rfl rfl rfl ?_
    refine O.cmp rfl rfl rfl rfl rfl rfl (lssT (by omega)) ?_
    refine O.mv rfl rfl rfl rfl rfl ?_
    refine Pl.pass rfl rfl rfl rfl ?_
    refine Pl.pass rfl rfl rfl rfl ?_
    refine Pl.pass rfl rfl rfl rfl ?_
    refine Pl.pass rfl rfl rfl rfl ?_
    refine O.pick rfl rfl rfl rfl rfl rfl ?_
    refine Pl.fin [(0, _), (1, _), (4, _), (12, _)] ⟨rfl, rfl, rfl, rfl, trivial⟩ ?_
    refine Go'.condT rfl ?_
    refine Go'.seq ?_
    -- region 2 (list.go:102)
    refine Go'.region [(0, 0), (1, 0)] rfl ?_
    refine O.mv rfl rfl rfl rfl rfl ?_
    refine O.asg rfl rfl rfl rfl rfl ?_
    refine Pl.fin [(0, _), (1, _), (4, _)] ⟨rfl, rfl, rfl, trivial⟩ ?_
    refine Go'.ret (vs := [_]) Go.Proofs.Try.func80 Go.Proofs.Try.results80 ⟨rfl, trivial⟩ ?_
    exact ⟨by unfold firstN; rw [if_pos (.inl h1)]; exact hi, rfl⟩
  · skip
    by_cases h2 : (l.length : Int) < n
    · skip
      -- region 1 (list.go:101)
      refine Go'.region [(0, 0), (1, 0), (2, 0), (3, 0), (4, 0), (5, 0), (6, 0), (7, 0)] rfl ?_
      refine O.mv rfl rfl rfl rfl rfl ?_
      refine O.cmp rfl rfl rfl rfl rfl rfl (lssF (by omega)) ?_
      refine O.mv rfl rfl rfl rfl rfl ?_
      refine O.mv rfl rfl rfl rfl rfl ?_
      refine O.mv rfl rfl rfl rfl rfl ?_
      refine O.len rfl rfl rfl rfl Go.Proofs.Try.underlying22 rfl ?_
      refine O.cmp rfl rfl rfl rfl rfl rfl (gtrT (by omega)) ?_
      refine O.pick rfl rfl rfl rfl rfl rfl ?_
      refine Pl.fin [(0, _), (1, _), (4, _), (12, _)] ⟨rfl, rfl, rfl, rfl, trivial⟩ ?_
      refine Go'.condT rfl ?_
      refine Go'.seq ?_
      -- region 2 (list.go:102)
      refine Go'.region [(0, 0), (1, 0)] rfl ?_
      refine O.mv rfl rfl rfl rfl rfl ?_
      refine O.asg rfl rfl rfl rfl rfl ?_
      refine Pl.fin [(0, _), (1, _), (4, _)] ⟨rfl, rfl, rfl, trivial⟩ ?_
      refine Go'.ret (vs := [_]) Go.Proofs.Try.func80 Go.Proofs.Try.results80 ⟨rfl, trivial⟩ ?_
      exact ⟨by unfold firstN; rw [if_pos (.inr h2)]; exact hi, rfl⟩
    · skip
      obtain ⟨m, rfl⟩ := Int.eq_ofNat_of_zero_le (by omega : 0 ≤ n)
      -- region 1 (list.go:101)
      refine Go'.region [(0, 0), (1, 0), (2, 0), (3, 0), (4, 0), (5, 0), (6, 0), (7, 0)] rfl ?_
      refine O.mv rfl rfl rfl rfl rfl ?_
      refine O.cmp rfl rfl rfl rfl rfl rfl (lssF (by omega)) ?_
      refine O.mv rfl rfl rfl rfl rfl ?_
      refine O.mv rfl rfl rfl rfl rfl ?_
      refine O.mv rfl rfl rfl rfl rfl ?_
      refine O.len rfl rfl rfl rfl Go.Proofs.Try.underlying22 rfl ?_
      refine O.cmp rfl rfl rfl rfl rfl rfl (gtrF (by omega)) ?_
      refine O.pick rfl rfl rfl rfl rfl rfl ?_
      refine Pl.fin [(0, _), (1, _), (4, _), (12, _)] ⟨rfl, rfl, rfl, rfl, trivial⟩ ?_
      refine Go'.condF rfl ?_
      refine Go'.skip ?_
      refine Go'.seq ?_
      -- region 3 (list.go:104)
      refine Go'.region [(0, 0), (1, 0), (2, 0), (3, 0)] rfl ?_
      refine O.mv rfl rfl rfl rfl rfl ?_
      refine O.mv rfl rfl rfl rfl rfl ?_
      refine O.slcIn (E := EJ) (jl := 0) (jh := m) rfl rfl rfl rfl Go.Proofs.Try.underlying22 Go.Proofs.Try.sizeOf35 rfl hi ⟨_, by rfl⟩ rfl (by omega) (by omega) ?_
      intro v1 hv1
      rw [List.drop_zero, Nat.sub_zero] at hv1
      refine O.asg rfl rfl rfl rfl rfl ?_
      refine Pl.fin [(4, _)] ⟨rfl, trivial⟩ ?_
      refine Go'.ret (vs := [_]) Go.Proofs.Try.func80 Go.Proofs.Try.results80 ⟨rfl, trivial⟩ ?_
      exact ⟨by unfold firstN; rw [if_neg (by omega)]; exact hv1, rfl⟩

theorem greverse_spec {B : World} {H : Mem} {v u dg nl : Value} {ord : List Int} {l : List (Int × Int)} {n : Int} (ho : InS EN H v ord) (hl : ord.length < 4611686018427387904) (hi : InS EJ H u l) (hll : l.length ≤ 4294967296) :
    Fn Try.prog B 48 [.agg #[v, dg, nl], u, .int .i64 n] H (fun r H' => InS EJ H' r (firstN (Pl.puts (OO ord) l).reverse n) ∧ Fr nowhere H H') := by
  have hpl := Pl.puts_length (OO ord) l
  refine fn_of Go.Proofs.Try.func48 rfl Go.Proofs.Try.ntmps48 ?_
  refine (show Go' _ _ _ _ 14 [(0, _), (1, _), (2, _)] [.code _] _ from ?_)
  refine Go'.seq ?_
  -- region 0 (tree.go:92)
  refine Go'.region [(0, 2), (1, 0)] rfl ?_
  refine O.box rfl rfl rfl rfl ?_
  intro H1 M1
  refine ⟨trivial, ?_⟩
  replace ho := ho.fr (M1.fr nowhere)
  replace hi := hi.fr (M1.fr nowhere)
  have mi : cl H1 H.size 0 = some v := (M1.cl 0).trans rfl
  refine O.asg rfl rfl rfl rfl rfl ?_
  refine Pl.fin [(1, _), (2, _), (3, _), (6, _)] ⟨rfl, rfl, rfl, rfl, trivial⟩ ?_
  refine Go'.seq ?_
  -- region 1 (tree.go:93)
  refine Go'.region [(0, 0), (1, 1), (2, 0), (3, 2), (4, 2), (5, 0), (6, 2), (7, 0)] rfl ?_
  refine O.faz rfl rfl rfl rfl ⟨_, _, _, Go.Proofs.Try.underlying58, rfl, rfl, Go.Proofs.Try.sizeOf39⟩ rfl ?_
  refine O.ld rfl rfl rfl (fun w => ⟨Go.Proofs.Try.isAgg39 w, Go.Proofs.Try.sizeOf39 w⟩) rfl mi ?_
  refine O.mv rfl rfl rfl rfl rfl ?_
  refine O.call rfl rfl rfl Go.Proofs.Try.call47 rfl (tree_spec ho hl hi hll) ?_
  rintro sv H3 ⟨hsv, hF3⟩
  refine ⟨trivial, ?_⟩
  refine O.call rfl rfl rfl Go.Proofs.Try.call81 rfl (turned_spec hsv.inS (by omega)) ?_
  rintro tv H4 ⟨htv, hF4⟩
  refine ⟨trivial, ?_⟩
  refine O.mv rfl rfl rfl rfl rfl ?_
  refine O.call rfl rfl rfl Go.Proofs.Try.call80 rfl (first_spec (n := n) htv.inS) ?_
  rintro fv H5 ⟨hfv, rfl⟩
  refine ⟨trivial, ?_⟩
  refine O.asg rfl rfl rfl rfl rfl ?_
  refine Pl.fin [(6, _)] ⟨rfl, trivial⟩ ?_
  refine Go'.ret (vs := [_]) Go.Proofs.Try.func48 Go.Proofs.Try.results48 ⟨rfl, trivial⟩ ?_
  exact ⟨hfv, ((M1.fr nowhere).trans hF3).trans hF4⟩

theorem item_neq (x : Int × Int) (a b : Operand) (w : World) : (eqGuard .neq 35 a b (.agg (EJ.enc x).toArray) (.agg (EJ.enc x).toArray)).run Try.prog w = .ok () w ∧ (binOp .neq 35 (.agg (EJ.enc x).toArray) (.agg (EJ.enc x).toArray)).run Try.prog w = .ok (.bool false) w := by
  refine ⟨run_eqGuard_agg w _ _ _ _ _ _ Try.eqGuardType35, ?_⟩
  rw [run_neq_struct]
  have h : (Op.equalIn 10000 35 (.agg (EJ.enc x).toArray) (.agg (EJ.enc x).toArray)).run Try.prog w = .ok true w := item_eq 9998 x w
  rw [h]; rfl
theorem eqItems_spec {B : World} {H : Mem} {u v : Value} {l : List (Int × Int)} (hu : InS EJ H u l) (hv : InS EJ H v l) (hll : l.length ≤ 4294967296) :
    Fn Try.prog B 27 [u, v] H (fun r H' => r = .bool true ∧ H' = H) := by
  obtain ⟨a, c, e⟩ := hu.len
  subst e
  obtain ⟨a', c', e⟩ := hv.len
  subst e
  refine fn_of Go.Proofs.Try.func27 rfl Go.Proofs.Try.ntmps27 ?_
  refine (show Go' _ _ _ _ 26 [(0, _), (1, _)] [.code _] _ from ?_)
  refine Go'.seq ?_
  -- region 0 (slices.go:20)
  refine Go'.region [(0, 0)] rfl ?_
  refine O.asg rfl rfl rfl rfl rfl ?_
  refine Pl.fin [(0, _), (1, _), (4, _)] ⟨rfl, rfl, rfl, trivial⟩ ?_
  refine Go'.seq ?_
  refine Go'.seq ?_
  -- region 1 (slices.go:21)
  refine Go'.region [(0, 0), (1, 0), (2, 0), (3, 0), (4, 0)] rfl ?_
  refine O.mv rfl rfl rfl rfl rfl ?_
  refine O.len rfl rfl rfl rfl Go.Proofs.Try.underlying22 rfl ?_
  refine O.mv rfl rfl rfl rfl rfl ?_
  refine O.len rfl rfl rfl rfl Go.Proofs.Try.underlying22 rfl ?_
  refine O.cmp rfl rfl rfl rfl rfl rfl (neqF (by omega)) ?_
  refine Pl.fin [(0, _), (1, _), (4, _), (10, _)] ⟨rfl, rfl, rfl, rfl, trivial⟩ ?_
  refine Go'.condF rfl ?_
  refine Go'.skip ?_
  refine Go'.seq ?_
  refine Go'.seq ?_
  -- region 3 (slices.go:24)
  refine Go'.region [(0, 0), (1, 0), (2, 0)] rfl ?_
  refine O.mv rfl rfl rfl rfl rfl ?_
  refine O.len rfl rfl rfl rfl Go.Proofs.Try.underlying22 rfl ?_
  refine O.mv rfl rfl rfl rfl rfl ?_
  refine Pl.fin [(0, _), (1, _), (4, _), (12, _), (13, _)] ⟨rfl, rfl, rfl, rfl, rfl, trivial⟩ ?_
  refine Go'.block ?_
  refine Go'.loop ?_
  refine Go'.keep [(0, _), (1, _), (4, _), (12, _), (13, _)] ⟨rfl, rfl, rfl, rfl, rfl, trivial⟩ ?_
  refine Go'.ind (σ := Nat) (fun j => l.length - j) (fun j H' => H' = H ∧ j ≤ l.length)
    (fun j => [(0, .slice a l.length c), (1, .slice a' l.length c'), (4, .bool false), (12, .int .i64 (l.length : Int)), (13, .int .i64 (j : Int))]) 0 ⟨rfl, Nat.zero_le _⟩ rfl ?_
  rintro j H2 ⟨hHH, hjl⟩ ih
  have eH : H = H2 := hHH.symm
  subst eH
  clear hHH
  refine Go'.seq ?_
  by_cases hlt : j < l.length
  · skip
    obtain ⟨y, hy⟩ : ∃ y, l[j]? = some y := ⟨l[j], List.getElem?_eq_getElem hlt⟩
    obtain ⟨b, o, cc, e, hr⟩ := hu.at hy
    cases e
    obtain ⟨b', o', cc', e, hr'⟩ := hv.at hy
    cases e
    -- region 4 (slices.go:24)
    refine Go'.region [(0, 0)] rfl ?_
    refine O.cmp rfl rfl rfl rfl rfl rfl (lssT (by omega)) ?_
    refine Pl.fin [(0, _), (1, _), (4, _), (12, _), (13, _), (14, _)] ⟨rfl, rfl, rfl, rfl, rfl, rfl, trivial⟩ ?_
    refine Go'.seq ?_
    refine Go'.condT rfl ?_
    refine Go'.skip ?_
    refine Go'.seq ?_
    refine Go'.block ?_
    refine Go'.seq ?_
    -- region 5 (slices.go:24)
    refine Go'.region [(0, 0), (1, 0)] rfl ?_
    refine O.mv rfl rfl rfl rfl rfl ?_
    refine O.asg rfl rfl rfl rfl rfl ?_
    refine Pl.fin [(0, _), (1, _), (4, _), (5, _), (12, _), (13, _), (14, _)] ⟨rfl, rfl, rfl, rfl, rfl, rfl, rfl, trivial⟩ ?_
    refine Go'.seq ?_
    -- region 6 (slices.go:25)
    refine Go'.draw (fun _ => True) [(0, 0), (1, 0), (2, 0), (3, 1), (4, 0), (5, 0), (6, 0), (7, 1), (8, 0)] (by kernel_rfl) (by kernel_rfl) (trivial) ?_
    refine O.mv rfl rfl rfl rfl rfl ?_
    refine O.mv rfl rfl rfl rfl rfl ?_
    refine O.ix (j := j) rfl rfl rfl rfl Go.Proofs.Try.underlying22 Go.Proofs.Try.sizeOf35 rfl rfl (by omega) hlt ?_
    refine O.lds rfl rfl rfl (fun w => ⟨Go.Proofs.Try.isAgg35 w, Go.Proofs.Try.sizeOf35 w⟩) rfl rfl hr ?_
    refine O.mv rfl rfl rfl rfl rfl ?_
    refine O.mv rfl rfl rfl rfl rfl ?_
    refine O.ix (j := j) rfl rfl rfl rfl Go.Proofs.Try.underlying22 Go.Proofs.Try.sizeOf35 rfl rfl (by omega) hlt ?_
    refine O.lds rfl rfl rfl (fun w => ⟨Go.Proofs.Try.isAgg35 w, Go.Proofs.Try.sizeOf35 w⟩) rfl rfl hr' ?_
    refine O.bin rfl rfl rfl rfl rfl rfl (item_neq y _ _) ?_
    refine Pl.fin [(0, _), (1, _), (4, _), (5, _), (12, _), (13, _), (14, _), (24, _)] ⟨rfl, rfl, rfl, rfl, rfl, rfl, rfl, rfl, trivial⟩ ?_
    refine Go'.condF rfl ?_
    refine Go'.skip ?_
    refine Go'.inBlock ?_
    -- region 8 (slices.go:24)
    refine Go'.region [(0, 0), (1, 0)] rfl ?_
    refine O.add (((j + 1 : Nat) : Int)) rfl rfl rfl rfl rfl rfl (by omega) (by omega) ?_
    refine O.mv rfl rfl rfl rfl rfl ?_
    refine Pl.fin [(0, _), (1, _), (4, _), (5, _), (12, _), (13, _), (14, _), (24, _)] ⟨rfl, rfl, rfl, rfl, rfl, rfl, rfl, rfl, trivial⟩ ?_
    refine Go'.keep [(0, _), (1, _), (4, _), (12, _), (13, _)] ⟨rfl, rfl, rfl, rfl, rfl, trivial⟩ ?_
    refine Go'.inLoop ?_
    exact ih (j + 1) H ⟨rfl, hlt⟩ (by omega)
  · skip
    -- region 4 (slices.go:24)
    refine Go'.region [(0, 0)] rfl ?_
    refine O.cmp rfl rfl rfl rfl rfl rfl (lssF (by omega)) ?_
    refine Pl.fin [(0, _), (1, _), (4, _), (12, _), (13, _), (14, _)] ⟨rfl, rfl, rfl, rfl, rfl, rfl, trivial⟩ ?_
    refine Go'.seq ?_
    refine Go'.condF rfl ?_
    refine Go'.exit rfl ?_
    refine Go'.seq ?_
    -- region 9 (slices.go:29)
    refine Go'.region [(0, 0)] rfl ?_
    refine O.asg rfl rfl rfl rfl rfl ?_
    refine Pl.fin [(4, _)] ⟨rfl, trivial⟩ ?_
    refine Go'.ret (vs := [_]) Go.Proofs.Try.func27 Go.Proofs.Try.results27 ⟨rfl, trivial⟩ ?_
    exact ⟨rfl, rfl⟩

end Go.Bt