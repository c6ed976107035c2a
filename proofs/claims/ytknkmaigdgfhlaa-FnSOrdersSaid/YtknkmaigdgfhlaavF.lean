/- Contracts of functions of the program, proved by walking through their code. Conditions: those that each theorem names. -/
import Derived.Test.YtknkmaigdgfhlaavE
namespace Go.Bt.FZ
open Go Go.Proofs
set_option maxRecDepth 20000
set_option maxHeartbeats 4000000
set_option linter.unusedVariables false

theorem first_spec {B : World} {H : Mem} {u : Value} {l : List (Int × Int)} {n : Int} (hi : InS EJ H u l) :
    Fn Try.prog B 92 [u, .int .i64 n] H (fun r H' => InS EJ H' r (firstN l n) ∧ H' = H) := by
  obtain ⟨a, c, hu⟩ := hi.len
  subst hu
  refine fn_of Go.Proofs.Try.func92 rfl Go.Proofs.Try.ntmps92 ?_
  refine (show Go' _ _ _ _ 17 [(0, _), (1, _)] [.code _] _ from ?_)
  refine Go'.seq ?_
  -- region 0 (list.go:100)
  refine Go'.region [(0, 0)] rfl ?_
  refine O.asg rfl rfl rfl rfl rfl ?_
  refine Pl.fin [(0, _), (1, _), (4, _)] ⟨rfl, rfl, rfl, trivial⟩ ?_
  refine Go'.seq ?_
  refine Go'.seq ?_
  by_cases h1 : n < 1
  · skip
    -- region 1 (list.go:101)
    refine Go'.region [(0, 0), (1, 0), (2, 0), (3, 0), (4, 0), (5, 0), (6, 0), (7, 0)] rfl ?_
    refine O.mv rfl rfl rfl rfl rfl ?_
    refine O.cmp rfl rfl rfl rfl rfl rfl (lssT (by omega)) ?_
    refine O.mv rfl rfl rfl rfl rfl ?_
    refine Pl.pass rfl rfl rfl rfl ?_
    refine Pl.pass rfl rfl rfl rfl ?_
    refine Pl.pass rfl rfl rfl rfl ?_
    refine Pl.pass rfl rfl rfl rfl ?_
    refine O.pick rfl rfl rfl rfl rfl rfl ?_
    refine Pl.fin [(0, _), (1, _), (4, _), (12, _)] ⟨rfl, rfl, rfl, rfl, trivial⟩ ?_
    refine Go'.condT rfl ?_
    refine Go'.seq ?_
    -- region 2 (list.go:102)
    refine Go'.region [(0, 0), (1, 0)] rfl ?_
    refine O.mv rfl rfl rfl rfl rfl ?_
    refine O.asg rfl rfl rfl rfl rfl ?_
    refine Pl.fin [(0, _), (1, _), (4, _)] ⟨rfl, rfl, rfl, trivial⟩ ?_
    refine Go'.ret (vs := [_]) Go.Proofs.Try.func92 Go.Proofs.Try.results92 ⟨rfl, trivial⟩ ?_
    exact ⟨by unfold firstN; rw [if_pos (.inl h1)]; exact hi, rfl⟩
  · skip
    by_cases h2 : (l.length : Int) < n
    · skip
      -- region 1 (list.go:101)
      refine Go'.region [(0, 0), (1, 0), (2, 0), (3, 0), (4, 0), (5, 0), (6, 0), (7, 0)] rfl ?_
      refine O.mv rfl rfl rfl rfl rfl ?_
      refine O.cmp rfl rfl rfl rfl rfl rfl (lssF (by omega)) ?_
      refine O.mv rfl rfl rfl rfl rfl ?_
      refine O.mv rfl rfl rfl rfl rfl ?_
      refine O.mv rfl rfl rfl rfl rfl ?_
      refine O.len rfl rfl rfl rfl Go.Proofs.Try.underlying74 rfl ?_
      refine O.cmp rfl rfl rfl rfl rfl rfl (gtrT (by omega)) ?_
      refine O.pick rfl rfl rfl rfl rfl rfl ?_
      refine Pl.fin [(0, _), (1, _), (4, _), (12, _)] ⟨rfl, rfl, rfl, rfl, trivial⟩ ?_
      refine Go'.condT rfl ?_
      refine Go'.seq ?_
      -- region 2 (list.go:102)
      refine Go'.region [(0, 0), (1, 0)] rfl ?_
      refine O.mv rfl rfl rfl rfl rfl ?_
      refine O.asg rfl rfl rfl rfl rfl ?_
      refine Pl.fin [(0, _), (1, _), (4, _)] ⟨rfl, rfl, rfl, trivial⟩ ?_
      refine Go'.ret (vs := [_]) Go.Proofs.Try.func92 Go.Proofs.Try.results92 ⟨rfl, trivial⟩ ?_
      exact ⟨by unfold firstN; rw [if_pos (.inr h2)]; exact hi, rfl⟩
    · skip
      obtain ⟨m, rfl⟩ := Int.eq_ofNat_of_zero_le (by omega : 0 ≤ n)
      -- region 1 (list.go:101)
      refine Go'.region [(0, 0), (1, 0), (2, 0), (3, 0), (4, 0), (5, 0), (6, 0), (7, 0)] rfl ?_
      refine O.mv rfl rfl rfl rfl rfl ?_
      refine O.cmp rfl rfl rfl rfl rfl rfl (lssF (by omega)) ?_
      refine O.mv rfl rfl rfl rfl rfl ?_
      refine O.mv rfl rfl rfl rfl rfl ?_
      refine O.mv rfl rfl rfl rfl rfl ?_
      refine O.len rfl rfl rfl rfl Go.Proofs.Try.underlying74 rfl ?_
      refine O.cmp rfl rfl rfl rfl rfl rfl (gtrF (by omega)) ?_
      refine O.pick rfl rfl rfl rfl rfl rfl ?_
      refine Pl.fin [(0, _), (1, _), (4, _), (12, _)] ⟨rfl, rfl, rfl, rfl, trivial⟩ ?_
      refine Go'.condF rfl ?_
      refine Go'.skip ?_
      refine Go'.seq ?_
      -- region 3 (list.go:104)
      refine Go'.region [(0, 0), (1, 0), (2, 0), (3, 0)] rfl ?_
      refine O.mv rfl rfl rfl rfl rfl ?_
      refine O.mv rfl rfl rfl rfl rfl ?_
      refine O.slcIn (E := EJ) (jl := 0) (jh := m) rfl rfl rfl rfl Go.Proofs.Try.underlying74 Go.Proofs.Try.sizeOf68 rfl hi ⟨_, by rfl⟩ rfl (by omega) (by omega) ?_
      intro v1 hv1
      rw [List.drop_zero, Nat.sub_zero] at hv1
      refine O.asg rfl rfl rfl rfl rfl ?_
      refine Pl.fin [(4, _)] ⟨rfl, trivial⟩ ?_
      refine Go'.ret (vs := [_]) Go.Proofs.Try.func92 Go.Proofs.Try.results92 ⟨rfl, trivial⟩ ?_
      exact ⟨by unfold firstN; rw [if_neg (by omega)]; exact hv1, rfl⟩

theorem gscan_spec {B : World} {H : Mem} {v u dg nl : Value} {ord : List Int} {l : List (Int × Int)} {n : Int} (ho : InS EN H v ord) (hl : ord.length < 4611686018427387904) (hi : InS EJ H u l) (hll : l.length ≤ 4294967296) :
    Fn Try.prog B 50 [.agg #[v, dg, nl], u, .int .i64 n] H (fun r H' => InS EJ H' r (firstN (Pl.puts (OO ord) l) n) ∧ Fr nowhere H H') := by
  have hpl := Pl.puts_length (OO ord) l
  refine fn_of Go.Proofs.Try.func50 rfl Go.Proofs.Try.ntmps50 ?_
  refine (show Go' _ _ _ _ 13 [(0, _), (1, _), (2, _)] [.code _] _ from ?_)
  refine Go'.seq ?_
  -- region 0 (tree.go:90)
  refine Go'.region [(0, 2), (1, 0)] rfl ?_
  refine O.box rfl rfl rfl rfl ?_
  intro H1 M1
  refine ⟨trivial, ?_⟩
  replace ho := ho.fr (M1.fr nowhere)
  replace hi := hi.fr (M1.fr nowhere)
  have mi : cl H1 H.size 0 = some v := (M1.cl 0).trans rfl
  refine O.asg rfl rfl rfl rfl rfl ?_
  refine Pl.fin [(1, _), (2, _), (3, _), (6, _)] ⟨rfl, rfl, rfl, rfl, trivial⟩ ?_
  refine Go'.seq ?_
  -- region 1 (tree.go:90)
  refine Go'.region [(0, 0), (1, 1), (2, 0), (3, 2), (4, 0), (5, 2), (6, 0)] rfl ?_
  refine O.faz rfl rfl rfl rfl ⟨_, _, _, Go.Proofs.Try.underlying73, rfl, rfl, Go.Proofs.Try.sizeOf22⟩ rfl ?_
  refine O.ld rfl rfl rfl (fun w => ⟨Go.Proofs.Try.isAgg22 w, Go.Proofs.Try.sizeOf22 w⟩) rfl mi ?_
  refine O.mv rfl rfl rfl rfl rfl ?_
  refine O.call rfl rfl rfl Go.Proofs.Try.call69 rfl (tree_spec ho hl hi hll) ?_
  rintro sv H3 ⟨hsv, hF3⟩
  refine ⟨trivial, ?_⟩
  refine O.mv rfl rfl rfl rfl rfl ?_
  refine O.call rfl rfl rfl Go.Proofs.Try.call92 rfl (first_spec (n := n) hsv.inS) ?_
  rintro fv H5 ⟨hfv, rfl⟩
  refine ⟨trivial, ?_⟩
  refine O.asg rfl rfl rfl rfl rfl ?_
  refine Pl.fin [(6, _)] ⟨rfl, trivial⟩ ?_
  refine Go'.ret (vs := [_]) Go.Proofs.Try.func50 Go.Proofs.Try.results50 ⟨rfl, trivial⟩ ?_
  exact ⟨hfv, (M1.fr nowhere).trans hF3⟩

theorem specKeys_spec {B : World} {H : Mem} {u : Value} {l : List (Int × Int)} (hi : InS EJ H u l) (hll : l.length ≤ 4294967296) :
    Fn Try.prog B 49 [u] H (fun r H' => OutS EN H' r (l.map (fun x : Int × Int => x.1)) ∧ Fr nowhere H H') := by
  obtain ⟨a, c, hu⟩ := hi.len
  subst hu
  refine fn_of Go.Proofs.Try.func49 rfl Go.Proofs.Try.ntmps49 ?_
  refine (show Go' _ _ _ _ 19 [(0, _)] [.code _] _ from ?_)
  refine Go'.seq ?_
  -- region 0 (list.go:175)
  refine Go'.region [(0, 0)] rfl ?_
  refine O.asg rfl rfl rfl rfl rfl ?_
  refine Pl.fin [(0, _), (2, _)] ⟨rfl, rfl, trivial⟩ ?_
  refine Go'.seq ?_
  -- region 1 (list.go:176)
  refine Go'.region [(0, 0)] rfl ?_
  refine O.asg rfl rfl rfl rfl rfl ?_
  refine Pl.fin [(0, _), (2, _), (3, _)] ⟨rfl, rfl, rfl, trivial⟩ ?_
  refine Go'.seq ?_
  refine Go'.seq ?_
  -- region 2 (list.go:177)
  refine Go'.region [(0, 0), (1, 0), (2, 0)] rfl ?_
  refine O.mv rfl rfl rfl rfl rfl ?_
  refine O.len rfl rfl rfl rfl Go.Proofs.Try.underlying74 rfl ?_
  refine O.mv rfl rfl rfl rfl rfl ?_
  refine Pl.fin [(2, _), (3, _), (6, _), (7, _), (8, _)] ⟨rfl, rfl, rfl, rfl, rfl, trivial⟩ ?_
  refine Go'.block ?_
  refine Go'.loop ?_
  refine Go'.keep [(3, _), (6, _), (7, _), (8, _)] ⟨rfl, rfl, rfl, rfl, trivial⟩ ?_
  refine Go'.ind (σ := Nat × Value) (fun s => l.length - s.1) (fun s H' => Fr nowhere H H' ∧ s.1 ≤ l.length ∧ Acc EN (fun b => H.size ≤ b) H' s.2 ((l.take s.1).map (fun x : Int × Int => x.1)))
    (fun s => [(3, s.2), (6, .slice a l.length c), (7, .int .i64 (l.length : Int)), (8, .int .i64 (s.1 : Int))]) (0, .slice none 0 0) ⟨Fr.refl _ _, Nat.zero_le _, Acc.nil _ _ _⟩ rfl ?_
  rintro ⟨j, sv⟩ H2 ⟨hF, hjl, hA⟩ ih
  simp only at hjl hA
  have hi2 := hi.fr hF
  refine Go'.seq ?_
  by_cases hlt : j < l.length
  · skip
    obtain ⟨y, hy⟩ : ∃ y, l[j]? = some y := ⟨l[j], List.getElem?_eq_getElem hlt⟩
    obtain ⟨b, o, c', e, hr⟩ := hi2.at hy
    cases e
    have hsz := hF.size
    have hx : (l.take (j + 1)).map (fun x : Int × Int => x.1) = (l.take j).map (fun x : Int × Int => x.1) ++ [y.1] := by rw [List.take_add_one, hy, List.map_append]; rfl
    have hlout : ((l.take j).map (fun x : Int × Int => x.1)).length = j := by rw [List.length_map, List.length_take]; omega
    -- region 3 (list.go:177)
    refine Go'.region [(0, 0)] rfl ?_
    refine O.cmp rfl rfl rfl rfl rfl rfl (lssT (by omega)) ?_
    refine Pl.fin [(3, _), (6, _), (7, _), (8, _), (9, _)] ⟨rfl, rfl, rfl, rfl, rfl, trivial⟩ ?_
    refine Go'.seq ?_
    refine Go'.condT rfl ?_
    refine Go'.skip ?_
    refine Go'.seq ?_
    refine Go'.block ?_
    refine Go'.seq ?_
    -- region 4 (list.go:177)
    refine Go'.region [(0, 0), (1, 1), (2, 2), (3, 2)] rfl ?_
    refine O.ix (j := j) rfl rfl rfl rfl Go.Proofs.Try.underlying74 Go.Proofs.Try.sizeOf68 rfl rfl (by omega) hlt ?_
    refine O.lds rfl rfl rfl (fun w => ⟨Go.Proofs.Try.isAgg68 w, Go.Proofs.Try.sizeOf68 w⟩) rfl rfl hr ?_
    refine O.alloc rfl rfl rfl Go.Proofs.Try.zeroValue68 ?_
    intro H4 M4
    refine ⟨trivial, ?_⟩
    have hs4 := M4.size
    have m4 : Wr H4 H2.size 0 2 := M4.wr 2 (by decide)
    refine O.st rfl rfl Go.Proofs.Try.sizeOf68 rfl rfl rfl rfl rfl m4 ?_
    intro H5 W5
    have hs5 := W5.size
    have hf5 : Fr nowhere H2 H5 := (M4.fr nowhere).trans' W5.fr (fun _ _ _ h => h) (fun b o hb hz => by have h1 := hz.1; omega)
    have x5 : cl H5 H2.size 0 = some (.int .i64 y.1) := W5.all 0 _ rfl
    have hA5 := hA.fr hf5 (fun _ _ _ _ => nw)
    refine ⟨trivial, ?_⟩
    refine Pl.fin [(3, _), (5, _), (6, _), (7, _), (8, _), (9, _)] ⟨rfl, rfl, rfl, rfl, rfl, rfl, trivial⟩ ?_
    -- region 5 (list.go:178)
    refine Go'.region [(0, 0), (1, 0), (2, 1), (3, 2), (4, 2), (5, 0)] rfl ?_
    refine O.mv rfl rfl rfl rfl rfl ?_
    refine O.faz rfl rfl rfl rfl ⟨_, _, _, Go.Proofs.Try.underlying68, rfl, rfl, Go.Proofs.Try.sizeOf3⟩ rfl ?_
    refine O.ld rfl rfl rfl (fun w => ⟨Go.Proofs.Try.isAgg3 w, Go.Proofs.Try.sizeOf3 w⟩) rfl x5 ?_
    refine O.bsl (cs := (EN.enc y.1)) rfl rfl rfl ⟨Go.Proofs.Try.underlying22, Go.Proofs.Try.sizeOf3, Go.Proofs.Try.zeroValue3, ⟨_, Go.Proofs.Try.typeInfo3, rfl⟩, rfl, by decide, by decide⟩ rfl (by decide) (by kernel_rfl) ?_
    intro H6 M6
    have hs6 := M6.size
    have hA6 := hA5.fr (M6.fr nowhere) (fun _ _ _ _ => nw)
    have m6 : Rd H6 H5.size 0 (row EN [y.1]) := M6.rd _ [] (by simp [row, EN])
    refine ⟨trivial, ?_⟩
    refine O.appA (E := EN) (Y := [y.1]) rfl rfl rfl ⟨Go.Proofs.Try.underlying22, Go.Proofs.Try.sizeOf3, Go.Proofs.Try.zeroValue3, ⟨_, Go.Proofs.Try.typeInfo3, rfl⟩, rfl, by decide, by decide⟩ rfl hA6 rfl ⟨_, _, _, rfl, m6⟩ (Nat.succ_pos _) (by rw [hlout]; exact Nat.le_trans (Nat.mul_le_mul_left _ (Nat.le_of_ble_eq_true (n := _) (m := 4096) rfl)) (by simp only [List.length_cons, List.length_nil]; omega)) (by rw [hlout]; simp only [List.length_cons, List.length_nil]; omega) ?_
    intro v7 H7 hA7 hF7 hs7
    rw [← hx] at hA7
    refine ⟨trivial, ?_⟩
    refine O.asg rfl rfl rfl rfl rfl ?_
    refine Pl.fin [(3, _), (5, _), (6, _), (7, _), (8, _), (9, _)] ⟨rfl, rfl, rfl, rfl, rfl, rfl, trivial⟩ ?_
    refine Go'.inBlock ?_
    -- region 6 (list.go:177)
    refine Go'.region [(0, 0), (1, 0)] rfl ?_
    refine O.add (((j + 1 : Nat) : Int)) rfl rfl rfl rfl rfl rfl (by omega) (by omega) ?_
    refine O.mv rfl rfl rfl rfl rfl ?_
    refine Pl.fin [(3, _), (5, _), (6, _), (7, _), (8, _), (9, _)] ⟨rfl, rfl, rfl, rfl, rfl, rfl, trivial⟩ ?_
    refine Go'.keep [(3, _), (6, _), (7, _), (8, _)] ⟨rfl, rfl, rfl, rfl, trivial⟩ ?_
    refine Go'.inLoop ?_
    exact ih (j + 1, v7) H7 ⟨((hF.trans hf5).trans (M6.fr nowhere)).trans' hF7 (fun _ _ _ h => h) (fun b o hb hz => by have hz' : H.size ≤ b := hz; omega), hlt, hA7.mono (fun b hb hz => hz.elim id (fun h => by omega))⟩ (by simp only; omega)
  · skip
    obtain rfl : j = l.length := by omega
    rw [List.take_length] at hA
    -- region 3 (list.go:177)
    refine Go'.region [(0, 0)] rfl ?_
    refine O.cmp rfl rfl rfl rfl rfl rfl (lssF (by omega)) ?_
    refine Pl.fin [(3, _), (6, _), (7, _), (8, _), (9, _)] ⟨rfl, rfl, rfl, rfl, rfl, trivial⟩ ?_
    refine Go'.seq ?_
    refine Go'.condF rfl ?_
    refine Go'.exit rfl ?_
    refine Go'.seq ?_
    -- region 7 (list.go:180)
    refine Go'.region [(0, 0), (1, 0)] rfl ?_
    refine O.mv rfl rfl rfl rfl rfl ?_
    refine O.asg rfl rfl rfl rfl rfl ?_
    refine Pl.fin [(2, _)] ⟨rfl, trivial⟩ ?_
    refine Go'.ret (vs := [_]) Go.Proofs.Try.func49 Go.Proofs.Try.results49 ⟨rfl, trivial⟩ ?_
    exact ⟨hA.out, hF⟩

theorem eqInts_spec {B : World} {H : Mem} {u v : Value} {l : List (Int)} (hu : InS EN H u l) (hv : InS EN H v l) (hll : l.length ≤ 4294967296) :
    Fn Try.prog B 22 [u, v] H (fun r H' => r = .bool true ∧ H' = H) := by
  obtain ⟨a, c, e⟩ := hu.len
  subst e
  obtain ⟨a', c', e⟩ := hv.len
  subst e
  refine fn_of Go.Proofs.Try.func22 rfl Go.Proofs.Try.ntmps22 ?_
  refine (show Go' _ _ _ _ 26 [(0, _), (1, _)] [.code _] _ from ?_)
  refine Go'.seq ?_
  -- region 0 (slices.go:20)
  refine Go'.region [(0, 0)] rfl ?_
  refine O.asg rfl rfl rfl rfl rfl ?_
  refine Pl.fin [(0, _), (1, _), (4, _)] ⟨rfl, rfl, rfl, trivial⟩ ?_
  refine Go'.seq ?_
  refine Go'.seq ?_
  -- region 1 (slices.go:21)
  refine Go'.region [(0, 0), (1, 0), (2, 0), (3, 0), (4, 0)] rfl ?_
  refine O.mv rfl rfl rfl rfl rfl ?_
  refine O.len rfl rfl rfl rfl Go.Proofs.Try.underlying22 rfl ?_
  refine O.mv rfl rfl rfl rfl rfl ?_
  refine O.len rfl rfl rfl rfl Go.Proofs.Try.underlying22 rfl ?_
  refine O.cmp rfl rfl rfl rfl rfl rfl (neqF (by omega)) ?_
  refine Pl.fin [(0, _), (1, _), (4, _), (10, _)] ⟨rfl, rfl, rfl, rfl, trivial⟩ ?_
  refine Go'.condF rfl ?_
  refine Go'.skip ?_
  refine Go'.seq ?_
  refine Go'.seq ?_
  -- region 3 (slices.go:24)
  refine Go'.region [(0, 0), (1, 0), (2, 0)] rfl ?_
  refine O.mv rfl rfl rfl rfl rfl ?_
  refine O.len rfl rfl rfl rfl Go.Proofs.Try.underlying22 rfl ?_
  refine O.mv rfl rfl rfl rfl rfl ?_
  refine Pl.fin [(0, _), (1, _), (4, _), (12, _), (13, _)] ⟨rfl, rfl, rfl, rfl, rfl, trivial⟩ ?_
  refine Go'.block ?_
  refine Go'.loop ?_
  refine Go'.keep [(0, _), (1, _), (4, _), (12, _), (13, _)] ⟨rfl, rfl, rfl, rfl, rfl, trivial⟩ ?_
  refine Go'.ind (σ := Nat) (fun j => l.length - j) (fun j H' => H' = H ∧ j ≤ l.length)
    (fun j => [(0, .slice a l.length c), (1, .slice a' l.length c'), (4, .bool false), (12, .int .i64 (l.length : Int)), (13, .int .i64 (j : Int))]) 0 ⟨rfl, Nat.zero_le _⟩ rfl ?_
  rintro j H2 ⟨hHH, hjl⟩ ih
  have eH : H = H2 := hHH.symm
  subst eH
  clear hHH
  refine Go'.seq ?_
  by_cases hlt : j < l.length
  · skip
    obtain ⟨y, hy⟩ : ∃ y, l[j]? = some y := ⟨l[j], List.getElem?_eq_getElem hlt⟩
    obtain ⟨b, o, cc, e, hr⟩ := hu.at hy
    cases e
    obtain ⟨b', o', cc', e, hr'⟩ := hv.at hy
    cases e
    -- region 4 (slices.go:24)
    refine Go'.region [(0, 0)] rfl ?_
    refine O.cmp rfl rfl rfl rfl rfl rfl (lssT (by omega)) ?_
    refine Pl.fin [(0, _), (1, _), (4, _), (12, _), (13, _), (14, _)] ⟨rfl, rfl, rfl, rfl, rfl, rfl, trivial⟩ ?_
    refine Go'.seq ?_
    refine Go'.condT rfl ?_
    refine Go'.skip ?_
    refine Go'.seq ?_
    refine Go'.block ?_
    refine Go'.seq ?_
    -- region 5 (slices.go:24)
    refine Go'.region [(0, 0), (1, 0)] rfl ?_
    refine O.mv rfl rfl rfl rfl rfl ?_
    refine O.asg rfl rfl rfl rfl rfl ?_
    refine Pl.fin [(0, _), (1, _), (4, _), (5, _), (12, _), (13, _), (14, _)] ⟨rfl, rfl, rfl, rfl, rfl, rfl, rfl, trivial⟩ ?_
    refine Go'.seq ?_
    -- region 6 (slices.go:25)
    refine Go'.draw (fun _ => True) [(0, 0), (1, 0), (2, 0), (3, 1), (4, 0), (5, 0), (6, 0), (7, 1), (8, 0)] (by kernel_rfl) (by kernel_rfl) (trivial) ?_
    refine O.mv rfl rfl rfl rfl rfl ?_
    refine O.mv rfl rfl rfl rfl rfl ?_
    refine O.ix (j := j) rfl rfl rfl rfl Go.Proofs.Try.underlying22 Go.Proofs.Try.sizeOf3 rfl rfl (by omega) hlt ?_
    refine O.ld rfl rfl rfl (fun w => ⟨Go.Proofs.Try.isAgg3 w, Go.Proofs.Try.sizeOf3 w⟩) rfl (hr 0 _ rfl) ?_
    refine O.mv rfl rfl rfl rfl rfl ?_
    refine O.mv rfl rfl rfl rfl rfl ?_
    refine O.ix (j := j) rfl rfl rfl rfl Go.Proofs.Try.underlying22 Go.Proofs.Try.sizeOf3 rfl rfl (by omega) hlt ?_
    refine O.ld rfl rfl rfl (fun w => ⟨Go.Proofs.Try.isAgg3 w, Go.Proofs.Try.sizeOf3 w⟩) rfl (hr' 0 _ rfl) ?_
    refine O.cmp rfl rfl rfl rfl rfl rfl (neqF rfl) ?_
    refine Pl.fin [(0, _), (1, _), (4, _), (5, _), (12, _), (13, _), (14, _), (24, _)] ⟨rfl, rfl, rfl, rfl, rfl, rfl, rfl, rfl, trivial⟩ ?_
    refine Go'.condF rfl ?_
    refine Go'.skip ?_
    refine Go'.inBlock ?_
    -- region 8 (slices.go:24)
    refine Go'.region [(0, 0), (1, 0)] rfl ?_
    refine O.add (((j + 1 : Nat) : Int)) rfl rfl rfl rfl rfl rfl (by omega) (by omega) ?_
    refine O.mv rfl rfl rfl rfl rfl ?_
    refine Pl.fin [(0, _), (1, _), (4, _), (5, _), (12, _), (13, _), (14, _), (24, _)] ⟨rfl, rfl, rfl, rfl, rfl, rfl, rfl, rfl, trivial⟩ ?_
    refine Go'.keep [(0, _), (1, _), (4, _), (12, _), (13, _)] ⟨rfl, rfl, rfl, rfl, rfl, trivial⟩ ?_
    refine Go'.inLoop ?_
    exact ih (j + 1) H ⟨rfl, hlt⟩ (by omega)
  · skip
    -- region 4 (slices.go:24)
    refine Go'.region [(0, 0)] rfl ?_
    refine O.cmp rfl rfl rfl rfl rfl rfl (lssF (by omega)) ?_
    refine Pl.fin [(0, _), (1, _), (4, _), (12, _), (13, _), (14, _)] ⟨rfl, rfl, rfl, rfl, rfl, rfl, trivial⟩ ?_
    refine Go'.seq ?_
    refine Go'.condF rfl ?_
    refine Go'.exit rfl ?_
    refine Go'.seq ?_
    -- region 9 (slices.go:29)
    refine Go'.region [(0, 0)] rfl ?_
    refine O.asg rfl rfl rfl rfl rfl ?_
    refine Pl.fin [(4, _)] ⟨rfl, trivial⟩ ?_
    refine Go'.ret (vs := [_]) Go.Proofs.Try.func22 Go.Proofs.Try.results22 ⟨rfl, trivial⟩ ?_
    exact ⟨rfl, rfl⟩

theorem lawSScan_spec {B : World} {H : Mem} {u : Value} {l : List Int} {n : Int} (hi : InS EN H u l) (hll : l.length ≤ 4294967296) :
    Fn Try.prog B 16 [u, .int .i64 n] H (fun r H' => r = .bool true ∧ Fr nowhere H H') := by
  have hlm : (l.map kinj).length ≤ 4294967296 := by rw [List.length_map]; exact hll
  have hpl := Pl.puts_length OI l
  have hmm : (firstN (Pl.puts (OO []) (l.map kinj)) n).map (fun x => x.1) = firstN (Pl.puts OI l) n := by
    rw [puts_kinj]
    have e : ((Pl.puts OI l).map kinj).map (fun x : Int × Int => x.1) = Pl.puts OI l := by rw [List.map_map]; exact List.map_id _
    unfold firstN
    rw [List.length_map]
    split
    · exact e
    · rw [← List.map_take, List.map_map]; exact List.map_id _
  have hfl : (firstN (Pl.puts OI l) n).length ≤ 4294967296 := by
    unfold firstN; split
    · omega
    · rw [List.length_take]; omega
  have hfl2 : (firstN (Pl.puts (OO []) (l.map kinj)) n).length ≤ 4294967296 := by rw [← List.length_map (f := fun x : Int × Int => x.1), hmm]; exact hfl
  refine fn_of Go.Proofs.Try.func16 rfl Go.Proofs.Try.ntmps16 ?_
  refine (show Go' _ _ _ _ 19 [(0, _), (1, _)] [.code _] _ from ?_)
  refine Go'.seq ?_
  -- region 0 (exact.go:1797)
  refine Go'.region [(0, 0)] rfl ?_
  refine O.asg rfl rfl rfl rfl rfl ?_
  refine Pl.fin [(0, _), (1, _), (4, _)] ⟨rfl, rfl, rfl, trivial⟩ ?_
  refine Go'.seq ?_
  -- region 1 (exact.go:1798)
  refine Go'.region [(0, 0), (1, 0), (2, 2), (3, 0)] rfl ?_
  refine O.mv rfl rfl rfl rfl rfl ?_
  refine O.mv rfl rfl rfl rfl rfl ?_
  refine O.call rfl rfl rfl Go.Proofs.Try.call48 rfl (simplScan_spec (n := n) hi hll) ?_
  rintro v1 H1 ⟨h1, hF1⟩
  refine ⟨trivial, ?_⟩
  refine O.asg rfl rfl rfl rfl rfl ?_
  refine Pl.fin [(0, _), (1, _), (4, _), (5, _)] ⟨rfl, rfl, rfl, rfl, trivial⟩ ?_
  refine Go'.seq ?_
  -- region 2 (exact.go:1799)
  refine Go'.region [(0, 0), (1, 0), (2, 2), (3, 0), (4, 2), (5, 2), (6, 0)] rfl ?_
  refine O.bld (cs := [.slice none 0 0, .int .i64 0, .bool false]) rfl rfl rfl rfl (stM) rfl (by kernel_rfl) ?_
  refine O.mv rfl rfl rfl rfl rfl ?_
  refine O.call rfl rfl rfl Go.Proofs.Try.call43 rfl (specItems_spec (hi.fr hF1) hll) ?_
  rintro v2 H2 ⟨h2, hF2⟩
  refine ⟨trivial, ?_⟩
  refine O.mv rfl rfl rfl rfl rfl ?_
  refine O.call rfl rfl rfl Go.Proofs.Try.call50 rfl (gscan_spec (ord := []) (n := n) (InS.nil EN H2) (by simp) h2.inS hlm) ?_
  rintro v4 H4 ⟨h4, hF4⟩
  refine ⟨trivial, ?_⟩
  refine O.call rfl rfl rfl Go.Proofs.Try.call49 rfl (specKeys_spec h4 hfl2) ?_
  rintro v5 H5 ⟨h5, hF5⟩
  rw [hmm] at h5
  refine ⟨trivial, ?_⟩
  refine O.asg rfl rfl rfl rfl rfl ?_
  refine Pl.fin [(4, _), (5, _), (6, _)] ⟨rfl, rfl, rfl, trivial⟩ ?_
  refine Go'.seq ?_
  -- region 3 (exact.go:1800)
  refine Go'.region [(0, 0), (1, 0), (2, 2), (3, 0)] rfl ?_
  refine O.mv rfl rfl rfl rfl rfl ?_
  refine O.mv rfl rfl rfl rfl rfl ?_
  refine O.callQ rfl rfl rfl Go.Proofs.Try.call22 rfl (eqInts_spec (h1.inS.fr ((hF2.trans hF4).trans hF5)) h5.inS hfl) trivial ?_
  refine O.asg rfl rfl rfl rfl rfl ?_
  refine Pl.fin [(4, _)] ⟨rfl, trivial⟩ ?_
  refine Go'.ret (vs := [_]) Go.Proofs.Try.func16 Go.Proofs.Try.results16 ⟨rfl, trivial⟩ ?_
  exact ⟨rfl, ((hF1.trans hF2).trans hF4).trans hF5⟩

theorem fnExactSScan {B : World} {H : Mem} {u : Value} {l : List Int} {n : Int} (hi : InS EN H u l) :
    Fn Try.prog B 5 [u, .int .i64 n] H (fun r H' => r = .bool true ∧ Fr nowhere H H') := by
  obtain ⟨a, c, hu⟩ := hi.len
  subst hu
  have hi0 := hi
  refine fn_of Go.Proofs.Try.func5 rfl Go.Proofs.Try.ntmps5 ?_
  refine (show Go' _ _ _ _ 15 [(0, _), (1, _)] [.code _] _ from ?_)
  refine Go'.seq ?_
  -- region 0 (exact.go:1790)
  refine Go'.region [(0, 0)] rfl ?_
  refine O.asg rfl rfl rfl rfl rfl ?_
  refine Pl.fin [(0, _), (1, _), (4, _)] ⟨rfl, rfl, rfl, trivial⟩ ?_
  refine Go'.seq ?_
  refine Go'.seq ?_
  by_cases hbig : (2147483647 : Int) < (l.length : Int)
  · skip
    -- region 1 (exact.go:1791)
    refine Go'.region [(0, 0), (1, 0), (2, 0)] rfl ?_
    refine O.mv rfl rfl rfl rfl rfl ?_
    refine O.len rfl rfl rfl rfl Go.Proofs.Try.underlying22 rfl ?_
    refine O.cmp rfl rfl rfl rfl rfl rfl (gtrT (by omega)) ?_
    refine Pl.fin [(0, _), (1, _), (4, _), (7, _)] ⟨rfl, rfl, rfl, rfl, trivial⟩ ?_
    refine Go'.condT rfl ?_
    refine Go'.seq ?_
    -- region 2 (exact.go:1792)
    refine Go'.region [(0, 0)] rfl ?_
    refine O.asg rfl rfl rfl rfl rfl ?_
    refine Pl.fin [(0, _), (1, _), (4, _)] ⟨rfl, rfl, rfl, trivial⟩ ?_
    refine Go'.ret (vs := [_]) Go.Proofs.Try.func5 Go.Proofs.Try.results5 ⟨rfl, trivial⟩ ?_
    exact ⟨rfl, Fr.refl _ _⟩
  · skip
    -- region 1 (exact.go:1791)
    refine Go'.region [(0, 0), (1, 0), (2, 0)] rfl ?_
    refine O.mv rfl rfl rfl rfl rfl ?_
    refine O.len rfl rfl rfl rfl Go.Proofs.Try.underlying22 rfl ?_
    refine O.cmp rfl rfl rfl rfl rfl rfl (gtrF (by omega)) ?_
    refine Pl.fin [(0, _), (1, _), (4, _), (7, _)] ⟨rfl, rfl, rfl, rfl, trivial⟩ ?_
    refine Go'.condF rfl ?_
    refine Go'.skip ?_
    refine Go'.seq ?_
    -- region 3 (exact.go:1794)
    refine Go'.region [(0, 2), (1, 2), (2, 0), (3, 0), (4, 0), (5, 2), (6, 0), (7, 0)] rfl ?_
    refine O.bsl (cs := (row EN exks)) rfl rfl rfl ⟨Go.Proofs.Try.underlying22, Go.Proofs.Try.sizeOf3, Go.Proofs.Try.zeroValue3, ⟨_, Go.Proofs.Try.typeInfo3, rfl⟩, rfl, by decide, by decide⟩ rfl (by decide) (by kernel_rfl) ?_
    intro H1 M1
    have hev : InS EN H1 (.slice (some ⟨H.size, 0, none⟩) 5 5) exks := .inl ⟨H.size, 0, 5, rfl, by decide, M1.rd _ [] (by simp)⟩
    refine ⟨trivial, ?_⟩
    refine O.call rfl rfl rfl Go.Proofs.Try.call16 rfl (lawSScan_spec (n := 2) hev (by decide)) ?_
    rintro _ H2 ⟨rfl, hF2⟩
    have hF := (M1.fr nowhere).trans hF2
    have hi2 := hi0.fr hF
    refine ⟨trivial, ?_⟩
    refine O.mv rfl rfl rfl rfl rfl ?_
    refine O.mv rfl rfl rfl rfl rfl ?_
    refine O.mv rfl rfl rfl rfl rfl ?_
    refine O.call rfl rfl rfl Go.Proofs.Try.call16 rfl (lawSScan_spec hi2 (by omega)) ?_
    rintro _ H3 ⟨rfl, hF3⟩
    replace hF := hF.trans hF3
    refine ⟨trivial, ?_⟩
    refine O.pick rfl rfl rfl rfl rfl rfl ?_
    refine O.asg rfl rfl rfl rfl rfl ?_
    refine Pl.fin [(4, _)] ⟨rfl, trivial⟩ ?_
    refine Go'.ret (vs := [_]) Go.Proofs.Try.func5 Go.Proofs.Try.results5 ⟨rfl, trivial⟩ ?_
    exact ⟨rfl, hF⟩

end Go.Bt.FZ