/- Contracts of functions of the program, proved by walking through their code. Conditions: those that each theorem names. -/
import Derived.Test.YtknkmaigdgfhlaavC
namespace Go.Bt.FZ
open Go Go.Proofs
set_option maxRecDepth 20000
set_option maxHeartbeats 4000000
set_option linter.unusedVariables false

theorem gget_spec {B : World} {H : Mem} {v u q dg nl : Value} {ord : List Int} {l ks : List (Int × Int)} (ho : InS EN H v ord) (hl : ord.length < 4611686018427387904) (hi : InS EJ H u l) (hll : l.length ≤ 4294967296) (hk : InS EJ H q ks) (hkl : ks.length ≤ 4294967296) :
    Fn Try.prog B 46 [.agg #[v, dg, nl], u, q] H (fun r H' => OutS EF H' r (ks.map (fun k => Pl.got (OO ord) k (Pl.puts (OO ord) l))) ∧ Fr nowhere H H') := by
  obtain ⟨a, c, hu⟩ := hk.len
  subst hu
  have hpl := Pl.puts_length (OO ord) l
  have hso := Pl.puts_srt (OO ord) l
  refine fn_of Go.Proofs.Try.func46 rfl Go.Proofs.Try.ntmps46 ?_
  refine (show Go' _ _ _ _ 43 [(0, _), (1, _), (2, _)] [.code _] _ from ?_)
  refine Go'.seq ?_
  -- region 0 (tree.go:18)
  refine Go'.region [(0, 2), (1, 0)] rfl ?_
  refine O.box rfl rfl rfl rfl ?_
  intro H1 M1
  refine ⟨trivial, ?_⟩
  have hF1 := M1.fr nowhere
  replace ho := ho.fr hF1
  replace hi := hi.fr hF1
  replace hk := hk.fr hF1
  have mi : cl H1 H.size 0 = some v := (M1.cl 0).trans rfl
  refine O.asg rfl rfl rfl rfl rfl ?_
  refine Pl.fin [(1, _), (2, _), (3, _), (6, _)] ⟨rfl, rfl, rfl, rfl, trivial⟩ ?_
  refine Go'.seq ?_
  -- region 1 (tree.go:19)
  refine Go'.region [(0, 0), (1, 1), (2, 0), (3, 2), (4, 0)] rfl ?_
  refine O.faz rfl rfl rfl rfl ⟨_, _, _, Go.Proofs.Try.underlying73, rfl, rfl, Go.Proofs.Try.sizeOf22⟩ rfl ?_
  refine O.ld rfl rfl rfl (fun w => ⟨Go.Proofs.Try.isAgg22 w, Go.Proofs.Try.sizeOf22 w⟩) rfl mi ?_
  refine O.mv rfl rfl rfl rfl rfl ?_
  refine O.call rfl rfl rfl Go.Proofs.Try.call69 rfl (tree_spec ho hl hi hll) ?_
  rintro tv H2 ⟨htv, hF2⟩
  replace ho := ho.fr hF2
  replace hk := hk.fr hF2
  replace mi := hF2.keep mi nw
  have hF12 := hF1.trans hF2
  replace htv := htv.inS
  refine ⟨trivial, ?_⟩
  refine O.asg rfl rfl rfl rfl rfl ?_
  refine Pl.fin [(2, _), (3, _), (6, _), (7, _)] ⟨rfl, rfl, rfl, rfl, trivial⟩ ?_
  refine Go'.seq ?_
  -- region 2 (tree.go:20)
  refine Go'.region [(0, 0)] rfl ?_
  refine O.asg rfl rfl rfl rfl rfl ?_
  refine Pl.fin [(2, _), (3, _), (6, _), (7, _), (8, _)] ⟨rfl, rfl, rfl, rfl, rfl, trivial⟩ ?_
  refine Go'.seq ?_
  refine Go'.seq ?_
  -- region 3 (tree.go:21)
  refine Go'.region [(0, 0), (1, 0), (2, 0)] rfl ?_
  refine O.mv rfl rfl rfl rfl rfl ?_
  refine O.len rfl rfl rfl rfl Go.Proofs.Try.underlying74 rfl ?_
  refine O.mv rfl rfl rfl rfl rfl ?_
  refine Pl.fin [(3, _), (6, _), (7, _), (8, _), (18, _), (19, _), (20, _)] ⟨rfl, rfl, rfl, rfl, rfl, rfl, rfl, trivial⟩ ?_
  refine Go'.block ?_
  refine Go'.loop ?_
  refine Go'.keep [(3, _), (7, _), (8, _), (18, _), (19, _), (20, _)] ⟨rfl, rfl, rfl, rfl, rfl, rfl, trivial⟩ ?_
  refine Go'.ind (σ := Nat × Value) (fun s => ks.length - s.1) (fun s H' => Fr nowhere H2 H' ∧ s.1 ≤ ks.length ∧ Acc EF (fun b => H2.size ≤ b) H' s.2 ((ks.take s.1).map (fun k => Pl.got (OO ord) k (Pl.puts (OO ord) l))))
    (fun s => [(3, .pointer (some ⟨H.size, 0, none⟩)), (7, tv), (8, s.2), (18, .slice a ks.length c), (19, .int .i64 (ks.length : Int)), (20, .int .i64 (s.1 : Int))]) (0, .slice none 0 0) ⟨Fr.refl _ _, Nat.zero_le _, Acc.nil _ _ _⟩ rfl ?_
  rintro ⟨j, sv⟩ H3 ⟨hF, hjl, hA⟩ ih
  simp only at hjl hA
  have hk3 := hk.fr hF
  refine Go'.seq ?_
  by_cases hlt : j < ks.length
  · skip
    obtain ⟨y, hy⟩ : ∃ y, ks[j]? = some y := ⟨ks[j], List.getElem?_eq_getElem hlt⟩
    obtain ⟨b, o, c', e, hr⟩ := hk3.at hy
    cases e
    have hsz := hF.size
    have hx : (ks.take (j + 1)).map (fun k => Pl.got (OO ord) k (Pl.puts (OO ord) l)) = (ks.take j).map (fun k => Pl.got (OO ord) k (Pl.puts (OO ord) l)) ++ [Pl.got (OO ord) y (Pl.puts (OO ord) l)] := by rw [List.take_add_one, hy, List.map_append]; rfl
    have hlout : ((ks.take j).map (fun k => Pl.got (OO ord) k (Pl.puts (OO ord) l))).length = j := by rw [List.length_map, List.length_take]; omega
    -- region 4 (tree.go:21)
    refine Go'.region [(0, 0)] rfl ?_
    refine O.cmp rfl rfl rfl rfl rfl rfl (lssT (by omega)) ?_
    refine Pl.fin [(3, _), (7, _), (8, _), (18, _), (19, _), (20, _), (21, _)] ⟨rfl, rfl, rfl, rfl, rfl, rfl, rfl, trivial⟩ ?_
    refine Go'.seq ?_
    refine Go'.condT rfl ?_
    refine Go'.skip ?_
    refine Go'.seq ?_
    refine Go'.block ?_
    refine Go'.seq ?_
    -- region 5 (tree.go:21)
    refine Go'.region [(0, 0), (1, 1), (2, 2), (3, 2)] rfl ?_
    refine O.ix (j := j) rfl rfl rfl rfl Go.Proofs.Try.underlying74 Go.Proofs.Try.sizeOf68 rfl rfl (by omega) hlt ?_
    refine O.lds rfl rfl rfl (fun w => ⟨Go.Proofs.Try.isAgg68 w, Go.Proofs.Try.sizeOf68 w⟩) rfl rfl hr ?_
    refine O.alloc rfl rfl rfl Go.Proofs.Try.zeroValue68 ?_
    intro H4 M4
    refine ⟨trivial, ?_⟩
    have hs4 := M4.size
    have m4 : Wr H4 H3.size 0 2 := M4.wr 2 (by decide)
    refine O.st rfl rfl Go.Proofs.Try.sizeOf68 rfl rfl rfl rfl rfl m4 ?_
    intro H5 W5
    have hs5 := W5.size
    have hf5 : Fr nowhere H3 H5 := (M4.fr nowhere).trans' W5.fr (fun _ _ _ h => h) (fun b o hb hz => by have h1 := hz.1; omega)
    have x5 : Rd H5 H3.size 0 (EJ.enc y) := W5.all
    refine ⟨trivial, ?_⟩
    refine Pl.fin [(3, _), (7, _), (8, _), (10, _), (18, _), (19, _), (20, _), (21, _)] ⟨rfl, rfl, rfl, rfl, rfl, rfl, rfl, rfl, trivial⟩ ?_
    refine Go'.seq ?_
    -- region 6 (tree.go:22)
    refine Go'.region [(0, 0), (1, 2), (2, 2)] rfl ?_
    refine O.bld (cs := (fvs none)) rfl rfl rfl rfl (st70) rfl (by kernel_rfl) ?_
    refine O.alloc rfl rfl rfl Go.Proofs.Try.zeroValue70 ?_
    intro H6 M6
    refine ⟨trivial, ?_⟩
    have hs6 := M6.size
    have m6 : Wr H6 H5.size 0 3 := M6.wr 3 (by decide)
    replace x5 := (M6.fr nowhere).rd x5 (fun _ _ => nw)
    refine O.st (vs := (fvs none)) rfl rfl Go.Proofs.Try.sizeOf70 rfl rfl rfl rfl rfl m6 ?_
    intro H7 W7
    have hs7 := W7.size
    have hf7 : Fr nowhere H3 H7 := (hf5.trans (M6.fr nowhere)).trans' W7.fr (fun _ _ _ h => h) (fun b o hb hz => by have h1 := hz.1; omega)
    replace x5 := W7.fr.rd x5 (fun _ _ => nr (.inl (by omega)))
    replace m6 := W7.fr.wr m6
    have f7 : Rd H7 H5.size 0 (fvs none) := W7.all
    refine ⟨trivial, ?_⟩
    refine Pl.fin [(3, _), (7, _), (8, _), (10, _), (11, _), (18, _), (19, _), (20, _), (21, _)] ⟨rfl, rfl, rfl, rfl, rfl, rfl, rfl, rfl, rfl, trivial⟩ ?_
    refine Go'.seq ?_
    refine Go'.seq ?_
    -- region 7 (tree.go:23)
    refine Go'.region [(0, 0), (1, 1), (2, 0), (3, 1), (4, 2), (5, 0), (6, 0), (7, 0), (8, 0), (9, 0)] rfl ?_
    refine O.faz rfl rfl rfl rfl ⟨_, _, _, Go.Proofs.Try.underlying73, rfl, rfl, Go.Proofs.Try.sizeOf22⟩ rfl ?_
    refine O.ld rfl rfl rfl (fun w => ⟨Go.Proofs.Try.isAgg22 w, Go.Proofs.Try.sizeOf22 w⟩) rfl ((hF.trans hf7).keep mi nw) ?_
    refine O.mv rfl rfl rfl rfl rfl ?_
    refine O.lds rfl rfl rfl (fun w => ⟨Go.Proofs.Try.isAgg68 w, Go.Proofs.Try.sizeOf68 w⟩) rfl rfl x5 ?_
    refine O.call rfl rfl rfl Go.Proofs.Try.call89 rfl (place_spec (x := y) (ho.fr (hF.trans hf7)) hl (htv.fr (hF.trans hf7)) hso (by omega)) ?_
    rintro _ H8 ⟨rfl, hF8⟩
    have hs8 := hF8.size
    have hf8 := hf7.trans hF8
    replace m6 := hF8.wr m6
    replace f7 := hF8.rd f7 (fun _ _ => nw)
    refine ⟨trivial, ?_⟩
    refine O.mv rfl rfl rfl rfl rfl ?_
    refine O.ext rfl rfl rfl rfl rfl rfl ?_
    refine O.ext rfl rfl rfl rfl rfl rfl ?_
    refine O.asg rfl rfl rfl rfl rfl ?_
    refine O.asg rfl rfl rfl rfl rfl ?_
    refine Pl.fin [(3, _), (7, _), (8, _), (10, _), (11, _), (12, _), (13, _), (18, _), (19, _), (20, _), (21, _)] ⟨rfl, rfl, rfl, rfl, rfl, rfl, rfl, rfl, rfl, rfl, rfl, trivial⟩ ?_
    refine Go'.seq ?_
    -- region 8 (tree.go:23)
    refine Go'.region [(0, 0)] rfl ?_
    refine O.mv rfl rfl rfl rfl rfl ?_
    refine Pl.fin [(3, _), (7, _), (8, _), (10, _), (11, _), (12, _), (13, _), (18, _), (19, _), (20, _), (21, _), (33, _)] ⟨rfl, rfl, rfl, rfl, rfl, rfl, rfl, rfl, rfl, rfl, rfl, rfl, trivial⟩ ?_
    cases hfd : Pl.fnd (OO ord) y (Pl.puts (OO ord) l)
    · skip
      rw [Pl.got_none _ hfd] at hx
      refine Go'.condF rfl ?_
      refine Go'.skip ?_
      -- region 10 (tree.go:26)
      refine Go'.region [(0, 0), (1, 1), (2, 2), (3, 2), (4, 0)] rfl ?_
      refine O.mv rfl rfl rfl rfl rfl ?_
      refine O.lds rfl rfl rfl (fun w => ⟨Go.Proofs.Try.isAgg70 w, Go.Proofs.Try.sizeOf70 w⟩) rfl rfl f7 ?_
      refine O.bsl (cs := (fvs none)) rfl rfl rfl ⟨Go.Proofs.Try.underlying78, Go.Proofs.Try.sizeOf70, Go.Proofs.Try.zeroValue70, ⟨_, Go.Proofs.Try.typeInfo70, rfl⟩, rfl, by decide, by decide⟩ rfl (by decide) (by kernel_rfl) ?_
      intro H11 M11
      have hs11 := M11.size
      have hA11 := hA.fr (hf8.trans (M11.fr nowhere)) (fun _ _ _ _ => nw)
      have m11 : Rd H11 H8.size 0 (row EF [none]) := M11.rd _ [] (by simp [row, EF, fvs])
      refine ⟨trivial, ?_⟩
      refine O.appA (E := EF) (Y := [none]) rfl rfl rfl ⟨Go.Proofs.Try.underlying78, Go.Proofs.Try.sizeOf70, Go.Proofs.Try.zeroValue70, ⟨_, Go.Proofs.Try.typeInfo70, rfl⟩, rfl, by decide, by decide⟩ rfl hA11 rfl ⟨_, _, _, rfl, m11⟩ (Nat.succ_pos _) (by rw [hlout]; exact Nat.le_trans (Nat.mul_le_mul_left _ (Nat.le_of_ble_eq_true (n := _) (m := 4096) rfl)) (by simp only [List.length_cons, List.length_nil]; omega)) (by rw [hlout]; simp only [List.length_cons, List.length_nil]; omega) ?_
      intro v12 H12 hA12 hF12 hs12
      rw [← hx] at hA12
      refine ⟨trivial, ?_⟩
      refine O.asg rfl rfl rfl rfl rfl ?_
      refine Pl.fin [(3, _), (7, _), (8, _), (10, _), (11, _), (12, _), (13, _), (18, _), (19, _), (20, _), (21, _), (33, _)] ⟨rfl, rfl, rfl, rfl, rfl, rfl, rfl, rfl, rfl, rfl, rfl, rfl, trivial⟩ ?_
      refine Go'.inBlock ?_
      -- region 11 (tree.go:21)
      refine Go'.region [(0, 0), (1, 0)] rfl ?_
      refine O.add (((j + 1 : Nat) : Int)) rfl rfl rfl rfl rfl rfl (by omega) (by omega) ?_
      refine O.mv rfl rfl rfl rfl rfl ?_
      refine Pl.fin [(3, _), (7, _), (8, _), (10, _), (11, _), (12, _), (13, _), (18, _), (19, _), (20, _), (21, _), (33, _)] ⟨rfl, rfl, rfl, rfl, rfl, rfl, rfl, rfl, rfl, rfl, rfl, rfl, trivial⟩ ?_
      refine Go'.keep [(3, _), (7, _), (8, _), (18, _), (19, _), (20, _)] ⟨rfl, rfl, rfl, rfl, rfl, rfl, trivial⟩ ?_
      refine Go'.inLoop ?_
      exact ih (j + 1, v12) H12 ⟨((hF.trans hf8).trans (M11.fr nowhere)).trans' hF12 (fun _ _ _ h => h) (fun b o hb hz => by have hz' : H2.size ≤ b := hz; omega), hlt, hA12.mono (fun b hb hz => hz.elim id (fun h => by omega))⟩ (by simp only; omega)
    · skip
      obtain ⟨z, hz, _, _⟩ := Pl.fnd_at (OO ord) hso hfd
      rw [Pl.got_some _ hfd, hz] at hx
      refine Go'.condT rfl ?_
      -- region 9 (tree.go:24)
      refine Go'.region [(0, 0), (1, 0), (2, 2), (3, 2)] rfl ?_
      refine O.mv rfl rfl rfl rfl rfl ?_
      refine O.mv rfl rfl rfl rfl rfl ?_
      refine O.call rfl rfl rfl Go.Proofs.Try.call87 rfl (at_spec _ (htv.fr (hF.trans hf8)) (by omega)) ?_
      rintro _ H9 ⟨rfl, hF9⟩
      have hs9 := hF9.size
      replace m6 := hF9.wr m6
      rw [ath_nat, hz]
      refine ⟨trivial, ?_⟩
      refine O.st (vs := (fvs (some z))) rfl rfl Go.Proofs.Try.sizeOf70 rfl rfl rfl rfl rfl m6 ?_
      intro H10 W10
      have hs10 := W10.size
      have hf10 : Fr nowhere H3 H10 := (hf8.trans hF9).trans' W10.fr (fun _ _ _ h => h) (fun b o hb hz => by have h1 := hz.1; omega)
      have f10 : Rd H10 H5.size 0 (fvs (some z)) := W10.all
      refine ⟨trivial, ?_⟩
      refine Pl.fin [(3, _), (7, _), (8, _), (10, _), (11, _), (12, _), (13, _), (18, _), (19, _), (20, _), (21, _), (33, _)] ⟨rfl, rfl, rfl, rfl, rfl, rfl, rfl, rfl, rfl, rfl, rfl, rfl, trivial⟩ ?_
      -- region 10 (tree.go:26)
      refine Go'.region [(0, 0), (1, 1), (2, 2), (3, 2), (4, 0)] rfl ?_
      refine O.mv rfl rfl rfl rfl rfl ?_
      refine O.lds rfl rfl rfl (fun w => ⟨Go.Proofs.Try.isAgg70 w, Go.Proofs.Try.sizeOf70 w⟩) rfl rfl f10 ?_
      refine O.bsl (cs := (fvs (some z))) rfl rfl rfl ⟨Go.Proofs.Try.underlying78, Go.Proofs.Try.sizeOf70, Go.Proofs.Try.zeroValue70, ⟨_, Go.Proofs.Try.typeInfo70, rfl⟩, rfl, by decide, by decide⟩ rfl (by decide) (by kernel_rfl) ?_
      intro H11 M11
      have hs11 := M11.size
      have hA11 := hA.fr (hf10.trans (M11.fr nowhere)) (fun _ _ _ _ => nw)
      have m11 : Rd H11 H10.size 0 (row EF [(some z)]) := M11.rd _ [] (by simp [row, EF, fvs])
      refine ⟨trivial, ?_⟩
      refine O.appA (E := EF) (Y := [(some z)]) rfl rfl rfl ⟨Go.Proofs.Try.underlying78, Go.Proofs.Try.sizeOf70, Go.Proofs.Try.zeroValue70, ⟨_, Go.Proofs.Try.typeInfo70, rfl⟩, rfl, by decide, by decide⟩ rfl hA11 rfl ⟨_, _, _, rfl, m11⟩ (Nat.succ_pos _) (by rw [hlout]; exact Nat.le_trans (Nat.mul_le_mul_left _ (Nat.le_of_ble_eq_true (n := _) (m := 4096) rfl)) (by simp only [List.length_cons, List.length_nil]; omega)) (by rw [hlout]; simp only [List.length_cons, List.length_nil]; omega) ?_
      intro v12 H12 hA12 hF12 hs12
      rw [← hx] at hA12
      refine ⟨trivial, ?_⟩
      refine O.asg rfl rfl rfl rfl rfl ?_
      refine Pl.fin [(3, _), (7, _), (8, _), (10, _), (11, _), (12, _), (13, _), (18, _), (19, _), (20, _), (21, _), (33, _)] ⟨rfl, rfl, rfl, rfl, rfl, rfl, rfl, rfl, rfl, rfl, rfl, rfl, trivial⟩ ?_
      refine Go'.inBlock ?_
      -- region 11 (tree.go:21)
      refine Go'.region [(0, 0), (1, 0)] rfl ?_
      refine O.add (((j + 1 : Nat) : Int)) rfl rfl rfl rfl rfl rfl (by omega) (by omega) ?_
      refine O.mv rfl rfl rfl rfl rfl ?_
      refine Pl.fin [(3, _), (7, _), (8, _), (10, _), (11, _), (12, _), (13, _), (18, _), (19, _), (20, _), (21, _), (33, _)] ⟨rfl, rfl, rfl, rfl, rfl, rfl, rfl, rfl, rfl, rfl, rfl, rfl, trivial⟩ ?_
      refine Go'.keep [(3, _), (7, _), (8, _), (18, _), (19, _), (20, _)] ⟨rfl, rfl, rfl, rfl, rfl, rfl, trivial⟩ ?_
      refine Go'.inLoop ?_
      exact ih (j + 1, v12) H12 ⟨((hF.trans hf10).trans (M11.fr nowhere)).trans' hF12 (fun _ _ _ h => h) (fun b o hb hz => by have hz' : H2.size ≤ b := hz; omega), hlt, hA12.mono (fun b hb hz => hz.elim id (fun h => by omega))⟩ (by simp only; omega)
  · skip
    obtain rfl : j = ks.length := by omega
    rw [List.take_length] at hA
    -- region 4 (tree.go:21)
    refine Go'.region [(0, 0)] rfl ?_
    refine O.cmp rfl rfl rfl rfl rfl rfl (lssF (by omega)) ?_
    refine Pl.fin [(3, _), (7, _), (8, _), (18, _), (19, _), (20, _), (21, _)] ⟨rfl, rfl, rfl, rfl, rfl, rfl, rfl, trivial⟩ ?_
    refine Go'.seq ?_
    refine Go'.condF rfl ?_
    refine Go'.exit rfl ?_
    refine Go'.seq ?_
    -- region 12 (tree.go:28)
    refine Go'.region [(0, 0), (1, 0)] rfl ?_
    refine O.mv rfl rfl rfl rfl rfl ?_
    refine O.asg rfl rfl rfl rfl rfl ?_
    refine Pl.fin [(6, _)] ⟨rfl, trivial⟩ ?_
    refine Go'.ret (vs := [_]) Go.Proofs.Try.func46 Go.Proofs.Try.results46 ⟨rfl, trivial⟩ ?_
    exact ⟨hA.out, hF12.trans hF⟩

theorem oksOf_spec {B : World} {H : Mem} {u : Value} {l : List (Option (Int × Int))} (hi : InS EF H u l) (hll : l.length ≤ 4294967296) :
    Fn Try.prog B 45 [u] H (fun r H' => OutS EB H' r (l.map Option.isSome) ∧ Fr nowhere H H') := by
  obtain ⟨a, c, hu⟩ := hi.len
  subst hu
  refine fn_of Go.Proofs.Try.func45 rfl Go.Proofs.Try.ntmps45 ?_
  refine (show Go' _ _ _ _ 19 [(0, _)] [.code _] _ from ?_)
  refine Go'.seq ?_
  -- region 0 (help.go:61)
  refine Go'.region [(0, 0)] rfl ?_
  refine O.asg rfl rfl rfl rfl rfl ?_
  refine Pl.fin [(0, _), (2, _)] ⟨rfl, rfl, trivial⟩ ?_
  refine Go'.seq ?_
  -- region 1 (help.go:62)
  refine Go'.region [(0, 0)] rfl ?_
  refine O.asg rfl rfl rfl rfl rfl ?_
  refine Pl.fin [(0, _), (2, _), (3, _)] ⟨rfl, rfl, rfl, trivial⟩ ?_
  refine Go'.seq ?_
  refine Go'.seq ?_
  -- region 2 (help.go:63)
  refine Go'.region [(0, 0), (1, 0), (2, 0)] rfl ?_
  refine O.mv rfl rfl rfl rfl rfl ?_
  refine O.len rfl rfl rfl rfl Go.Proofs.Try.underlying78 rfl ?_
  refine O.mv rfl rfl rfl rfl rfl ?_
  refine Pl.fin [(2, _), (3, _), (6, _), (7, _), (8, _)] ⟨rfl, rfl, rfl, rfl, rfl, trivial⟩ ?_
  refine Go'.block ?_
  refine Go'.loop ?_
  refine Go'.keep [(3, _), (6, _), (7, _), (8, _)] ⟨rfl, rfl, rfl, rfl, trivial⟩ ?_
  refine Go'.ind (σ := Nat × Value) (fun s => l.length - s.1) (fun s H' => Fr nowhere H H' ∧ s.1 ≤ l.length ∧ Acc EB (fun b => H.size ≤ b) H' s.2 ((l.take s.1).map Option.isSome))
    (fun s => [(3, s.2), (6, .slice a l.length c), (7, .int .i64 (l.length : Int)), (8, .int .i64 (s.1 : Int))]) (0, .slice none 0 0) ⟨Fr.refl _ _, Nat.zero_le _, Acc.nil _ _ _⟩ rfl ?_
  rintro ⟨j, sv⟩ H2 ⟨hF, hjl, hA⟩ ih
  simp only at hjl hA
  have hi2 := hi.fr hF
  refine Go'.seq ?_
  by_cases hlt : j < l.length
  · skip
    obtain ⟨y, hy⟩ : ∃ y, l[j]? = some y := ⟨l[j], List.getElem?_eq_getElem hlt⟩
    obtain ⟨b, o, c', e, hr⟩ := hi2.at hy
    cases e
    have hsz := hF.size
    have hx : (l.take (j + 1)).map Option.isSome = (l.take j).map Option.isSome ++ [y.isSome] := by rw [List.take_add_one, hy, List.map_append]; rfl
    have hlout : ((l.take j).map Option.isSome).length = j := by rw [List.length_map, List.length_take]; omega
    -- region 3 (help.go:63)
    refine Go'.region [(0, 0)] rfl ?_
    refine O.cmp rfl rfl rfl rfl rfl rfl (lssT (by omega)) ?_
    refine Pl.fin [(3, _), (6, _), (7, _), (8, _), (9, _)] ⟨rfl, rfl, rfl, rfl, rfl, trivial⟩ ?_
    refine Go'.seq ?_
    refine Go'.condT rfl ?_
    refine Go'.skip ?_
    refine Go'.seq ?_
    refine Go'.block ?_
    refine Go'.seq ?_
    -- region 4 (help.go:63)
    refine Go'.region [(0, 0), (1, 1), (2, 2), (3, 2)] rfl ?_
    refine O.ix (j := j) rfl rfl rfl rfl Go.Proofs.Try.underlying78 Go.Proofs.Try.sizeOf70 rfl rfl (by omega) hlt ?_
    refine O.lds rfl rfl rfl (fun w => ⟨Go.Proofs.Try.isAgg70 w, Go.Proofs.Try.sizeOf70 w⟩) rfl (by cases y <;> rfl) hr ?_
    refine O.alloc rfl rfl rfl Go.Proofs.Try.zeroValue70 ?_
    intro H4 M4
    refine ⟨trivial, ?_⟩
    have hs4 := M4.size
    have m4 : Wr H4 H2.size 0 3 := M4.wr 3 (by decide)
    refine O.st (vs := (fvs y)) rfl rfl Go.Proofs.Try.sizeOf70 rfl rfl rfl (by cases y <;> rfl) (by cases y <;> rfl) m4 ?_
    intro H5 W5
    have hs5 := W5.size
    have hf5 : Fr nowhere H2 H5 := (M4.fr nowhere).trans' W5.fr (fun _ _ _ h => h) (fun b o hb hz => by have h1 := hz.1; omega)
    have x5 : cl H5 H2.size 2 = some (.bool y.isSome) := W5.all 2 _ (by cases y <;> rfl)
    have hA5 := hA.fr hf5 (fun _ _ _ _ => nw)
    refine ⟨trivial, ?_⟩
    refine Pl.fin [(3, _), (5, _), (6, _), (7, _), (8, _), (9, _)] ⟨rfl, rfl, rfl, rfl, rfl, rfl, trivial⟩ ?_
    -- region 5 (help.go:64)
    refine Go'.region [(0, 0), (1, 0), (2, 1), (3, 2), (4, 2), (5, 0)] rfl ?_
    refine O.mv rfl rfl rfl rfl rfl ?_
    refine O.fa0 (off := 2) rfl rfl rfl rfl ⟨_, _, _, Go.Proofs.Try.underlying70, rfl, rfl, Go.Proofs.Try.sizeOf4⟩ rfl ?_
    refine O.ld rfl rfl rfl (fun w => ⟨Go.Proofs.Try.isAgg4 w, Go.Proofs.Try.sizeOf4 w⟩) rfl x5 ?_
    refine O.bsl (cs := (EB.enc y.isSome)) rfl rfl rfl ⟨Go.Proofs.Try.underlying50, Go.Proofs.Try.sizeOf4, Go.Proofs.Try.zeroValue4, ⟨_, Go.Proofs.Try.typeInfo4, rfl⟩, rfl, by decide, by decide⟩ rfl (by decide) (by kernel_rfl) ?_
    intro H6 M6
    have hs6 := M6.size
    have hA6 := hA5.fr (M6.fr nowhere) (fun _ _ _ _ => nw)
    have m6 : Rd H6 H5.size 0 (row EB [y.isSome]) := M6.rd _ [] (by simp [row, EB])
    refine ⟨trivial, ?_⟩
    refine O.appA (E := EB) (Y := [y.isSome]) rfl rfl rfl ⟨Go.Proofs.Try.underlying50, Go.Proofs.Try.sizeOf4, Go.Proofs.Try.zeroValue4, ⟨_, Go.Proofs.Try.typeInfo4, rfl⟩, rfl, by decide, by decide⟩ rfl hA6 rfl ⟨_, _, _, rfl, m6⟩ (Nat.succ_pos _) (by rw [hlout]; exact Nat.le_trans (Nat.mul_le_mul_left _ (Nat.le_of_ble_eq_true (n := _) (m := 4096) rfl)) (by simp only [List.length_cons, List.length_nil]; omega)) (by rw [hlout]; simp only [List.length_cons, List.length_nil]; omega) ?_
    intro v7 H7 hA7 hF7 hs7
    rw [← hx] at hA7
    refine ⟨trivial, ?_⟩
    refine O.asg rfl rfl rfl rfl rfl ?_
    refine Pl.fin [(3, _), (5, _), (6, _), (7, _), (8, _), (9, _)] ⟨rfl, rfl, rfl, rfl, rfl, rfl, trivial⟩ ?_
    refine Go'.inBlock ?_
    -- region 6 (help.go:63)
    refine Go'.region [(0, 0), (1, 0)] rfl ?_
    refine O.add (((j + 1 : Nat) : Int)) rfl rfl rfl rfl rfl rfl (by omega) (by omega) ?_
    refine O.mv rfl rfl rfl rfl rfl ?_
    refine Pl.fin [(3, _), (5, _), (6, _), (7, _), (8, _), (9, _)] ⟨rfl, rfl, rfl, rfl, rfl, rfl, trivial⟩ ?_
    refine Go'.keep [(3, _), (6, _), (7, _), (8, _)] ⟨rfl, rfl, rfl, rfl, trivial⟩ ?_
    refine Go'.inLoop ?_
    exact ih (j + 1, v7) H7 ⟨((hF.trans hf5).trans (M6.fr nowhere)).trans' hF7 (fun _ _ _ h => h) (fun b o hb hz => by have hz' : H.size ≤ b := hz; omega), hlt, hA7.mono (fun b hb hz => hz.elim id (fun h => by omega))⟩ (by simp only; omega)
  · skip
    obtain rfl : j = l.length := by omega
    rw [List.take_length] at hA
    -- region 3 (help.go:63)
    refine Go'.region [(0, 0)] rfl ?_
    refine O.cmp rfl rfl rfl rfl rfl rfl (lssF (by omega)) ?_
    refine Pl.fin [(3, _), (6, _), (7, _), (8, _), (9, _)] ⟨rfl, rfl, rfl, rfl, rfl, trivial⟩ ?_
    refine Go'.seq ?_
    refine Go'.condF rfl ?_
    refine Go'.exit rfl ?_
    refine Go'.seq ?_
    -- region 7 (help.go:66)
    refine Go'.region [(0, 0), (1, 0)] rfl ?_
    refine O.mv rfl rfl rfl rfl rfl ?_
    refine O.asg rfl rfl rfl rfl rfl ?_
    refine Pl.fin [(2, _)] ⟨rfl, trivial⟩ ?_
    refine Go'.ret (vs := [_]) Go.Proofs.Try.func45 Go.Proofs.Try.results45 ⟨rfl, trivial⟩ ?_
    exact ⟨hA.out, hF⟩

theorem bool_neq (y : Bool) (a b : Operand) (w : World) : (eqGuard .neq 4 a b (.bool y) (.bool y)).run Try.prog w = .ok () w ∧ (binOp .neq 4 (.bool y) (.bool y)).run Try.prog w = .ok (.bool false) w := by
  constructor
  · unfold eqGuard
    split <;> simp
  · have h := run_equalIn_bool' w 9999 4 y y Try.underlying4
    simp only [beq_self_eq_true] at h
    have h2 : (Op.equal 4 (.bool y) (.bool y)).run Try.prog w = .ok true w := h
    simp [binOp, h2]

theorem eqBools_spec {B : World} {H : Mem} {u v : Value} {l : List (Bool)} (hu : InS EB H u l) (hv : InS EB H v l) (hll : l.length ≤ 4294967296) :
    Fn Try.prog B 47 [u, v] H (fun r H' => r = .bool true ∧ H' = H) := by
  obtain ⟨a, c, e⟩ := hu.len
  subst e
  obtain ⟨a', c', e⟩ := hv.len
  subst e
  refine fn_of Go.Proofs.Try.func47 rfl Go.Proofs.Try.ntmps47 ?_
  refine (show Go' _ _ _ _ 26 [(0, _), (1, _)] [.code _] _ from ?_)
  refine Go'.seq ?_
  -- region 0 (slices.go:20)
  refine Go'.region [(0, 0)] rfl ?_
  refine O.asg rfl rfl rfl rfl rfl ?_
  refine Pl.fin [(0, _), (1, _), (4, _)] ⟨rfl, rfl, rfl, trivial⟩ ?_
  refine Go'.seq ?_
  refine Go'.seq ?_
  -- region 1 (slices.go:21)
  refine Go'.region [(0, 0), (1, 0), (2, 0), (3, 0), (4, 0)] rfl ?_
  refine O.mv rfl rfl rfl rfl rfl ?_
  refine O.len rfl rfl rfl rfl Go.Proofs.Try.underlying50 rfl ?_
  refine O.mv rfl rfl rfl rfl rfl ?_
  refine O.len rfl rfl rfl rfl Go.Proofs.Try.underlying50 rfl ?_
  refine O.cmp rfl rfl rfl rfl rfl rfl (neqF (by omega)) ?_
  refine Pl.fin [(0, _), (1, _), (4, _), (10, _)] ⟨rfl, rfl, rfl, rfl, trivial⟩ ?_
  refine Go'.condF rfl ?_
  refine Go'.skip ?_
  refine Go'.seq ?_
  refine Go'.seq ?_
  -- region 3 (slices.go:24)
  refine Go'.region [(0, 0), (1, 0), (2, 0)] rfl ?_
  refine O.mv rfl rfl rfl rfl rfl ?_
  refine O.len rfl rfl rfl rfl Go.Proofs.Try.underlying50 rfl ?_
  refine O.mv rfl rfl rfl rfl rfl ?_
  refine Pl.fin [(0, _), (1, _), (4, _), (12, _), (13, _)] ⟨rfl, rfl, rfl, rfl, rfl, trivial⟩ ?_
  refine Go'.block ?_
  refine Go'.loop ?_
  refine Go'.keep [(0, _), (1, _), (4, _), (12, _), (13, _)] ⟨rfl, rfl, rfl, rfl, rfl, trivial⟩ ?_
  refine Go'.ind (σ := Nat) (fun j => l.length - j) (fun j H' => H' = H ∧ j ≤ l.length)
    (fun j => [(0, .slice a l.length c), (1, .slice a' l.length c'), (4, .bool false), (12, .int .i64 (l.length : Int)), (13, .int .i64 (j : Int))]) 0 ⟨rfl, Nat.zero_le _⟩ rfl ?_
  rintro j H2 ⟨hHH, hjl⟩ ih
  have eH : H = H2 := hHH.symm
  subst eH
  clear hHH
  refine Go'.seq ?_
  by_cases hlt : j < l.length
  · skip
    obtain ⟨y, hy⟩ : ∃ y, l[j]? = some y := ⟨l[j], List.getElem?_eq_getElem hlt⟩
    obtain ⟨b, o, cc, e, hr⟩ := hu.at hy
    cases e
    obtain ⟨b', o', cc', e, hr'⟩ := hv.at hy
    cases e
    -- region 4 (slices.go:24)
    refine Go'.region [(0, 0)] rfl ?_
    refine O.cmp rfl rfl rfl rfl rfl rfl (lssT (by omega)) ?_
    refine Pl.fin [(0, _), (1, _), (4, _), (12, _), (13, _), (14, _)] ⟨rfl, rfl, rfl, rfl, rfl, rfl, trivial⟩ ?_
    refine Go'.seq ?_
    refine Go'.condT rfl ?_
    refine Go'.skip ?_
    refine Go'.seq ?_
    refine Go'.block ?_
    refine Go'.seq ?_
    -- region 5 (slices.go:24)
    refine Go'.region [(0, 0), (1, 0)] rfl ?_
    refine O.mv rfl rfl rfl rfl rfl ?_
    refine O.asg rfl rfl rfl rfl rfl ?_
    refine Pl.fin [(0, _), (1, _), (4, _), (5, _), (12, _), (13, _), (14, _)] ⟨rfl, rfl, rfl, rfl, rfl, rfl, rfl, trivial⟩ ?_
    refine Go'.seq ?_
    -- region 6 (slices.go:25)
    refine Go'.draw (fun _ => True) [(0, 0), (1, 0), (2, 0), (3, 1), (4, 0), (5, 0), (6, 0), (7, 1), (8, 0)] (by kernel_rfl) (by kernel_rfl) (trivial) ?_
    refine O.mv rfl rfl rfl rfl rfl ?_
    refine O.mv rfl rfl rfl rfl rfl ?_
    refine O.ix (j := j) rfl rfl rfl rfl Go.Proofs.Try.underlying50 Go.Proofs.Try.sizeOf4 rfl rfl (by omega) hlt ?_
    refine O.ld rfl rfl rfl (fun w => ⟨Go.Proofs.Try.isAgg4 w, Go.Proofs.Try.sizeOf4 w⟩) rfl (hr 0 _ rfl) ?_
    refine O.mv rfl rfl rfl rfl rfl ?_
    refine O.mv rfl rfl rfl rfl rfl ?_
    refine O.ix (j := j) rfl rfl rfl rfl Go.Proofs.Try.underlying50 Go.Proofs.Try.sizeOf4 rfl rfl (by omega) hlt ?_
    refine O.ld rfl rfl rfl (fun w => ⟨Go.Proofs.Try.isAgg4 w, Go.Proofs.Try.sizeOf4 w⟩) rfl (hr' 0 _ rfl) ?_
    refine O.bin rfl rfl rfl rfl rfl rfl (bool_neq y _ _) ?_
    refine Pl.fin [(0, _), (1, _), (4, _), (5, _), (12, _), (13, _), (14, _), (24, _)] ⟨rfl, rfl, rfl, rfl, rfl, rfl, rfl, rfl, trivial⟩ ?_
    refine Go'.condF rfl ?_
    refine Go'.skip ?_
    refine Go'.inBlock ?_
    -- region 8 (slices.go:24)
    refine Go'.region [(0, 0), (1, 0)] rfl ?_
    refine O.add (((j + 1 : Nat) : Int)) rfl rfl rfl rfl rfl rfl (by omega) (by omega) ?_
    refine O.mv rfl rfl rfl rfl rfl ?_
    refine Pl.fin [(0, _), (1, _), (4, _), (5, _), (12, _), (13, _), (14, _), (24, _)] ⟨rfl, rfl, rfl, rfl, rfl, rfl, rfl, rfl, trivial⟩ ?_
    refine Go'.keep [(0, _), (1, _), (4, _), (12, _), (13, _)] ⟨rfl, rfl, rfl, rfl, rfl, trivial⟩ ?_
    refine Go'.inLoop ?_
    exact ih (j + 1) H ⟨rfl, hlt⟩ (by omega)
  · skip
    -- region 4 (slices.go:24)
    refine Go'.region [(0, 0)] rfl ?_
    refine O.cmp rfl rfl rfl rfl rfl rfl (lssF (by omega)) ?_
    refine Pl.fin [(0, _), (1, _), (4, _), (12, _), (13, _), (14, _)] ⟨rfl, rfl, rfl, rfl, rfl, rfl, trivial⟩ ?_
    refine Go'.seq ?_
    refine Go'.condF rfl ?_
    refine Go'.exit rfl ?_
    refine Go'.seq ?_
    -- region 9 (slices.go:29)
    refine Go'.region [(0, 0)] rfl ?_
    refine O.asg rfl rfl rfl rfl rfl ?_
    refine Pl.fin [(4, _)] ⟨rfl, trivial⟩ ?_
    refine Go'.ret (vs := [_]) Go.Proofs.Try.func47 Go.Proofs.Try.results47 ⟨rfl, trivial⟩ ?_
    exact ⟨rfl, rfl⟩

theorem lawSContains_spec {B : World} {H : Mem} {u q : Value} {l ks : List Int} (hi : InS EN H u l) (hll : l.length ≤ 4294967296) (hk : InS EN H q ks) (hkl : ks.length ≤ 4294967296) :
    Fn Try.prog B 15 [u, q] H (fun r H' => r = .bool true ∧ Fr nowhere H H') := by
  have hlm : (l.map kinj).length ≤ 4294967296 := by rw [List.length_map]; exact hll
  have hkm : (ks.map kinj).length ≤ 4294967296 := by rw [List.length_map]; exact hkl
  have hmm : (((ks.map kinj).map fun k => Pl.got (OO []) k (Pl.puts (OO []) (l.map kinj))).map Option.isSome) = ks.map fun k => Pl.fnd OI k (Pl.puts OI l) := by
    rw [puts_kinj, List.map_map, List.map_map]
    refine List.map_congr_left fun k _ => ?_
    show (Pl.got (OO []) (kinj k) ((Pl.puts OI l).map kinj)).isSome = _
    rw [Pl.got_isSome, Pl.fnd_map OO_kinj]
  refine fn_of Go.Proofs.Try.func15 rfl Go.Proofs.Try.ntmps15 ?_
  refine (show Go' _ _ _ _ 20 [(0, _), (1, _)] [.code _] _ from ?_)
  refine Go'.seq ?_
  -- region 0 (exact.go:1682)
  refine Go'.region [(0, 0)] rfl ?_
  refine O.asg rfl rfl rfl rfl rfl ?_
  refine Pl.fin [(0, _), (1, _), (4, _)] ⟨rfl, rfl, rfl, trivial⟩ ?_
  refine Go'.seq ?_
  -- region 1 (exact.go:1683)
  refine Go'.region [(0, 0), (1, 0), (2, 2), (3, 0)] rfl ?_
  refine O.mv rfl rfl rfl rfl rfl ?_
  refine O.mv rfl rfl rfl rfl rfl ?_
  refine O.call rfl rfl rfl Go.Proofs.Try.call44 rfl (scontains_spec hi hll hk hkl) ?_
  rintro v1 H1 ⟨h1, hF1⟩
  refine ⟨trivial, ?_⟩
  refine O.asg rfl rfl rfl rfl rfl ?_
  refine Pl.fin [(0, _), (1, _), (4, _), (5, _)] ⟨rfl, rfl, rfl, rfl, trivial⟩ ?_
  refine Go'.seq ?_
  -- region 2 (exact.go:1684)
  refine Go'.region [(0, 0), (1, 0), (2, 2), (3, 0), (4, 2), (5, 2), (6, 2), (7, 0)] rfl ?_
  refine O.bld (cs := [.slice none 0 0, .int .i64 0, .bool false]) rfl rfl rfl rfl (stM) rfl (by kernel_rfl) ?_
  refine O.mv rfl rfl rfl rfl rfl ?_
  refine O.call rfl rfl rfl Go.Proofs.Try.call43 rfl (specItems_spec (hi.fr hF1) hll) ?_
  rintro v2 H2 ⟨h2, hF2⟩
  refine ⟨trivial, ?_⟩
  refine O.mv rfl rfl rfl rfl rfl ?_
  refine O.call rfl rfl rfl Go.Proofs.Try.call43 rfl (specItems_spec (hk.fr (hF1.trans hF2)) hkl) ?_
  rintro v3 H3 ⟨h3, hF3⟩
  refine ⟨trivial, ?_⟩
  refine O.call rfl rfl rfl Go.Proofs.Try.call46 rfl (gget_spec (ord := []) (InS.nil EN H3) (by simp) (h2.inS.fr hF3) hlm h3.inS hkm) ?_
  rintro v4 H4 ⟨h4, hF4⟩
  refine ⟨trivial, ?_⟩
  refine O.call rfl rfl rfl Go.Proofs.Try.call45 rfl (oksOf_spec h4.inS (by rw [List.length_map]; exact hkm)) ?_
  rintro v5 H5 ⟨h5, hF5⟩
  rw [hmm] at h5
  refine ⟨trivial, ?_⟩
  refine O.asg rfl rfl rfl rfl rfl ?_
  refine Pl.fin [(4, _), (5, _), (6, _)] ⟨rfl, rfl, rfl, trivial⟩ ?_
  refine Go'.seq ?_
  -- region 3 (exact.go:1685)
  refine Go'.region [(0, 0), (1, 0), (2, 2), (3, 0)] rfl ?_
  refine O.mv rfl rfl rfl rfl rfl ?_
  refine O.mv rfl rfl rfl rfl rfl ?_
  refine O.callQ rfl rfl rfl Go.Proofs.Try.call47 rfl (eqBools_spec (h1.inS.fr (((hF2.trans hF3).trans hF4).trans hF5)) h5.inS (by rw [List.length_map]; exact hkl)) trivial ?_
  refine O.asg rfl rfl rfl rfl rfl ?_
  refine Pl.fin [(4, _)] ⟨rfl, trivial⟩ ?_
  refine Go'.ret (vs := [_]) Go.Proofs.Try.func15 Go.Proofs.Try.results15 ⟨rfl, trivial⟩ ?_
  exact ⟨rfl, (((hF1.trans hF2).trans hF3).trans hF4).trans hF5⟩

theorem fnExactSContains {B : World} {H : Mem} {u q : Value} {l ks : List Int} (hi : InS EN H u l) (hk : InS EN H q ks) :
    Fn Try.prog B 4 [u, q] H (fun r H' => r = .bool true ∧ Fr nowhere H H') := by
  obtain ⟨a, c, hu⟩ := hi.len
  subst hu
  obtain ⟨a2, c2, hu⟩ := hk.len
  subst hu
  have hi0 := hi
  have hk0 := hk
  refine fn_of Go.Proofs.Try.func4 rfl Go.Proofs.Try.ntmps4 ?_
  refine (show Go' _ _ _ _ 21 [(0, _), (1, _)] [.code _] _ from ?_)
  refine Go'.seq ?_
  -- region 0 (exact.go:1675)
  refine Go'.region [(0, 0)] rfl ?_
  refine O.asg rfl rfl rfl rfl rfl ?_
  refine Pl.fin [(0, _), (1, _), (4, _)] ⟨rfl, rfl, rfl, trivial⟩ ?_
  refine Go'.seq ?_
  refine Go'.seq ?_
  by_cases hbig : (2147483647 : Int) < (l.length : Int)
  · skip
    -- region 1 (exact.go:1676)
    refine Go'.region [(0, 0), (1, 0), (2, 0), (3, 0), (4, 0), (5, 0), (6, 0), (7, 0)] rfl ?_
    refine O.mv rfl rfl rfl rfl rfl ?_
    refine O.len rfl rfl rfl rfl Go.Proofs.Try.underlying22 rfl ?_
    refine O.cmp rfl rfl rfl rfl rfl rfl (gtrT (by omega)) ?_
    refine O.mv rfl rfl rfl rfl rfl ?_
    refine Pl.pass rfl rfl rfl rfl ?_
    refine Pl.pass rfl rfl rfl rfl ?_
    refine Pl.pass rfl rfl rfl rfl ?_
    refine O.pick rfl rfl rfl rfl rfl rfl ?_
    refine Pl.fin [(0, _), (1, _), (4, _), (12, _)] ⟨rfl, rfl, rfl, rfl, trivial⟩ ?_
    refine Go'.condT rfl ?_
    refine Go'.seq ?_
    -- region 2 (exact.go:1677)
    refine Go'.region [(0, 0)] rfl ?_
    refine O.asg rfl rfl rfl rfl rfl ?_
    refine Pl.fin [(0, _), (1, _), (4, _)] ⟨rfl, rfl, rfl, trivial⟩ ?_
    refine Go'.ret (vs := [_]) Go.Proofs.Try.func4 Go.Proofs.Try.results4 ⟨rfl, trivial⟩ ?_
    exact ⟨rfl, Fr.refl _ _⟩
  · skip
    by_cases hbig2 : (2147483647 : Int) < (ks.length : Int)
    · skip
      -- region 1 (exact.go:1676)
      refine Go'.region [(0, 0), (1, 0), (2, 0), (3, 0), (4, 0), (5, 0), (6, 0), (7, 0)] rfl ?_
      refine O.mv rfl rfl rfl rfl rfl ?_
      refine O.len rfl rfl rfl rfl Go.Proofs.Try.underlying22 rfl ?_
      refine O.cmp rfl rfl rfl rfl rfl rfl (gtrF (by omega)) ?_
      refine O.mv rfl rfl rfl rfl rfl ?_
      refine O.mv rfl rfl rfl rfl rfl ?_
      refine O.len rfl rfl rfl rfl Go.Proofs.Try.underlying22 rfl ?_
      refine O.cmp rfl rfl rfl rfl rfl rfl (gtrT (by omega)) ?_
      refine O.pick rfl rfl rfl rfl rfl rfl ?_
      refine Pl.fin [(0, _), (1, _), (4, _), (12, _)] ⟨rfl, rfl, rfl, rfl, trivial⟩ ?_
      refine Go'.condT rfl ?_
      refine Go'.seq ?_
      -- region 2 (exact.go:1677)
      refine Go'.region [(0, 0)] rfl ?_
      refine O.asg rfl rfl rfl rfl rfl ?_
      refine Pl.fin [(0, _), (1, _), (4, _)] ⟨rfl, rfl, rfl, trivial⟩ ?_
      refine Go'.ret (vs := [_]) Go.Proofs.Try.func4 Go.Proofs.Try.results4 ⟨rfl, trivial⟩ ?_
      exact ⟨rfl, Fr.refl _ _⟩
    · skip
      -- region 1 (exact.go:1676)
      refine Go'.region [(0, 0), (1, 0), (2, 0), (3, 0), (4, 0), (5, 0), (6, 0), (7, 0)] rfl ?_
      refine O.mv rfl rfl rfl rfl rfl ?_
      refine O.len rfl rfl rfl rfl Go.Proofs.Try.underlying22 rfl ?_
      refine O.cmp rfl rfl rfl rfl rfl rfl (gtrF (by omega)) ?_
      refine O.mv rfl rfl rfl rfl rfl ?_
      refine O.mv rfl rfl rfl rfl rfl ?_
      refine O.len rfl rfl rfl rfl Go.Proofs.Try.underlying22 rfl ?_
      refine O.cmp rfl rfl rfl rfl rfl rfl (gtrF (by omega)) ?_
      refine O.pick rfl rfl rfl rfl rfl rfl ?_
      refine Pl.fin [(0, _), (1, _), (4, _), (12, _)] ⟨rfl, rfl, rfl, rfl, trivial⟩ ?_
      refine Go'.condF rfl ?_
      refine Go'.skip ?_
      refine Go'.seq ?_
      -- region 3 (exact.go:1679)
      refine Go'.region [(0, 2), (1, 2), (2, 2), (3, 0), (4, 0), (5, 0), (6, 2), (7, 0), (8, 0)] rfl ?_
      refine O.bsl (cs := (row EN exks)) rfl rfl rfl ⟨Go.Proofs.Try.underlying22, Go.Proofs.Try.sizeOf3, Go.Proofs.Try.zeroValue3, ⟨_, Go.Proofs.Try.typeInfo3, rfl⟩, rfl, by decide, by decide⟩ rfl (by decide) (by kernel_rfl) ?_
      intro H1 M1
      have hs1 := M1.size
      refine ⟨trivial, ?_⟩
      refine O.bsl (cs := (row EN [3, 4])) rfl rfl rfl ⟨Go.Proofs.Try.underlying22, Go.Proofs.Try.sizeOf3, Go.Proofs.Try.zeroValue3, ⟨_, Go.Proofs.Try.typeInfo3, rfl⟩, rfl, by decide, by decide⟩ rfl (by decide) (by kernel_rfl) ?_
      intro H2 M2
      have hev : InS EN H2 (.slice (some ⟨H.size, 0, none⟩) 5 5) exks := .inl ⟨H.size, 0, 5, rfl, by decide, (M2.fr nowhere).rd (M1.rd _ [] (by simp)) (fun _ _ => nw)⟩
      have hek : InS EN H2 (.slice (some ⟨H1.size, 0, none⟩) 2 2) [3, 4] := .inl ⟨H1.size, 0, 2, rfl, by decide, M2.rd _ [] (by simp)⟩
      refine ⟨trivial, ?_⟩
      refine O.call rfl rfl rfl Go.Proofs.Try.call15 rfl (lawSContains_spec hev (by decide) hek (by decide)) ?_
      rintro _ H3 ⟨rfl, hF3⟩
      have hF := ((M1.fr nowhere).trans (M2.fr nowhere)).trans hF3
      refine ⟨trivial, ?_⟩
      refine O.mv rfl rfl rfl rfl rfl ?_
      refine O.mv rfl rfl rfl rfl rfl ?_
      refine O.mv rfl rfl rfl rfl rfl ?_
      refine O.call rfl rfl rfl Go.Proofs.Try.call15 rfl (lawSContains_spec (hi0.fr hF) (by omega) (hk0.fr hF) (by omega)) ?_
      rintro _ H4 ⟨rfl, hF4⟩
      replace hF := hF.trans hF4
      refine ⟨trivial, ?_⟩
      refine O.pick rfl rfl rfl rfl rfl rfl ?_
      refine O.asg rfl rfl rfl rfl rfl ?_
      refine Pl.fin [(4, _)] ⟨rfl, trivial⟩ ?_
      refine Go'.ret (vs := [_]) Go.Proofs.Try.func4 Go.Proofs.Try.results4 ⟨rfl, trivial⟩ ?_
      exact ⟨rfl, hF⟩

end Go.Bt.FZ