/- Contracts of functions of the program, proved by walking through their code. Conditions: those that each theorem names. -/
import Derived.Test.YtgmmhpmchibakaaTonO
namespace Go.Bt
open Go Go.Proofs
set_option maxRecDepth 20000
set_option maxHeartbeats 4000000
set_option linter.unusedVariables false

theorem gset_spec {B : World} {H : Mem} {v u dg nl : Value} {ord : List Int} {l : List (Int × Int)} (ho : InS EN H v ord) (hl : ord.length < 4611686018427387904) (hi : InS EJ H u l) (hll : l.length ≤ 4294967296) :
    Fn Try.prog B 49 [.agg #[v, dg, nl], u] H (fun r H' => ∃ v1 v2, r = .tuple #[v1, v2] ∧ OutS EF H' v1 (Pl.gots (OO ord) l) ∧ OutS EJ H' v2 (Pl.puts (OO ord) l) ∧ Fr nowhere H H') := by
  obtain ⟨a, c, hu⟩ := hi.len
  subst hu
  have hlv := ho.len
  refine fn_of Go.Proofs.Try.func49 rfl Go.Proofs.Try.ntmps49 ?_
  refine (show Go' _ _ _ _ 32 [(0, _), (1, _)] [.code _] _ from ?_)
  refine Go'.seq ?_
  -- region 0 (tree.go:6)
  refine Go'.region [(0, 2), (1, 0), (2, 0)] rfl ?_
  refine O.box rfl rfl rfl rfl ?_
  intro H1 M1
  refine ⟨trivial, ?_⟩
  have hs1 := M1.size
  have hF1 := M1.fr nowhere
  replace ho := ho.fr (M1.fr nowhere)
  replace hi := hi.fr (M1.fr nowhere)
  have mi : cl H1 H.size 0 = some v := (M1.cl 0).trans rfl
  refine O.asg rfl rfl rfl rfl rfl ?_
  refine O.asg rfl rfl rfl rfl rfl ?_
  refine Pl.fin [(1, _), (2, _), (4, _), (5, _)] ⟨rfl, rfl, rfl, rfl, trivial⟩ ?_
  refine Go'.seq ?_
  -- region 1 (tree.go:7)
  refine Go'.region [(0, 0)] rfl ?_
  refine O.asg rfl rfl rfl rfl rfl ?_
  refine Pl.fin [(1, _), (2, _), (4, _), (5, _), (6, _)] ⟨rfl, rfl, rfl, rfl, rfl, trivial⟩ ?_
  refine Go'.seq ?_
  -- region 2 (tree.go:8)
  refine Go'.region [(0, 0)] rfl ?_
  refine O.asg rfl rfl rfl rfl rfl ?_
  refine Pl.fin [(1, _), (2, _), (4, _), (5, _), (6, _), (7, _)] ⟨rfl, rfl, rfl, rfl, rfl, rfl, trivial⟩ ?_
  refine Go'.seq ?_
  refine Go'.seq ?_
  -- region 3 (tree.go:9)
  refine Go'.region [(0, 0), (1, 0), (2, 0)] rfl ?_
  refine O.mv rfl rfl rfl rfl rfl ?_
  refine O.len rfl rfl rfl rfl Go.Proofs.Try.underlying22 rfl ?_
  refine O.mv rfl rfl rfl rfl rfl ?_
  refine Pl.fin [(2, _), (4, _), (5, _), (6, _), (7, _), (11, _), (12, _), (13, _)] ⟨rfl, rfl, rfl, rfl, rfl, rfl, rfl, rfl, trivial⟩ ?_
  refine Go'.block ?_
  refine Go'.loop ?_
  refine Go'.keep [(2, _), (6, _), (7, _), (11, _), (12, _), (13, _)] ⟨rfl, rfl, rfl, rfl, rfl, rfl, trivial⟩ ?_
  refine Go'.ind (σ := Nat × Value × Value × (Nat → Prop)) (fun s => l.length - s.1) (fun s H' => Fr nowhere H1 H' ∧ s.1 ≤ l.length ∧ Acc EF s.2.2.2 H' s.2.1 (Pl.gots (OO ord) (l.take s.1)) ∧ Acc EJ (fun b => ¬ s.2.2.2 b) H' s.2.2.1 (Pl.puts (OO ord) (l.take s.1)) ∧ ∀ b, s.2.2.2 b → H1.size ≤ b ∧ b < H'.size)
    (fun s => [(2, .pointer (some ⟨H.size, 0, none⟩)), (6, s.2.1), (7, s.2.2.1), (11, .slice a l.length c), (12, .int .i64 (l.length : Int)), (13, .int .i64 (s.1 : Int))]) (0, .slice none 0 0, .slice none 0 0, fun _ => False) ⟨Fr.refl _ _, Nat.zero_le _, Acc.nil _ _ _, Acc.nil _ _ _, fun _ h => h.elim⟩ rfl ?_
  rintro ⟨j, sv, iv, Zo⟩ H2 ⟨hF, hjl, hA, hB, hZ⟩ ih
  simp only at hjl hA hB hZ
  have ho2 := ho.fr hF
  have hi2 := hi.fr hF
  have mi2 := hF.keep mi nw
  refine Go'.seq ?_
  by_cases hlt : j < l.length
  · skip
    obtain ⟨y, hy⟩ : ∃ y, l[j]? = some y := ⟨l[j], List.getElem?_eq_getElem hlt⟩
    obtain ⟨b, o, c', e, hr⟩ := hi2.at hy
    cases e
    have hpl := Pl.puts_length (OO ord) (l.take j)
    have hlout := Pl.gots_length (OO ord) (l.take j)
    have hsz := hF.size
    have eput : Pl.puts (OO ord) (l.take (j + 1)) = Pl.put (OO ord) y (Pl.puts (OO ord) (l.take j)) := by rw [List.take_add_one, hy]; exact Pl.puts_snoc _ _ _
    have egot : Pl.gots (OO ord) (l.take (j + 1)) = Pl.gots (OO ord) (l.take j) ++ [Pl.got (OO ord) y (Pl.puts (OO ord) (l.take j))] := by rw [List.take_add_one, hy]; exact Pl.gots_snoc _ _ _
    rw [List.length_take] at hpl hlout
    -- region 4 (tree.go:9)
    refine Go'.region [(0, 0)] rfl ?_
    refine O.cmp rfl rfl rfl rfl rfl rfl (lssT (by omega)) ?_
    refine Pl.fin [(2, _), (6, _), (7, _), (11, _), (12, _), (13, _), (14, _)] ⟨rfl, rfl, rfl, rfl, rfl, rfl, rfl, trivial⟩ ?_
    refine Go'.seq ?_
    refine Go'.condT rfl ?_
    refine Go'.skip ?_
    refine Go'.seq ?_
    refine Go'.block ?_
    refine Go'.seq ?_
    -- region 5 (tree.go:9)
    refine Go'.region [(0, 0), (1, 1), (2, 2), (3, 2)] rfl ?_
    refine O.ix (j := j) rfl rfl rfl rfl Go.Proofs.Try.underlying22 Go.Proofs.Try.sizeOf35 rfl rfl (by omega) hlt ?_
    refine O.lds rfl rfl rfl (fun w => ⟨Go.Proofs.Try.isAgg35 w, Go.Proofs.Try.sizeOf35 w⟩) rfl rfl hr ?_
    refine O.alloc rfl rfl rfl Go.Proofs.Try.zeroValue35 ?_
    intro H3 M3
    refine ⟨trivial, ?_⟩
    have hs3 := M3.size
    have m7 : Wr H3 H2.size 0 2 := M3.wr 2 (by decide)
    refine O.st rfl rfl Go.Proofs.Try.sizeOf35 rfl rfl rfl rfl rfl m7 ?_
    intro H4 W4
    have hs4 := W4.size
    have hf4 : Fr nowhere H2 H4 := (M3.fr nowhere).trans' W4.fr (fun _ _ _ h => h) (fun b o hb hz => by have h1 := hz.1; omega)
    have ho4 := ho2.fr hf4
    have mi4 := hf4.keep mi2 nw
    have hx4 : Rd H4 H2.size 0 (EJ.enc y) := W4.all
    refine ⟨trivial, ?_⟩
    refine Pl.fin [(2, _), (6, _), (7, _), (9, _), (11, _), (12, _), (13, _), (14, _)] ⟨rfl, rfl, rfl, rfl, rfl, rfl, rfl, rfl, trivial⟩ ?_
    refine Go'.seq ?_
    -- region 6 (tree.go:10)
    refine Go'.region [(0, 2)] rfl ?_
    refine O.alloc rfl rfl rfl Go.Proofs.Try.zeroValue37 ?_
    intro H5 M5
    refine ⟨trivial, ?_⟩
    have hs5 := M5.size
    replace ho4 := ho4.fr (M5.fr nowhere)
    replace mi4 := M5.keep mi4
    replace hx4 := (M5.fr nowhere).rd hx4 (fun _ _ => nw)
    have hf5 : Fr nowhere H2 H5 := hf4.trans (M5.fr nowhere)
    have hA5 := hA.fr hf5 (fun _ _ _ _ => nw)
    have hB5 := hB.fr hf5 (fun _ _ _ _ => nw)
    have m10 : Wr H5 H4.size 0 3 := M5.wr 3 (by decide)
    refine Pl.fin [(2, _), (6, _), (7, _), (9, _), (10, _), (11, _), (12, _), (13, _), (14, _)] ⟨rfl, rfl, rfl, rfl, rfl, rfl, rfl, rfl, rfl, trivial⟩ ?_
    refine Go'.seq ?_
    rcases hgo : Pl.got (OO ord) y (Pl.puts (OO ord) (l.take j)) with _ | z
    · skip
      -- region 7 (tree.go:11)
      refine Go'.region [(0, 0), (1, 1), (2, 0), (3, 1), (4, 2), (5, 0), (6, 0), (7, 0), (8, 0), (9, 2)] rfl ?_
      refine O.faz rfl rfl rfl rfl ⟨_, _, _, Go.Proofs.Try.underlying58, rfl, rfl, Go.Proofs.Try.sizeOf39⟩ rfl ?_
      refine O.ld rfl rfl rfl (fun w => ⟨Go.Proofs.Try.isAgg39 w, Go.Proofs.Try.sizeOf39 w⟩) rfl mi4 ?_
      refine O.mv rfl rfl rfl rfl rfl ?_
      refine O.lds rfl rfl rfl (fun w => ⟨Go.Proofs.Try.isAgg35 w, Go.Proofs.Try.sizeOf35 w⟩) rfl rfl hx4 ?_
      refine O.call rfl rfl rfl Go.Proofs.Try.call79 rfl (put_specA ho4 hl hB5.inS (Pl.puts_srt _ _) (by omega)) ?_
      rintro _ H6 ⟨iv2, rfl, hB6, hF6⟩
      rw [hgo]
      unfold FV
      have hs6 := hF6.size
      replace m10 := hF6.wr m10
      have hA6 := hA5.fr hF6 (fun _ _ _ _ => nw)
      refine ⟨trivial, ?_⟩
      refine O.mv rfl rfl rfl rfl rfl ?_
      refine O.ext rfl rfl rfl rfl rfl rfl ?_
      refine O.ext rfl rfl rfl rfl rfl rfl ?_
      refine O.asg rfl rfl rfl rfl rfl ?_
      refine O.st (vs := (fvs none)) rfl rfl Go.Proofs.Try.sizeOf37 rfl rfl rfl rfl rfl m10 ?_
      intro H7 W7
      have hs7 := W7.size
      have hA7 := hA6.fr W7.fr (fun b o hb hz hr => by have h1 := hr.1; have h2 := hZ b hz; omega)
      have hB7 := hB6.fr W7.fr (fun b o hb hz hr => by have h1 := hr.1; omega)
      have hx7 : Rd H7 H4.size 0 (fvs none) := W7.all
      have hf7 : Fr nowhere H2 H7 := (hf5.trans hF6).trans' W7.fr (fun _ _ _ h => h) (fun b o hb hz => by have h1 := hz.1; omega)
      refine ⟨trivial, ?_⟩
      refine Pl.fin [(2, _), (6, _), (7, _), (9, _), (10, _), (11, _), (12, _), (13, _), (14, _)] ⟨rfl, rfl, rfl, rfl, rfl, rfl, rfl, rfl, rfl, trivial⟩ ?_
      -- region 8 (tree.go:12)
      refine Go'.region [(0, 0), (1, 1), (2, 2), (3, 2), (4, 0)] rfl ?_
      refine O.mv rfl rfl rfl rfl rfl ?_
      refine O.lds rfl rfl rfl (fun w => ⟨Go.Proofs.Try.isAgg37 w, Go.Proofs.Try.sizeOf37 w⟩) rfl rfl hx7 ?_
      refine O.bsl (cs := (fvs none)) rfl rfl rfl ⟨Go.Proofs.Try.underlying30, Go.Proofs.Try.sizeOf37, Go.Proofs.Try.zeroValue37, ⟨_, Go.Proofs.Try.typeInfo37, rfl⟩, rfl, by decide, by decide⟩ rfl (by decide) (by kernel_rfl) ?_
      intro H8 M8
      have hs8 := M8.size
      have hA8 := hA7.fr (M8.fr nowhere) (fun _ _ _ _ => nw)
      have hB8 := hB7.fr (M8.fr nowhere) (fun _ _ _ _ => nw)
      have m5 : Rd H8 H7.size 0 (row EF [none]) := M8.rd _ [] (by simp [row, EF, fvs])
      refine ⟨trivial, ?_⟩
      refine O.appA (E := EF) (Y := [none]) rfl rfl rfl ⟨Go.Proofs.Try.underlying30, Go.Proofs.Try.sizeOf37, Go.Proofs.Try.zeroValue37, ⟨_, Go.Proofs.Try.typeInfo37, rfl⟩, rfl, by decide, by decide⟩ rfl hA8 rfl ⟨_, _, _, rfl, m5⟩ (Nat.succ_pos _) (by rw [hlout]; exact Nat.le_trans (Nat.mul_le_mul_left _ (Nat.le_of_ble_eq_true (n := _) (m := 4096) rfl)) (by simp only [List.length_cons, List.length_nil]; omega)) (by rw [hlout]; simp only [List.length_cons, List.length_nil]; omega) ?_
      intro v9 H9 hA9 hF9 hs9
      have hB9 := hB8.fr hF9 (fun b o hb hz hr => by have h1 := hZ b hr; omega)
      have hg9 := hF9.size
      rw [hgo] at egot
      refine ⟨trivial, ?_⟩
      refine O.asg rfl rfl rfl rfl rfl ?_
      refine Pl.fin [(2, _), (6, _), (7, _), (9, _), (10, _), (11, _), (12, _), (13, _), (14, _)] ⟨rfl, rfl, rfl, rfl, rfl, rfl, rfl, rfl, rfl, trivial⟩ ?_
      refine Go'.inBlock ?_
      -- region 9 (tree.go:9)
      refine Go'.region [(0, 0), (1, 0)] rfl ?_
      refine O.add (((j + 1 : Nat) : Int)) rfl rfl rfl rfl rfl rfl (by omega) (by omega) ?_
      refine O.mv rfl rfl rfl rfl rfl ?_
      refine Pl.fin [(2, _), (6, _), (7, _), (9, _), (10, _), (11, _), (12, _), (13, _), (14, _)] ⟨rfl, rfl, rfl, rfl, rfl, rfl, rfl, rfl, rfl, trivial⟩ ?_
      refine Go'.keep [(2, _), (6, _), (7, _), (11, _), (12, _), (13, _)] ⟨rfl, rfl, rfl, rfl, rfl, rfl, trivial⟩ ?_
      refine Go'.inLoop ?_
      refine ih (j + 1, v9, iv2, fun b => Zo b ∨ (b = H8.size ∧ b < H9.size)) H9 ⟨((hF.trans hf7).trans (M8.fr nowhere)).trans' hF9 (fun _ _ _ h => h) (fun b o hb hz => by have h1 := (hZ b hz).1; omega), hlt, ?_, ?_, fun b hb => hb.elim (fun h => ⟨(hZ b h).1, by have := (hZ b h).2; omega⟩) (fun h => ⟨by omega, h.2⟩)⟩ (by simp only; omega)
      · simp only
        rw [egot]
        exact hA9
      · simp only
        rw [eput]
        exact (hB8.mono (Y := fun b => ¬ Zo b ∧ b < H8.size) (fun b hb hz => ⟨fun h => by have := hZ b h; omega, hb⟩)).fr hF9 (fun b o hb hz hr => hz.1 hr) |>.mono (fun b hb hz h => h.elim hz.1 (fun h => by have := hz.2; omega))
    · skip
      -- region 7 (tree.go:11)
      refine Go'.region [(0, 0), (1, 1), (2, 0), (3, 1), (4, 2), (5, 0), (6, 0), (7, 0), (8, 0), (9, 2)] rfl ?_
      refine O.faz rfl rfl rfl rfl ⟨_, _, _, Go.Proofs.Try.underlying58, rfl, rfl, Go.Proofs.Try.sizeOf39⟩ rfl ?_
      refine O.ld rfl rfl rfl (fun w => ⟨Go.Proofs.Try.isAgg39 w, Go.Proofs.Try.sizeOf39 w⟩) rfl mi4 ?_
      refine O.mv rfl rfl rfl rfl rfl ?_
      refine O.lds rfl rfl rfl (fun w => ⟨Go.Proofs.Try.isAgg35 w, Go.Proofs.Try.sizeOf35 w⟩) rfl rfl hx4 ?_
      refine O.call rfl rfl rfl Go.Proofs.Try.call79 rfl (put_specA ho4 hl hB5.inS (Pl.puts_srt _ _) (by omega)) ?_
      rintro _ H6 ⟨iv2, rfl, hB6, hF6⟩
      rw [hgo]
      unfold FV
      have hs6 := hF6.size
      replace m10 := hF6.wr m10
      have hA6 := hA5.fr hF6 (fun _ _ _ _ => nw)
      refine ⟨trivial, ?_⟩
      refine O.mv rfl rfl rfl rfl rfl ?_
      refine O.ext rfl rfl rfl rfl rfl rfl ?_
      refine O.ext rfl rfl rfl rfl rfl rfl ?_
      refine O.asg rfl rfl rfl rfl rfl ?_
      refine O.st (vs := (fvs (some z))) rfl rfl Go.Proofs.Try.sizeOf37 rfl rfl rfl rfl rfl m10 ?_
      intro H7 W7
      have hs7 := W7.size
      have hA7 := hA6.fr W7.fr (fun b o hb hz hr => by have h1 := hr.1; have h2 := hZ b hz; omega)
      have hB7 := hB6.fr W7.fr (fun b o hb hz hr => by have h1 := hr.1; omega)
      have hx7 : Rd H7 H4.size 0 (fvs (some z)) := W7.all
      have hf7 : Fr nowhere H2 H7 := (hf5.trans hF6).trans' W7.fr (fun _ _ _ h => h) (fun b o hb hz => by have h1 := hz.1; omega)
      refine ⟨trivial, ?_⟩
      refine Pl.fin [(2, _), (6, _), (7, _), (9, _), (10, _), (11, _), (12, _), (13, _), (14, _)] ⟨rfl, rfl, rfl, rfl, rfl, rfl, rfl, rfl, rfl, trivial⟩ ?_
      -- region 8 (tree.go:12)
      refine Go'.region [(0, 0), (1, 1), (2, 2), (3, 2), (4, 0)] rfl ?_
      refine O.mv rfl rfl rfl rfl rfl ?_
      refine O.lds rfl rfl rfl (fun w => ⟨Go.Proofs.Try.isAgg37 w, Go.Proofs.Try.sizeOf37 w⟩) rfl rfl hx7 ?_
      refine O.bsl (cs := (fvs (some z))) rfl rfl rfl ⟨Go.Proofs.Try.underlying30, Go.Proofs.Try.sizeOf37, Go.Proofs.Try.zeroValue37, ⟨_, Go.Proofs.Try.typeInfo37, rfl⟩, rfl, by decide, by decide⟩ rfl (by decide) (by kernel_rfl) ?_
      intro H8 M8
      have hs8 := M8.size
      have hA8 := hA7.fr (M8.fr nowhere) (fun _ _ _ _ => nw)
      have hB8 := hB7.fr (M8.fr nowhere) (fun _ _ _ _ => nw)
      have m5 : Rd H8 H7.size 0 (row EF [(some z)]) := M8.rd _ [] (by simp [row, EF, fvs])
      refine ⟨trivial, ?_⟩
      refine O.appA (E := EF) (Y := [(some z)]) rfl rfl rfl ⟨Go.Proofs.Try.underlying30, Go.Proofs.Try.sizeOf37, Go.Proofs.Try.zeroValue37, ⟨_, Go.Proofs.Try.typeInfo37, rfl⟩, rfl, by decide, by decide⟩ rfl hA8 rfl ⟨_, _, _, rfl, m5⟩ (Nat.succ_pos _) (by rw [hlout]; exact Nat.le_trans (Nat.mul_le_mul_left _ (Nat.le_of_ble_eq_true (n := _) (m := 4096) rfl)) (by simp only [List.length_cons, List.length_nil]; omega)) (by rw [hlout]; simp only [List.length_cons, List.length_nil]; omega) ?_
      intro v9 H9 hA9 hF9 hs9
      have hB9 := hB8.fr hF9 (fun b o hb hz hr => by have h1 := hZ b hr; omega)
      have hg9 := hF9.size
      rw [hgo] at egot
      refine ⟨trivial, ?_⟩
      refine O.asg rfl rfl rfl rfl rfl ?_
      refine Pl.fin [(2, _), (6, _), (7, _), (9, _), (10, _), (11, _), (12, _), (13, _), (14, _)] ⟨rfl, rfl, rfl, rfl, rfl, rfl, rfl, rfl, rfl, trivial⟩ ?_
      refine Go'.inBlock ?_
      -- region 9 (tree.go:9)
      refine Go'.region [(0, 0), (1, 0)] rfl ?_
      refine O.add (((j + 1 : Nat) : Int)) rfl rfl rfl rfl rfl rfl (by omega) (by omega) ?_
      refine O.mv rfl rfl rfl rfl rfl ?_
      refine Pl.fin [(2, _), (6, _), (7, _), (9, _), (10, _), (11, _), (12, _), (13, _), (14, _)] ⟨rfl, rfl, rfl, rfl, rfl, rfl, rfl, rfl, rfl, trivial⟩ ?_
      refine Go'.keep [(2, _), (6, _), (7, _), (11, _), (12, _), (13, _)] ⟨rfl, rfl, rfl, rfl, rfl, rfl, trivial⟩ ?_
      refine Go'.inLoop ?_
      refine ih (j + 1, v9, iv2, fun b => Zo b ∨ (b = H8.size ∧ b < H9.size)) H9 ⟨((hF.trans hf7).trans (M8.fr nowhere)).trans' hF9 (fun _ _ _ h => h) (fun b o hb hz => by have h1 := (hZ b hz).1; omega), hlt, ?_, ?_, fun b hb => hb.elim (fun h => ⟨(hZ b h).1, by have := (hZ b h).2; omega⟩) (fun h => ⟨by omega, h.2⟩)⟩ (by simp only; omega)
      · simp only
        rw [egot]
        exact hA9
      · simp only
        rw [eput]
        exact (hB8.mono (Y := fun b => ¬ Zo b ∧ b < H8.size) (fun b hb hz => ⟨fun h => by have := hZ b h; omega, hb⟩)).fr hF9 (fun b o hb hz hr => hz.1 hr) |>.mono (fun b hb hz h => h.elim hz.1 (fun h => by have := hz.2; omega))
  · skip
    obtain rfl : j = l.length := by omega
    rw [List.take_length] at hA hB
    -- region 4 (tree.go:9)
    refine Go'.region [(0, 0)] rfl ?_
    refine O.cmp rfl rfl rfl rfl rfl rfl (lssF (by omega)) ?_
    refine Pl.fin [(2, _), (6, _), (7, _), (11, _), (12, _), (13, _), (14, _)] ⟨rfl, rfl, rfl, rfl, rfl, rfl, rfl, trivial⟩ ?_
    refine Go'.seq ?_
    refine Go'.condF rfl ?_
    refine Go'.exit rfl ?_
    refine Go'.seq ?_
    -- region 10 (tree.go:14)
    refine Go'.region [(0, 0), (1, 0), (2, 0), (3, 0)] rfl ?_
    refine O.mv rfl rfl rfl rfl rfl ?_
    refine O.mv rfl rfl rfl rfl rfl ?_
    refine O.asg rfl rfl rfl rfl rfl ?_
    refine O.asg rfl rfl rfl rfl rfl ?_
    refine Pl.fin [(4, _), (5, _)] ⟨rfl, rfl, trivial⟩ ?_
    refine Go'.ret (vs := [_, _]) Go.Proofs.Try.func49 Go.Proofs.Try.results49 ⟨rfl, rfl, trivial⟩ ?_
    exact ⟨_, _, rfl, hA.out, hB.out, hF1.trans hF⟩

theorem found_neq (o : Option (Int × Int)) (a b : Operand) (w : World) : (eqGuard .neq 37 a b (.agg (fvs o).toArray) (.agg (fvs o).toArray)).run Try.prog w = .ok () w ∧ (binOp .neq 37 (.agg (fvs o).toArray) (.agg (fvs o).toArray)).run Try.prog w = .ok (.bool false) w := by
  refine ⟨run_eqGuard_agg w _ _ _ _ _ _ Try.eqGuardType37, ?_⟩
  rw [run_neq_struct]
  have h := (found_eq o a b w).2
  rw [run_eql_struct] at h
  have h2 : (Op.equalIn 10000 37 (.agg (fvs o).toArray) (.agg (fvs o).toArray)).run Try.prog w = .ok true w := by
    cases hh : (Op.equalIn 10000 37 (.agg (fvs o).toArray) (.agg (fvs o).toArray)).run Try.prog w with
    | ok x w2 => rw [hh] at h; simp [Result.andThen] at h; obtain ⟨h1, h2⟩ := h; rw [h1, h2]
    | _ => rw [hh] at h; simp [Result.andThen] at h
  rw [h2]; rfl

theorem eqFounds_spec {B : World} {H : Mem} {u v : Value} {l : List (Option (Int × Int))} (hu : InS EF H u l) (hv : InS EF H v l) (hll : l.length ≤ 4294967296) :
    Fn Try.prog B 26 [u, v] H (fun r H' => r = .bool true ∧ H' = H) := by
  obtain ⟨a, c, e⟩ := hu.len
  subst e
  obtain ⟨a', c', e⟩ := hv.len
  subst e
  refine fn_of Go.Proofs.Try.func26 rfl Go.Proofs.Try.ntmps26 ?_
  refine (show Go' _ _ _ _ 26 [(0, _), (1, _)] [.code _] _ from ?_)
  refine Go'.seq ?_
  -- region 0 (slices.go:20)
  refine Go'.region [(0, 0)] rfl ?_
  refine O.asg rfl rfl rfl rfl rfl ?_
  refine Pl.fin [(0, _), (1, _), (4, _)] ⟨rfl, rfl, rfl, trivial⟩ ?_
  refine Go'.seq ?_
  refine Go'.seq ?_
  -- region 1 (slices.go:21)
  refine Go'.region [(0, 0), (1, 0), (2, 0), (3, 0), (4, 0)] rfl ?_
  refine O.mv rfl rfl rfl rfl rfl ?_
  refine O.len rfl rfl rfl rfl Go.Proofs.Try.underlying30 rfl ?_
  refine O.mv rfl rfl rfl rfl rfl ?_
  refine O.len rfl rfl rfl rfl Go.Proofs.Try.underlying30 rfl ?_
  refine O.cmp rfl rfl rfl rfl rfl rfl (neqF (by omega)) ?_
  refine Pl.fin [(0, _), (1, _), (4, _), (10, _)] ⟨rfl, rfl, rfl, rfl, trivial⟩ ?_
  refine Go'.condF rfl ?_
  refine Go'.skip ?_
  refine Go'.seq ?_
  refine Go'.seq ?_
  -- region 3 (slices.go:24)
  refine Go'.region [(0, 0), (1, 0), (2, 0)] rfl ?_
  refine O.mv rfl rfl rfl rfl rfl ?_
  refine O.len rfl rfl rfl rfl Go.Proofs.Try.underlying30 rfl ?_
  refine O.mv rfl rfl rfl rfl rfl ?_
  refine Pl.fin [(0, _), (1, _), (4, _), (12, _), (13, _)] ⟨rfl, rfl, rfl, rfl, rfl, trivial⟩ ?_
  refine Go'.block ?_
  refine Go'.loop ?_
  refine Go'.keep [(0, _), (1, _), (4, _), (12, _), (13, _)] ⟨rfl, rfl, rfl, rfl, rfl, trivial⟩ ?_
  refine Go'.ind (σ := Nat) (fun j => l.length - j) (fun j H' => H' = H ∧ j ≤ l.length)
    (fun j => [(0, .slice a l.length c), (1, .slice a' l.length c'), (4, .bool false), (12, .int .i64 (l.length : Int)), (13, .int .i64 (j : Int))]) 0 ⟨rfl, Nat.zero_le _⟩ rfl ?_
  rintro j H2 ⟨hHH, hjl⟩ ih
  have eH : H = H2 := hHH.symm
  subst eH
  clear hHH
  refine Go'.seq ?_
  by_cases hlt : j < l.length
  · skip
    obtain ⟨y, hy⟩ : ∃ y, l[j]? = some y := ⟨l[j], List.getElem?_eq_getElem hlt⟩
    obtain ⟨b, o, cc, e, hr⟩ := hu.at hy
    cases e
    obtain ⟨b', o', cc', e, hr'⟩ := hv.at hy
    cases e
    -- region 4 (slices.go:24)
    refine Go'.region [(0, 0)] rfl ?_
    refine O.cmp rfl rfl rfl rfl rfl rfl (lssT (by omega)) ?_
    refine Pl.fin [(0, _), (1, _), (4, _), (12, _), (13, _), (14, _)] ⟨rfl, rfl, rfl, rfl, rfl, rfl, trivial⟩ ?_
    refine Go'.seq ?_
    refine Go'.condT rfl ?_
    refine Go'.skip ?_
    refine Go'.seq ?_
    refine Go'.block ?_
    refine Go'.seq ?_
    -- region 5 (slices.go:24)
    refine Go'.region [(0, 0), (1, 0)] rfl ?_
    refine O.mv rfl rfl rfl rfl rfl ?_
    refine O.asg rfl rfl rfl rfl rfl ?_
    refine Pl.fin [(0, _), (1, _), (4, _), (5, _), (12, _), (13, _), (14, _)] ⟨rfl, rfl, rfl, rfl, rfl, rfl, rfl, trivial⟩ ?_
    refine Go'.seq ?_
    -- region 6 (slices.go:25)
    refine Go'.draw (fun _ => True) [(0, 0), (1, 0), (2, 0), (3, 1), (4, 0), (5, 0), (6, 0), (7, 1), (8, 0)] (by kernel_rfl) (by kernel_rfl) (trivial) ?_
    refine O.mv rfl rfl rfl rfl rfl ?_
    refine O.mv rfl rfl rfl rfl rfl ?_
    refine O.ix (j := j) rfl rfl rfl rfl Go.Proofs.Try.underlying30 Go.Proofs.Try.sizeOf37 rfl rfl (by omega) hlt ?_
    refine O.lds rfl rfl rfl (fun w => ⟨Go.Proofs.Try.isAgg37 w, Go.Proofs.Try.sizeOf37 w⟩) rfl (by cases y <;> rfl) hr ?_
    refine O.mv rfl rfl rfl rfl rfl ?_
    refine O.mv rfl rfl rfl rfl rfl ?_
    refine O.ix (j := j) rfl rfl rfl rfl Go.Proofs.Try.underlying30 Go.Proofs.Try.sizeOf37 rfl rfl (by omega) hlt ?_
    refine O.lds rfl rfl rfl (fun w => ⟨Go.Proofs.Try.isAgg37 w, Go.Proofs.Try.sizeOf37 w⟩) rfl (by cases y <;> rfl) hr' ?_
    refine O.bin rfl rfl rfl rfl rfl rfl (found_neq y _ _) ?_
    refine Pl.fin [(0, _), (1, _), (4, _), (5, _), (12, _), (13, _), (14, _), (24, _)] ⟨rfl, rfl, rfl, rfl, rfl, rfl, rfl, rfl, trivial⟩ ?_
    refine Go'.condF rfl ?_
    refine Go'.skip ?_
    refine Go'.inBlock ?_
    -- region 8 (slices.go:24)
    refine Go'.region [(0, 0), (1, 0)] rfl ?_
    refine O.add (((j + 1 : Nat) : Int)) rfl rfl rfl rfl rfl rfl (by omega) (by omega) ?_
    refine O.mv rfl rfl rfl rfl rfl ?_
    refine Pl.fin [(0, _), (1, _), (4, _), (5, _), (12, _), (13, _), (14, _), (24, _)] ⟨rfl, rfl, rfl, rfl, rfl, rfl, rfl, rfl, trivial⟩ ?_
    refine Go'.keep [(0, _), (1, _), (4, _), (12, _), (13, _)] ⟨rfl, rfl, rfl, rfl, rfl, trivial⟩ ?_
    refine Go'.inLoop ?_
    exact ih (j + 1) H ⟨rfl, hlt⟩ (by omega)
  · skip
    -- region 4 (slices.go:24)
    refine Go'.region [(0, 0)] rfl ?_
    refine O.cmp rfl rfl rfl rfl rfl rfl (lssF (by omega)) ?_
    refine Pl.fin [(0, _), (1, _), (4, _), (12, _), (13, _), (14, _)] ⟨rfl, rfl, rfl, rfl, rfl, rfl, trivial⟩ ?_
    refine Go'.seq ?_
    refine Go'.condF rfl ?_
    refine Go'.exit rfl ?_
    refine Go'.seq ?_
    -- region 9 (slices.go:29)
    refine Go'.region [(0, 0)] rfl ?_
    refine O.asg rfl rfl rfl rfl rfl ?_
    refine Pl.fin [(4, _)] ⟨rfl, trivial⟩ ?_
    refine Go'.ret (vs := [_]) Go.Proofs.Try.func26 Go.Proofs.Try.results26 ⟨rfl, trivial⟩ ?_
    exact ⟨rfl, rfl⟩

theorem lawMSet_spec {B : World} {H : Mem} {d : Nat} {u : Value} {l : List (Int × Int)} (hd : 2 ≤ d ∧ d ≤ 128) (hi : InS EJ H u l) (hll : l.length ≤ 4294967296) :
    Fn Try.prog B 19 [.int .i64 (d : Int), u] H (fun r H' => r = .bool true ∧ Fr nowhere H H') := by
  have hpl := Pl.puts_length OI l
  have hgl := Pl.gots_length OI l
  refine fn_of Go.Proofs.Try.func19 rfl Go.Proofs.Try.ntmps19 ?_
  refine (show Go' _ _ _ _ 29 [(0, _), (1, _)] [.code _] _ from ?_)
  refine Go'.seq ?_
  -- region 0 (exact.go:1122)
  refine Go'.region [(0, 0)] rfl ?_
  refine O.asg rfl rfl rfl rfl rfl ?_
  refine Pl.fin [(0, _), (1, _), (4, _)] ⟨rfl, rfl, rfl, trivial⟩ ?_
  refine Go'.seq ?_
  -- region 1 (exact.go:1123)
  refine Go'.region [(0, 0), (1, 0), (2, 2), (3, 0), (4, 0), (5, 0), (6, 0), (7, 0)] rfl ?_
  refine O.mv rfl rfl rfl rfl rfl ?_
  refine O.mv rfl rfl rfl rfl rfl ?_
  refine O.call rfl rfl rfl Go.Proofs.Try.call25 rfl (msets_spec hd hi hll) ?_
  rintro _ H1 ⟨v1, v2, rfl, h1, h2, hF1⟩
  refine ⟨trivial, ?_⟩
  refine O.mv rfl rfl rfl rfl rfl ?_
  refine O.ext rfl rfl rfl rfl rfl rfl ?_
  refine O.ext rfl rfl rfl rfl rfl rfl ?_
  refine O.asg rfl rfl rfl rfl rfl ?_
  refine O.asg rfl rfl rfl rfl rfl ?_
  refine Pl.fin [(1, _), (4, _), (5, _), (6, _)] ⟨rfl, rfl, rfl, rfl, trivial⟩ ?_
  refine Go'.seq ?_
  -- region 2 (exact.go:1124)
  refine Go'.region [(0, 0), (1, 0), (2, 2), (3, 0), (4, 0), (5, 0), (6, 0), (7, 0)] rfl ?_
  refine O.bld (cs := [.slice none 0 0, .int .i64 0, .bool false]) rfl rfl rfl rfl (st58) rfl (by kernel_rfl) ?_
  refine O.mv rfl rfl rfl rfl rfl ?_
  refine O.call rfl rfl rfl Go.Proofs.Try.call49 rfl (gset_spec (ord := []) (InS.nil EN H1) (by simp) (hi.fr hF1) hll) ?_
  rintro _ H2 ⟨v3, v4, rfl, h3, h4, hF2⟩
  rw [OO_nil] at h3 h4
  refine ⟨trivial, ?_⟩
  refine O.mv rfl rfl rfl rfl rfl ?_
  refine O.ext rfl rfl rfl rfl rfl rfl ?_
  refine O.ext rfl rfl rfl rfl rfl rfl ?_
  refine O.asg rfl rfl rfl rfl rfl ?_
  refine O.asg rfl rfl rfl rfl rfl ?_
  refine Pl.fin [(4, _), (5, _), (6, _), (7, _), (8, _)] ⟨rfl, rfl, rfl, rfl, rfl, trivial⟩ ?_
  refine Go'.seq ?_
  -- region 3 (exact.go:1125)
  refine Go'.region [(0, 0), (1, 0), (2, 2), (3, 0), (4, 0), (5, 0), (6, 2), (7, 0), (8, 0)] rfl ?_
  refine O.mv rfl rfl rfl rfl rfl ?_
  refine O.mv rfl rfl rfl rfl rfl ?_
  refine O.callQ rfl rfl rfl Go.Proofs.Try.call26 rfl (eqFounds_spec (h1.inS.fr hF2) h3.inS (by omega)) trivial ?_
  refine O.mv rfl rfl rfl rfl rfl ?_
  refine O.mv rfl rfl rfl rfl rfl ?_
  refine O.mv rfl rfl rfl rfl rfl ?_
  refine O.callQ rfl rfl rfl Go.Proofs.Try.call27 rfl (eqItems_spec (h2.inS.fr hF2) h4.inS (by omega)) trivial ?_
  refine O.pick rfl rfl rfl rfl rfl rfl ?_
  refine O.asg rfl rfl rfl rfl rfl ?_
  refine Pl.fin [(4, _)] ⟨rfl, trivial⟩ ?_
  refine Go'.ret (vs := [_]) Go.Proofs.Try.func19 Go.Proofs.Try.results19 ⟨rfl, trivial⟩ ?_
  exact ⟨rfl, hF1.trans hF2⟩

theorem fnExactMSet {B : World} {H : Mem} {z : Int} {u : Value} {l : List (Int × Int)} (hi : InS EJ H u l) :
    Fn Try.prog B 6 [.int .i64 z, u] H (fun r H' => r = .bool true ∧ Fr nowhere H H') := by
  obtain ⟨a, c, hu⟩ := hi.len
  subst hu
  have hi0 := hi
  refine fn_of Go.Proofs.Try.func6 rfl Go.Proofs.Try.ntmps6 ?_
  refine (show Go' _ _ _ _ 24 [(0, _), (1, _)] [.code _] _ from ?_)
  refine Go'.seq ?_
  -- region 0 (exact.go:1115)
  refine Go'.region [(0, 0)] rfl ?_
  refine O.asg rfl rfl rfl rfl rfl ?_
  refine Pl.fin [(0, _), (1, _), (4, _)] ⟨rfl, rfl, rfl, trivial⟩ ?_
  refine Go'.seq ?_
  refine Go'.seq ?_
  by_cases hbig : (2147483647 : Int) < (l.length : Int)
  · skip
    -- region 1 (exact.go:1116)
    refine Go'.region [(0, 0), (1, 0), (2, 0)] rfl ?_
    refine O.mv rfl rfl rfl rfl rfl ?_
    refine O.len rfl rfl rfl rfl Go.Proofs.Try.underlying22 rfl ?_
    refine O.cmp rfl rfl rfl rfl rfl rfl (gtrT (by omega)) ?_
    refine Pl.fin [(0, _), (1, _), (4, _), (7, _)] ⟨rfl, rfl, rfl, rfl, trivial⟩ ?_
    refine Go'.condT rfl ?_
    refine Go'.seq ?_
    -- region 2 (exact.go:1117)
    refine Go'.region [(0, 0)] rfl ?_
    refine O.asg rfl rfl rfl rfl rfl ?_
    refine Pl.fin [(0, _), (1, _), (4, _)] ⟨rfl, rfl, rfl, trivial⟩ ?_
    refine Go'.ret (vs := [_]) Go.Proofs.Try.func6 Go.Proofs.Try.results6 ⟨rfl, trivial⟩ ?_
    exact ⟨rfl, Fr.refl _ _⟩
  · skip
    -- region 1 (exact.go:1116)
    refine Go'.region [(0, 0), (1, 0), (2, 0)] rfl ?_
    refine O.mv rfl rfl rfl rfl rfl ?_
    refine O.len rfl rfl rfl rfl Go.Proofs.Try.underlying22 rfl ?_
    refine O.cmp rfl rfl rfl rfl rfl rfl (gtrF (by omega)) ?_
    refine Pl.fin [(0, _), (1, _), (4, _), (7, _)] ⟨rfl, rfl, rfl, rfl, trivial⟩ ?_
    refine Go'.condF rfl ?_
    refine Go'.skip ?_
    refine Go'.seq ?_
    cases hfz : fitsb z
    · skip
      -- region 3 (exact.go:1119)
      refine Go'.region [(0, 2), (1, 2), (2, 0), (3, 0), (4, 2), (5, 0), (6, 0), (7, 0), (8, 0), (9, 0), (10, 0), (11, 0), (12, 0), (13, 2), (14, 0), (15, 0), (16, 0)] rfl ?_
      refine O.call rfl rfl rfl Go.Proofs.Try.call15 rfl exItems_spec ?_
      rintro ev H1 ⟨hev, hF1⟩
      refine ⟨trivial, ?_⟩
      refine O.call rfl rfl rfl Go.Proofs.Try.call19 rfl (lawMSet_spec (d := 2) (by decide) hev (by decide)) ?_
      rintro _ H2 ⟨rfl, hF2⟩
      have hF := hF1.trans hF2
      have hi2 := hi0.fr hF
      refine ⟨trivial, ?_⟩
      refine O.mv rfl rfl rfl rfl rfl ?_
      refine O.mv rfl rfl rfl rfl rfl ?_
      refine O.callQ rfl rfl rfl Go.Proofs.Try.call16 rfl (fits_spec' hfz) trivial ?_
      refine O.mv rfl rfl rfl rfl rfl ?_
      refine Pl.pass rfl rfl rfl rfl ?_
      refine Pl.pass rfl rfl rfl rfl ?_
      refine O.pick rfl rfl rfl rfl rfl rfl ?_
      refine O.not rfl rfl rfl rfl rfl ?_
      refine O.mv rfl rfl rfl rfl rfl ?_
      refine Pl.pass rfl rfl rfl rfl ?_
      refine Pl.pass rfl rfl rfl rfl ?_
      refine Pl.pass2 rfl rfl rfl rfl trivial ?_
      refine O.pick rfl rfl rfl rfl rfl rfl ?_
      refine O.pick rfl rfl rfl rfl rfl rfl ?_
      refine O.asg rfl rfl rfl rfl rfl ?_
      refine Pl.fin [(4, _)] ⟨rfl, trivial⟩ ?_
      refine Go'.ret (vs := [_]) Go.Proofs.Try.func6 Go.Proofs.Try.results6 ⟨rfl, trivial⟩ ?_
      exact ⟨rfl, hF⟩
    · skip
      by_cases hp : 0 < z
      · skip
        obtain ⟨d, rfl⟩ := Int.eq_ofNat_of_zero_le (by omega : 0 ≤ z)
        have hd : 2 ≤ d ∧ d ≤ 128 := by
          unfold fitsb at hfz
          simp only [Bool.or_eq_true, Bool.and_eq_true, decide_eq_true_eq] at hfz
          omega
        -- region 3 (exact.go:1119)
        refine Go'.region [(0, 2), (1, 2), (2, 0), (3, 0), (4, 2), (5, 0), (6, 0), (7, 0), (8, 0), (9, 0), (10, 0), (11, 0), (12, 0), (13, 2), (14, 0), (15, 0), (16, 0)] rfl ?_
        refine O.call rfl rfl rfl Go.Proofs.Try.call15 rfl exItems_spec ?_
        rintro ev H1 ⟨hev, hF1⟩
        refine ⟨trivial, ?_⟩
        refine O.call rfl rfl rfl Go.Proofs.Try.call19 rfl (lawMSet_spec (d := 2) (by decide) hev (by decide)) ?_
        rintro _ H2 ⟨rfl, hF2⟩
        have hF := hF1.trans hF2
        have hi2 := hi0.fr hF
        refine ⟨trivial, ?_⟩
        refine O.mv rfl rfl rfl rfl rfl ?_
        refine O.mv rfl rfl rfl rfl rfl ?_
        refine O.callQ rfl rfl rfl Go.Proofs.Try.call16 rfl (fits_spec' hfz) trivial ?_
        refine O.mv rfl rfl rfl rfl rfl ?_
        refine O.mv rfl rfl rfl rfl rfl ?_
        refine O.cmp rfl rfl rfl rfl rfl rfl (gtrT (by omega)) ?_
        refine O.pick rfl rfl rfl rfl rfl rfl ?_
        refine O.not rfl rfl rfl rfl rfl ?_
        refine O.mv rfl rfl rfl rfl rfl ?_
        refine O.mv rfl rfl rfl rfl rfl ?_
        refine O.mv rfl rfl rfl rfl rfl ?_
        refine O.call rfl rfl rfl Go.Proofs.Try.call19 rfl (lawMSet_spec hd hi2 (by omega)) ?_
        rintro _ H3 ⟨rfl, hF3⟩
        replace hF := hF.trans hF3
        refine ⟨trivial, ?_⟩
        refine O.pick rfl rfl rfl rfl rfl rfl ?_
        refine O.pick rfl rfl rfl rfl rfl rfl ?_
        refine O.asg rfl rfl rfl rfl rfl ?_
        refine Pl.fin [(4, _)] ⟨rfl, trivial⟩ ?_
        refine Go'.ret (vs := [_]) Go.Proofs.Try.func6 Go.Proofs.Try.results6 ⟨rfl, trivial⟩ ?_
        exact ⟨rfl, hF⟩
      · skip
        -- region 3 (exact.go:1119)
        refine Go'.region [(0, 2), (1, 2), (2, 0), (3, 0), (4, 2), (5, 0), (6, 0), (7, 0), (8, 0), (9, 0), (10, 0), (11, 0), (12, 0), (13, 2), (14, 0), (15, 0), (16, 0)] rfl ?_
        refine O.call rfl rfl rfl Go.Proofs.Try.call15 rfl exItems_spec ?_
        rintro ev H1 ⟨hev, hF1⟩
        refine ⟨trivial, ?_⟩
        refine O.call rfl rfl rfl Go.Proofs.Try.call19 rfl (lawMSet_spec (d := 2) (by decide) hev (by decide)) ?_
        rintro _ H2 ⟨rfl, hF2⟩
        have hF := hF1.trans hF2
        have hi2 := hi0.fr hF
        refine ⟨trivial, ?_⟩
        refine O.mv rfl rfl rfl rfl rfl ?_
        refine O.mv rfl rfl rfl rfl rfl ?_
        refine O.callQ rfl rfl rfl Go.Proofs.Try.call16 rfl (fits_spec' hfz) trivial ?_
        refine O.mv rfl rfl rfl rfl rfl ?_
        refine O.mv rfl rfl rfl rfl rfl ?_
        refine O.cmp rfl rfl rfl rfl rfl rfl (gtrF (by omega)) ?_
        refine O.pick rfl rfl rfl rfl rfl rfl ?_
        refine O.not rfl rfl rfl rfl rfl ?_
        refine O.mv rfl rfl rfl rfl rfl ?_
        refine Pl.pass rfl rfl rfl rfl ?_
        refine Pl.pass rfl rfl rfl rfl ?_
        refine Pl.pass2 rfl rfl rfl rfl trivial ?_
        refine O.pick rfl rfl rfl rfl rfl rfl ?_
        refine O.pick rfl rfl rfl rfl rfl rfl ?_
        refine O.asg rfl rfl rfl rfl rfl ?_
        refine Pl.fin [(4, _)] ⟨rfl, trivial⟩ ?_
        refine Go'.ret (vs := [_]) Go.Proofs.Try.func6 Go.Proofs.Try.results6 ⟨rfl, trivial⟩ ?_
        exact ⟨rfl, hF⟩

end Go.Bt
