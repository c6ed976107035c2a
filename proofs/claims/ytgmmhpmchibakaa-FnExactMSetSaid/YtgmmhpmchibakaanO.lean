/- Contracts of functions of the program, proved by walking through their code. Conditions: those that each theorem names. -/
import Derived.Test.YtgmmhpmchibakaanN
namespace Go.Bt
open Go Go.Proofs
set_option maxRecDepth 20000
set_option maxHeartbeats 4000000
set_option linter.unusedVariables false

theorem got_key {l : List (Int × Int)} {x y : Int × Int} (hs : Pl.Srt OI l) (h : Pl.got OI x l = some y) : x.1 = y.1 := by
  have hf : Pl.fnd OI x l = true := by rw [← Pl.got_isSome, h]; rfl
  obtain ⟨z, hz, h1, h2⟩ := Pl.fnd_at OI hs hf
  rw [Pl.got_some OI hf, hz] at h
  cases h
  have h1 := of_decide_eq_false h1
  have h2 := of_decide_eq_false h2
  omega

theorem msets_spec {B : World} {H : Mem} {d : Nat} {u : Value} {l : List (Int × Int)} (hd : 2 ≤ d ∧ d ≤ 128) (hi : InS EJ H u l) (hll : l.length ≤ 4294967296) :
    Fn Try.prog B 25 [.int .i64 (d : Int), u] H (fun r H' => ∃ v1 v2, r = .tuple #[v1, v2] ∧ OutS EF H' v1 (Pl.gots OI l) ∧ OutS EJ H' v2 (Pl.puts OI l) ∧ Fr nowhere H H') := by
  have hP : PsOk ⟨0, 2 * d - 1, d - 1⟩ := ⟨by show 2 * d - 1 = 2 * (d - 1) + 1; omega, by show 1 ≤ d - 1; omega, by show 2 * d - 1 ≤ 255; omega⟩
  have hpl0 := Pl.puts_length OI l
  obtain ⟨a, c, hu⟩ := hi.len
  subst hu
  refine fn_of Go.Proofs.Try.func25 rfl Go.Proofs.Try.ntmps25 ?_
  refine (show Go' _ _ _ _ 41 [(0, _), (1, _)] [.code _] _ from ?_)
  refine Go'.seq ?_
  -- region 0 (map.go:34)
  refine Go'.region [(0, 0), (1, 0)] rfl ?_
  refine O.asg rfl rfl rfl rfl rfl ?_
  refine O.asg rfl rfl rfl rfl rfl ?_
  refine Pl.fin [(0, _), (1, _), (4, _), (5, _)] ⟨rfl, rfl, rfl, rfl, trivial⟩ ?_
  refine Go'.seq ?_
  -- region 1 (map.go:35)
  refine Go'.region [(0, 0), (1, 2), (2, 0)] rfl ?_
  refine O.mv rfl rfl rfl rfl rfl ?_
  refine O.call rfl rfl rfl Go.Proofs.Try.call52 rfl (growMap_spec (l := []) hd (InS.nil EJ H) (by decide)) ?_
  rintro _ H1 ⟨tr, S0, rfl, hM1, hF1, hS0⟩
  unfold ptr
  refine ⟨trivial, ?_⟩
  refine O.asg rfl rfl rfl rfl rfl ?_
  refine Pl.fin [(1, _), (4, _), (5, _), (6, _)] ⟨rfl, rfl, rfl, rfl, trivial⟩ ?_
  refine Go'.seq ?_
  -- region 2 (map.go:36)
  refine Go'.region [(0, 0)] rfl ?_
  refine O.asg rfl rfl rfl rfl rfl ?_
  refine Pl.fin [(1, _), (4, _), (5, _), (6, _), (7, _)] ⟨rfl, rfl, rfl, rfl, rfl, trivial⟩ ?_
  refine Go'.seq ?_
  refine Go'.seq ?_
  -- region 3 (map.go:37)
  refine Go'.region [(0, 0), (1, 0), (2, 0)] rfl ?_
  refine O.mv rfl rfl rfl rfl rfl ?_
  refine O.len rfl rfl rfl rfl Go.Proofs.Try.underlying22 rfl ?_
  refine O.mv rfl rfl rfl rfl rfl ?_
  refine Pl.fin [(4, _), (5, _), (6, _), (7, _), (14, _), (15, _), (16, _)] ⟨rfl, rfl, rfl, rfl, rfl, rfl, rfl, trivial⟩ ?_
  refine Go'.block ?_
  refine Go'.loop ?_
  refine Go'.keep [(6, _), (7, _), (14, _), (15, _), (16, _)] ⟨rfl, rfl, rfl, rfl, rfl, trivial⟩ ?_
  refine Go'.ind (σ := Nat × Value) (fun s => l.length - s.1) (fun s H' => Fr nowhere H H' ∧ s.1 ≤ l.length ∧ ∃ S Zo, MapM H' tr ⟨0, 2 * d - 1, d - 1⟩ S (Pl.puts OI (l.take s.1)) ∧ (∀ b, S b → H.size ≤ b) ∧ Acc EF Zo H' s.2 (Pl.gots OI (l.take s.1)) ∧ ∀ b, Zo b → H.size ≤ b ∧ b < H'.size ∧ ¬ S b)
    (fun s => [(6, .pointer (some ⟨tr, 0, none⟩)), (7, s.2), (14, .slice a l.length c), (15, .int .i64 (l.length : Int)), (16, .int .i64 (s.1 : Int))]) (0, .slice none 0 0) ⟨hF1, Nat.zero_le _, S0, fun _ => False, hM1, hS0, Acc.nil _ _ _, fun _ h => h.elim⟩ rfl ?_
  rintro ⟨j, sv⟩ H2 ⟨hF, hjl, S, Zo, hM, hS, hA, hZ⟩ ih
  simp only at hjl hM hA
  have hi2 := hi.fr hF
  refine Go'.seq ?_
  by_cases hlt : j < l.length
  · skip
    obtain ⟨y, hy⟩ : ∃ y, l[j]? = some y := ⟨l[j], List.getElem?_eq_getElem hlt⟩
    obtain ⟨b, o, c', e, hr⟩ := hi2.at hy
    cases e
    have hpl := Pl.puts_length OI (l.take j)
    have hlout := Pl.gots_length OI (l.take j)
    have hsrt := Pl.puts_srt OI (l.take j)
    have hSn : ∀ b, H2.size ≤ b → ¬ S b := fun b hb hs => by have := hM.lt b hs; omega
    have hsz := hF.size
    have eput : Pl.puts OI (l.take (j + 1)) = Pl.put OI y (Pl.puts OI (l.take j)) := by rw [List.take_add_one, hy]; exact Pl.puts_snoc _ _ _
    have egot : Pl.gots OI (l.take (j + 1)) = Pl.gots OI (l.take j) ++ [Pl.got OI y (Pl.puts OI (l.take j))] := by rw [List.take_add_one, hy]; exact Pl.gots_snoc _ _ _
    rw [List.length_take] at hpl hlout
    -- region 4 (map.go:37)
    refine Go'.region [(0, 0)] rfl ?_
    refine O.cmp rfl rfl rfl rfl rfl rfl (lssT (by omega)) ?_
    refine Pl.fin [(6, _), (7, _), (14, _), (15, _), (16, _), (17, _)] ⟨rfl, rfl, rfl, rfl, rfl, rfl, trivial⟩ ?_
    refine Go'.seq ?_
    refine Go'.condT rfl ?_
    refine Go'.skip ?_
    refine Go'.seq ?_
    refine Go'.block ?_
    refine Go'.seq ?_
    -- region 5 (map.go:37)
    refine Go'.region [(0, 0), (1, 1), (2, 2), (3, 2)] rfl ?_
    refine O.ix (j := j) rfl rfl rfl rfl Go.Proofs.Try.underlying22 Go.Proofs.Try.sizeOf35 rfl rfl (by omega) hlt ?_
    refine O.lds rfl rfl rfl (fun w => ⟨Go.Proofs.Try.isAgg35 w, Go.Proofs.Try.sizeOf35 w⟩) rfl rfl hr ?_
    refine O.alloc rfl rfl rfl Go.Proofs.Try.zeroValue35 ?_
    intro H3 M3
    refine ⟨trivial, ?_⟩
    have hs3 := M3.size
    replace hM := hM.fr (M3.fr nowhere) (fun _ _ _ => nw)
    replace hA := hA.fr (M3.fr nowhere) (fun _ _ _ _ => nw)
    have m7 : Wr H3 H2.size 0 2 := M3.wr 2 (by decide)
    have hlt2 : ∀ b, S b → b < H2.size := fun b hb => by
      rcases Nat.lt_or_ge b H2.size with h | h
      · exact h
      · exact absurd hb (hSn b h)
    refine O.st rfl rfl Go.Proofs.Try.sizeOf35 rfl rfl rfl rfl rfl m7 ?_
    intro H4 W4
    have hs4 := W4.size
    replace hM := hM.fr W4.fr (fun b o hb hz => by have h1 := hz.1; have h2 := hlt2 b hb; omega)
    replace hA := hA.fr W4.fr (fun b o hb hb2 hz => by have h1 := hz.1; have h2 := hZ b hb2; omega)
    have hf4 : Fr nowhere H H4 := hF.trans' ((M3.fr nowhere).trans' W4.fr (Z := nowhere) (fun _ _ _ h => h) (fun b o hb hz => by have h1 := hz.1; omega)) (fun _ _ _ h => h) (fun _ _ _ h => h)
    have k0 : cl H4 H2.size 0 = some (.int .i64 y.1) := W4.all 0 _ rfl
    have k1 : cl H4 H2.size 1 = some (.int .i64 y.2) := W4.all 1 _ rfl
    refine ⟨trivial, ?_⟩
    refine Pl.fin [(6, _), (7, _), (9, _), (14, _), (15, _), (16, _), (17, _)] ⟨rfl, rfl, rfl, rfl, rfl, rfl, rfl, trivial⟩ ?_
    refine Go'.seq ?_
    rcases hgo : Pl.got OI y (Pl.puts OI (l.take j)) with _ | z
    · skip
      have hfd : Pl.fnd OI y (Pl.puts OI (l.take j)) = false := by rw [← Pl.got_isSome, hgo]; rfl
      -- region 6 (map.go:38)
      refine Go'.region [(0, 0), (1, 0), (2, 1), (3, 0), (4, 1), (5, 2), (6, 0), (7, 0), (8, 0), (9, 0), (10, 0)] rfl ?_
      refine O.mv rfl rfl rfl rfl rfl ?_
      refine O.faz rfl rfl rfl rfl ⟨_, _, _, Go.Proofs.Try.underlying35, rfl, rfl, Go.Proofs.Try.sizeOf3⟩ rfl ?_
      refine O.ld rfl rfl rfl (fun w => ⟨Go.Proofs.Try.isAgg3 w, Go.Proofs.Try.sizeOf3 w⟩) rfl k0 ?_
      refine O.fa0 (off := 1) rfl rfl rfl rfl ⟨_, _, _, Go.Proofs.Try.underlying35, rfl, rfl, Go.Proofs.Try.sizeOf3⟩ rfl ?_
      refine O.ld rfl rfl rfl (fun w => ⟨Go.Proofs.Try.isAgg3 w, Go.Proofs.Try.sizeOf3 w⟩) rfl k1 ?_
      refine O.call rfl rfl rfl Go.Proofs.Try.call56 rfl (mset_spec hP (x := y) hM (by omega)) ?_
      rintro _ H5 ⟨rfl, S', hM', hF', hS'⟩
      rw [hgo, hfd]
      unfold PV
      have hs5 := hF'.size
      replace hA := hA.fr hF' (fun b o hb hb2 hz => (hZ b hb2).2.2 hz)
      replace k0 := hF'.keep k0 (hSn _ (Nat.le_refl _))
      refine ⟨trivial, ?_⟩
      refine O.mv rfl rfl rfl rfl rfl ?_
      refine O.ext rfl rfl rfl rfl rfl rfl ?_
      refine O.ext rfl rfl rfl rfl rfl rfl ?_
      refine O.asg rfl rfl rfl rfl rfl ?_
      refine O.asg rfl rfl rfl rfl rfl ?_
      refine Pl.fin [(6, _), (7, _), (9, _), (10, _), (11, _), (14, _), (15, _), (16, _), (17, _)] ⟨rfl, rfl, rfl, rfl, rfl, rfl, rfl, rfl, rfl, trivial⟩ ?_
      -- region 7 (map.go:39)
      refine Go'.region [(0, 0), (1, 0), (2, 1), (3, 0), (4, 0), (5, 2), (6, 2), (7, 2), (8, 0)] rfl ?_
      refine O.mv rfl rfl rfl rfl rfl ?_
      refine O.faz rfl rfl rfl rfl ⟨_, _, _, Go.Proofs.Try.underlying35, rfl, rfl, Go.Proofs.Try.sizeOf3⟩ rfl ?_
      refine O.ld rfl rfl rfl (fun w => ⟨Go.Proofs.Try.isAgg3 w, Go.Proofs.Try.sizeOf3 w⟩) rfl k0 ?_
      refine O.mv rfl rfl rfl rfl rfl ?_
      refine O.mv rfl rfl rfl rfl rfl ?_
      refine O.call rfl rfl rfl Go.Proofs.Try.call54 rfl (pair_spec (x := (y.1, (0 : Int))) (ok := false)) ?_
      rintro _ H6 ⟨rfl, hF6⟩
      have hs6 := hF6.size
      replace hM' := hM'.fr hF6 (fun _ _ _ => nw)
      replace hA := hA.fr hF6 (fun _ _ _ _ => nw)
      refine ⟨trivial, ?_⟩
      refine O.bsl (cs := (fvs none)) rfl rfl rfl ⟨Go.Proofs.Try.underlying30, Go.Proofs.Try.sizeOf37, Go.Proofs.Try.zeroValue37, ⟨_, Go.Proofs.Try.typeInfo37, rfl⟩, rfl, by decide⟩ rfl (by decide) (by kernel_rfl) ?_
      intro H7 M7
      have hs7 := M7.size
      replace hM' := hM'.fr (M7.fr nowhere) (fun _ _ _ => nw)
      replace hA := hA.fr (M7.fr nowhere) (fun _ _ _ _ => nw)
      have m5 : Rd H7 H6.size 0 (row EF [none]) := M7.rd _ [] (by simp [row, EF, fvs])
      refine ⟨trivial, ?_⟩
      refine O.appA (E := EF) (Y := [none]) rfl rfl rfl ⟨Go.Proofs.Try.underlying30, Go.Proofs.Try.sizeOf37, Go.Proofs.Try.zeroValue37, ⟨_, Go.Proofs.Try.typeInfo37, rfl⟩, rfl, by decide⟩ rfl hA rfl ⟨_, _, _, rfl, m5⟩ (Nat.succ_pos _) (by rw [hlout]; exact Nat.le_trans (Nat.mul_le_mul_left _ (Nat.le_of_ble_eq_true (n := _) (m := 4096) rfl)) (by simp only [List.length_cons, List.length_nil]; omega)) (by rw [hlout]; simp only [List.length_cons, List.length_nil]; omega) ?_
      intro v8 H8 hA8 hF8 hs8
      have hS2 : ∀ b, S' b → ¬ Zo b := fun b hb hz => (hS' b hb).elim (hZ b hz).2.2 (fun h => by have := (hZ b hz).2.1; omega)
      have hlt5 : ∀ b, S' b → b < H7.size := hM'.lt
      have hM8 := hM'.fr hF8 (fun b _ hb => hS2 b hb)
      have hg8 := hF8.size
      rw [hgo] at egot
      refine ⟨trivial, ?_⟩
      refine O.asg rfl rfl rfl rfl rfl ?_
      refine Pl.fin [(6, _), (7, _), (9, _), (10, _), (11, _), (14, _), (15, _), (16, _), (17, _)] ⟨rfl, rfl, rfl, rfl, rfl, rfl, rfl, rfl, rfl, trivial⟩ ?_
      refine Go'.inBlock ?_
      -- region 8 (map.go:37)
      refine Go'.region [(0, 0), (1, 0)] rfl ?_
      refine O.add (((j + 1 : Nat) : Int)) rfl rfl rfl rfl rfl rfl (by omega) (by omega) ?_
      refine O.mv rfl rfl rfl rfl rfl ?_
      refine Pl.fin [(6, _), (7, _), (9, _), (10, _), (11, _), (14, _), (15, _), (16, _), (17, _)] ⟨rfl, rfl, rfl, rfl, rfl, rfl, rfl, rfl, rfl, trivial⟩ ?_
      refine Go'.keep [(6, _), (7, _), (14, _), (15, _), (16, _)] ⟨rfl, rfl, rfl, rfl, rfl, trivial⟩ ?_
      refine Go'.inLoop ?_
      exact ih (j + 1, v8) H8 ⟨(((hf4.trans' hF' (fun _ _ _ h => h) (fun b o hb hz => by have h1 := hS b hz; omega)).trans hF6).trans (M7.fr nowhere)).trans' hF8 (fun _ _ _ h => h) (fun b o hb hz => by have h1 := (hZ b hz).1; omega), hlt, S', (fun b => Zo b ∨ (b = H7.size ∧ b < H8.size)), by
        simp only
        rw [eput]
        exact hM8, fun b hb => (hS' b hb).elim (hS b) (fun h => by have := hf4.size; omega), by
        simp only
        rw [egot]
        exact hA8, fun b hb => hb.elim (fun h => ⟨(hZ b h).1, by have := (hZ b h).2.1; omega, fun hs => hS2 b hs h⟩) (fun h => ⟨by omega, h.2, fun hs => by have := hlt5 b hs; omega⟩)⟩ (by simp only; omega)
    · skip
      have hfd : Pl.fnd OI y (Pl.puts OI (l.take j)) = true := by rw [← Pl.got_isSome, hgo]; rfl
      have hky := got_key hsrt hgo
      -- region 6 (map.go:38)
      refine Go'.region [(0, 0), (1, 0), (2, 1), (3, 0), (4, 1), (5, 2), (6, 0), (7, 0), (8, 0), (9, 0), (10, 0)] rfl ?_
      refine O.mv rfl rfl rfl rfl rfl ?_
      refine O.faz rfl rfl rfl rfl ⟨_, _, _, Go.Proofs.Try.underlying35, rfl, rfl, Go.Proofs.Try.sizeOf3⟩ rfl ?_
      refine O.ld rfl rfl rfl (fun w => ⟨Go.Proofs.Try.isAgg3 w, Go.Proofs.Try.sizeOf3 w⟩) rfl k0 ?_
      refine O.fa0 (off := 1) rfl rfl rfl rfl ⟨_, _, _, Go.Proofs.Try.underlying35, rfl, rfl, Go.Proofs.Try.sizeOf3⟩ rfl ?_
      refine O.ld rfl rfl rfl (fun w => ⟨Go.Proofs.Try.isAgg3 w, Go.Proofs.Try.sizeOf3 w⟩) rfl k1 ?_
      refine O.call rfl rfl rfl Go.Proofs.Try.call56 rfl (mset_spec hP (x := y) hM (by omega)) ?_
      rintro _ H5 ⟨rfl, S', hM', hF', hS'⟩
      rw [hgo, hfd]
      unfold PV
      have hs5 := hF'.size
      replace hA := hA.fr hF' (fun b o hb hb2 hz => (hZ b hb2).2.2 hz)
      replace k0 := hF'.keep k0 (hSn _ (Nat.le_refl _))
      refine ⟨trivial, ?_⟩
      refine O.mv rfl rfl rfl rfl rfl ?_
      refine O.ext rfl rfl rfl rfl rfl rfl ?_
      refine O.ext rfl rfl rfl rfl rfl rfl ?_
      refine O.asg rfl rfl rfl rfl rfl ?_
      refine O.asg rfl rfl rfl rfl rfl ?_
      refine Pl.fin [(6, _), (7, _), (9, _), (10, _), (11, _), (14, _), (15, _), (16, _), (17, _)] ⟨rfl, rfl, rfl, rfl, rfl, rfl, rfl, rfl, rfl, trivial⟩ ?_
      -- region 7 (map.go:39)
      refine Go'.region [(0, 0), (1, 0), (2, 1), (3, 0), (4, 0), (5, 2), (6, 2), (7, 2), (8, 0)] rfl ?_
      refine O.mv rfl rfl rfl rfl rfl ?_
      refine O.faz rfl rfl rfl rfl ⟨_, _, _, Go.Proofs.Try.underlying35, rfl, rfl, Go.Proofs.Try.sizeOf3⟩ rfl ?_
      refine O.ld rfl rfl rfl (fun w => ⟨Go.Proofs.Try.isAgg3 w, Go.Proofs.Try.sizeOf3 w⟩) rfl k0 ?_
      refine O.mv rfl rfl rfl rfl rfl ?_
      refine O.mv rfl rfl rfl rfl rfl ?_
      refine O.call rfl rfl rfl Go.Proofs.Try.call54 rfl (pair_spec (x := (y.1, z.2)) (ok := true)) ?_
      rintro _ H6 ⟨rfl, hF6⟩
      have hs6 := hF6.size
      replace hM' := hM'.fr hF6 (fun _ _ _ => nw)
      replace hA := hA.fr hF6 (fun _ _ _ _ => nw)
      have ez : (y.1, z.2) = z := by rw [hky]
      simp only [ok?, ez]
      refine ⟨trivial, ?_⟩
      refine O.bsl (cs := (fvs (some z))) rfl rfl rfl ⟨Go.Proofs.Try.underlying30, Go.Proofs.Try.sizeOf37, Go.Proofs.Try.zeroValue37, ⟨_, Go.Proofs.Try.typeInfo37, rfl⟩, rfl, by decide⟩ rfl (by decide) (by kernel_rfl) ?_
      intro H7 M7
      have hs7 := M7.size
      replace hM' := hM'.fr (M7.fr nowhere) (fun _ _ _ => nw)
      replace hA := hA.fr (M7.fr nowhere) (fun _ _ _ _ => nw)
      have m5 : Rd H7 H6.size 0 (row EF [some z]) := M7.rd _ [] (by simp [row, EF, fvs])
      refine ⟨trivial, ?_⟩
      refine O.appA (E := EF) (Y := [some z]) rfl rfl rfl ⟨Go.Proofs.Try.underlying30, Go.Proofs.Try.sizeOf37, Go.Proofs.Try.zeroValue37, ⟨_, Go.Proofs.Try.typeInfo37, rfl⟩, rfl, by decide⟩ rfl hA rfl ⟨_, _, _, rfl, m5⟩ (Nat.succ_pos _) (by rw [hlout]; exact Nat.le_trans (Nat.mul_le_mul_left _ (Nat.le_of_ble_eq_true (n := _) (m := 4096) rfl)) (by simp only [List.length_cons, List.length_nil]; omega)) (by rw [hlout]; simp only [List.length_cons, List.length_nil]; omega) ?_
      intro v8 H8 hA8 hF8 hs8
      have hS2 : ∀ b, S' b → ¬ Zo b := fun b hb hz => (hS' b hb).elim (hZ b hz).2.2 (fun h => by have := (hZ b hz).2.1; omega)
      have hlt5 : ∀ b, S' b → b < H7.size := hM'.lt
      have hM8 := hM'.fr hF8 (fun b _ hb => hS2 b hb)
      have hg8 := hF8.size
      rw [hgo] at egot
      refine ⟨trivial, ?_⟩
      refine O.asg rfl rfl rfl rfl rfl ?_
      refine Pl.fin [(6, _), (7, _), (9, _), (10, _), (11, _), (14, _), (15, _), (16, _), (17, _)] ⟨rfl, rfl, rfl, rfl, rfl, rfl, rfl, rfl, rfl, trivial⟩ ?_
      refine Go'.inBlock ?_
      -- region 8 (map.go:37)
      refine Go'.region [(0, 0), (1, 0)] rfl ?_
      refine O.add (((j + 1 : Nat) : Int)) rfl rfl rfl rfl rfl rfl (by omega) (by omega) ?_
      refine O.mv rfl rfl rfl rfl rfl ?_
      refine Pl.fin [(6, _), (7, _), (9, _), (10, _), (11, _), (14, _), (15, _), (16, _), (17, _)] ⟨rfl, rfl, rfl, rfl, rfl, rfl, rfl, rfl, rfl, trivial⟩ ?_
      refine Go'.keep [(6, _), (7, _), (14, _), (15, _), (16, _)] ⟨rfl, rfl, rfl, rfl, rfl, trivial⟩ ?_
      refine Go'.inLoop ?_
      exact ih (j + 1, v8) H8 ⟨(((hf4.trans' hF' (fun _ _ _ h => h) (fun b o hb hz => by have h1 := hS b hz; omega)).trans hF6).trans (M7.fr nowhere)).trans' hF8 (fun _ _ _ h => h) (fun b o hb hz => by have h1 := (hZ b hz).1; omega), hlt, S', (fun b => Zo b ∨ (b = H7.size ∧ b < H8.size)), by
        simp only
        rw [eput]
        exact hM8, fun b hb => (hS' b hb).elim (hS b) (fun h => by have := hf4.size; omega), by
        simp only
        rw [egot]
        exact hA8, fun b hb => hb.elim (fun h => ⟨(hZ b h).1, by have := (hZ b h).2.1; omega, fun hs => hS2 b hs h⟩) (fun h => ⟨by omega, h.2, fun hs => by have := hlt5 b hs; omega⟩)⟩ (by simp only; omega)
  · skip
    obtain rfl : j = l.length := by omega
    rw [List.take_length] at hM hA
    -- region 4 (map.go:37)
    refine Go'.region [(0, 0)] rfl ?_
    refine O.cmp rfl rfl rfl rfl rfl rfl (lssF (by omega)) ?_
    refine Pl.fin [(6, _), (7, _), (14, _), (15, _), (16, _), (17, _)] ⟨rfl, rfl, rfl, rfl, rfl, rfl, trivial⟩ ?_
    refine Go'.seq ?_
    refine Go'.condF rfl ?_
    refine Go'.exit rfl ?_
    refine Go'.seq ?_
    -- region 9 (map.go:41)
    refine Go'.region [(0, 0), (1, 0), (2, 2), (3, 0), (4, 0)] rfl ?_
    refine O.mv rfl rfl rfl rfl rfl ?_
    refine O.mv rfl rfl rfl rfl rfl ?_
    refine O.call rfl rfl rfl Go.Proofs.Try.call55 rfl (entries_spec hP hM (by omega)) ?_
    rintro v9 H9 ⟨hv9, hF9⟩
    refine ⟨trivial, ?_⟩
    refine O.asg rfl rfl rfl rfl rfl ?_
    refine O.asg rfl rfl rfl rfl rfl ?_
    refine Pl.fin [(4, _), (5, _)] ⟨rfl, rfl, trivial⟩ ?_
    refine Go'.ret (vs := [_, _]) Go.Proofs.Try.func25 Go.Proofs.Try.results25 ⟨rfl, rfl, trivial⟩ ?_
    exact ⟨_, _, rfl, (hA.fr hF9 (fun _ _ _ _ => nw)).out, hv9, hF.trans hF9⟩

end Go.Bt