/- Contracts of functions of the program, proved by walking through their code. Conditions: those that each theorem names. -/
import Derived.Test.YtgmmhpmchibakaaToiC
import Derived.Test.YtgmmhpmchibakaaTonN
namespace Go.Bt
open Go Go.Proofs
set_option maxRecDepth 20000
set_option maxHeartbeats 4000000
set_option linter.unusedVariables false

theorem ath_cut (l : List (Int × Int)) (z : Int) : (Pl.cut l.length z).bind (l[·]?) = ath l z := by
  unfold Pl.cut ath
  by_cases h : z < 0
  · rw [if_neg (by omega), if_pos h]; rfl
  · rw [if_neg h]
    by_cases h2 : z < (l.length : Int)
    · rw [if_pos ⟨by omega, h2⟩]; rfl
    · rw [if_neg (by omega), List.getElem?_eq_none (by omega)]; rfl
theorem atz_none {l : List (Int × Int)} {z : Int} (h : ath l z = none) : Pl.atz (Pl.cut l.length z) = -1 := by
  cases hc : Pl.cut l.length z with
  | none => rfl
  | some q =>
    have hq := Pl.cut_lt hc
    rw [← ath_cut, hc] at h
    have : l[q]? = none := h
    rw [List.getElem?_eq_none_iff] at this
    omega
theorem atz_some {l : List (Int × Int)} {z : Int} {y : Int × Int} (h : ath l z = some y) : Pl.atz (Pl.cut l.length z) = z := by
  cases hc : Pl.cut l.length z with
  | none => rw [← ath_cut, hc] at h; cases h
  | some q =>
    unfold Pl.cut at hc
    split at hc
    · cases hc
      show ((z.toNat : Nat) : Int) = z
      omega
    · cases hc

theorem giter_spec {B : World} {H : Mem} {v u um : Value} {ord : List Int} {l : List (Int × Int)} {ms : List (Int × Int × Int)} (ho : InS EN H v ord) (hl : ord.length < 4611686018427387904) (hi : InS EJ H u l) (hs : Pl.Srt (OO ord) l) (hll : l.length ≤ 4294967296) (hu : InS EMv H um ms) (hml : ms.length ≤ 4294967296) :
    Fn Try.prog B 66 [v, u, um] H (fun r H' => ∃ v1 v2, r = .tuple #[v1, v2] ∧ OutS EF H' v1 (Pl.itRun (OO ord) l ms).2.1 ∧ OutS EB H' v2 (Pl.itRun (OO ord) l ms).2.2 ∧ Fr nowhere H H') := by
  obtain ⟨a, c, hue⟩ := hi.len
  subst hue
  obtain ⟨am, cm, hue⟩ := hu.len
  subst hue
  refine fn_of Go.Proofs.Try.func66 rfl Go.Proofs.Try.ntmps66 ?_
  refine (show Go' _ _ _ _ 79 [(0, _), (1, _), (2, _)] [.code _] _ from ?_)
  refine Go'.seq ?_
  -- region 0 (list.go:144)
  refine Go'.region [(0, 0), (1, 0)] rfl ?_
  refine O.asg rfl rfl rfl rfl rfl ?_
  refine O.asg rfl rfl rfl rfl rfl ?_
  refine Pl.fin [(0, _), (1, _), (2, _), (6, _), (7, _)] ⟨rfl, rfl, rfl, rfl, rfl, trivial⟩ ?_
  refine Go'.seq ?_
  -- region 1 (list.go:145)
  refine Go'.region [(0, 0)] rfl ?_
  refine O.asg rfl rfl rfl rfl rfl ?_
  refine Pl.fin [(0, _), (1, _), (2, _), (6, _), (7, _), (8, _)] ⟨rfl, rfl, rfl, rfl, rfl, rfl, trivial⟩ ?_
  refine Go'.seq ?_
  -- region 2 (list.go:146)
  refine Go'.region [(0, 0)] rfl ?_
  refine O.asg rfl rfl rfl rfl rfl ?_
  refine Pl.fin [(0, _), (1, _), (2, _), (6, _), (7, _), (8, _), (9, _)] ⟨rfl, rfl, rfl, rfl, rfl, rfl, rfl, trivial⟩ ?_
  refine Go'.seq ?_
  -- region 3 (list.go:147)
  refine Go'.region [(0, 0)] rfl ?_
  refine O.asg rfl rfl rfl rfl rfl ?_
  refine Pl.fin [(0, _), (1, _), (2, _), (6, _), (7, _), (8, _), (9, _), (10, _)] ⟨rfl, rfl, rfl, rfl, rfl, rfl, rfl, rfl, trivial⟩ ?_
  refine Go'.seq ?_
  refine Go'.seq ?_
  -- region 4 (list.go:148)
  refine Go'.region [(0, 0), (1, 0), (2, 0)] rfl ?_
  refine O.mv rfl rfl rfl rfl rfl ?_
  refine O.len rfl rfl rfl rfl Go.Proofs.Try.underlying47 rfl ?_
  refine O.mv rfl rfl rfl rfl rfl ?_
  refine Pl.fin [(0, _), (1, _), (6, _), (7, _), (8, _), (9, _), (10, _), (15, _), (16, _), (17, _)] ⟨rfl, rfl, rfl, rfl, rfl, rfl, rfl, rfl, rfl, rfl, trivial⟩ ?_
  refine Go'.block ?_
  refine Go'.loop ?_
  refine Go'.keep [(0, _), (1, _), (8, _), (9, _), (10, _), (15, _), (16, _), (17, _)] ⟨rfl, rfl, rfl, rfl, rfl, rfl, rfl, rfl, trivial⟩ ?_
  refine Go'.ind (σ := Nat × Value × Value) (fun s => ms.length - s.1) (fun s H' => Fr nowhere H H' ∧ s.1 ≤ ms.length ∧ ∃ Zo Zt, Acc EF Zo H' s.2.1 (Pl.itRun (OO ord) l (ms.take s.1)).2.1 ∧ Acc EB Zt H' s.2.2 (Pl.itRun (OO ord) l (ms.take s.1)).2.2 ∧ (∀ b, Zo b → H.size ≤ b ∧ b < H'.size ∧ ¬ Zt b) ∧ ∀ b, Zt b → H.size ≤ b ∧ b < H'.size)
    (fun s => [(0, v), (1, .slice a l.length c), (8, s.2.1), (9, s.2.2), (10, .int .i64 (Pl.atz (Pl.itRun (OO ord) l (ms.take s.1)).1)), (15, .slice am ms.length cm), (16, .int .i64 (ms.length : Int)), (17, .int .i64 (s.1 : Int))]) (0, .slice none 0 0, .slice none 0 0)
    ⟨Fr.refl _ _, Nat.zero_le _, fun _ => False, fun _ => False, Acc.nil _ _ _, Acc.nil _ _ _, fun _ h => h.elim, fun _ h => h.elim⟩ rfl ?_
  rintro ⟨j, sv, tv⟩ H2 ⟨hF, hjl, Zo, Zt, hA, hB, hZo, hZt⟩ ih
  simp only at hjl hA hB
  have ho2 := ho.fr hF
  have hi2 := hi.fr hF
  refine Go'.seq ?_
  by_cases hlt : j < ms.length
  · skip
    obtain ⟨y, hy⟩ : ∃ y, ms[j]? = some y := ⟨ms[j], List.getElem?_eq_getElem hlt⟩
    obtain ⟨b, o, c', e, hr⟩ := (hu.fr hF).at hy
    cases e
    have hsz0 := hF.size
    have erun : Pl.itRun (OO ord) l (ms.take (j + 1)) = Pl.itStep (OO ord) l (Pl.itRun (OO ord) l (ms.take j)) y := by rw [List.take_add_one, hy]; exact Pl.itRun_snoc _ _ _ _
    have hlA : (Pl.itRun (OO ord) l (ms.take j)).2.1.length = j := by rw [(Pl.itRun_len (OO ord) l (ms.take j)).1, List.length_take]; omega
    have hlB : (Pl.itRun (OO ord) l (ms.take j)).2.2.length = j := by rw [(Pl.itRun_len (OO ord) l (ms.take j)).2, List.length_take]; omega
    -- region 5 (list.go:148)
    refine Go'.region [(0, 0)] rfl ?_
    refine O.cmp rfl rfl rfl rfl rfl rfl (lssT (by omega)) ?_
    refine Pl.fin [(0, _), (1, _), (8, _), (9, _), (10, _), (15, _), (16, _), (17, _), (18, _)] ⟨rfl, rfl, rfl, rfl, rfl, rfl, rfl, rfl, rfl, trivial⟩ ?_
    refine Go'.seq ?_
    refine Go'.condT rfl ?_
    refine Go'.skip ?_
    refine Go'.seq ?_
    refine Go'.block ?_
    refine Go'.seq ?_
    -- region 6 (list.go:148)
    refine Go'.region [(0, 0), (1, 1), (2, 2), (3, 2)] rfl ?_
    refine O.ix (j := j) rfl rfl rfl rfl Go.Proofs.Try.underlying47 Go.Proofs.Try.sizeOf82 rfl rfl (by omega) hlt ?_
    refine O.lds rfl rfl rfl (fun w => ⟨Go.Proofs.Try.isAgg82 w, Go.Proofs.Try.sizeOf82 w⟩) rfl rfl hr ?_
    refine O.alloc rfl rfl rfl Go.Proofs.Try.zeroValue82 ?_
    intro H3 M3
    refine ⟨trivial, ?_⟩
    have hs3 := M3.size
    have m7 : Wr H3 H2.size 0 3 := M3.wr 3 (by decide)
    refine O.st rfl rfl Go.Proofs.Try.sizeOf82 rfl rfl rfl rfl rfl m7 ?_
    intro H4 W4
    have hs4 := W4.size
    have hf4 : Fr nowhere H2 H4 := (M3.fr nowhere).trans' W4.fr (fun _ _ _ h => h) (fun b o hb hz => by have h1 := hz.1; omega)
    replace ho2 := ho2.fr hf4
    replace hi2 := hi2.fr hf4
    replace hA := hA.fr hf4 (fun _ _ _ _ => nw)
    replace hB := hB.fr hf4 (fun _ _ _ _ => nw)
    have k0 : cl H4 H2.size 0 = some (.int .i64 y.1) := W4.all 0 _ rfl
    have k2 : Rd H4 H2.size 1 (EJ.enc y.2) := fun i v hv => by
      have h := W4.all (1 + i) v (by rw [← hv, Nat.add_comm]; rfl)
      rwa [Nat.zero_add] at h
    clear hr m7 M3
    refine ⟨trivial, ?_⟩
    refine Pl.fin [(0, _), (1, _), (8, _), (9, _), (10, _), (12, _), (15, _), (16, _), (17, _), (18, _)] ⟨rfl, rfl, rfl, rfl, rfl, rfl, rfl, rfl, rfl, rfl, trivial⟩ ?_
    refine Go'.seq ?_
    -- region 7 (list.go:149)
    refine Go'.region [(0, 0)] rfl ?_
    refine O.asg rfl rfl rfl rfl rfl ?_
    refine Pl.fin [(0, _), (1, _), (8, _), (9, _), (10, _), (12, _), (13, _), (15, _), (16, _), (17, _), (18, _)] ⟨rfl, rfl, rfl, rfl, rfl, rfl, rfl, rfl, rfl, rfl, rfl, trivial⟩ ?_
    refine Go'.seq ?_
    refine Go'.seq ?_
    -- region 8 (list.go:150)
    refine Go'.region [(0, 0), (1, 1)] rfl ?_
    refine O.faz rfl rfl rfl rfl ⟨_, _, _, Go.Proofs.Try.underlying82, rfl, rfl, Go.Proofs.Try.sizeOf3⟩ rfl ?_
    refine O.ld rfl rfl rfl (fun w => ⟨Go.Proofs.Try.isAgg3 w, Go.Proofs.Try.sizeOf3 w⟩) rfl k0 ?_
    refine Pl.fin [(0, _), (1, _), (8, _), (9, _), (10, _), (12, _), (13, _), (15, _), (16, _), (17, _), (18, _), (22, _)] ⟨rfl, rfl, rfl, rfl, rfl, rfl, rfl, rfl, rfl, rfl, rfl, rfl, trivial⟩ ?_
    refine Go'.block ?_
    refine Go'.seq ?_
    refine Go'.seq ?_
    refine Go'.cut4 (σ := Int × Bool) (fun s H' => Fr nowhere H4 H' ∧ s.1 = Pl.mvTo (OO ord) l y (Pl.itRun (OO ord) l (ms.take j)).1 ∧ s.2 = Pl.mvTold l y (Pl.itRun (OO ord) l (ms.take j)).1) (fun s => [(0, v), (1, .slice a l.length c), (8, sv), (9, tv), (10, .int .i64 s.1), (13, .bool s.2), (15, .slice (some ⟨b, o, none⟩) ms.length cm), (16, .int .i64 (ms.length : Int)), (17, .int .i64 (j : Int))]) ?_ ?_
    · rintro ⟨z, k⟩ H5 ⟨hf5, ez, ek⟩
      simp only at ez ek
      replace hi2 := hi2.fr hf5
      replace hA := hA.fr hf5 (fun _ _ _ _ => nw)
      replace hB := hB.fr hf5 (fun _ _ _ _ => nw)
      replace hf5 := hf4.trans hf5
      have hs5 := hf5.size
      have e1 : (Pl.itRun (OO ord) l (ms.take (j + 1))).1 = Pl.cut l.length z := by rw [erun, ez]; rfl
      have e2 : (Pl.itRun (OO ord) l (ms.take (j + 1))).2.1 = (Pl.itRun (OO ord) l (ms.take j)).2.1 ++ [ath l z] := by rw [erun, ← ath_cut, ez]; rfl
      have e3 : (Pl.itRun (OO ord) l (ms.take (j + 1))).2.2 = (Pl.itRun (OO ord) l (ms.take j)).2.2 ++ [k] := by rw [erun, ek]; rfl
      refine Go'.seq ?_
      cases hath : ath l z
      · skip
        -- region 22 (list.go:165)
        refine Go'.region [(0, 0), (1, 0), (2, 2), (3, 2), (4, 2)] rfl ?_
        refine O.mv rfl rfl rfl rfl rfl ?_
        refine O.mv rfl rfl rfl rfl rfl ?_
        refine O.call rfl rfl rfl Go.Proofs.Try.call77 rfl (at_spec z hi2 hll) ?_
        rintro _ H6 ⟨rfl, hF6⟩
        rw [hath]
        unfold FV
        have hs6 := hF6.size
        replace hA := hA.fr hF6 (fun _ _ _ _ => nw)
        replace hB := hB.fr hF6 (fun _ _ _ _ => nw)
        refine ⟨trivial, ?_⟩
        refine O.alloc rfl rfl rfl Go.Proofs.Try.zeroValue37 ?_
        intro H7 M7
        refine ⟨trivial, ?_⟩
        have hs7 := M7.size
        have m14 : Wr H7 H6.size 0 3 := M7.wr 3 (by decide)
        replace hA := hA.fr (M7.fr nowhere) (fun _ _ _ _ => nw)
        replace hB := hB.fr (M7.fr nowhere) (fun _ _ _ _ => nw)
        refine O.st (vs := (fvs none)) rfl rfl Go.Proofs.Try.sizeOf37 rfl rfl rfl rfl rfl m14 ?_
        intro H8 W8
        have hs8 := W8.size
        have f8 : Rd H8 H6.size 0 (fvs none) := W8.all
        have hf8 : Fr nowhere H2 H8 := ((hf5.trans hF6).trans (M7.fr nowhere)).trans' W8.fr (fun _ _ _ h => h) (fun b o hb hz => by have h1 := hz.1; omega)
        replace hA := hA.fr W8.fr (fun b o _ hz hx => by have h1 := hx.1; have h2 := hZo b hz; omega)
        replace hB := hB.fr W8.fr (fun b o _ hz hx => by have h1 := hx.1; have h2 := hZt b hz; omega)
        refine ⟨trivial, ?_⟩
        refine Pl.fin [(0, _), (1, _), (8, _), (9, _), (10, _), (13, _), (14, _), (15, _), (16, _), (17, _)] ⟨rfl, rfl, rfl, rfl, rfl, rfl, rfl, rfl, rfl, rfl, trivial⟩ ?_
        refine Go'.seq ?_
        refine Go'.seq ?_
        -- region 23 (list.go:166)
        refine Go'.region [(0, 0), (1, 1), (2, 0)] rfl ?_
        refine O.fa0 (off := 2) rfl rfl rfl rfl ⟨_, _, _, Go.Proofs.Try.underlying37, rfl, rfl, Go.Proofs.Try.sizeOf4⟩ rfl ?_
        refine O.ld rfl rfl rfl (fun w => ⟨Go.Proofs.Try.isAgg4 w, Go.Proofs.Try.sizeOf4 w⟩) rfl (f8 2 _ rfl) ?_
        refine O.not rfl rfl rfl rfl rfl ?_
        refine Pl.fin [(0, _), (1, _), (8, _), (9, _), (10, _), (13, _), (14, _), (15, _), (16, _), (17, _), (67, _)] ⟨rfl, rfl, rfl, rfl, rfl, rfl, rfl, rfl, rfl, rfl, rfl, trivial⟩ ?_
        refine Go'.condT rfl ?_
        -- region 24 (list.go:167)
        refine Go'.region [(0, 0)] rfl ?_
        refine O.asg rfl rfl rfl rfl rfl ?_
        refine Pl.fin [(0, _), (1, _), (8, _), (9, _), (10, _), (13, _), (14, _), (15, _), (16, _), (17, _), (67, _)] ⟨rfl, rfl, rfl, rfl, rfl, rfl, rfl, rfl, rfl, rfl, rfl, trivial⟩ ?_
        -- region 25 (list.go:169)
        refine Go'.region [(0, 0), (1, 1), (2, 2), (3, 2), (4, 0), (5, 0), (6, 2), (7, 2), (8, 0), (9, 0)] rfl ?_
        refine O.mv rfl rfl rfl rfl rfl ?_
        refine O.lds rfl rfl rfl (fun w => ⟨Go.Proofs.Try.isAgg37 w, Go.Proofs.Try.sizeOf37 w⟩) rfl rfl f8 ?_
        refine O.bsl (cs := (fvs none)) rfl rfl rfl ⟨Go.Proofs.Try.underlying30, Go.Proofs.Try.sizeOf37, Go.Proofs.Try.zeroValue37, ⟨_, Go.Proofs.Try.typeInfo37, rfl⟩, rfl, by decide, by decide⟩ rfl (by decide) (by kernel_rfl) ?_
        intro H9 M9
        have hs9 := M9.size
        replace hA := hA.fr (M9.fr nowhere) (fun _ _ _ _ => nw)
        replace hB := hB.fr (M9.fr nowhere) (fun _ _ _ _ => nw)
        have m5 : Rd H9 H8.size 0 (row EF [none]) := M9.rd _ [] (by simp [row, EF, fvs])
        refine ⟨trivial, ?_⟩
        refine O.appA (E := EF) (Y := [none]) rfl rfl rfl ⟨Go.Proofs.Try.underlying30, Go.Proofs.Try.sizeOf37, Go.Proofs.Try.zeroValue37, ⟨_, Go.Proofs.Try.typeInfo37, rfl⟩, rfl, by decide, by decide⟩ rfl hA rfl ⟨_, _, _, rfl, m5⟩ (Nat.succ_pos _) (Nat.le_trans (Nat.mul_le_mul_left _ (Nat.le_of_ble_eq_true (n := _) (m := 4096) rfl)) (by rw [hlA]; simp only [List.length_cons, List.length_nil]; omega)) (by rw [hlA]; simp only [List.length_cons, List.length_nil]; omega) ?_
        intro v10 H10 hA10 hF10 hs10
        have hg10 := hF10.size
        replace hB := hB.fr hF10 (fun b o _ hz hx => (hZo b hx).2.2 hz)
        refine ⟨trivial, ?_⟩
        refine O.mv rfl rfl rfl rfl rfl ?_
        refine O.mv rfl rfl rfl rfl rfl ?_
        refine O.bsl (cs := [.bool k]) rfl rfl rfl ⟨Go.Proofs.Try.underlying53, Go.Proofs.Try.sizeOf4, Go.Proofs.Try.zeroValue4, ⟨_, Go.Proofs.Try.typeInfo4, rfl⟩, rfl, by decide, by decide⟩ rfl (by decide) (by kernel_rfl) ?_
        intro H11 M11
        have hs11 := M11.size
        have hA11 := hA10.fr (M11.fr nowhere) (fun _ _ _ _ => nw)
        replace hB := hB.fr (M11.fr nowhere) (fun _ _ _ _ => nw)
        have m6 : Rd H11 H10.size 0 (row EB [k]) := M11.rd _ [] (by simp [row, EB])
        refine ⟨trivial, ?_⟩
        refine O.appA (E := EB) (Y := [k]) rfl rfl rfl ⟨Go.Proofs.Try.underlying53, Go.Proofs.Try.sizeOf4, Go.Proofs.Try.zeroValue4, ⟨_, Go.Proofs.Try.typeInfo4, rfl⟩, rfl, by decide, by decide⟩ rfl hB rfl ⟨_, _, _, rfl, m6⟩ (Nat.succ_pos _) (Nat.le_trans (Nat.mul_le_mul_left _ (Nat.le_of_ble_eq_true (n := _) (m := 4096) rfl)) (by rw [hlB]; simp only [List.length_cons, List.length_nil]; omega)) (by rw [hlB]; simp only [List.length_cons, List.length_nil]; omega) ?_
        intro v12 H12 hB12 hF12 hs12
        have hg12 := hF12.size
        have hA12 := hA11.fr hF12 (fun b o _ hz hx => by
          have h2 := hZt b hx
          rcases hz with hz | hz
          · exact (hZo b hz).2.2 hx
          · omega)
        rw [hath] at e2
        refine ⟨trivial, ?_⟩
        refine O.asg rfl rfl rfl rfl rfl ?_
        refine O.asg rfl rfl rfl rfl rfl ?_
        refine Pl.fin [(0, _), (1, _), (8, _), (9, _), (10, _), (13, _), (14, _), (15, _), (16, _), (17, _), (67, _)] ⟨rfl, rfl, rfl, rfl, rfl, rfl, rfl, rfl, rfl, rfl, rfl, trivial⟩ ?_
        refine Go'.inBlock ?_
        -- region 26 (list.go:148)
        refine Go'.region [(0, 0), (1, 0)] rfl ?_
        refine O.add (((j + 1 : Nat) : Int)) rfl rfl rfl rfl rfl rfl (by omega) (by omega) ?_
        refine O.mv rfl rfl rfl rfl rfl ?_
        refine Pl.fin [(0, _), (1, _), (8, _), (9, _), (10, _), (13, _), (14, _), (15, _), (16, _), (17, _), (67, _)] ⟨rfl, rfl, rfl, rfl, rfl, rfl, rfl, rfl, rfl, rfl, rfl, trivial⟩ ?_
        refine Go'.keep [(0, _), (1, _), (8, _), (9, _), (10, _), (15, _), (16, _), (17, _)] ⟨rfl, rfl, rfl, rfl, rfl, rfl, rfl, rfl, trivial⟩ ?_
        refine Go'.inLoop ?_
        have hn := ih (j + 1, v10, v12) H12 ⟨((((hF.trans hf8).trans (M9.fr nowhere)).trans' hF10 (fun _ _ _ h => h) (fun b o hb hz => by have := (hZo b hz).1; omega)).trans (M11.fr nowhere)).trans' hF12 (fun _ _ _ h => h) (fun b o hb hz => by have := (hZt b hz).1; omega), hlt, (fun b => Zo b ∨ (b = H9.size ∧ b < H10.size)), (fun b => Zt b ∨ (b = H11.size ∧ b < H12.size)), by
          simp only
          rw [e2]
          exact hA12, by
          simp only
          rw [e3]
          exact hB12, fun b hb => hb.elim (fun h => ⟨(hZo b h).1, by have := (hZo b h).2.1; omega, fun hx => hx.elim (hZo b h).2.2 (fun h2 => by have := (hZo b h).2.1; omega)⟩) (fun h => ⟨by omega, by omega, fun hx => hx.elim (fun h2 => by have := (hZt b h2).2; omega) (fun h2 => by omega)⟩), fun b hb => hb.elim (fun h => ⟨(hZt b h).1, by have := (hZt b h).2; omega⟩) (fun h => ⟨by omega, h.2⟩)⟩ (by simp only; omega)
        simp only [e1, atz_none hath] at hn
        exact hn
      · rename_i y2
        -- region 22 (list.go:165)
        refine Go'.region [(0, 0), (1, 0), (2, 2), (3, 2), (4, 2)] rfl ?_
        refine O.mv rfl rfl rfl rfl rfl ?_
        refine O.mv rfl rfl rfl rfl rfl ?_
        refine O.call rfl rfl rfl Go.Proofs.Try.call77 rfl (at_spec z hi2 hll) ?_
        rintro _ H6 ⟨rfl, hF6⟩
        rw [hath]
        unfold FV
        have hs6 := hF6.size
        replace hA := hA.fr hF6 (fun _ _ _ _ => nw)
        replace hB := hB.fr hF6 (fun _ _ _ _ => nw)
        refine ⟨trivial, ?_⟩
        refine O.alloc rfl rfl rfl Go.Proofs.Try.zeroValue37 ?_
        intro H7 M7
        refine ⟨trivial, ?_⟩
        have hs7 := M7.size
        have m14 : Wr H7 H6.size 0 3 := M7.wr 3 (by decide)
        replace hA := hA.fr (M7.fr nowhere) (fun _ _ _ _ => nw)
        replace hB := hB.fr (M7.fr nowhere) (fun _ _ _ _ => nw)
        refine O.st (vs := (fvs (some y2))) rfl rfl Go.Proofs.Try.sizeOf37 rfl rfl rfl rfl rfl m14 ?_
        intro H8 W8
        have hs8 := W8.size
        have f8 : Rd H8 H6.size 0 (fvs (some y2)) := W8.all
        have hf8 : Fr nowhere H2 H8 := ((hf5.trans hF6).trans (M7.fr nowhere)).trans' W8.fr (fun _ _ _ h => h) (fun b o hb hz => by have h1 := hz.1; omega)
        replace hA := hA.fr W8.fr (fun b o _ hz hx => by have h1 := hx.1; have h2 := hZo b hz; omega)
        replace hB := hB.fr W8.fr (fun b o _ hz hx => by have h1 := hx.1; have h2 := hZt b hz; omega)
        refine ⟨trivial, ?_⟩
        refine Pl.fin [(0, _), (1, _), (8, _), (9, _), (10, _), (13, _), (14, _), (15, _), (16, _), (17, _)] ⟨rfl, rfl, rfl, rfl, rfl, rfl, rfl, rfl, rfl, rfl, trivial⟩ ?_
        refine Go'.seq ?_
        refine Go'.seq ?_
        -- region 23 (list.go:166)
        refine Go'.region [(0, 0), (1, 1), (2, 0)] rfl ?_
        refine O.fa0 (off := 2) rfl rfl rfl rfl ⟨_, _, _, Go.Proofs.Try.underlying37, rfl, rfl, Go.Proofs.Try.sizeOf4⟩ rfl ?_
        refine O.ld rfl rfl rfl (fun w => ⟨Go.Proofs.Try.isAgg4 w, Go.Proofs.Try.sizeOf4 w⟩) rfl (f8 2 _ rfl) ?_
        refine O.not rfl rfl rfl rfl rfl ?_
        refine Pl.fin [(0, _), (1, _), (8, _), (9, _), (10, _), (13, _), (14, _), (15, _), (16, _), (17, _), (67, _)] ⟨rfl, rfl, rfl, rfl, rfl, rfl, rfl, rfl, rfl, rfl, rfl, trivial⟩ ?_
        refine Go'.condF rfl ?_
        refine Go'.skip ?_
        -- region 25 (list.go:169)
        refine Go'.region [(0, 0), (1, 1), (2, 2), (3, 2), (4, 0), (5, 0), (6, 2), (7, 2), (8, 0), (9, 0)] rfl ?_
        refine O.mv rfl rfl rfl rfl rfl ?_
        refine O.lds rfl rfl rfl (fun w => ⟨Go.Proofs.Try.isAgg37 w, Go.Proofs.Try.sizeOf37 w⟩) rfl rfl f8 ?_
        refine O.bsl (cs := (fvs (some y2))) rfl rfl rfl ⟨Go.Proofs.Try.underlying30, Go.Proofs.Try.sizeOf37, Go.Proofs.Try.zeroValue37, ⟨_, Go.Proofs.Try.typeInfo37, rfl⟩, rfl, by decide, by decide⟩ rfl (by decide) (by kernel_rfl) ?_
        intro H9 M9
        have hs9 := M9.size
        replace hA := hA.fr (M9.fr nowhere) (fun _ _ _ _ => nw)
        replace hB := hB.fr (M9.fr nowhere) (fun _ _ _ _ => nw)
        have m5 : Rd H9 H8.size 0 (row EF [(some y2)]) := M9.rd _ [] (by simp [row, EF, fvs])
        refine ⟨trivial, ?_⟩
        refine O.appA (E := EF) (Y := [(some y2)]) rfl rfl rfl ⟨Go.Proofs.Try.underlying30, Go.Proofs.Try.sizeOf37, Go.Proofs.Try.zeroValue37, ⟨_, Go.Proofs.Try.typeInfo37, rfl⟩, rfl, by decide, by decide⟩ rfl hA rfl ⟨_, _, _, rfl, m5⟩ (Nat.succ_pos _) (Nat.le_trans (Nat.mul_le_mul_left _ (Nat.le_of_ble_eq_true (n := _) (m := 4096) rfl)) (by rw [hlA]; simp only [List.length_cons, List.length_nil]; omega)) (by rw [hlA]; simp only [List.length_cons, List.length_nil]; omega) ?_
        intro v10 H10 hA10 hF10 hs10
        have hg10 := hF10.size
        replace hB := hB.fr hF10 (fun b o _ hz hx => (hZo b hx).2.2 hz)
        refine ⟨trivial, ?_⟩
        refine O.mv rfl rfl rfl rfl rfl ?_
        refine O.mv rfl rfl rfl rfl rfl ?_
        refine O.bsl (cs := [.bool k]) rfl rfl rfl ⟨Go.Proofs.Try.underlying53, Go.Proofs.Try.sizeOf4, Go.Proofs.Try.zeroValue4, ⟨_, Go.Proofs.Try.typeInfo4, rfl⟩, rfl, by decide, by decide⟩ rfl (by decide) (by kernel_rfl) ?_
        intro H11 M11
        have hs11 := M11.size
        have hA11 := hA10.fr (M11.fr nowhere) (fun _ _ _ _ => nw)
        replace hB := hB.fr (M11.fr nowhere) (fun _ _ _ _ => nw)
        have m6 : Rd H11 H10.size 0 (row EB [k]) := M11.rd _ [] (by simp [row, EB])
        refine ⟨trivial, ?_⟩
        refine O.appA (E := EB) (Y := [k]) rfl rfl rfl ⟨Go.Proofs.Try.underlying53, Go.Proofs.Try.sizeOf4, Go.Proofs.Try.zeroValue4, ⟨_, Go.Proofs.Try.typeInfo4, rfl⟩, rfl, by decide, by decide⟩ rfl hB rfl ⟨_, _, _, rfl, m6⟩ (Nat.succ_pos _) (Nat.le_trans (Nat.mul_le_mul_left _ (Nat.le_of_ble_eq_true (n := _) (m := 4096) rfl)) (by rw [hlB]; simp only [List.length_cons, List.length_nil]; omega)) (by rw [hlB]; simp only [List.length_cons, List.length_nil]; omega) ?_
        intro v12 H12 hB12 hF12 hs12
        have hg12 := hF12.size
        have hA12 := hA11.fr hF12 (fun b o _ hz hx => by
          have h2 := hZt b hx
          rcases hz with hz | hz
          · exact (hZo b hz).2.2 hx
          · omega)
        rw [hath] at e2
        refine ⟨trivial, ?_⟩
        refine O.asg rfl rfl rfl rfl rfl ?_
        refine O.asg rfl rfl rfl rfl rfl ?_
        refine Pl.fin [(0, _), (1, _), (8, _), (9, _), (10, _), (13, _), (14, _), (15, _), (16, _), (17, _), (67, _)] ⟨rfl, rfl, rfl, rfl, rfl, rfl, rfl, rfl, rfl, rfl, rfl, trivial⟩ ?_
        refine Go'.inBlock ?_
        -- region 26 (list.go:148)
        refine Go'.region [(0, 0), (1, 0)] rfl ?_
        refine O.add (((j + 1 : Nat) : Int)) rfl rfl rfl rfl rfl rfl (by omega) (by omega) ?_
        refine O.mv rfl rfl rfl rfl rfl ?_
        refine Pl.fin [(0, _), (1, _), (8, _), (9, _), (10, _), (13, _), (14, _), (15, _), (16, _), (17, _), (67, _)] ⟨rfl, rfl, rfl, rfl, rfl, rfl, rfl, rfl, rfl, rfl, rfl, trivial⟩ ?_
        refine Go'.keep [(0, _), (1, _), (8, _), (9, _), (10, _), (15, _), (16, _), (17, _)] ⟨rfl, rfl, rfl, rfl, rfl, rfl, rfl, rfl, trivial⟩ ?_
        refine Go'.inLoop ?_
        have hn := ih (j + 1, v10, v12) H12 ⟨((((hF.trans hf8).trans (M9.fr nowhere)).trans' hF10 (fun _ _ _ h => h) (fun b o hb hz => by have := (hZo b hz).1; omega)).trans (M11.fr nowhere)).trans' hF12 (fun _ _ _ h => h) (fun b o hb hz => by have := (hZt b hz).1; omega), hlt, (fun b => Zo b ∨ (b = H9.size ∧ b < H10.size)), (fun b => Zt b ∨ (b = H11.size ∧ b < H12.size)), by
          simp only
          rw [e2]
          exact hA12, by
          simp only
          rw [e3]
          exact hB12, fun b hb => hb.elim (fun h => ⟨(hZo b h).1, by have := (hZo b h).2.1; omega, fun hx => hx.elim (hZo b h).2.2 (fun h2 => by have := (hZo b h).2.1; omega)⟩) (fun h => ⟨by omega, by omega, fun hx => hx.elim (fun h2 => by have := (hZt b h2).2; omega) (fun h2 => by omega)⟩), fun b hb => hb.elim (fun h => ⟨(hZt b h).1, by have := (hZt b h).2; omega⟩) (fun h => ⟨by omega, h.2⟩)⟩ (by simp only; omega)
        simp only [e1, atz_some hath] at hn
        exact hn
    · intro tail
      have hqlt : ∀ q, (Pl.itRun (OO ord) l (ms.take j)).1 = some q → q < l.length := fun q h => Pl.itRun_lt (OO ord) l _ h
      generalize (Pl.itRun (OO ord) l (ms.take j)).1 = s0 at *
      by_cases h2 : y.1 = 2
      · skip
        -- region 10 (list.go:151)
        refine Go'.region [(0, 0), (1, 0)] rfl ?_
        refine O.cmp rfl rfl rfl rfl rfl rfl (eqlT (by omega)) ?_
        refine O.asg rfl rfl rfl rfl rfl ?_
        refine Pl.fin [(0, _), (1, _), (8, _), (9, _), (10, _), (12, _), (13, _), (15, _), (16, _), (17, _), (18, _), (22, _), (23, _)] ⟨rfl, rfl, rfl, rfl, rfl, rfl, rfl, rfl, rfl, rfl, rfl, rfl, rfl, trivial⟩ ?_
        refine Go'.condT rfl ?_
        refine Go'.skip ?_
        refine Go'.condT rfl ?_
        refine Go'.seq ?_
        rcases s0 with _ | q
        · skip
          by_cases hl0 : l.length = 0
          · skip
            -- region 12 (list.go:152)
            refine Go'.region [(0, 0), (1, 0), (2, 0), (3, 0), (4, 0), (5, 0), (6, 0), (7, 0)] rfl ?_
            refine O.mv rfl rfl rfl rfl rfl ?_
            refine O.cmp rfl rfl rfl rfl rfl rfl (geqF (by decide)) ?_
            refine O.mv rfl rfl rfl rfl rfl ?_
            refine O.mv rfl rfl rfl rfl rfl ?_
            refine O.len rfl rfl rfl rfl Go.Proofs.Try.underlying22 rfl ?_
            refine O.cmp rfl rfl rfl rfl rfl rfl (eqlT (by omega)) ?_
            refine O.pick rfl rfl rfl rfl rfl rfl ?_
            refine O.asg rfl rfl rfl rfl rfl ?_
            refine Pl.fin [(0, _), (1, _), (8, _), (9, _), (10, _), (12, _), (13, _), (15, _), (16, _), (17, _), (18, _), (22, _), (23, _)] ⟨rfl, rfl, rfl, rfl, rfl, rfl, rfl, rfl, rfl, rfl, rfl, rfl, rfl, trivial⟩ ?_
            refine Go'.seq ?_
            -- region 13 (list.go:153)
            refine Go'.region [(0, 0), (1, 0), (2, 0), (3, 0), (4, 1), (5, 0), (6, 0)] rfl ?_
            refine O.mv rfl rfl rfl rfl rfl ?_
            refine O.cmp rfl rfl rfl rfl rfl rfl (geqF (by decide)) ?_
            refine O.mv rfl rfl rfl rfl rfl ?_
            refine Pl.pass rfl rfl rfl rfl ?_
            refine Pl.pass rfl rfl rfl rfl ?_
            refine Pl.pass rfl rfl rfl rfl ?_
            refine O.pick rfl rfl rfl rfl rfl rfl ?_
            refine Pl.fin [(0, _), (1, _), (8, _), (9, _), (10, _), (12, _), (13, _), (15, _), (16, _), (17, _), (18, _), (22, _), (23, _), (39, _)] ⟨rfl, rfl, rfl, rfl, rfl, rfl, rfl, rfl, rfl, rfl, rfl, rfl, rfl, rfl, trivial⟩ ?_
            refine Go'.condF rfl ?_
            refine Go'.seq ?_
            -- region 15 (list.go:155)
            refine Go'.region [(0, 0), (1, 0)] rfl ?_
            refine O.mv rfl rfl rfl rfl rfl ?_
            refine O.cmp rfl rfl rfl rfl rfl rfl (geqF (by decide)) ?_
            refine Pl.fin [(0, _), (1, _), (8, _), (9, _), (10, _), (12, _), (13, _), (15, _), (16, _), (17, _), (18, _), (22, _), (23, _), (39, _), (43, _)] ⟨rfl, rfl, rfl, rfl, rfl, rfl, rfl, rfl, rfl, rfl, rfl, rfl, rfl, rfl, rfl, trivial⟩ ?_
            refine Go'.condF rfl ?_
            refine Go'.skip ?_
            refine Go'.inBlock ?_
            refine Go'.keep [(0, _), (1, _), (8, _), (9, _), (10, _), (13, _), (15, _), (16, _), (17, _)] ⟨rfl, rfl, rfl, rfl, rfl, rfl, rfl, rfl, rfl, trivial⟩ ?_
            exact tail (-1, true) _ ⟨Fr.refl _ _, by unfold Pl.mvTo; rw [if_pos (.inl h2)], by unfold Pl.mvTold; rw [if_pos (.inl h2)]; rw [List.length_eq_zero_iff.1 hl0]; rfl⟩
          · skip
            -- region 12 (list.go:152)
            refine Go'.region [(0, 0), (1, 0), (2, 0), (3, 0), (4, 0), (5, 0), (6, 0), (7, 0)] rfl ?_
            refine O.mv rfl rfl rfl rfl rfl ?_
            refine O.cmp rfl rfl rfl rfl rfl rfl (geqF (by decide)) ?_
            refine O.mv rfl rfl rfl rfl rfl ?_
            refine O.mv rfl rfl rfl rfl rfl ?_
            refine O.len rfl rfl rfl rfl Go.Proofs.Try.underlying22 rfl ?_
            refine O.cmp rfl rfl rfl rfl rfl rfl (eqlF (by omega)) ?_
            refine O.pick rfl rfl rfl rfl rfl rfl ?_
            refine O.asg rfl rfl rfl rfl rfl ?_
            refine Pl.fin [(0, _), (1, _), (8, _), (9, _), (10, _), (12, _), (13, _), (15, _), (16, _), (17, _), (18, _), (22, _), (23, _)] ⟨rfl, rfl, rfl, rfl, rfl, rfl, rfl, rfl, rfl, rfl, rfl, rfl, rfl, trivial⟩ ?_
            refine Go'.seq ?_
            -- region 13 (list.go:153)
            refine Go'.region [(0, 0), (1, 0), (2, 0), (3, 0), (4, 1), (5, 0), (6, 0)] rfl ?_
            refine O.mv rfl rfl rfl rfl rfl ?_
            refine O.cmp rfl rfl rfl rfl rfl rfl (geqF (by decide)) ?_
            refine O.mv rfl rfl rfl rfl rfl ?_
            refine Pl.pass rfl rfl rfl rfl ?_
            refine Pl.pass rfl rfl rfl rfl ?_
            refine Pl.pass rfl rfl rfl rfl ?_
            refine O.pick rfl rfl rfl rfl rfl rfl ?_
            refine Pl.fin [(0, _), (1, _), (8, _), (9, _), (10, _), (12, _), (13, _), (15, _), (16, _), (17, _), (18, _), (22, _), (23, _), (39, _)] ⟨rfl, rfl, rfl, rfl, rfl, rfl, rfl, rfl, rfl, rfl, rfl, rfl, rfl, rfl, trivial⟩ ?_
            refine Go'.condF rfl ?_
            refine Go'.seq ?_
            -- region 15 (list.go:155)
            refine Go'.region [(0, 0), (1, 0)] rfl ?_
            refine O.mv rfl rfl rfl rfl rfl ?_
            refine O.cmp rfl rfl rfl rfl rfl rfl (geqF (by decide)) ?_
            refine Pl.fin [(0, _), (1, _), (8, _), (9, _), (10, _), (12, _), (13, _), (15, _), (16, _), (17, _), (18, _), (22, _), (23, _), (39, _), (43, _)] ⟨rfl, rfl, rfl, rfl, rfl, rfl, rfl, rfl, rfl, rfl, rfl, rfl, rfl, rfl, rfl, trivial⟩ ?_
            refine Go'.condF rfl ?_
            refine Go'.skip ?_
            refine Go'.inBlock ?_
            refine Go'.keep [(0, _), (1, _), (8, _), (9, _), (10, _), (13, _), (15, _), (16, _), (17, _)] ⟨rfl, rfl, rfl, rfl, rfl, rfl, rfl, rfl, rfl, trivial⟩ ?_
            exact tail (-1, false) _ ⟨Fr.refl _ _, by unfold Pl.mvTo; rw [if_pos (.inl h2)], by unfold Pl.mvTold; rw [if_pos (.inl h2)]; cases l with | nil => exact absurd rfl hl0 | cons => rfl⟩
        · skip
          have hql := hqlt q rfl
          -- region 12 (list.go:152)
          refine Go'.region [(0, 0), (1, 0), (2, 0), (3, 0), (4, 0), (5, 0), (6, 0), (7, 0)] rfl ?_
          refine O.mv rfl rfl rfl rfl rfl ?_
          refine O.cmp rfl rfl rfl rfl rfl rfl (geqT (Int.natCast_nonneg q)) ?_
          refine O.mv rfl rfl rfl rfl rfl ?_
          refine Pl.pass rfl rfl rfl rfl ?_
          refine Pl.pass rfl rfl rfl rfl ?_
          refine Pl.pass rfl rfl rfl rfl ?_
          refine O.pick rfl rfl rfl rfl rfl rfl ?_
          refine O.asg rfl rfl rfl rfl rfl ?_
          refine Pl.fin [(0, _), (1, _), (8, _), (9, _), (10, _), (12, _), (13, _), (15, _), (16, _), (17, _), (18, _), (22, _), (23, _)] ⟨rfl, rfl, rfl, rfl, rfl, rfl, rfl, rfl, rfl, rfl, rfl, rfl, rfl, trivial⟩ ?_
          refine Go'.seq ?_
          -- region 13 (list.go:153)
          refine Go'.region [(0, 0), (1, 0), (2, 0), (3, 0), (4, 1), (5, 0), (6, 0)] rfl ?_
          refine O.mv rfl rfl rfl rfl rfl ?_
          refine O.cmp rfl rfl rfl rfl rfl rfl (geqT (Int.natCast_nonneg q)) ?_
          refine O.mv rfl rfl rfl rfl rfl ?_
          refine O.faz rfl rfl rfl rfl ⟨_, _, _, Go.Proofs.Try.underlying82, rfl, rfl, Go.Proofs.Try.sizeOf3⟩ rfl ?_
          refine O.ld rfl rfl rfl (fun w => ⟨Go.Proofs.Try.isAgg3 w, Go.Proofs.Try.sizeOf3 w⟩) rfl k0 ?_
          refine O.cmp rfl rfl rfl rfl rfl rfl (eqlT (by omega)) ?_
          refine O.pick rfl rfl rfl rfl rfl rfl ?_
          refine Pl.fin [(0, _), (1, _), (8, _), (9, _), (10, _), (12, _), (13, _), (15, _), (16, _), (17, _), (18, _), (22, _), (23, _), (39, _)] ⟨rfl, rfl, rfl, rfl, rfl, rfl, rfl, rfl, rfl, rfl, rfl, rfl, rfl, rfl, trivial⟩ ?_
          refine Go'.condT rfl ?_
          -- region 14 (list.go:154)
          refine Go'.region [(0, 0), (1, 0), (2, 0)] rfl ?_
          refine O.mv rfl rfl rfl rfl rfl ?_
          refine O.add ((q : Int) + 1) rfl rfl rfl rfl rfl rfl (show (q : Int) + 1 = (q : Int) + 1 from rfl) (by omega) ?_
          refine O.asg rfl rfl rfl rfl rfl ?_
          refine Pl.fin [(0, _), (1, _), (8, _), (9, _), (10, _), (12, _), (13, _), (15, _), (16, _), (17, _), (18, _), (22, _), (23, _), (39, _)] ⟨rfl, rfl, rfl, rfl, rfl, rfl, rfl, rfl, rfl, rfl, rfl, rfl, rfl, rfl, trivial⟩ ?_
          refine Go'.inBlock ?_
          refine Go'.keep [(0, _), (1, _), (8, _), (9, _), (10, _), (13, _), (15, _), (16, _), (17, _)] ⟨rfl, rfl, rfl, rfl, rfl, rfl, rfl, rfl, rfl, trivial⟩ ?_
          exact tail ((q : Int) + 1, true) _ ⟨Fr.refl _ _, by unfold Pl.mvTo; rw [if_pos (.inl h2)]; simp only; rw [if_pos h2], by unfold Pl.mvTold; rw [if_pos (.inl h2)]; rfl⟩
      -- region 10 (list.go:151)
      refine Go'.region [(0, 0), (1, 0)] rfl ?_
      refine O.cmp rfl rfl rfl rfl rfl rfl (eqlF (by omega)) ?_
      refine O.asg rfl rfl rfl rfl rfl ?_
      refine Pl.fin [(0, _), (1, _), (8, _), (9, _), (10, _), (12, _), (13, _), (15, _), (16, _), (17, _), (18, _), (22, _), (23, _)] ⟨rfl, rfl, rfl, rfl, rfl, rfl, rfl, rfl, rfl, rfl, rfl, rfl, rfl, trivial⟩ ?_
      refine Go'.condF rfl ?_
      by_cases h3 : y.1 = 3
      · skip
        -- region 11 (list.go:151)
        refine Go'.region [(0, 0), (1, 0)] rfl ?_
        refine O.cmp rfl rfl rfl rfl rfl rfl (eqlT (by omega)) ?_
        refine O.asg rfl rfl rfl rfl rfl ?_
        refine Pl.fin [(0, _), (1, _), (8, _), (9, _), (10, _), (12, _), (13, _), (15, _), (16, _), (17, _), (18, _), (22, _), (23, _)] ⟨rfl, rfl, rfl, rfl, rfl, rfl, rfl, rfl, rfl, rfl, rfl, rfl, rfl, trivial⟩ ?_
        refine Go'.condT rfl ?_
        refine Go'.seq ?_
        rcases s0 with _ | q
        · skip
          by_cases hl0 : l.length = 0
          · skip
            -- region 12 (list.go:152)
            refine Go'.region [(0, 0), (1, 0), (2, 0), (3, 0), (4, 0), (5, 0), (6, 0), (7, 0)] rfl ?_
            refine O.mv rfl rfl rfl rfl rfl ?_
            refine O.cmp rfl rfl rfl rfl rfl rfl (geqF (by decide)) ?_
            refine O.mv rfl rfl rfl rfl rfl ?_
            refine O.mv rfl rfl rfl rfl rfl ?_
            refine O.len rfl rfl rfl rfl Go.Proofs.Try.underlying22 rfl ?_
            refine O.cmp rfl rfl rfl rfl rfl rfl (eqlT (by omega)) ?_
            refine O.pick rfl rfl rfl rfl rfl rfl ?_
            refine O.asg rfl rfl rfl rfl rfl ?_
            refine Pl.fin [(0, _), (1, _), (8, _), (9, _), (10, _), (12, _), (13, _), (15, _), (16, _), (17, _), (18, _), (22, _), (23, _)] ⟨rfl, rfl, rfl, rfl, rfl, rfl, rfl, rfl, rfl, rfl, rfl, rfl, rfl, trivial⟩ ?_
            refine Go'.seq ?_
            -- region 13 (list.go:153)
            refine Go'.region [(0, 0), (1, 0), (2, 0), (3, 0), (4, 1), (5, 0), (6, 0)] rfl ?_
            refine O.mv rfl rfl rfl rfl rfl ?_
            refine O.cmp rfl rfl rfl rfl rfl rfl (geqF (by decide)) ?_
            refine O.mv rfl rfl rfl rfl rfl ?_
            refine Pl.pass rfl rfl rfl rfl ?_
            refine Pl.pass rfl rfl rfl rfl ?_
            refine Pl.pass rfl rfl rfl rfl ?_
            refine O.pick rfl rfl rfl rfl rfl rfl ?_
            refine Pl.fin [(0, _), (1, _), (8, _), (9, _), (10, _), (12, _), (13, _), (15, _), (16, _), (17, _), (18, _), (22, _), (23, _), (39, _)] ⟨rfl, rfl, rfl, rfl, rfl, rfl, rfl, rfl, rfl, rfl, rfl, rfl, rfl, rfl, trivial⟩ ?_
            refine Go'.condF rfl ?_
            refine Go'.seq ?_
            -- region 15 (list.go:155)
            refine Go'.region [(0, 0), (1, 0)] rfl ?_
            refine O.mv rfl rfl rfl rfl rfl ?_
            refine O.cmp rfl rfl rfl rfl rfl rfl (geqF (by decide)) ?_
            refine Pl.fin [(0, _), (1, _), (8, _), (9, _), (10, _), (12, _), (13, _), (15, _), (16, _), (17, _), (18, _), (22, _), (23, _), (39, _), (43, _)] ⟨rfl, rfl, rfl, rfl, rfl, rfl, rfl, rfl, rfl, rfl, rfl, rfl, rfl, rfl, rfl, trivial⟩ ?_
            refine Go'.condF rfl ?_
            refine Go'.skip ?_
            refine Go'.inBlock ?_
            refine Go'.keep [(0, _), (1, _), (8, _), (9, _), (10, _), (13, _), (15, _), (16, _), (17, _)] ⟨rfl, rfl, rfl, rfl, rfl, rfl, rfl, rfl, rfl, trivial⟩ ?_
            exact tail (-1, true) _ ⟨Fr.refl _ _, by unfold Pl.mvTo; rw [if_pos (.inr h3)], by unfold Pl.mvTold; rw [if_pos (.inr h3)]; rw [List.length_eq_zero_iff.1 hl0]; rfl⟩
          · skip
            -- region 12 (list.go:152)
            refine Go'.region [(0, 0), (1, 0), (2, 0), (3, 0), (4, 0), (5, 0), (6, 0), (7, 0)] rfl ?_
            refine O.mv rfl rfl rfl rfl rfl ?_
            refine O.cmp rfl rfl rfl rfl rfl rfl (geqF (by decide)) ?_
            refine O.mv rfl rfl rfl rfl rfl ?_
            refine O.mv rfl rfl rfl rfl rfl ?_
            refine O.len rfl rfl rfl rfl Go.Proofs.Try.underlying22 rfl ?_
            refine O.cmp rfl rfl rfl rfl rfl rfl (eqlF (by omega)) ?_
            refine O.pick rfl rfl rfl rfl rfl rfl ?_
            refine O.asg rfl rfl rfl rfl rfl ?_
            refine Pl.fin [(0, _), (1, _), (8, _), (9, _), (10, _), (12, _), (13, _), (15, _), (16, _), (17, _), (18, _), (22, _), (23, _)] ⟨rfl, rfl, rfl, rfl, rfl, rfl, rfl, rfl, rfl, rfl, rfl, rfl, rfl, trivial⟩ ?_
            refine Go'.seq ?_
            -- region 13 (list.go:153)
            refine Go'.region [(0, 0), (1, 0), (2, 0), (3, 0), (4, 1), (5, 0), (6, 0)] rfl ?_
            refine O.mv rfl rfl rfl rfl rfl ?_
            refine O.cmp rfl rfl rfl rfl rfl rfl (geqF (by decide)) ?_
            refine O.mv rfl rfl rfl rfl rfl ?_
            refine Pl.pass rfl rfl rfl rfl ?_
            refine Pl.pass rfl rfl rfl rfl ?_
            refine Pl.pass rfl rfl rfl rfl ?_
            refine O.pick rfl rfl rfl rfl rfl rfl ?_
            refine Pl.fin [(0, _), (1, _), (8, _), (9, _), (10, _), (12, _), (13, _), (15, _), (16, _), (17, _), (18, _), (22, _), (23, _), (39, _)] ⟨rfl, rfl, rfl, rfl, rfl, rfl, rfl, rfl, rfl, rfl, rfl, rfl, rfl, rfl, trivial⟩ ?_
            refine Go'.condF rfl ?_
            refine Go'.seq ?_
            -- region 15 (list.go:155)
            refine Go'.region [(0, 0), (1, 0)] rfl ?_
            refine O.mv rfl rfl rfl rfl rfl ?_
            refine O.cmp rfl rfl rfl rfl rfl rfl (geqF (by decide)) ?_
            refine Pl.fin [(0, _), (1, _), (8, _), (9, _), (10, _), (12, _), (13, _), (15, _), (16, _), (17, _), (18, _), (22, _), (23, _), (39, _), (43, _)] ⟨rfl, rfl, rfl, rfl, rfl, rfl, rfl, rfl, rfl, rfl, rfl, rfl, rfl, rfl, rfl, trivial⟩ ?_
            refine Go'.condF rfl ?_
            refine Go'.skip ?_
            refine Go'.inBlock ?_
            refine Go'.keep [(0, _), (1, _), (8, _), (9, _), (10, _), (13, _), (15, _), (16, _), (17, _)] ⟨rfl, rfl, rfl, rfl, rfl, rfl, rfl, rfl, rfl, trivial⟩ ?_
            exact tail (-1, false) _ ⟨Fr.refl _ _, by unfold Pl.mvTo; rw [if_pos (.inr h3)], by unfold Pl.mvTold; rw [if_pos (.inr h3)]; cases l with | nil => exact absurd rfl hl0 | cons => rfl⟩
        · skip
          have hql := hqlt q rfl
          -- region 12 (list.go:152)
          refine Go'.region [(0, 0), (1, 0), (2, 0), (3, 0), (4, 0), (5, 0), (6, 0), (7, 0)] rfl ?_
          refine O.mv rfl rfl rfl rfl rfl ?_
          refine O.cmp rfl rfl rfl rfl rfl rfl (geqT (Int.natCast_nonneg q)) ?_
          refine O.mv rfl rfl rfl rfl rfl ?_
          refine Pl.pass rfl rfl rfl rfl ?_
          refine Pl.pass rfl rfl rfl rfl ?_
          refine Pl.pass rfl rfl rfl rfl ?_
          refine O.pick rfl rfl rfl rfl rfl rfl ?_
          refine O.asg rfl rfl rfl rfl rfl ?_
          refine Pl.fin [(0, _), (1, _), (8, _), (9, _), (10, _), (12, _), (13, _), (15, _), (16, _), (17, _), (18, _), (22, _), (23, _)] ⟨rfl, rfl, rfl, rfl, rfl, rfl, rfl, rfl, rfl, rfl, rfl, rfl, rfl, trivial⟩ ?_
          refine Go'.seq ?_
          -- region 13 (list.go:153)
          refine Go'.region [(0, 0), (1, 0), (2, 0), (3, 0), (4, 1), (5, 0), (6, 0)] rfl ?_
          refine O.mv rfl rfl rfl rfl rfl ?_
          refine O.cmp rfl rfl rfl rfl rfl rfl (geqT (Int.natCast_nonneg q)) ?_
          refine O.mv rfl rfl rfl rfl rfl ?_
          refine O.faz rfl rfl rfl rfl ⟨_, _, _, Go.Proofs.Try.underlying82, rfl, rfl, Go.Proofs.Try.sizeOf3⟩ rfl ?_
          refine O.ld rfl rfl rfl (fun w => ⟨Go.Proofs.Try.isAgg3 w, Go.Proofs.Try.sizeOf3 w⟩) rfl k0 ?_
          refine O.cmp rfl rfl rfl rfl rfl rfl (eqlF (by omega)) ?_
          refine O.pick rfl rfl rfl rfl rfl rfl ?_
          refine Pl.fin [(0, _), (1, _), (8, _), (9, _), (10, _), (12, _), (13, _), (15, _), (16, _), (17, _), (18, _), (22, _), (23, _), (39, _)] ⟨rfl, rfl, rfl, rfl, rfl, rfl, rfl, rfl, rfl, rfl, rfl, rfl, rfl, rfl, trivial⟩ ?_
          refine Go'.condF rfl ?_
          refine Go'.seq ?_
          -- region 15 (list.go:155)
          refine Go'.region [(0, 0), (1, 0)] rfl ?_
          refine O.mv rfl rfl rfl rfl rfl ?_
          refine O.cmp rfl rfl rfl rfl rfl rfl (geqT (Int.natCast_nonneg q)) ?_
          refine Pl.fin [(0, _), (1, _), (8, _), (9, _), (10, _), (12, _), (13, _), (15, _), (16, _), (17, _), (18, _), (22, _), (23, _), (39, _), (43, _)] ⟨rfl, rfl, rfl, rfl, rfl, rfl, rfl, rfl, rfl, rfl, rfl, rfl, rfl, rfl, rfl, trivial⟩ ?_
          refine Go'.condT rfl ?_
          -- region 16 (list.go:156)
          refine Go'.region [(0, 0), (1, 0), (2, 0)] rfl ?_
          refine O.mv rfl rfl rfl rfl rfl ?_
          refine O.sub ((q : Int) - 1) rfl rfl rfl rfl rfl rfl (show (q : Int) - 1 = (q : Int) - 1 from rfl) (by omega) ?_
          refine O.asg rfl rfl rfl rfl rfl ?_
          refine Pl.fin [(0, _), (1, _), (8, _), (9, _), (10, _), (12, _), (13, _), (15, _), (16, _), (17, _), (18, _), (22, _), (23, _), (39, _), (43, _)] ⟨rfl, rfl, rfl, rfl, rfl, rfl, rfl, rfl, rfl, rfl, rfl, rfl, rfl, rfl, rfl, trivial⟩ ?_
          refine Go'.inBlock ?_
          refine Go'.keep [(0, _), (1, _), (8, _), (9, _), (10, _), (13, _), (15, _), (16, _), (17, _)] ⟨rfl, rfl, rfl, rfl, rfl, rfl, rfl, rfl, rfl, trivial⟩ ?_
          exact tail ((q : Int) - 1, true) _ ⟨Fr.refl _ _, by unfold Pl.mvTo; rw [if_pos (.inr h3)]; simp only; rw [if_neg (by omega)], by unfold Pl.mvTold; rw [if_pos (.inr h3)]; rfl⟩
      have eT : Pl.mvTold l y s0 = true := by unfold Pl.mvTold; rw [if_neg (by omega)]
      -- region 11 (list.go:151)
      refine Go'.region [(0, 0), (1, 0)] rfl ?_
      refine O.cmp rfl rfl rfl rfl rfl rfl (eqlF (by omega)) ?_
      refine O.asg rfl rfl rfl rfl rfl ?_
      refine Pl.fin [(0, _), (1, _), (8, _), (9, _), (10, _), (12, _), (13, _), (15, _), (16, _), (17, _), (18, _), (22, _), (23, _)] ⟨rfl, rfl, rfl, rfl, rfl, rfl, rfl, rfl, rfl, rfl, rfl, rfl, rfl, trivial⟩ ?_
      refine Go'.condF rfl ?_
      refine Go'.seq ?_
      by_cases h1 : y.1 = 1
      · skip
        -- region 17 (list.go:158)
        refine Go'.region [(0, 0), (1, 0)] rfl ?_
        refine O.cmp rfl rfl rfl rfl rfl rfl (eqlT (by omega)) ?_
        refine O.asg rfl rfl rfl rfl rfl ?_
        refine Pl.fin [(0, _), (1, _), (8, _), (9, _), (10, _), (12, _), (13, _), (15, _), (16, _), (17, _), (18, _), (22, _), (23, _), (46, _)] ⟨rfl, rfl, rfl, rfl, rfl, rfl, rfl, rfl, rfl, rfl, rfl, rfl, rfl, rfl, trivial⟩ ?_
        refine Go'.condT rfl ?_
        -- region 18 (list.go:159)
        refine Go'.region [(0, 0), (1, 0), (2, 0), (3, 0)] rfl ?_
        refine O.mv rfl rfl rfl rfl rfl ?_
        refine O.len rfl rfl rfl rfl Go.Proofs.Try.underlying22 rfl ?_
        refine O.sub ((l.length : Int) - 1) rfl rfl rfl rfl rfl rfl (by omega) (by omega) ?_
        refine O.asg rfl rfl rfl rfl rfl ?_
        refine Pl.fin [(0, _), (1, _), (8, _), (9, _), (10, _), (12, _), (13, _), (15, _), (16, _), (17, _), (18, _), (22, _), (23, _), (46, _)] ⟨rfl, rfl, rfl, rfl, rfl, rfl, rfl, rfl, rfl, rfl, rfl, rfl, rfl, rfl, trivial⟩ ?_
        refine Go'.inBlock ?_
        refine Go'.keep [(0, _), (1, _), (8, _), (9, _), (10, _), (13, _), (15, _), (16, _), (17, _)] ⟨rfl, rfl, rfl, rfl, rfl, rfl, rfl, rfl, rfl, trivial⟩ ?_
        exact tail ((l.length : Int) - 1, true) _ ⟨Fr.refl _ _, by unfold Pl.mvTo; rw [if_neg (by omega), if_pos h1], eT.symm⟩
      -- region 17 (list.go:158)
      refine Go'.region [(0, 0), (1, 0)] rfl ?_
      refine O.cmp rfl rfl rfl rfl rfl rfl (eqlF (by omega)) ?_
      refine O.asg rfl rfl rfl rfl rfl ?_
      refine Pl.fin [(0, _), (1, _), (8, _), (9, _), (10, _), (12, _), (13, _), (15, _), (16, _), (17, _), (18, _), (22, _), (23, _), (46, _)] ⟨rfl, rfl, rfl, rfl, rfl, rfl, rfl, rfl, rfl, rfl, rfl, rfl, rfl, rfl, trivial⟩ ?_
      refine Go'.condF rfl ?_
      refine Go'.seq ?_
      refine Go'.seq ?_
      by_cases h4 : y.1 = 4
      · skip
        -- region 19 (list.go:160)
        refine Go'.region [(0, 0), (1, 0)] rfl ?_
        refine O.cmp rfl rfl rfl rfl rfl rfl (eqlT (by omega)) ?_
        refine O.asg rfl rfl rfl rfl rfl ?_
        refine Pl.fin [(0, _), (1, _), (8, _), (9, _), (10, _), (12, _), (13, _), (15, _), (16, _), (17, _), (18, _), (22, _), (23, _), (46, _), (51, _)] ⟨rfl, rfl, rfl, rfl, rfl, rfl, rfl, rfl, rfl, rfl, rfl, rfl, rfl, rfl, rfl, trivial⟩ ?_
        refine Go'.condT rfl ?_
        refine Go'.skip ?_
        refine Go'.condT rfl ?_
        -- region 21 (list.go:161)
        refine Go'.region [(0, 0), (1, 0), (2, 0), (3, 1), (4, 2), (5, 0), (6, 0), (7, 0), (8, 0)] rfl ?_
        refine O.mv rfl rfl rfl rfl rfl ?_
        refine O.mv rfl rfl rfl rfl rfl ?_
        refine O.fa0 (off := 1) rfl rfl rfl rfl ⟨_, _, _, Go.Proofs.Try.underlying82, rfl, rfl, Go.Proofs.Try.sizeOf35⟩ rfl ?_
        refine O.lds rfl rfl rfl (fun w => ⟨Go.Proofs.Try.isAgg35 w, Go.Proofs.Try.sizeOf35 w⟩) rfl rfl k2 ?_
        refine O.call rfl rfl rfl Go.Proofs.Try.call103 rfl (place_spec (x := y.2) ho2 hl hi2 hs (by omega)) ?_
        rintro _ H5 ⟨rfl, hf5⟩
        refine ⟨trivial, ?_⟩
        refine O.mv rfl rfl rfl rfl rfl ?_
        refine O.ext rfl rfl rfl rfl rfl rfl ?_
        refine O.ext rfl rfl rfl rfl rfl rfl ?_
        refine O.asg rfl rfl rfl rfl rfl ?_
        refine Pl.fin [(0, _), (1, _), (8, _), (9, _), (10, _), (12, _), (13, _), (15, _), (16, _), (17, _), (18, _), (22, _), (23, _), (46, _), (51, _)] ⟨rfl, rfl, rfl, rfl, rfl, rfl, rfl, rfl, rfl, rfl, rfl, rfl, rfl, rfl, rfl, trivial⟩ ?_
        refine Go'.inBlock ?_
        refine Go'.keep [(0, _), (1, _), (8, _), (9, _), (10, _), (13, _), (15, _), (16, _), (17, _)] ⟨rfl, rfl, rfl, rfl, rfl, rfl, rfl, rfl, rfl, trivial⟩ ?_
        exact tail (_, true) _ ⟨hf5, by unfold Pl.mvTo; rw [if_neg (by omega), if_neg h1, if_pos (.inl h4)], eT.symm⟩
      -- region 19 (list.go:160)
      refine Go'.region [(0, 0), (1, 0)] rfl ?_
      refine O.cmp rfl rfl rfl rfl rfl rfl (eqlF (by omega)) ?_
      refine O.asg rfl rfl rfl rfl rfl ?_
      refine Pl.fin [(0, _), (1, _), (8, _), (9, _), (10, _), (12, _), (13, _), (15, _), (16, _), (17, _), (18, _), (22, _), (23, _), (46, _), (51, _)] ⟨rfl, rfl, rfl, rfl, rfl, rfl, rfl, rfl, rfl, rfl, rfl, rfl, rfl, rfl, rfl, trivial⟩ ?_
      refine Go'.condF rfl ?_
      by_cases h5 : y.1 = 5
      · skip
        -- region 20 (list.go:160)
        refine Go'.region [(0, 0), (1, 0)] rfl ?_
        refine O.cmp rfl rfl rfl rfl rfl rfl (eqlT (by omega)) ?_
        refine O.asg rfl rfl rfl rfl rfl ?_
        refine Pl.fin [(0, _), (1, _), (8, _), (9, _), (10, _), (12, _), (13, _), (15, _), (16, _), (17, _), (18, _), (22, _), (23, _), (46, _), (51, _)] ⟨rfl, rfl, rfl, rfl, rfl, rfl, rfl, rfl, rfl, rfl, rfl, rfl, rfl, rfl, rfl, trivial⟩ ?_
        refine Go'.condT rfl ?_
        -- region 21 (list.go:161)
        refine Go'.region [(0, 0), (1, 0), (2, 0), (3, 1), (4, 2), (5, 0), (6, 0), (7, 0), (8, 0)] rfl ?_
        refine O.mv rfl rfl rfl rfl rfl ?_
        refine O.mv rfl rfl rfl rfl rfl ?_
        refine O.fa0 (off := 1) rfl rfl rfl rfl ⟨_, _, _, Go.Proofs.Try.underlying82, rfl, rfl, Go.Proofs.Try.sizeOf35⟩ rfl ?_
        refine O.lds rfl rfl rfl (fun w => ⟨Go.Proofs.Try.isAgg35 w, Go.Proofs.Try.sizeOf35 w⟩) rfl rfl k2 ?_
        refine O.call rfl rfl rfl Go.Proofs.Try.call103 rfl (place_spec (x := y.2) ho2 hl hi2 hs (by omega)) ?_
        rintro _ H5 ⟨rfl, hf5⟩
        refine ⟨trivial, ?_⟩
        refine O.mv rfl rfl rfl rfl rfl ?_
        refine O.ext rfl rfl rfl rfl rfl rfl ?_
        refine O.ext rfl rfl rfl rfl rfl rfl ?_
        refine O.asg rfl rfl rfl rfl rfl ?_
        refine Pl.fin [(0, _), (1, _), (8, _), (9, _), (10, _), (12, _), (13, _), (15, _), (16, _), (17, _), (18, _), (22, _), (23, _), (46, _), (51, _)] ⟨rfl, rfl, rfl, rfl, rfl, rfl, rfl, rfl, rfl, rfl, rfl, rfl, rfl, rfl, rfl, trivial⟩ ?_
        refine Go'.inBlock ?_
        refine Go'.keep [(0, _), (1, _), (8, _), (9, _), (10, _), (13, _), (15, _), (16, _), (17, _)] ⟨rfl, rfl, rfl, rfl, rfl, rfl, rfl, rfl, rfl, trivial⟩ ?_
        exact tail (_, true) _ ⟨hf5, by unfold Pl.mvTo; rw [if_neg (by omega), if_neg h1, if_pos (.inr h5)], eT.symm⟩
      · skip
        -- region 20 (list.go:160)
        refine Go'.region [(0, 0), (1, 0)] rfl ?_
        refine O.cmp rfl rfl rfl rfl rfl rfl (eqlF (by omega)) ?_
        refine O.asg rfl rfl rfl rfl rfl ?_
        refine Pl.fin [(0, _), (1, _), (8, _), (9, _), (10, _), (12, _), (13, _), (15, _), (16, _), (17, _), (18, _), (22, _), (23, _), (46, _), (51, _)] ⟨rfl, rfl, rfl, rfl, rfl, rfl, rfl, rfl, rfl, rfl, rfl, rfl, rfl, rfl, rfl, trivial⟩ ?_
        refine Go'.condF rfl ?_
        -- region 9 (list.go:163)
        refine Go'.region [(0, 0)] rfl ?_
        refine O.asg rfl rfl rfl rfl rfl ?_
        refine Pl.fin [(0, _), (1, _), (8, _), (9, _), (10, _), (12, _), (13, _), (15, _), (16, _), (17, _), (18, _), (22, _), (23, _), (46, _), (51, _)] ⟨rfl, rfl, rfl, rfl, rfl, rfl, rfl, rfl, rfl, rfl, rfl, rfl, rfl, rfl, rfl, trivial⟩ ?_
        refine Go'.inBlock ?_
        refine Go'.keep [(0, _), (1, _), (8, _), (9, _), (10, _), (13, _), (15, _), (16, _), (17, _)] ⟨rfl, rfl, rfl, rfl, rfl, rfl, rfl, rfl, rfl, trivial⟩ ?_
        exact tail (0, true) _ ⟨Fr.refl _ _, by unfold Pl.mvTo; rw [if_neg (by omega), if_neg h1, if_neg (by omega)], eT.symm⟩
  · skip
    obtain rfl : j = ms.length := by omega
    rw [List.take_length] at hA hB
    -- region 5 (list.go:148)
    refine Go'.region [(0, 0)] rfl ?_
    refine O.cmp rfl rfl rfl rfl rfl rfl (lssF (by omega)) ?_
    refine Pl.fin [(0, _), (1, _), (8, _), (9, _), (10, _), (15, _), (16, _), (17, _), (18, _)] ⟨rfl, rfl, rfl, rfl, rfl, rfl, rfl, rfl, rfl, trivial⟩ ?_
    refine Go'.seq ?_
    refine Go'.condF rfl ?_
    refine Go'.exit rfl ?_
    refine Go'.seq ?_
    -- region 27 (list.go:171)
    refine Go'.region [(0, 0), (1, 0), (2, 0), (3, 0)] rfl ?_
    refine O.mv rfl rfl rfl rfl rfl ?_
    refine O.mv rfl rfl rfl rfl rfl ?_
    refine O.asg rfl rfl rfl rfl rfl ?_
    refine O.asg rfl rfl rfl rfl rfl ?_
    refine Pl.fin [(6, _), (7, _)] ⟨rfl, rfl, trivial⟩ ?_
    refine Go'.ret (vs := [_, _]) Go.Proofs.Try.func66 Go.Proofs.Try.results66 ⟨rfl, rfl, trivial⟩ ?_
    exact ⟨_, _, rfl, hA.out, hB.out, hF⟩

end Go.Bt
namespace Go.Bt
open Go Go.Proofs
set_option maxRecDepth 20000
set_option maxHeartbeats 4000000
set_option linter.unusedVariables false

theorem got_key {l : List (Int × Int)} {x y : Int × Int} (hs : Pl.Srt OI l) (h : Pl.got OI x l = some y) : x.1 = y.1 := by
  have hf : Pl.fnd OI x l = true := by rw [← Pl.got_isSome, h]; rfl
  obtain ⟨z, hz, h1, h2⟩ := Pl.fnd_at OI hs hf
  rw [Pl.got_some OI hf, hz] at h
  cases h
  have h1 := of_decide_eq_false h1
  have h2 := of_decide_eq_false h2
  omega

theorem msets_spec {B : World} {H : Mem} {d : Nat} {u : Value} {l : List (Int × Int)} (hd : 2 ≤ d ∧ d ≤ 128) (hi : InS EJ H u l) (hll : l.length ≤ 4294967296) :
    Fn Try.prog B 25 [.int .i64 (d : Int), u] H (fun r H' => ∃ v1 v2, r = .tuple #[v1, v2] ∧ OutS EF H' v1 (Pl.gots OI l) ∧ OutS EJ H' v2 (Pl.puts OI l) ∧ Fr nowhere H H') := by
  have hP : PsOk ⟨0, 2 * d - 1, d - 1⟩ := ⟨by show 2 * d - 1 = 2 * (d - 1) + 1; omega, by show 1 ≤ d - 1; omega, by show 2 * d - 1 ≤ 255; omega⟩
  have hpl0 := Pl.puts_length OI l
  obtain ⟨a, c, hu⟩ := hi.len
  subst hu
  refine fn_of Go.Proofs.Try.func25 rfl Go.Proofs.Try.ntmps25 ?_
  refine (show Go' _ _ _ _ 41 [(0, _), (1, _)] [.code _] _ from ?_)
  refine Go'.seq ?_
  -- region 0 (map.go:34)
  refine Go'.region [(0, 0), (1, 0)] rfl ?_
  refine O.asg rfl rfl rfl rfl rfl ?_
  refine O.asg rfl rfl rfl rfl rfl ?_
  refine Pl.fin [(0, _), (1, _), (4, _), (5, _)] ⟨rfl, rfl, rfl, rfl, trivial⟩ ?_
  refine Go'.seq ?_
  -- region 1 (map.go:35)
  refine Go'.region [(0, 0), (1, 2), (2, 0)] rfl ?_
  refine O.mv rfl rfl rfl rfl rfl ?_
  refine O.call rfl rfl rfl Go.Proofs.Try.call52 rfl (growMap_spec (l := []) hd (InS.nil EJ H) (by decide)) ?_
  rintro _ H1 ⟨tr, S0, rfl, hM1, hF1, hS0⟩
  unfold ptr
  refine ⟨trivial, ?_⟩
  refine O.asg rfl rfl rfl rfl rfl ?_
  refine Pl.fin [(1, _), (4, _), (5, _), (6, _)] ⟨rfl, rfl, rfl, rfl, trivial⟩ ?_
  refine Go'.seq ?_
  -- region 2 (map.go:36)
  refine Go'.region [(0, 0)] rfl ?_
  refine O.asg rfl rfl rfl rfl rfl ?_
  refine Pl.fin [(1, _), (4, _), (5, _), (6, _), (7, _)] ⟨rfl, rfl, rfl, rfl, rfl, trivial⟩ ?_
  refine Go'.seq ?_
  refine Go'.seq ?_
  -- region 3 (map.go:37)
  refine Go'.region [(0, 0), (1, 0), (2, 0)] rfl ?_
  refine O.mv rfl rfl rfl rfl rfl ?_
  refine O.len rfl rfl rfl rfl Go.Proofs.Try.underlying22 rfl ?_
  refine O.mv rfl rfl rfl rfl rfl ?_
  refine Pl.fin [(4, _), (5, _), (6, _), (7, _), (14, _), (15, _), (16, _)] ⟨rfl, rfl, rfl, rfl, rfl, rfl, rfl, trivial⟩ ?_
  refine Go'.block ?_
  refine Go'.loop ?_
  refine Go'.keep [(6, _), (7, _), (14, _), (15, _), (16, _)] ⟨rfl, rfl, rfl, rfl, rfl, trivial⟩ ?_
  refine Go'.ind (σ := Nat × Value) (fun s => l.length - s.1) (fun s H' => Fr nowhere H H' ∧ s.1 ≤ l.length ∧ ∃ S Zo, MapM H' tr ⟨0, 2 * d - 1, d - 1⟩ S (Pl.puts OI (l.take s.1)) ∧ (∀ b, S b → H.size ≤ b) ∧ Acc EF Zo H' s.2 (Pl.gots OI (l.take s.1)) ∧ ∀ b, Zo b → H.size ≤ b ∧ b < H'.size ∧ ¬ S b)
    (fun s => [(6, .pointer (some ⟨tr, 0, none⟩)), (7, s.2), (14, .slice a l.length c), (15, .int .i64 (l.length : Int)), (16, .int .i64 (s.1 : Int))]) (0, .slice none 0 0) ⟨hF1, Nat.zero_le _, S0, fun _ => False, hM1, hS0, Acc.nil _ _ _, fun _ h => h.elim⟩ rfl ?_
  rintro ⟨j, sv⟩ H2 ⟨hF, hjl, S, Zo, hM, hS, hA, hZ⟩ ih
  simp only at hjl hM hA
  have hi2 := hi.fr hF
  refine Go'.seq ?_
  by_cases hlt : j < l.length
  · skip
    obtain ⟨y, hy⟩ : ∃ y, l[j]? = some y := ⟨l[j], List.getElem?_eq_getElem hlt⟩
    obtain ⟨b, o, c', e, hr⟩ := hi2.at hy
    cases e
    have hpl := Pl.puts_length OI (l.take j)
    have hlout := Pl.gots_length OI (l.take j)
    have hsrt := Pl.puts_srt OI (l.take j)
    have hSn : ∀ b, H2.size ≤ b → ¬ S b := fun b hb hs => by have := hM.lt b hs; omega
    have hsz := hF.size
    have eput : Pl.puts OI (l.take (j + 1)) = Pl.put OI y (Pl.puts OI (l.take j)) := by rw [List.take_add_one, hy]; exact Pl.puts_snoc _ _ _
    have egot : Pl.gots OI (l.take (j + 1)) = Pl.gots OI (l.take j) ++ [Pl.got OI y (Pl.puts OI (l.take j))] := by rw [List.take_add_one, hy]; exact Pl.gots_snoc _ _ _
    rw [List.length_take] at hpl hlout
    -- region 4 (map.go:37)
    refine Go'.region [(0, 0)] rfl ?_
    refine O.cmp rfl rfl rfl rfl rfl rfl (lssT (by omega)) ?_
    refine Pl.fin [(6, _), (7, _), (14, _), (15, _), (16, _), (17, _)] ⟨rfl, rfl, rfl, rfl, rfl, rfl, trivial⟩ ?_
    refine Go'.seq ?_
    refine Go'.condT rfl ?_
    refine Go'.skip ?_
    refine Go'.seq ?_
    refine Go'.block ?_
    refine Go'.seq ?_
    -- region 5 (map.go:37)
    refine Go'.region [(0, 0), (1, 1), (2, 2), (3, 2)] rfl ?_
    refine O.ix (j := j) rfl rfl rfl rfl Go.Proofs.Try.underlying22 Go.Proofs.Try.sizeOf35 rfl rfl (by omega) hlt ?_
    refine O.lds rfl rfl rfl (fun w => ⟨Go.Proofs.Try.isAgg35 w, Go.Proofs.Try.sizeOf35 w⟩) rfl rfl hr ?_
    refine O.alloc rfl rfl rfl Go.Proofs.Try.zeroValue35 ?_
    intro H3 M3
    refine ⟨trivial, ?_⟩
    have hs3 := M3.size
    replace hM := hM.fr (M3.fr nowhere) (fun _ _ _ => nw)
    replace hA := hA.fr (M3.fr nowhere) (fun _ _ _ _ => nw)
    have m7 : Wr H3 H2.size 0 2 := M3.wr 2 (by decide)
    have hlt2 : ∀ b, S b → b < H2.size := fun b hb => by
      rcases Nat.lt_or_ge b H2.size with h | h
      · exact h
      · exact absurd hb (hSn b h)
    refine O.st rfl rfl Go.Proofs.Try.sizeOf35 rfl rfl rfl rfl rfl m7 ?_
    intro H4 W4
    have hs4 := W4.size
    replace hM := hM.fr W4.fr (fun b o hb hz => by have h1 := hz.1; have h2 := hlt2 b hb; omega)
    replace hA := hA.fr W4.fr (fun b o hb hb2 hz => by have h1 := hz.1; have h2 := hZ b hb2; omega)
    have hf4 : Fr nowhere H H4 := hF.trans' ((M3.fr nowhere).trans' W4.fr (Z := nowhere) (fun _ _ _ h => h) (fun b o hb hz => by have h1 := hz.1; omega)) (fun _ _ _ h => h) (fun _ _ _ h => h)
    have k0 : cl H4 H2.size 0 = some (.int .i64 y.1) := W4.all 0 _ rfl
    have k1 : cl H4 H2.size 1 = some (.int .i64 y.2) := W4.all 1 _ rfl
    refine ⟨trivial, ?_⟩
    refine Pl.fin [(6, _), (7, _), (9, _), (14, _), (15, _), (16, _), (17, _)] ⟨rfl, rfl, rfl, rfl, rfl, rfl, rfl, trivial⟩ ?_
    refine Go'.seq ?_
    rcases hgo : Pl.got OI y (Pl.puts OI (l.take j)) with _ | z
    · skip
      have hfd : Pl.fnd OI y (Pl.puts OI (l.take j)) = false := by rw [← Pl.got_isSome, hgo]; rfl
      -- region 6 (map.go:38)
      refine Go'.region [(0, 0), (1, 0), (2, 1), (3, 0), (4, 1), (5, 2), (6, 0), (7, 0), (8, 0), (9, 0), (10, 0)] rfl ?_
      refine O.mv rfl rfl rfl rfl rfl ?_
      refine O.faz rfl rfl rfl rfl ⟨_, _, _, Go.Proofs.Try.underlying35, rfl, rfl, Go.Proofs.Try.sizeOf3⟩ rfl ?_
      refine O.ld rfl rfl rfl (fun w => ⟨Go.Proofs.Try.isAgg3 w, Go.Proofs.Try.sizeOf3 w⟩) rfl k0 ?_
      refine O.fa0 (off := 1) rfl rfl rfl rfl ⟨_, _, _, Go.Proofs.Try.underlying35, rfl, rfl, Go.Proofs.Try.sizeOf3⟩ rfl ?_
      refine O.ld rfl rfl rfl (fun w => ⟨Go.Proofs.Try.isAgg3 w, Go.Proofs.Try.sizeOf3 w⟩) rfl k1 ?_
      refine O.call rfl rfl rfl Go.Proofs.Try.call56 rfl (mset_spec hP (x := y) hM (by omega)) ?_
      rintro _ H5 ⟨rfl, S', hM', hF', hS'⟩
      rw [hgo, hfd]
      unfold PV
      have hs5 := hF'.size
      replace hA := hA.fr hF' (fun b o hb hb2 hz => (hZ b hb2).2.2 hz)
      replace k0 := hF'.keep k0 (hSn _ (Nat.le_refl _))
      refine ⟨trivial, ?_⟩
      refine O.mv rfl rfl rfl rfl rfl ?_
      refine O.ext rfl rfl rfl rfl rfl rfl ?_
      refine O.ext rfl rfl rfl rfl rfl rfl ?_
      refine O.asg rfl rfl rfl rfl rfl ?_
      refine O.asg rfl rfl rfl rfl rfl ?_
      refine Pl.fin [(6, _), (7, _), (9, _), (10, _), (11, _), (14, _), (15, _), (16, _), (17, _)] ⟨rfl, rfl, rfl, rfl, rfl, rfl, rfl, rfl, rfl, trivial⟩ ?_
      -- region 7 (map.go:39)
      refine Go'.region [(0, 0), (1, 0), (2, 1), (3, 0), (4, 0), (5, 2), (6, 2), (7, 2), (8, 0)] rfl ?_
      refine O.mv rfl rfl rfl rfl rfl ?_
      refine O.faz rfl rfl rfl rfl ⟨_, _, _, Go.Proofs.Try.underlying35, rfl, rfl, Go.Proofs.Try.sizeOf3⟩ rfl ?_
      refine O.ld rfl rfl rfl (fun w => ⟨Go.Proofs.Try.isAgg3 w, Go.Proofs.Try.sizeOf3 w⟩) rfl k0 ?_
      refine O.mv rfl rfl rfl rfl rfl ?_
      refine O.mv rfl rfl rfl rfl rfl ?_
      refine O.call rfl rfl rfl Go.Proofs.Try.call54 rfl (pair_spec (x := (y.1, (0 : Int))) (ok := false)) ?_
      rintro _ H6 ⟨rfl, hF6⟩
      have hs6 := hF6.size
      replace hM' := hM'.fr hF6 (fun _ _ _ => nw)
      replace hA := hA.fr hF6 (fun _ _ _ _ => nw)
      refine ⟨trivial, ?_⟩
      refine O.bsl (cs := (fvs none)) rfl rfl rfl ⟨Go.Proofs.Try.underlying30, Go.Proofs.Try.sizeOf37, Go.Proofs.Try.zeroValue37, ⟨_, Go.Proofs.Try.typeInfo37, rfl⟩, rfl, by decide, by decide⟩ rfl (by decide) (by kernel_rfl) ?_
      intro H7 M7
      have hs7 := M7.size
      replace hM' := hM'.fr (M7.fr nowhere) (fun _ _ _ => nw)
      replace hA := hA.fr (M7.fr nowhere) (fun _ _ _ _ => nw)
      have m5 : Rd H7 H6.size 0 (row EF [none]) := M7.rd _ [] (by simp [row, EF, fvs])
      refine ⟨trivial, ?_⟩
      refine O.appA (E := EF) (Y := [none]) rfl rfl rfl ⟨Go.Proofs.Try.underlying30, Go.Proofs.Try.sizeOf37, Go.Proofs.Try.zeroValue37, ⟨_, Go.Proofs.Try.typeInfo37, rfl⟩, rfl, by decide, by decide⟩ rfl hA rfl ⟨_, _, _, rfl, m5⟩ (Nat.succ_pos _) (by rw [hlout]; exact Nat.le_trans (Nat.mul_le_mul_left _ (Nat.le_of_ble_eq_true (n := _) (m := 4096) rfl)) (by simp only [List.length_cons, List.length_nil]; omega)) (by rw [hlout]; simp only [List.length_cons, List.length_nil]; omega) ?_
      intro v8 H8 hA8 hF8 hs8
      have hS2 : ∀ b, S' b → ¬ Zo b := fun b hb hz => (hS' b hb).elim (hZ b hz).2.2 (fun h => by have := (hZ b hz).2.1; omega)
      have hlt5 : ∀ b, S' b → b < H7.size := hM'.lt
      have hM8 := hM'.fr hF8 (fun b _ hb => hS2 b hb)
      have hg8 := hF8.size
      rw [hgo] at egot
      refine ⟨trivial, ?_⟩
      refine O.asg rfl rfl rfl rfl rfl ?_
      refine Pl.fin [(6, _), (7, _), (9, _), (10, _), (11, _), (14, _), (15, _), (16, _), (17, _)] ⟨rfl, rfl, rfl, rfl, rfl, rfl, rfl, rfl, rfl, trivial⟩ ?_
      refine Go'.inBlock ?_
      -- region 8 (map.go:37)
      refine Go'.region [(0, 0), (1, 0)] rfl ?_
      refine O.add (((j + 1 : Nat) : Int)) rfl rfl rfl rfl rfl rfl (by omega) (by omega) ?_
      refine O.mv rfl rfl rfl rfl rfl ?_
      refine Pl.fin [(6, _), (7, _), (9, _), (10, _), (11, _), (14, _), (15, _), (16, _), (17, _)] ⟨rfl, rfl, rfl, rfl, rfl, rfl, rfl, rfl, rfl, trivial⟩ ?_
      refine Go'.keep [(6, _), (7, _), (14, _), (15, _), (16, _)] ⟨rfl, rfl, rfl, rfl, rfl, trivial⟩ ?_
      refine Go'.inLoop ?_
      exact ih (j + 1, v8) H8 ⟨(((hf4.trans' hF' (fun _ _ _ h => h) (fun b o hb hz => by have h1 := hS b hz; omega)).trans hF6).trans (M7.fr nowhere)).trans' hF8 (fun _ _ _ h => h) (fun b o hb hz => by have h1 := (hZ b hz).1; omega), hlt, S', (fun b => Zo b ∨ (b = H7.size ∧ b < H8.size)), by
        simp only
        rw [eput]
        exact hM8, fun b hb => (hS' b hb).elim (hS b) (fun h => by have := hf4.size; omega), by
        simp only
        rw [egot]
        exact hA8, fun b hb => hb.elim (fun h => ⟨(hZ b h).1, by have := (hZ b h).2.1; omega, fun hs => hS2 b hs h⟩) (fun h => ⟨by omega, h.2, fun hs => by have := hlt5 b hs; omega⟩)⟩ (by simp only; omega)
    · skip
      have hfd : Pl.fnd OI y (Pl.puts OI (l.take j)) = true := by rw [← Pl.got_isSome, hgo]; rfl
      have hky := got_key hsrt hgo
      -- region 6 (map.go:38)
      refine Go'.region [(0, 0), (1, 0), (2, 1), (3, 0), (4, 1), (5, 2), (6, 0), (7, 0), (8, 0), (9, 0), (10, 0)] rfl ?_
      refine O.mv rfl rfl rfl rfl rfl ?_
      refine O.faz rfl rfl rfl rfl ⟨_, _, _, Go.Proofs.Try.underlying35, rfl, rfl, Go.Proofs.Try.sizeOf3⟩ rfl ?_
      refine O.ld rfl rfl rfl (fun w => ⟨Go.Proofs.Try.isAgg3 w, Go.Proofs.Try.sizeOf3 w⟩) rfl k0 ?_
      refine O.fa0 (off := 1) rfl rfl rfl rfl ⟨_, _, _, Go.Proofs.Try.underlying35, rfl, rfl, Go.Proofs.Try.sizeOf3⟩ rfl ?_
      refine O.ld rfl rfl rfl (fun w => ⟨Go.Proofs.Try.isAgg3 w, Go.Proofs.Try.sizeOf3 w⟩) rfl k1 ?_
      refine O.call rfl rfl rfl Go.Proofs.Try.call56 rfl (mset_spec hP (x := y) hM (by omega)) ?_
      rintro _ H5 ⟨rfl, S', hM', hF', hS'⟩
      rw [hgo, hfd]
      unfold PV
      have hs5 := hF'.size
      replace hA := hA.fr hF' (fun b o hb hb2 hz => (hZ b hb2).2.2 hz)
      replace k0 := hF'.keep k0 (hSn _ (Nat.le_refl _))
      refine ⟨trivial, ?_⟩
      refine O.mv rfl rfl rfl rfl rfl ?_
      refine O.ext rfl rfl rfl rfl rfl rfl ?_
      refine O.ext rfl rfl rfl rfl rfl rfl ?_
      refine O.asg rfl rfl rfl rfl rfl ?_
      refine O.asg rfl rfl rfl rfl rfl ?_
      refine Pl.fin [(6, _), (7, _), (9, _), (10, _), (11, _), (14, _), (15, _), (16, _), (17, _)] ⟨rfl, rfl, rfl, rfl, rfl, rfl, rfl, rfl, rfl, trivial⟩ ?_
      -- region 7 (map.go:39)
      refine Go'.region [(0, 0), (1, 0), (2, 1), (3, 0), (4, 0), (5, 2), (6, 2), (7, 2), (8, 0)] rfl ?_
      refine O.mv rfl rfl rfl rfl rfl ?_
      refine O.faz rfl rfl rfl rfl ⟨_, _, _, Go.Proofs.Try.underlying35, rfl, rfl, Go.Proofs.Try.sizeOf3⟩ rfl ?_
      refine O.ld rfl rfl rfl (fun w => ⟨Go.Proofs.Try.isAgg3 w, Go.Proofs.Try.sizeOf3 w⟩) rfl k0 ?_
      refine O.mv rfl rfl rfl rfl rfl ?_
      refine O.mv rfl rfl rfl rfl rfl ?_
      refine O.call rfl rfl rfl Go.Proofs.Try.call54 rfl (pair_spec (x := (y.1, z.2)) (ok := true)) ?_
      rintro _ H6 ⟨rfl, hF6⟩
      have hs6 := hF6.size
      replace hM' := hM'.fr hF6 (fun _ _ _ => nw)
      replace hA := hA.fr hF6 (fun _ _ _ _ => nw)
      have ez : (y.1, z.2) = z := by rw [hky]
      simp only [ok?, ez]
      refine ⟨trivial, ?_⟩
      refine O.bsl (cs := (fvs (some z))) rfl rfl rfl ⟨Go.Proofs.Try.underlying30, Go.Proofs.Try.sizeOf37, Go.Proofs.Try.zeroValue37, ⟨_, Go.Proofs.Try.typeInfo37, rfl⟩, rfl, by decide, by decide⟩ rfl (by decide) (by kernel_rfl) ?_
      intro H7 M7
      have hs7 := M7.size
      replace hM' := hM'.fr (M7.fr nowhere) (fun _ _ _ => nw)
      replace hA := hA.fr (M7.fr nowhere) (fun _ _ _ _ => nw)
      have m5 : Rd H7 H6.size 0 (row EF [some z]) := M7.rd _ [] (by simp [row, EF, fvs])
      refine ⟨trivial, ?_⟩
      refine O.appA (E := EF) (Y := [some z]) rfl rfl rfl ⟨Go.Proofs.Try.underlying30, Go.Proofs.Try.sizeOf37, Go.Proofs.Try.zeroValue37, ⟨_, Go.Proofs.Try.typeInfo37, rfl⟩, rfl, by decide, by decide⟩ rfl hA rfl ⟨_, _, _, rfl, m5⟩ (Nat.succ_pos _) (by rw [hlout]; exact Nat.le_trans (Nat.mul_le_mul_left _ (Nat.le_of_ble_eq_true (n := _) (m := 4096) rfl)) (by simp only [List.length_cons, List.length_nil]; omega)) (by rw [hlout]; simp only [List.length_cons, List.length_nil]; omega) ?_
      intro v8 H8 hA8 hF8 hs8
      have hS2 : ∀ b, S' b → ¬ Zo b := fun b hb hz => (hS' b hb).elim (hZ b hz).2.2 (fun h => by have := (hZ b hz).2.1; omega)
      have hlt5 : ∀ b, S' b → b < H7.size := hM'.lt
      have hM8 := hM'.fr hF8 (fun b _ hb => hS2 b hb)
      have hg8 := hF8.size
      rw [hgo] at egot
      refine ⟨trivial, ?_⟩
      refine O.asg rfl rfl rfl rfl rfl ?_
      refine Pl.fin [(6, _), (7, _), (9, _), (10, _), (11, _), (14, _), (15, _), (16, _), (17, _)] ⟨rfl, rfl, rfl, rfl, rfl, rfl, rfl, rfl, rfl, trivial⟩ ?_
      refine Go'.inBlock ?_
      -- region 8 (map.go:37)
      refine Go'.region [(0, 0), (1, 0)] rfl ?_
      refine O.add (((j + 1 : Nat) : Int)) rfl rfl rfl rfl rfl rfl (by omega) (by omega) ?_
      refine O.mv rfl rfl rfl rfl rfl ?_
      refine Pl.fin [(6, _), (7, _), (9, _), (10, _), (11, _), (14, _), (15, _), (16, _), (17, _)] ⟨rfl, rfl, rfl, rfl, rfl, rfl, rfl, rfl, rfl, trivial⟩ ?_
      refine Go'.keep [(6, _), (7, _), (14, _), (15, _), (16, _)] ⟨rfl, rfl, rfl, rfl, rfl, trivial⟩ ?_
      refine Go'.inLoop ?_
      exact ih (j + 1, v8) H8 ⟨(((hf4.trans' hF' (fun _ _ _ h => h) (fun b o hb hz => by have h1 := hS b hz; omega)).trans hF6).trans (M7.fr nowhere)).trans' hF8 (fun _ _ _ h => h) (fun b o hb hz => by have h1 := (hZ b hz).1; omega), hlt, S', (fun b => Zo b ∨ (b = H7.size ∧ b < H8.size)), by
        simp only
        rw [eput]
        exact hM8, fun b hb => (hS' b hb).elim (hS b) (fun h => by have := hf4.size; omega), by
        simp only
        rw [egot]
        exact hA8, fun b hb => hb.elim (fun h => ⟨(hZ b h).1, by have := (hZ b h).2.1; omega, fun hs => hS2 b hs h⟩) (fun h => ⟨by omega, h.2, fun hs => by have := hlt5 b hs; omega⟩)⟩ (by simp only; omega)
  · skip
    obtain rfl : j = l.length := by omega
    rw [List.take_length] at hM hA
    -- region 4 (map.go:37)
    refine Go'.region [(0, 0)] rfl ?_
    refine O.cmp rfl rfl rfl rfl rfl rfl (lssF (by omega)) ?_
    refine Pl.fin [(6, _), (7, _), (14, _), (15, _), (16, _), (17, _)] ⟨rfl, rfl, rfl, rfl, rfl, rfl, trivial⟩ ?_
    refine Go'.seq ?_
    refine Go'.condF rfl ?_
    refine Go'.exit rfl ?_
    refine Go'.seq ?_
    -- region 9 (map.go:41)
    refine Go'.region [(0, 0), (1, 0), (2, 2), (3, 0), (4, 0)] rfl ?_
    refine O.mv rfl rfl rfl rfl rfl ?_
    refine O.mv rfl rfl rfl rfl rfl ?_
    refine O.call rfl rfl rfl Go.Proofs.Try.call55 rfl (entries_spec hP hM (by omega)) ?_
    rintro v9 H9 ⟨hv9, hF9⟩
    refine ⟨trivial, ?_⟩
    refine O.asg rfl rfl rfl rfl rfl ?_
    refine O.asg rfl rfl rfl rfl rfl ?_
    refine Pl.fin [(4, _), (5, _)] ⟨rfl, rfl, trivial⟩ ?_
    refine Go'.ret (vs := [_, _]) Go.Proofs.Try.func25 Go.Proofs.Try.results25 ⟨rfl, rfl, trivial⟩ ?_
    exact ⟨_, _, rfl, (hA.fr hF9 (fun _ _ _ _ => nw)).out, hv9, hF.trans hF9⟩

end Go.Bt
namespace Go.Bt
open Go Go.Proofs
set_option maxRecDepth 20000
set_option maxHeartbeats 4000000
set_option linter.unusedVariables false

theorem gset_spec {B : World} {H : Mem} {v u dg nl : Value} {ord : List Int} {l : List (Int × Int)} (ho : InS EN H v ord) (hl : ord.length < 4611686018427387904) (hi : InS EJ H u l) (hll : l.length ≤ 4294967296) :
    Fn Try.prog B 49 [.agg #[v, dg, nl], u] H (fun r H' => ∃ v1 v2, r = .tuple #[v1, v2] ∧ OutS EF H' v1 (Pl.gots (OO ord) l) ∧ OutS EJ H' v2 (Pl.puts (OO ord) l) ∧ Fr nowhere H H') := by
  obtain ⟨a, c, hu⟩ := hi.len
  subst hu
  have hlv := ho.len
  refine fn_of Go.Proofs.Try.func49 rfl Go.Proofs.Try.ntmps49 ?_
  refine (show Go' _ _ _ _ 32 [(0, _), (1, _)] [.code _] _ from ?_)
  refine Go'.seq ?_
  -- region 0 (tree.go:6)
  refine Go'.region [(0, 2), (1, 0), (2, 0)] rfl ?_
  refine O.box rfl rfl rfl rfl ?_
  intro H1 M1
  refine ⟨trivial, ?_⟩
  have hs1 := M1.size
  have hF1 := M1.fr nowhere
  replace ho := ho.fr (M1.fr nowhere)
  replace hi := hi.fr (M1.fr nowhere)
  have mi : cl H1 H.size 0 = some v := (M1.cl 0).trans rfl
  refine O.asg rfl rfl rfl rfl rfl ?_
  refine O.asg rfl rfl rfl rfl rfl ?_
  refine Pl.fin [(1, _), (2, _), (4, _), (5, _)] ⟨rfl, rfl, rfl, rfl, trivial⟩ ?_
  refine Go'.seq ?_
  -- region 1 (tree.go:7)
  refine Go'.region [(0, 0)] rfl ?_
  refine O.asg rfl rfl rfl rfl rfl ?_
  refine Pl.fin [(1, _), (2, _), (4, _), (5, _), (6, _)] ⟨rfl, rfl, rfl, rfl, rfl, trivial⟩ ?_
  refine Go'.seq ?_
  -- region 2 (tree.go:8)
  refine Go'.region [(0, 0)] rfl ?_
  refine O.asg rfl rfl rfl rfl rfl ?_
  refine Pl.fin [(1, _), (2, _), (4, _), (5, _), (6, _), (7, _)] ⟨rfl, rfl, rfl, rfl, rfl, rfl, trivial⟩ ?_
  refine Go'.seq ?_
  refine Go'.seq ?_
  -- region 3 (tree.go:9)
  refine Go'.region [(0, 0), (1, 0), (2, 0)] rfl ?_
  refine O.mv rfl rfl rfl rfl rfl ?_
  refine O.len rfl rfl rfl rfl Go.Proofs.Try.underlying22 rfl ?_
  refine O.mv rfl rfl rfl rfl rfl ?_
  refine Pl.fin [(2, _), (4, _), (5, _), (6, _), (7, _), (11, _), (12, _), (13, _)] ⟨rfl, rfl, rfl, rfl, rfl, rfl, rfl, rfl, trivial⟩ ?_
  refine Go'.block ?_
  refine Go'.loop ?_
  refine Go'.keep [(2, _), (6, _), (7, _), (11, _), (12, _), (13, _)] ⟨rfl, rfl, rfl, rfl, rfl, rfl, trivial⟩ ?_
  refine Go'.ind (σ := Nat × Value × Value × (Nat → Prop)) (fun s => l.length - s.1) (fun s H' => Fr nowhere H1 H' ∧ s.1 ≤ l.length ∧ Acc EF s.2.2.2 H' s.2.1 (Pl.gots (OO ord) (l.take s.1)) ∧ Acc EJ (fun b => ¬ s.2.2.2 b) H' s.2.2.1 (Pl.puts (OO ord) (l.take s.1)) ∧ ∀ b, s.2.2.2 b → H1.size ≤ b ∧ b < H'.size)
    (fun s => [(2, .pointer (some ⟨H.size, 0, none⟩)), (6, s.2.1), (7, s.2.2.1), (11, .slice a l.length c), (12, .int .i64 (l.length : Int)), (13, .int .i64 (s.1 : Int))]) (0, .slice none 0 0, .slice none 0 0, fun _ => False) ⟨Fr.refl _ _, Nat.zero_le _, Acc.nil _ _ _, Acc.nil _ _ _, fun _ h => h.elim⟩ rfl ?_
  rintro ⟨j, sv, iv, Zo⟩ H2 ⟨hF, hjl, hA, hB, hZ⟩ ih
  simp only at hjl hA hB hZ
  have ho2 := ho.fr hF
  have hi2 := hi.fr hF
  have mi2 := hF.keep mi nw
  refine Go'.seq ?_
  by_cases hlt : j < l.length
  · skip
    obtain ⟨y, hy⟩ : ∃ y, l[j]? = some y := ⟨l[j], List.getElem?_eq_getElem hlt⟩
    obtain ⟨b, o, c', e, hr⟩ := hi2.at hy
    cases e
    have hpl := Pl.puts_length (OO ord) (l.take j)
    have hlout := Pl.gots_length (OO ord) (l.take j)
    have hsz := hF.size
    have eput : Pl.puts (OO ord) (l.take (j + 1)) = Pl.put (OO ord) y (Pl.puts (OO ord) (l.take j)) := by rw [List.take_add_one, hy]; exact Pl.puts_snoc _ _ _
    have egot : Pl.gots (OO ord) (l.take (j + 1)) = Pl.gots (OO ord) (l.take j) ++ [Pl.got (OO ord) y (Pl.puts (OO ord) (l.take j))] := by rw [List.take_add_one, hy]; exact Pl.gots_snoc _ _ _
    rw [List.length_take] at hpl hlout
    -- region 4 (tree.go:9)
    refine Go'.region [(0, 0)] rfl ?_
    refine O.cmp rfl rfl rfl rfl rfl rfl (lssT (by omega)) ?_
    refine Pl.fin [(2, _), (6, _), (7, _), (11, _), (12, _), (13, _), (14, _)] ⟨rfl, rfl, rfl, rfl, rfl, rfl, rfl, trivial⟩ ?_
    refine Go'.seq ?_
    refine Go'.condT rfl ?_
    refine Go'.skip ?_
    refine Go'.seq ?_
    refine Go'.block ?_
    refine Go'.seq ?_
    -- region 5 (tree.go:9)
    refine Go'.region [(0, 0), (1, 1), (2, 2), (3, 2)] rfl ?_
    refine O.ix (j := j) rfl rfl rfl rfl Go.Proofs.Try.underlying22 Go.Proofs.Try.sizeOf35 rfl rfl (by omega) hlt ?_
    refine O.lds rfl rfl rfl (fun w => ⟨Go.Proofs.Try.isAgg35 w, Go.Proofs.Try.sizeOf35 w⟩) rfl rfl hr ?_
    refine O.alloc rfl rfl rfl Go.Proofs.Try.zeroValue35 ?_
    intro H3 M3
    refine ⟨trivial, ?_⟩
    have hs3 := M3.size
    have m7 : Wr H3 H2.size 0 2 := M3.wr 2 (by decide)
    refine O.st rfl rfl Go.Proofs.Try.sizeOf35 rfl rfl rfl rfl rfl m7 ?_
    intro H4 W4
    have hs4 := W4.size
    have hf4 : Fr nowhere H2 H4 := (M3.fr nowhere).trans' W4.fr (fun _ _ _ h => h) (fun b o hb hz => by have h1 := hz.1; omega)
    have ho4 := ho2.fr hf4
    have mi4 := hf4.keep mi2 nw
    have hx4 : Rd H4 H2.size 0 (EJ.enc y) := W4.all
    refine ⟨trivial, ?_⟩
    refine Pl.fin [(2, _), (6, _), (7, _), (9, _), (11, _), (12, _), (13, _), (14, _)] ⟨rfl, rfl, rfl, rfl, rfl, rfl, rfl, rfl, trivial⟩ ?_
    refine Go'.seq ?_
    -- region 6 (tree.go:10)
    refine Go'.region [(0, 2)] rfl ?_
    refine O.alloc rfl rfl rfl Go.Proofs.Try.zeroValue37 ?_
    intro H5 M5
    refine ⟨trivial, ?_⟩
    have hs5 := M5.size
    replace ho4 := ho4.fr (M5.fr nowhere)
    replace mi4 := M5.keep mi4
    replace hx4 := (M5.fr nowhere).rd hx4 (fun _ _ => nw)
    have hf5 : Fr nowhere H2 H5 := hf4.trans (M5.fr nowhere)
    have hA5 := hA.fr hf5 (fun _ _ _ _ => nw)
    have hB5 := hB.fr hf5 (fun _ _ _ _ => nw)
    have m10 : Wr H5 H4.size 0 3 := M5.wr 3 (by decide)
    refine Pl.fin [(2, _), (6, _), (7, _), (9, _), (10, _), (11, _), (12, _), (13, _), (14, _)] ⟨rfl, rfl, rfl, rfl, rfl, rfl, rfl, rfl, rfl, trivial⟩ ?_
    refine Go'.seq ?_
    rcases hgo : Pl.got (OO ord) y (Pl.puts (OO ord) (l.take j)) with _ | z
    · skip
      -- region 7 (tree.go:11)
      refine Go'.region [(0, 0), (1, 1), (2, 0), (3, 1), (4, 2), (5, 0), (6, 0), (7, 0), (8, 0), (9, 2)] rfl ?_
      refine O.faz rfl rfl rfl rfl ⟨_, _, _, Go.Proofs.Try.underlying58, rfl, rfl, Go.Proofs.Try.sizeOf39⟩ rfl ?_
      refine O.ld rfl rfl rfl (fun w => ⟨Go.Proofs.Try.isAgg39 w, Go.Proofs.Try.sizeOf39 w⟩) rfl mi4 ?_
      refine O.mv rfl rfl rfl rfl rfl ?_
      refine O.lds rfl rfl rfl (fun w => ⟨Go.Proofs.Try.isAgg35 w, Go.Proofs.Try.sizeOf35 w⟩) rfl rfl hx4 ?_
      refine O.call rfl rfl rfl Go.Proofs.Try.call79 rfl (put_specA ho4 hl hB5.inS (Pl.puts_srt _ _) (by omega)) ?_
      rintro _ H6 ⟨iv2, rfl, hB6, hF6⟩
      rw [hgo]
      unfold FV
      have hs6 := hF6.size
      replace m10 := hF6.wr m10
      have hA6 := hA5.fr hF6 (fun _ _ _ _ => nw)
      refine ⟨trivial, ?_⟩
      refine O.mv rfl rfl rfl rfl rfl ?_
      refine O.ext rfl rfl rfl rfl rfl rfl ?_
      refine O.ext rfl rfl rfl rfl rfl rfl ?_
      refine O.asg rfl rfl rfl rfl rfl ?_
      refine O.st (vs := (fvs none)) rfl rfl Go.Proofs.Try.sizeOf37 rfl rfl rfl rfl rfl m10 ?_
      intro H7 W7
      have hs7 := W7.size
      have hA7 := hA6.fr W7.fr (fun b o hb hz hr => by have h1 := hr.1; have h2 := hZ b hz; omega)
      have hB7 := hB6.fr W7.fr (fun b o hb hz hr => by have h1 := hr.1; omega)
      have hx7 : Rd H7 H4.size 0 (fvs none) := W7.all
      have hf7 : Fr nowhere H2 H7 := (hf5.trans hF6).trans' W7.fr (fun _ _ _ h => h) (fun b o hb hz => by have h1 := hz.1; omega)
      refine ⟨trivial, ?_⟩
      refine Pl.fin [(2, _), (6, _), (7, _), (9, _), (10, _), (11, _), (12, _), (13, _), (14, _)] ⟨rfl, rfl, rfl, rfl, rfl, rfl, rfl, rfl, rfl, trivial⟩ ?_
      -- region 8 (tree.go:12)
      refine Go'.region [(0, 0), (1, 1), (2, 2), (3, 2), (4, 0)] rfl ?_
      refine O.mv rfl rfl rfl rfl rfl ?_
      refine O.lds rfl rfl rfl (fun w => ⟨Go.Proofs.Try.isAgg37 w, Go.Proofs.Try.sizeOf37 w⟩) rfl rfl hx7 ?_
      refine O.bsl (cs := (fvs none)) rfl rfl rfl ⟨Go.Proofs.Try.underlying30, Go.Proofs.Try.sizeOf37, Go.Proofs.Try.zeroValue37, ⟨_, Go.Proofs.Try.typeInfo37, rfl⟩, rfl, by decide, by decide⟩ rfl (by decide) (by kernel_rfl) ?_
      intro H8 M8
      have hs8 := M8.size
      have hA8 := hA7.fr (M8.fr nowhere) (fun _ _ _ _ => nw)
      have hB8 := hB7.fr (M8.fr nowhere) (fun _ _ _ _ => nw)
      have m5 : Rd H8 H7.size 0 (row EF [none]) := M8.rd _ [] (by simp [row, EF, fvs])
      refine ⟨trivial, ?_⟩
      refine O.appA (E := EF) (Y := [none]) rfl rfl rfl ⟨Go.Proofs.Try.underlying30, Go.Proofs.Try.sizeOf37, Go.Proofs.Try.zeroValue37, ⟨_, Go.Proofs.Try.typeInfo37, rfl⟩, rfl, by decide, by decide⟩ rfl hA8 rfl ⟨_, _, _, rfl, m5⟩ (Nat.succ_pos _) (by rw [hlout]; exact Nat.le_trans (Nat.mul_le_mul_left _ (Nat.le_of_ble_eq_true (n := _) (m := 4096) rfl)) (by simp only [List.length_cons, List.length_nil]; omega)) (by rw [hlout]; simp only [List.length_cons, List.length_nil]; omega) ?_
      intro v9 H9 hA9 hF9 hs9
      have hB9 := hB8.fr hF9 (fun b o hb hz hr => by have h1 := hZ b hr; omega)
      have hg9 := hF9.size
      rw [hgo] at egot
      refine ⟨trivial, ?_⟩
      refine O.asg rfl rfl rfl rfl rfl ?_
      refine Pl.fin [(2, _), (6, _), (7, _), (9, _), (10, _), (11, _), (12, _), (13, _), (14, _)] ⟨rfl, rfl, rfl, rfl, rfl, rfl, rfl, rfl, rfl, trivial⟩ ?_
      refine Go'.inBlock ?_
      -- region 9 (tree.go:9)
      refine Go'.region [(0, 0), (1, 0)] rfl ?_
      refine O.add (((j + 1 : Nat) : Int)) rfl rfl rfl rfl rfl rfl (by omega) (by omega) ?_
      refine O.mv rfl rfl rfl rfl rfl ?_
      refine Pl.fin [(2, _), (6, _), (7, _), (9, _), (10, _), (11, _), (12, _), (13, _), (14, _)] ⟨rfl, rfl, rfl, rfl, rfl, rfl, rfl, rfl, rfl, trivial⟩ ?_
      refine Go'.keep [(2, _), (6, _), (7, _), (11, _), (12, _), (13, _)] ⟨rfl, rfl, rfl, rfl, rfl, rfl, trivial⟩ ?_
      refine Go'.inLoop ?_
      refine ih (j + 1, v9, iv2, fun b => Zo b ∨ (b = H8.size ∧ b < H9.size)) H9 ⟨((hF.trans hf7).trans (M8.fr nowhere)).trans' hF9 (fun _ _ _ h => h) (fun b o hb hz => by have h1 := (hZ b hz).1; omega), hlt, ?_, ?_, fun b hb => hb.elim (fun h => ⟨(hZ b h).1, by have := (hZ b h).2; omega⟩) (fun h => ⟨by omega, h.2⟩)⟩ (by simp only; omega)
      · simp only
        rw [egot]
        exact hA9
      · simp only
        rw [eput]
        exact (hB8.mono (Y := fun b => ¬ Zo b ∧ b < H8.size) (fun b hb hz => ⟨fun h => by have := hZ b h; omega, hb⟩)).fr hF9 (fun b o hb hz hr => hz.1 hr) |>.mono (fun b hb hz h => h.elim hz.1 (fun h => by have := hz.2; omega))
    · skip
      -- region 7 (tree.go:11)
      refine Go'.region [(0, 0), (1, 1), (2, 0), (3, 1), (4, 2), (5, 0), (6, 0), (7, 0), (8, 0), (9, 2)] rfl ?_
      refine O.faz rfl rfl rfl rfl ⟨_, _, _, Go.Proofs.Try.underlying58, rfl, rfl, Go.Proofs.Try.sizeOf39⟩ rfl ?_
      refine O.ld rfl rfl rfl (fun w => ⟨Go.Proofs.Try.isAgg39 w, Go.Proofs.Try.sizeOf39 w⟩) rfl mi4 ?_
      refine O.mv rfl rfl rfl rfl rfl ?_
      refine O.lds rfl rfl rfl (fun w => ⟨Go.Proofs.Try.isAgg35 w, Go.Proofs.Try.sizeOf35 w⟩) rfl rfl hx4 ?_
      refine O.call rfl rfl rfl Go.Proofs.Try.call79 rfl (put_specA ho4 hl hB5.inS (Pl.puts_srt _ _) (by omega)) ?_
      rintro _ H6 ⟨iv2, rfl, hB6, hF6⟩
      rw [hgo]
      unfold FV
      have hs6 := hF6.size
      replace m10 := hF6.wr m10
      have hA6 := hA5.fr hF6 (fun _ _ _ _ => nw)
      refine ⟨trivial, ?_⟩
      refine O.mv rfl rfl rfl rfl rfl ?_
      refine O.ext rfl rfl rfl rfl rfl rfl ?_
      refine O.ext rfl rfl rfl rfl rfl rfl ?_
      refine O.asg rfl rfl rfl rfl rfl ?_
      refine O.st (vs := (fvs (some z))) rfl rfl Go.Proofs.Try.sizeOf37 rfl rfl rfl rfl rfl m10 ?_
      intro H7 W7
      have hs7 := W7.size
      have hA7 := hA6.fr W7.fr (fun b o hb hz hr => by have h1 := hr.1; have h2 := hZ b hz; omega)
      have hB7 := hB6.fr W7.fr (fun b o hb hz hr => by have h1 := hr.1; omega)
      have hx7 : Rd H7 H4.size 0 (fvs (some z)) := W7.all
      have hf7 : Fr nowhere H2 H7 := (hf5.trans hF6).trans' W7.fr (fun _ _ _ h => h) (fun b o hb hz => by have h1 := hz.1; omega)
      refine ⟨trivial, ?_⟩
      refine Pl.fin [(2, _), (6, _), (7, _), (9, _), (10, _), (11, _), (12, _), (13, _), (14, _)] ⟨rfl, rfl, rfl, rfl, rfl, rfl, rfl, rfl, rfl, trivial⟩ ?_
      -- region 8 (tree.go:12)
      refine Go'.region [(0, 0), (1, 1), (2, 2), (3, 2), (4, 0)] rfl ?_
      refine O.mv rfl rfl rfl rfl rfl ?_
      refine O.lds rfl rfl rfl (fun w => ⟨Go.Proofs.Try.isAgg37 w, Go.Proofs.Try.sizeOf37 w⟩) rfl rfl hx7 ?_
      refine O.bsl (cs := (fvs (some z))) rfl rfl rfl ⟨Go.Proofs.Try.underlying30, Go.Proofs.Try.sizeOf37, Go.Proofs.Try.zeroValue37, ⟨_, Go.Proofs.Try.typeInfo37, rfl⟩, rfl, by decide, by decide⟩ rfl (by decide) (by kernel_rfl) ?_
      intro H8 M8
      have hs8 := M8.size
      have hA8 := hA7.fr (M8.fr nowhere) (fun _ _ _ _ => nw)
      have hB8 := hB7.fr (M8.fr nowhere) (fun _ _ _ _ => nw)
      have m5 : Rd H8 H7.size 0 (row EF [(some z)]) := M8.rd _ [] (by simp [row, EF, fvs])
      refine ⟨trivial, ?_⟩
      refine O.appA (E := EF) (Y := [(some z)]) rfl rfl rfl ⟨Go.Proofs.Try.underlying30, Go.Proofs.Try.sizeOf37, Go.Proofs.Try.zeroValue37, ⟨_, Go.Proofs.Try.typeInfo37, rfl⟩, rfl, by decide, by decide⟩ rfl hA8 rfl ⟨_, _, _, rfl, m5⟩ (Nat.succ_pos _) (by rw [hlout]; exact Nat.le_trans (Nat.mul_le_mul_left _ (Nat.le_of_ble_eq_true (n := _) (m := 4096) rfl)) (by simp only [List.length_cons, List.length_nil]; omega)) (by rw [hlout]; simp only [List.length_cons, List.length_nil]; omega) ?_
      intro v9 H9 hA9 hF9 hs9
      have hB9 := hB8.fr hF9 (fun b o hb hz hr => by have h1 := hZ b hr; omega)
      have hg9 := hF9.size
      rw [hgo] at egot
      refine ⟨trivial, ?_⟩
      refine O.asg rfl rfl rfl rfl rfl ?_
      refine Pl.fin [(2, _), (6, _), (7, _), (9, _), (10, _), (11, _), (12, _), (13, _), (14, _)] ⟨rfl, rfl, rfl, rfl, rfl, rfl, rfl, rfl, rfl, trivial⟩ ?_
      refine Go'.inBlock ?_
      -- region 9 (tree.go:9)
      refine Go'.region [(0, 0), (1, 0)] rfl ?_
      refine O.add (((j + 1 : Nat) : Int)) rfl rfl rfl rfl rfl rfl (by omega) (by omega) ?_
      refine O.mv rfl rfl rfl rfl rfl ?_
      refine Pl.fin [(2, _), (6, _), (7, _), (9, _), (10, _), (11, _), (12, _), (13, _), (14, _)] ⟨rfl, rfl, rfl, rfl, rfl, rfl, rfl, rfl, rfl, trivial⟩ ?_
      refine Go'.keep [(2, _), (6, _), (7, _), (11, _), (12, _), (13, _)] ⟨rfl, rfl, rfl, rfl, rfl, rfl, trivial⟩ ?_
      refine Go'.inLoop ?_
      refine ih (j + 1, v9, iv2, fun b => Zo b ∨ (b = H8.size ∧ b < H9.size)) H9 ⟨((hF.trans hf7).trans (M8.fr nowhere)).trans' hF9 (fun _ _ _ h => h) (fun b o hb hz => by have h1 := (hZ b hz).1; omega), hlt, ?_, ?_, fun b hb => hb.elim (fun h => ⟨(hZ b h).1, by have := (hZ b h).2; omega⟩) (fun h => ⟨by omega, h.2⟩)⟩ (by simp only; omega)
      · simp only
        rw [egot]
        exact hA9
      · simp only
        rw [eput]
        exact (hB8.mono (Y := fun b => ¬ Zo b ∧ b < H8.size) (fun b hb hz => ⟨fun h => by have := hZ b h; omega, hb⟩)).fr hF9 (fun b o hb hz hr => hz.1 hr) |>.mono (fun b hb hz h => h.elim hz.1 (fun h => by have := hz.2; omega))
  · skip
    obtain rfl : j = l.length := by omega
    rw [List.take_length] at hA hB
    -- region 4 (tree.go:9)
    refine Go'.region [(0, 0)] rfl ?_
    refine O.cmp rfl rfl rfl rfl rfl rfl (lssF (by omega)) ?_
    refine Pl.fin [(2, _), (6, _), (7, _), (11, _), (12, _), (13, _), (14, _)] ⟨rfl, rfl, rfl, rfl, rfl, rfl, rfl, trivial⟩ ?_
    refine Go'.seq ?_
    refine Go'.condF rfl ?_
    refine Go'.exit rfl ?_
    refine Go'.seq ?_
    -- region 10 (tree.go:14)
    refine Go'.region [(0, 0), (1, 0), (2, 0), (3, 0)] rfl ?_
    refine O.mv rfl rfl rfl rfl rfl ?_
    refine O.mv rfl rfl rfl rfl rfl ?_
    refine O.asg rfl rfl rfl rfl rfl ?_
    refine O.asg rfl rfl rfl rfl rfl ?_
    refine Pl.fin [(4, _), (5, _)] ⟨rfl, rfl, trivial⟩ ?_
    refine Go'.ret (vs := [_, _]) Go.Proofs.Try.func49 Go.Proofs.Try.results49 ⟨rfl, rfl, trivial⟩ ?_
    exact ⟨_, _, rfl, hA.out, hB.out, hF1.trans hF⟩

theorem found_neq (o : Option (Int × Int)) (a b : Operand) (w : World) : (eqGuard .neq 37 a b (.agg (fvs o).toArray) (.agg (fvs o).toArray)).run Try.prog w = .ok () w ∧ (binOp .neq 37 (.agg (fvs o).toArray) (.agg (fvs o).toArray)).run Try.prog w = .ok (.bool false) w := by
  refine ⟨run_eqGuard_agg w _ _ _ _ _ _ Try.eqGuardType37, ?_⟩
  rw [run_neq_struct]
  have h := (found_eq o a b w).2
  rw [run_eql_struct] at h
  have h2 : (Op.equalIn 10000 37 (.agg (fvs o).toArray) (.agg (fvs o).toArray)).run Try.prog w = .ok true w := by
    cases hh : (Op.equalIn 10000 37 (.agg (fvs o).toArray) (.agg (fvs o).toArray)).run Try.prog w with
    | ok x w2 => rw [hh] at h; simp [Result.andThen] at h; obtain ⟨h1, h2⟩ := h; rw [h1, h2]
    | _ => rw [hh] at h; simp [Result.andThen] at h
  rw [h2]; rfl

theorem eqFounds_spec {B : World} {H : Mem} {u v : Value} {l : List (Option (Int × Int))} (hu : InS EF H u l) (hv : InS EF H v l) (hll : l.length ≤ 4294967296) :
    Fn Try.prog B 26 [u, v] H (fun r H' => r = .bool true ∧ H' = H) := by
  obtain ⟨a, c, e⟩ := hu.len
  subst e
  obtain ⟨a', c', e⟩ := hv.len
  subst e
  refine fn_of Go.Proofs.Try.func26 rfl Go.Proofs.Try.ntmps26 ?_
  refine (show Go' _ _ _ _ 26 [(0, _), (1, _)] [.code _] _ from ?_)
  refine Go'.seq ?_
  -- region 0 (slices.go:20)
  refine Go'.region [(0, 0)] rfl ?_
  refine O.asg rfl rfl rfl rfl rfl ?_
  refine Pl.fin [(0, _), (1, _), (4, _)] ⟨rfl, rfl, rfl, trivial⟩ ?_
  refine Go'.seq ?_
  refine Go'.seq ?_
  -- region 1 (slices.go:21)
  refine Go'.region [(0, 0), (1, 0), (2, 0), (3, 0), (4, 0)] rfl ?_
  refine O.mv rfl rfl rfl rfl rfl ?_
  refine O.len rfl rfl rfl rfl Go.Proofs.Try.underlying30 rfl ?_
  refine O.mv rfl rfl rfl rfl rfl ?_
  refine O.len rfl rfl rfl rfl Go.Proofs.Try.underlying30 rfl ?_
  refine O.cmp rfl rfl rfl rfl rfl rfl (neqF (by omega)) ?_
  refine Pl.fin [(0, _), (1, _), (4, _), (10, _)] ⟨rfl, rfl, rfl, rfl, trivial⟩ ?_
  refine Go'.condF rfl ?_
  refine Go'.skip ?_
  refine Go'.seq ?_
  refine Go'.seq ?_
  -- region 3 (slices.go:24)
  refine Go'.region [(0, 0), (1, 0), (2, 0)] rfl ?_
  refine O.mv rfl rfl rfl rfl rfl ?_
  refine O.len rfl rfl rfl rfl Go.Proofs.Try.underlying30 rfl ?_
  refine O.mv rfl rfl rfl rfl rfl ?_
  refine Pl.fin [(0, _), (1, _), (4, _), (12, _), (13, _)] ⟨rfl, rfl, rfl, rfl, rfl, trivial⟩ ?_
  refine Go'.block ?_
  refine Go'.loop ?_
  refine Go'.keep [(0, _), (1, _), (4, _), (12, _), (13, _)] ⟨rfl, rfl, rfl, rfl, rfl, trivial⟩ ?_
  refine Go'.ind (σ := Nat) (fun j => l.length - j) (fun j H' => H' = H ∧ j ≤ l.length)
    (fun j => [(0, .slice a l.length c), (1, .slice a' l.length c'), (4, .bool false), (12, .int .i64 (l.length : Int)), (13, .int .i64 (j : Int))]) 0 ⟨rfl, Nat.zero_le _⟩ rfl ?_
  rintro j H2 ⟨hHH, hjl⟩ ih
  have eH : H = H2 := hHH.symm
  subst eH
  clear hHH
  refine Go'.seq ?_
  by_cases hlt : j < l.length
  · skip
    obtain ⟨y, hy⟩ : ∃ y, l[j]? = some y := ⟨l[j], List.getElem?_eq_getElem hlt⟩
    obtain ⟨b, o, cc, e, hr⟩ := hu.at hy
    cases e
    obtain ⟨b', o', cc', e, hr'⟩ := hv.at hy
    cases e
    -- region 4 (slices.go:24)
    refine Go'.region [(0, 0)] rfl ?_
    refine O.cmp rfl rfl rfl rfl rfl rfl (lssT (by omega)) ?_
    refine Pl.fin [(0, _), (1, _), (4, _), (12, _), (13, _), (14, _)] ⟨rfl, rfl, rfl, rfl, rfl, rfl, trivial⟩ ?_
    refine Go'.seq ?_
    refine Go'.condT rfl ?_
    refine Go'.skip ?_
    refine Go'.seq ?_
    refine Go'.block ?_
    refine Go'.seq ?_
    -- region 5 (slices.go:24)
    refine Go'.region [(0, 0), (1, 0)] rfl ?_
    refine O.mv rfl rfl rfl rfl rfl ?_
    refine O.asg rfl rfl rfl rfl rfl ?_
    refine Pl.fin [(0, _), (1, _), (4, _), (5, _), (12, _), (13, _), (14, _)] ⟨rfl, rfl, rfl, rfl, rfl, rfl, rfl, trivial⟩ ?_
    refine Go'.seq ?_
    -- region 6 (slices.go:25)
    refine Go'.draw (fun _ => True) [(0, 0), (1, 0), (2, 0), (3, 1), (4, 0), (5, 0), (6, 0), (7, 1), (8, 0)] (by kernel_rfl) (by kernel_rfl) (trivial) ?_
    refine O.mv rfl rfl rfl rfl rfl ?_
    refine O.mv rfl rfl rfl rfl rfl ?_
    refine O.ix (j := j) rfl rfl rfl rfl Go.Proofs.Try.underlying30 Go.Proofs.Try.sizeOf37 rfl rfl (by omega) hlt ?_
    refine O.lds rfl rfl rfl (fun w => ⟨Go.Proofs.Try.isAgg37 w, Go.Proofs.Try.sizeOf37 w⟩) rfl (by cases y <;> rfl) hr ?_
    refine O.mv rfl rfl rfl rfl rfl ?_
    refine O.mv rfl rfl rfl rfl rfl ?_
    refine O.ix (j := j) rfl rfl rfl rfl Go.Proofs.Try.underlying30 Go.Proofs.Try.sizeOf37 rfl rfl (by omega) hlt ?_
    refine O.lds rfl rfl rfl (fun w => ⟨Go.Proofs.Try.isAgg37 w, Go.Proofs.Try.sizeOf37 w⟩) rfl (by cases y <;> rfl) hr' ?_
    refine O.bin rfl rfl rfl rfl rfl rfl (found_neq y _ _) ?_
    refine Pl.fin [(0, _), (1, _), (4, _), (5, _), (12, _), (13, _), (14, _), (24, _)] ⟨rfl, rfl, rfl, rfl, rfl, rfl, rfl, rfl, trivial⟩ ?_
    refine Go'.condF rfl ?_
    refine Go'.skip ?_
    refine Go'.inBlock ?_
    -- region 8 (slices.go:24)
    refine Go'.region [(0, 0), (1, 0)] rfl ?_
    refine O.add (((j + 1 : Nat) : Int)) rfl rfl rfl rfl rfl rfl (by omega) (by omega) ?_
    refine O.mv rfl rfl rfl rfl rfl ?_
    refine Pl.fin [(0, _), (1, _), (4, _), (5, _), (12, _), (13, _), (14, _), (24, _)] ⟨rfl, rfl, rfl, rfl, rfl, rfl, rfl, rfl, trivial⟩ ?_
    refine Go'.keep [(0, _), (1, _), (4, _), (12, _), (13, _)] ⟨rfl, rfl, rfl, rfl, rfl, trivial⟩ ?_
    refine Go'.inLoop ?_
    exact ih (j + 1) H ⟨rfl, hlt⟩ (by omega)
  · skip
    -- region 4 (slices.go:24)
    refine Go'.region [(0, 0)] rfl ?_
    refine O.cmp rfl rfl rfl rfl rfl rfl (lssF (by omega)) ?_
    refine Pl.fin [(0, _), (1, _), (4, _), (12, _), (13, _), (14, _)] ⟨rfl, rfl, rfl, rfl, rfl, rfl, trivial⟩ ?_
    refine Go'.seq ?_
    refine Go'.condF rfl ?_
    refine Go'.exit rfl ?_
    refine Go'.seq ?_
    -- region 9 (slices.go:29)
    refine Go'.region [(0, 0)] rfl ?_
    refine O.asg rfl rfl rfl rfl rfl ?_
    refine Pl.fin [(4, _)] ⟨rfl, trivial⟩ ?_
    refine Go'.ret (vs := [_]) Go.Proofs.Try.func26 Go.Proofs.Try.results26 ⟨rfl, trivial⟩ ?_
    exact ⟨rfl, rfl⟩

theorem lawMSet_spec {B : World} {H : Mem} {d : Nat} {u : Value} {l : List (Int × Int)} (hd : 2 ≤ d ∧ d ≤ 128) (hi : InS EJ H u l) (hll : l.length ≤ 4294967296) :
    Fn Try.prog B 19 [.int .i64 (d : Int), u] H (fun r H' => r = .bool true ∧ Fr nowhere H H') := by
  have hpl := Pl.puts_length OI l
  have hgl := Pl.gots_length OI l
  refine fn_of Go.Proofs.Try.func19 rfl Go.Proofs.Try.ntmps19 ?_
  refine (show Go' _ _ _ _ 29 [(0, _), (1, _)] [.code _] _ from ?_)
  refine Go'.seq ?_
  -- region 0 (exact.go:1122)
  refine Go'.region [(0, 0)] rfl ?_
  refine O.asg rfl rfl rfl rfl rfl ?_
  refine Pl.fin [(0, _), (1, _), (4, _)] ⟨rfl, rfl, rfl, trivial⟩ ?_
  refine Go'.seq ?_
  -- region 1 (exact.go:1123)
  refine Go'.region [(0, 0), (1, 0), (2, 2), (3, 0), (4, 0), (5, 0), (6, 0), (7, 0)] rfl ?_
  refine O.mv rfl rfl rfl rfl rfl ?_
  refine O.mv rfl rfl rfl rfl rfl ?_
  refine O.call rfl rfl rfl Go.Proofs.Try.call25 rfl (msets_spec hd hi hll) ?_
  rintro _ H1 ⟨v1, v2, rfl, h1, h2, hF1⟩
  refine ⟨trivial, ?_⟩
  refine O.mv rfl rfl rfl rfl rfl ?_
  refine O.ext rfl rfl rfl rfl rfl rfl ?_
  refine O.ext rfl rfl rfl rfl rfl rfl ?_
  refine O.asg rfl rfl rfl rfl rfl ?_
  refine O.asg rfl rfl rfl rfl rfl ?_
  refine Pl.fin [(1, _), (4, _), (5, _), (6, _)] ⟨rfl, rfl, rfl, rfl, trivial⟩ ?_
  refine Go'.seq ?_
  -- region 2 (exact.go:1124)
  refine Go'.region [(0, 0), (1, 0), (2, 2), (3, 0), (4, 0), (5, 0), (6, 0), (7, 0)] rfl ?_
  refine O.bld (cs := [.slice none 0 0, .int .i64 0, .bool false]) rfl rfl rfl rfl (st58) rfl (by kernel_rfl) ?_
  refine O.mv rfl rfl rfl rfl rfl ?_
  refine O.call rfl rfl rfl Go.Proofs.Try.call49 rfl (gset_spec (ord := []) (InS.nil EN H1) (by simp) (hi.fr hF1) hll) ?_
  rintro _ H2 ⟨v3, v4, rfl, h3, h4, hF2⟩
  rw [OO_nil] at h3 h4
  refine ⟨trivial, ?_⟩
  refine O.mv rfl rfl rfl rfl rfl ?_
  refine O.ext rfl rfl rfl rfl rfl rfl ?_
  refine O.ext rfl rfl rfl rfl rfl rfl ?_
  refine O.asg rfl rfl rfl rfl rfl ?_
  refine O.asg rfl rfl rfl rfl rfl ?_
  refine Pl.fin [(4, _), (5, _), (6, _), (7, _), (8, _)] ⟨rfl, rfl, rfl, rfl, rfl, trivial⟩ ?_
  refine Go'.seq ?_
  -- region 3 (exact.go:1125)
  refine Go'.region [(0, 0), (1, 0), (2, 2), (3, 0), (4, 0), (5, 0), (6, 2), (7, 0), (8, 0)] rfl ?_
  refine O.mv rfl rfl rfl rfl rfl ?_
  refine O.mv rfl rfl rfl rfl rfl ?_
  refine O.callQ rfl rfl rfl Go.Proofs.Try.call26 rfl (eqFounds_spec (h1.inS.fr hF2) h3.inS (by omega)) trivial ?_
  refine O.mv rfl rfl rfl rfl rfl ?_
  refine O.mv rfl rfl rfl rfl rfl ?_
  refine O.mv rfl rfl rfl rfl rfl ?_
  refine O.callQ rfl rfl rfl Go.Proofs.Try.call27 rfl (eqItems_spec (h2.inS.fr hF2) h4.inS (by omega)) trivial ?_
  refine O.pick rfl rfl rfl rfl rfl rfl ?_
  refine O.asg rfl rfl rfl rfl rfl ?_
  refine Pl.fin [(4, _)] ⟨rfl, trivial⟩ ?_
  refine Go'.ret (vs := [_]) Go.Proofs.Try.func19 Go.Proofs.Try.results19 ⟨rfl, trivial⟩ ?_
  exact ⟨rfl, hF1.trans hF2⟩

theorem fnExactMSet {B : World} {H : Mem} {z : Int} {u : Value} {l : List (Int × Int)} (hi : InS EJ H u l) :
    Fn Try.prog B 6 [.int .i64 z, u] H (fun r H' => r = .bool true ∧ Fr nowhere H H') := by
  obtain ⟨a, c, hu⟩ := hi.len
  subst hu
  have hi0 := hi
  refine fn_of Go.Proofs.Try.func6 rfl Go.Proofs.Try.ntmps6 ?_
  refine (show Go' _ _ _ _ 24 [(0, _), (1, _)] [.code _] _ from ?_)
  refine Go'.seq ?_
  -- region 0 (exact.go:1115)
  refine Go'.region [(0, 0)] rfl ?_
  refine O.asg rfl rfl rfl rfl rfl ?_
  refine Pl.fin [(0, _), (1, _), (4, _)] ⟨rfl, rfl, rfl, trivial⟩ ?_
  refine Go'.seq ?_
  refine Go'.seq ?_
  by_cases hbig : (2147483647 : Int) < (l.length : Int)
  · skip
    -- region 1 (exact.go:1116)
    refine Go'.region [(0, 0), (1, 0), (2, 0)] rfl ?_
    refine O.mv rfl rfl rfl rfl rfl ?_
    refine O.len rfl rfl rfl rfl Go.Proofs.Try.underlying22 rfl ?_
    refine O.cmp rfl rfl rfl rfl rfl rfl (gtrT (by omega)) ?_
    refine Pl.fin [(0, _), (1, _), (4, _), (7, _)] ⟨rfl, rfl, rfl, rfl, trivial⟩ ?_
    refine Go'.condT rfl ?_
    refine Go'.seq ?_
    -- region 2 (exact.go:1117)
    refine Go'.region [(0, 0)] rfl ?_
    refine O.asg rfl rfl rfl rfl rfl ?_
    refine Pl.fin [(0, _), (1, _), (4, _)] ⟨rfl, rfl, rfl, trivial⟩ ?_
    refine Go'.ret (vs := [_]) Go.Proofs.Try.func6 Go.Proofs.Try.results6 ⟨rfl, trivial⟩ ?_
    exact ⟨rfl, Fr.refl _ _⟩
  · skip
    -- region 1 (exact.go:1116)
    refine Go'.region [(0, 0), (1, 0), (2, 0)] rfl ?_
    refine O.mv rfl rfl rfl rfl rfl ?_
    refine O.len rfl rfl rfl rfl Go.Proofs.Try.underlying22 rfl ?_
    refine O.cmp rfl rfl rfl rfl rfl rfl (gtrF (by omega)) ?_
    refine Pl.fin [(0, _), (1, _), (4, _), (7, _)] ⟨rfl, rfl, rfl, rfl, trivial⟩ ?_
    refine Go'.condF rfl ?_
    refine Go'.skip ?_
    refine Go'.seq ?_
    cases hfz : fitsb z
    · skip
      -- region 3 (exact.go:1119)
      refine Go'.region [(0, 2), (1, 2), (2, 0), (3, 0), (4, 2), (5, 0), (6, 0), (7, 0), (8, 0), (9, 0), (10, 0), (11, 0), (12, 0), (13, 2), (14, 0), (15, 0), (16, 0)] rfl ?_
      refine O.call rfl rfl rfl Go.Proofs.Try.call15 rfl exItems_spec ?_
      rintro ev H1 ⟨hev, hF1⟩
      refine ⟨trivial, ?_⟩
      refine O.call rfl rfl rfl Go.Proofs.Try.call19 rfl (lawMSet_spec (d := 2) (by decide) hev (by decide)) ?_
      rintro _ H2 ⟨rfl, hF2⟩
      have hF := hF1.trans hF2
      have hi2 := hi0.fr hF
      refine ⟨trivial, ?_⟩
      refine O.mv rfl rfl rfl rfl rfl ?_
      refine O.mv rfl rfl rfl rfl rfl ?_
      refine O.callQ rfl rfl rfl Go.Proofs.Try.call16 rfl (fits_spec' hfz) trivial ?_
      refine O.mv rfl rfl rfl rfl rfl ?_
      refine Pl.pass rfl rfl rfl rfl ?_
      refine Pl.pass rfl rfl rfl rfl ?_
      refine O.pick rfl rfl rfl rfl rfl rfl ?_
      refine O.not rfl rfl rfl rfl rfl ?_
      refine O.mv rfl rfl rfl rfl rfl ?_
      refine Pl.pass rfl rfl rfl rfl ?_
      refine Pl.pass rfl rfl rfl rfl ?_
      refine Pl.pass2 rfl rfl rfl rfl trivial ?_
      refine O.pick rfl rfl rfl rfl rfl rfl ?_
      refine O.pick rfl rfl rfl rfl rfl rfl ?_
      refine O.asg rfl rfl rfl rfl rfl ?_
      refine Pl.fin [(4, _)] ⟨rfl, trivial⟩ ?_
      refine Go'.ret (vs := [_]) Go.Proofs.Try.func6 Go.Proofs.Try.results6 ⟨rfl, trivial⟩ ?_
      exact ⟨rfl, hF⟩
    · skip
      by_cases hp : 0 < z
      · skip
        obtain ⟨d, rfl⟩ := Int.eq_ofNat_of_zero_le (by omega : 0 ≤ z)
        have hd : 2 ≤ d ∧ d ≤ 128 := by
          unfold fitsb at hfz
          simp only [Bool.or_eq_true, Bool.and_eq_true, decide_eq_true_eq] at hfz
          omega
        -- region 3 (exact.go:1119)
        refine Go'.region [(0, 2), (1, 2), (2, 0), (3, 0), (4, 2), (5, 0), (6, 0), (7, 0), (8, 0), (9, 0), (10, 0), (11, 0), (12, 0), (13, 2), (14, 0), (15, 0), (16, 0)] rfl ?_
        refine O.call rfl rfl rfl Go.Proofs.Try.call15 rfl exItems_spec ?_
        rintro ev H1 ⟨hev, hF1⟩
        refine ⟨trivial, ?_⟩
        refine O.call rfl rfl rfl Go.Proofs.Try.call19 rfl (lawMSet_spec (d := 2) (by decide) hev (by decide)) ?_
        rintro _ H2 ⟨rfl, hF2⟩
        have hF := hF1.trans hF2
        have hi2 := hi0.fr hF
        refine ⟨trivial, ?_⟩
        refine O.mv rfl rfl rfl rfl rfl ?_
        refine O.mv rfl rfl rfl rfl rfl ?_
        refine O.callQ rfl rfl rfl Go.Proofs.Try.call16 rfl (fits_spec' hfz) trivial ?_
        refine O.mv rfl rfl rfl rfl rfl ?_
        refine O.mv rfl rfl rfl rfl rfl ?_
        refine O.cmp rfl rfl rfl rfl rfl rfl (gtrT (by omega)) ?_
        refine O.pick rfl rfl rfl rfl rfl rfl ?_
        refine O.not rfl rfl rfl rfl rfl ?_
        refine O.mv rfl rfl rfl rfl rfl ?_
        refine O.mv rfl rfl rfl rfl rfl ?_
        refine O.mv rfl rfl rfl rfl rfl ?_
        refine O.call rfl rfl rfl Go.Proofs.Try.call19 rfl (lawMSet_spec hd hi2 (by omega)) ?_
        rintro _ H3 ⟨rfl, hF3⟩
        replace hF := hF.trans hF3
        refine ⟨trivial, ?_⟩
        refine O.pick rfl rfl rfl rfl rfl rfl ?_
        refine O.pick rfl rfl rfl rfl rfl rfl ?_
        refine O.asg rfl rfl rfl rfl rfl ?_
        refine Pl.fin [(4, _)] ⟨rfl, trivial⟩ ?_
        refine Go'.ret (vs := [_]) Go.Proofs.Try.func6 Go.Proofs.Try.results6 ⟨rfl, trivial⟩ ?_
        exact ⟨rfl, hF⟩
      · skip
        -- region 3 (exact.go:1119)
        refine Go'.region [(0, 2), (1, 2), (2, 0), (3, 0), (4, 2), (5, 0), (6, 0), (7, 0), (8, 0), (9, 0), (10, 0), (11, 0), (12, 0), (13, 2), (14, 0), (15, 0), (16, 0)] rfl ?_
        refine O.call rfl rfl rfl Go.Proofs.Try.call15 rfl exItems_spec ?_
        rintro ev H1 ⟨hev, hF1⟩
        refine ⟨trivial, ?_⟩
        refine O.call rfl rfl rfl Go.Proofs.Try.call19 rfl (lawMSet_spec (d := 2) (by decide) hev (by decide)) ?_
        rintro _ H2 ⟨rfl, hF2⟩
        have hF := hF1.trans hF2
        have hi2 := hi0.fr hF
        refine ⟨trivial, ?_⟩
        refine O.mv rfl rfl rfl rfl rfl ?_
        refine O.mv rfl rfl rfl rfl rfl ?_
        refine O.callQ rfl rfl rfl Go.Proofs.Try.call16 rfl (fits_spec' hfz) trivial ?_
        refine O.mv rfl rfl rfl rfl rfl ?_
        refine O.mv rfl rfl rfl rfl rfl ?_
        refine O.cmp rfl rfl rfl rfl rfl rfl (gtrF (by omega)) ?_
        refine O.pick rfl rfl rfl rfl rfl rfl ?_
        refine O.not rfl rfl rfl rfl rfl ?_
        refine O.mv rfl rfl rfl rfl rfl ?_
        refine Pl.pass rfl rfl rfl rfl ?_
        refine Pl.pass rfl rfl rfl rfl ?_
        refine Pl.pass2 rfl rfl rfl rfl trivial ?_
        refine O.pick rfl rfl rfl rfl rfl rfl ?_
        refine O.pick rfl rfl rfl rfl rfl rfl ?_
        refine O.asg rfl rfl rfl rfl rfl ?_
        refine Pl.fin [(4, _)] ⟨rfl, trivial⟩ ?_
        refine Go'.ret (vs := [_]) Go.Proofs.Try.func6 Go.Proofs.Try.results6 ⟨rfl, trivial⟩ ?_
        exact ⟨rfl, hF⟩

end Go.Bt
