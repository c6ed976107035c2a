/- Contracts of functions of the program, proved by walking through their code. Conditions: those that each theorem names. -/
import Derived.Test.YtknkmaigdgfhlaaProg
import Derived.Test.YtknkmaigdgfhlaaIt
namespace Go.Bt
open Go Go.Proofs
set_option maxRecDepth 20000
set_option maxHeartbeats 4000000
set_option linter.unusedVariables false

theorem st68 : StT Try.prog 68 [(0, 1), (1, 1)] [.int .i64 0, .int .i64 0] := ⟨⟨_, Try.underlying68, fun w => by simp [Array.mapM_eq_mapM_toList, Try.sizeOf3]⟩, Try.zeroValue68⟩
theorem st70 : StT Try.prog 70 [(0, 2), (2, 1)] [.int .i64 0, .int .i64 0, .bool false] := ⟨⟨_, Try.underlying70, fun w => by simp [Array.mapM_eq_mapM_toList, Try.sizeOf4, Try.sizeOf68]⟩, Try.zeroValue70⟩

theorem rank_spec {B : World} {H : Mem} {v : Value} {ord : List Int} {k : Int} (ho : InS EN H v ord) (hl : ord.length < 4611686018427387904) :
    Fn Try.prog B 155 [v, .int .i64 k] H (fun r H' => r = .int .i64 (rank ord k) ∧ H' = H) := by
  obtain ⟨a, c, rfl⟩ := ho.len
  refine fn_of Go.Proofs.Try.func155 rfl Go.Proofs.Try.ntmps155 ?_
  refine (show Go' _ _ _ _ 21 [(0, _), (1, _)] [.code _] _ from ?_)
  refine Go'.seq ?_
  -- region 0 (list.go:7)
  refine Go'.region [(0, 0)] rfl ?_
  refine O.asg rfl rfl rfl rfl rfl ?_
  refine Pl.fin [(0, _), (1, _), (4, _)] ⟨rfl, rfl, rfl, trivial⟩ ?_
  refine Go'.seq ?_
  -- region 1 (list.go:8)
  refine Go'.region [(0, 0), (1, 0), (2, 0)] rfl ?_
  refine O.mv rfl rfl rfl rfl rfl ?_
  refine O.len rfl rfl rfl rfl Go.Proofs.Try.underlying22 rfl ?_
  refine O.asg rfl rfl rfl rfl rfl ?_
  refine Pl.fin [(0, _), (1, _), (4, _), (5, _)] ⟨rfl, rfl, rfl, rfl, trivial⟩ ?_
  refine Go'.seq ?_
  refine Go'.seq ?_
  by_cases h0 : ord.length = 0
  · skip
    -- region 2 (list.go:9)
    refine Go'.region [(0, 0), (1, 0)] rfl ?_
    refine O.mv rfl rfl rfl rfl rfl ?_
    refine O.cmp rfl rfl rfl rfl rfl rfl (eqlT (by omega)) ?_
    refine Pl.fin [(0, _), (1, _), (4, _), (5, _), (9, _)] ⟨rfl, rfl, rfl, rfl, rfl, trivial⟩ ?_
    refine Go'.condT rfl ?_
    refine Go'.seq ?_
    -- region 3 (list.go:10)
    refine Go'.region [(0, 0), (1, 0)] rfl ?_
    refine O.mv rfl rfl rfl rfl rfl ?_
    refine O.asg rfl rfl rfl rfl rfl ?_
    refine Pl.fin [(0, _), (1, _), (4, _), (5, _)] ⟨rfl, rfl, rfl, rfl, trivial⟩ ?_
    refine Go'.ret (vs := [_]) Go.Proofs.Try.func155 Go.Proofs.Try.results155 ⟨rfl, trivial⟩ ?_
    refine ⟨?_, rfl⟩
    unfold rank; rw [if_pos h0]; rfl
  · skip
    have hp : (0 : Int) < ord.length := by omega
    have b1 := Int.tmod_lt_of_pos k hp
    have b2 : -(ord.length : Int) < k.tmod ord.length := by
      have := Int.lt_tmod_of_pos k hp
      omega
    have b3 := Int.tmod_lt_of_pos (k.tmod ord.length + ord.length) hp
    have b4 : 0 ≤ (k.tmod ord.length + ord.length).tmod ord.length := Int.tmod_nonneg _ (by omega)
    obtain ⟨j, hj⟩ := Int.eq_ofNat_of_zero_le b4
    obtain ⟨z, hz⟩ : ∃ z, ord[j]? = some z := ⟨ord[j]'(by omega), List.getElem?_eq_getElem (by omega)⟩
    obtain ⟨b, o, c', e, hr⟩ := ho.at hz
    cases e
    -- region 2 (list.go:9)
    refine Go'.region [(0, 0), (1, 0)] rfl ?_
    refine O.mv rfl rfl rfl rfl rfl ?_
    refine O.cmp rfl rfl rfl rfl rfl rfl (eqlF (by omega)) ?_
    refine Pl.fin [(0, _), (1, _), (4, _), (5, _), (9, _)] ⟨rfl, rfl, rfl, rfl, rfl, trivial⟩ ?_
    refine Go'.condF rfl ?_
    refine Go'.skip ?_
    refine Go'.seq ?_
    -- region 4 (list.go:12)
    refine Go'.region [(0, 0), (1, 0), (2, 0), (3, 0), (4, 0), (5, 0), (6, 0), (7, 0), (8, 0), (9, 1), (10, 0)] rfl ?_
    refine O.mv rfl rfl rfl rfl rfl ?_
    refine O.mv rfl rfl rfl rfl rfl ?_
    refine O.mv rfl rfl rfl rfl rfl ?_
    refine O.rem (k.tmod ord.length) rfl rfl rfl rfl rfl rfl (by omega) rfl ?_
    refine O.mv rfl rfl rfl rfl rfl ?_
    refine O.add ((k.tmod ord.length + ord.length)) rfl rfl rfl rfl rfl rfl (by omega) (by omega) ?_
    refine O.mv rfl rfl rfl rfl rfl ?_
    refine O.rem ((j : Int)) rfl rfl rfl rfl rfl rfl (by omega) hj ?_
    refine O.ix (j := j) rfl rfl rfl rfl Go.Proofs.Try.underlying22 Go.Proofs.Try.sizeOf3 rfl rfl (by omega) (by omega) ?_
    refine O.ld rfl rfl rfl (fun w => ⟨Go.Proofs.Try.isAgg3 w, Go.Proofs.Try.sizeOf3 w⟩) rfl (hr 0 _ rfl) ?_
    refine O.asg rfl rfl rfl rfl rfl ?_
    refine Pl.fin [(4, _)] ⟨rfl, trivial⟩ ?_
    refine Go'.ret (vs := [_]) Go.Proofs.Try.func155 Go.Proofs.Try.results155 ⟨rfl, trivial⟩ ?_
    refine ⟨?_, rfl⟩
    unfold rank; rw [if_neg h0, hj, Int.toNat_natCast, List.getD_eq_getElem?_getD, hz]; rfl

theorem before_spec {B : World} {H : Mem} {v : Value} {ord : List Int} {x y : Int × Int} (ho : InS EN H v ord) (hl : ord.length < 4611686018427387904) :
    Fn Try.prog B 125 [v, .agg (EJ.enc x).toArray, .agg (EJ.enc y).toArray] H (fun r H' => r = .bool ((OO ord).lt x y) ∧ Fr nowhere H H') := by
  have hF : Fr nowhere H H := Fr.refl _ _
  refine fn_of Go.Proofs.Try.func125 rfl Go.Proofs.Try.ntmps125 ?_
  refine (show Go' _ _ _ _ 16 [(0, _), (1, _), (2, _)] [.code _] _ from ?_)
  refine Go'.seq ?_
  -- region 0 (list.go:16)
  refine Go'.region [(0, 2), (1, 2), (2, 0)] rfl ?_
  refine O.box rfl rfl rfl rfl ?_
  intro H1 M1
  refine ⟨trivial, ?_⟩
  replace ho := ho.fr (M1.fr nowhere)
  replace hF := hF.trans' (M1.fr nowhere) (fun _ _ _ h => h) (fun _ _ _ h => h.elim)
  have mi : Rd H1 H.size 0 (EJ.enc x) := M1.rd _ [] (by simp [Value.cells])
  refine O.box rfl rfl rfl rfl ?_
  intro H2 M2
  refine ⟨trivial, ?_⟩
  replace ho := ho.fr (M2.fr nowhere)
  replace mi := (M2.fr nowhere).rd mi (fun _ _ => nw)
  replace hF := hF.trans' (M2.fr nowhere) (fun _ _ _ h => h) (fun _ _ _ h => h.elim)
  have mj : Rd H2 H1.size 0 (EJ.enc y) := M2.rd _ [] (by simp [Value.cells])
  refine O.asg rfl rfl rfl rfl rfl ?_
  refine Pl.fin [(0, _), (4, _), (5, _), (6, _)] ⟨rfl, rfl, rfl, rfl, trivial⟩ ?_
  refine Go'.seq ?_
  -- region 1 (list.go:16)
  refine Go'.draw (fun H' => Rd H' H.size 0 (EJ.enc x) ∧ Rd H' H1.size 0 (EJ.enc y)) [(0, 0), (1, 0), (2, 1), (4, 0), (5, 0), (6, 0), (3, 2), (7, 2), (8, 0), (9, 0)] (by kernel_rfl) (by kernel_rfl) (⟨mi, mj⟩) ?_
  refine O.mv rfl rfl rfl rfl rfl ?_
  refine O.faz rfl rfl rfl rfl ⟨_, _, _, Go.Proofs.Try.underlying68, rfl, rfl, Go.Proofs.Try.sizeOf3⟩ rfl ?_
  refine O.ld rfl rfl rfl (fun w => ⟨Go.Proofs.Try.isAgg3 w, Go.Proofs.Try.sizeOf3 w⟩) rfl (mi 0 _ rfl) ?_
  refine O.mv rfl rfl rfl rfl rfl ?_
  refine O.faz rfl rfl rfl rfl ⟨_, _, _, Go.Proofs.Try.underlying68, rfl, rfl, Go.Proofs.Try.sizeOf3⟩ rfl ?_
  refine O.ldC rfl rfl rfl (fun w => ⟨Go.Proofs.Try.isAgg3 w, Go.Proofs.Try.sizeOf3 w⟩) rfl (fun _ h => h.2 0 _ rfl) ?_
  refine O.callQ rfl rfl rfl Go.Proofs.Try.call155 rfl (rank_spec ho hl) ⟨mi, mj⟩ ?_
  refine O.callQ rfl rfl rfl Go.Proofs.Try.call155 rfl (rank_spec ho hl) ⟨mi, mj⟩ ?_
  refine O.cmp rfl rfl rfl rfl rfl rfl (show cmpOf .lss _ _ = some ((OO ord).lt x y) from rfl) ?_
  refine O.asg rfl rfl rfl rfl rfl ?_
  refine Pl.fin [(6, _)] ⟨rfl, trivial⟩ ?_
  refine Go'.ret (vs := [_]) Go.Proofs.Try.func125 Go.Proofs.Try.results125 ⟨rfl, trivial⟩ ?_
  exact ⟨rfl, hF⟩

theorem place_spec {B : World} {H : Mem} {v u : Value} {ord : List Int} {l : List (Int × Int)} {x : Int × Int} (ho : InS EN H v ord) (hl : ord.length < 4611686018427387904) (hi : InS EJ H u l) (hs : Pl.Srt (OO ord) l) (hll : l.length < 4611686018427387904) :
    Fn Try.prog B 89 [v, u, .agg (EJ.enc x).toArray] H (fun r H' => r = .tuple #[.int .i64 ((Pl.pos (OO ord) x l : Nat) : Int), .bool (Pl.fnd (OO ord) x l)] ∧ Fr nowhere H H') := by
  have hF : Fr nowhere H H := Fr.refl _ _
  obtain ⟨a, c, hu⟩ := hi.len
  subst hu
  refine fn_of Go.Proofs.Try.func89 rfl Go.Proofs.Try.ntmps89 ?_
  refine (show Go' _ _ _ _ 39 [(0, _), (1, _), (2, _)] [.code _] _ from ?_)
  refine Go'.seq ?_
  -- region 0 (list.go:39)
  refine Go'.region [(0, 2), (1, 0), (2, 0)] rfl ?_
  refine O.box rfl rfl rfl rfl ?_
  intro H1 M1
  refine ⟨trivial, ?_⟩
  replace ho := ho.fr (M1.fr nowhere)
  replace hi := hi.fr (M1.fr nowhere)
  replace hF := hF.trans' (M1.fr nowhere) (fun _ _ _ h => h) (fun _ _ _ h => h.elim)
  have mi : Rd H1 H.size 0 (EJ.enc x) := M1.rd _ [] (by simp [Value.cells])
  refine O.asg rfl rfl rfl rfl rfl ?_
  refine O.asg rfl rfl rfl rfl rfl ?_
  refine Pl.fin [(0, _), (1, _), (5, _), (6, _), (7, _)] ⟨rfl, rfl, rfl, rfl, rfl, trivial⟩ ?_
  refine Go'.seq ?_
  -- region 1 (list.go:40)
  refine Go'.region [(0, 0)] rfl ?_
  refine O.asg rfl rfl rfl rfl rfl ?_
  refine Pl.fin [(0, _), (1, _), (5, _), (6, _), (7, _), (8, _)] ⟨rfl, rfl, rfl, rfl, rfl, rfl, trivial⟩ ?_
  refine Go'.seq ?_
  refine Go'.block ?_
  refine Go'.loop ?_
  refine Go'.keep [(0, _), (1, _), (5, _), (8, _)] ⟨rfl, rfl, rfl, rfl, trivial⟩ ?_
  refine Go'.ind (σ := Nat) (fun j => l.length - j) (fun j H' => Fr nowhere H1 H' ∧ j ≤ l.length ∧ ∀ i y, l[i]? = some y → i < j → (OO ord).lt y x = true)
    (fun j => [(0, v), (1, .slice a l.length c), (5, .pointer (some ⟨H.size, 0, none⟩)), (8, .int .i64 (j : Int))]) 0 ⟨Fr.refl _ _, Nat.zero_le _, fun i y _ h => by omega⟩ rfl ?_
  rintro j H2 ⟨hF2, hjl, hlo⟩ ih
  replace ho := ho.fr hF2
  replace hi := hi.fr hF2
  replace mi := hF2.rd mi (fun _ _ => nw)
  replace hF := hF.trans hF2
  refine Go'.seq ?_
  refine Go'.seq ?_
  by_cases hlt : j < l.length
  · skip
    obtain ⟨y, hy⟩ : ∃ y, l[j]? = some y := ⟨l[j], List.getElem?_eq_getElem hlt⟩
    obtain ⟨b, o, c', e, hr⟩ := hi.at hy
    cases e
    -- region 2 (list.go:41)
    refine Go'.draw (fun _ => True) [(0, 0), (1, 0), (2, 0), (3, 0), (4, 0), (5, 0), (6, 0), (7, 0), (8, 0), (9, 1), (10, 1), (11, 2), (12, 0)] (by kernel_rfl) (by kernel_rfl) (trivial) ?_
    refine O.mv rfl rfl rfl rfl rfl ?_
    refine O.mv rfl rfl rfl rfl rfl ?_
    refine O.len rfl rfl rfl rfl Go.Proofs.Try.underlying74 rfl ?_
    refine O.cmp rfl rfl rfl rfl rfl rfl (lssT (by omega)) ?_
    refine O.mv rfl rfl rfl rfl rfl ?_
    refine O.mv rfl rfl rfl rfl rfl ?_
    refine O.mv rfl rfl rfl rfl rfl ?_
    refine O.mv rfl rfl rfl rfl rfl ?_
    refine O.ix (j := j) rfl rfl rfl rfl Go.Proofs.Try.underlying74 Go.Proofs.Try.sizeOf68 rfl rfl (by omega) hlt ?_
    refine O.lds rfl rfl rfl (fun w => ⟨Go.Proofs.Try.isAgg68 w, Go.Proofs.Try.sizeOf68 w⟩) rfl rfl hr ?_
    refine O.lds rfl rfl rfl (fun w => ⟨Go.Proofs.Try.isAgg68 w, Go.Proofs.Try.sizeOf68 w⟩) rfl rfl mi ?_
    refine O.call rfl rfl rfl Go.Proofs.Try.call125 rfl (before_spec ho hl) ?_
    rintro _ H3 ⟨rfl, hF3⟩
    refine ⟨trivial, ?_⟩
    refine O.pick rfl rfl rfl rfl rfl rfl ?_
    refine Pl.fin [(0, _), (1, _), (5, _), (8, _), (21, _)] ⟨rfl, rfl, rfl, rfl, rfl, trivial⟩ ?_
    cases hyx : (OO ord).lt y x
    · -- the place
      refine Go'.condF rfl ?_
      refine Go'.exit rfl ?_
      refine Go'.seq ?_
      replace ho := ho.fr hF3
      replace hr := hF3.rd hr (fun _ _ => nw)
      replace mi := hF3.rd mi (fun _ _ => nw)
      replace hF := hF.trans hF3
      have hpos : Pl.pos (OO ord) x l = j := by
        have e : l = l.take j ++ y :: l.drop (j + 1) := Bt.split_item hy
        have h2 := Pl.pos_eq (OO ord) (x := x) (a := l.take j) (b := y :: l.drop (j + 1)) (fun z hz => by
          obtain ⟨i, hi2, rfl⟩ := List.mem_iff_getElem.1 hz
          rw [List.length_take] at hi2
          exact hlo i _ (by rw [List.getElem?_eq_getElem (by omega), List.getElem_take]) (by omega)) (fun z hz => by simp only [List.head?_cons, Option.some.injEq] at hz; subst hz; exact hyx)
        rw [← e, List.length_take] at h2
        omega
      have hfnd : Pl.fnd (OO ord) x l = !(OO ord).lt x y := by unfold Pl.fnd; rw [hpos, hy]
      -- region 4 (list.go:44)
      refine Go'.draw (fun _ => True) [(0, 0), (1, 0), (2, 0), (3, 0), (4, 0), (5, 0), (6, 0), (7, 1), (8, 0), (9, 0), (10, 0), (11, 1), (12, 2), (13, 0), (14, 0), (15, 0), (16, 0)] (by kernel_rfl) (by kernel_rfl) (trivial) ?_
      refine O.mv rfl rfl rfl rfl rfl ?_
      refine O.mv rfl rfl rfl rfl rfl ?_
      refine O.mv rfl rfl rfl rfl rfl ?_
      refine O.len rfl rfl rfl rfl Go.Proofs.Try.underlying74 rfl ?_
      refine O.cmp rfl rfl rfl rfl rfl rfl (lssT (by omega)) ?_
      refine O.mv rfl rfl rfl rfl rfl ?_
      refine O.mv rfl rfl rfl rfl rfl ?_
      refine O.lds rfl rfl rfl (fun w => ⟨Go.Proofs.Try.isAgg68 w, Go.Proofs.Try.sizeOf68 w⟩) rfl rfl mi ?_
      refine O.mv rfl rfl rfl rfl rfl ?_
      refine O.mv rfl rfl rfl rfl rfl ?_
      refine O.ix (j := j) rfl rfl rfl rfl Go.Proofs.Try.underlying74 Go.Proofs.Try.sizeOf68 rfl rfl (by omega) hlt ?_
      refine O.lds rfl rfl rfl (fun w => ⟨Go.Proofs.Try.isAgg68 w, Go.Proofs.Try.sizeOf68 w⟩) rfl rfl hr ?_
      refine O.call rfl rfl rfl Go.Proofs.Try.call125 rfl (before_spec ho hl) ?_
      rintro _ H4 ⟨rfl, hF4⟩
      refine ⟨trivial, ?_⟩
      refine O.not rfl rfl rfl rfl rfl ?_
      refine O.pick rfl rfl rfl rfl rfl rfl ?_
      refine O.asg rfl rfl rfl rfl rfl ?_
      refine O.asg rfl rfl rfl rfl rfl ?_
      refine Pl.fin [(6, _), (7, _)] ⟨rfl, rfl, trivial⟩ ?_
      refine Go'.ret (vs := [_, _]) Go.Proofs.Try.func89 Go.Proofs.Try.results89 ⟨rfl, rfl, trivial⟩ ?_
      exact ⟨by rw [hpos, hfnd]; rfl, hF.trans hF4⟩
    · -- on
      refine Go'.condT rfl ?_
      refine Go'.skip ?_
      refine Go'.block ?_
      -- region 3 (list.go:42)
      refine Go'.region [(0, 0), (1, 0), (2, 0)] rfl ?_
      refine O.mv rfl rfl rfl rfl rfl ?_
      refine O.add (((j + 1 : Nat) : Int)) rfl rfl rfl rfl rfl rfl (by omega) (by omega) ?_
      refine O.asg rfl rfl rfl rfl rfl ?_
      refine Pl.fin [(0, _), (1, _), (5, _), (8, _), (21, _)] ⟨rfl, rfl, rfl, rfl, rfl, trivial⟩ ?_
      refine Go'.inBlock ?_
      refine Go'.keep [(0, _), (1, _), (5, _), (8, _)] ⟨rfl, rfl, rfl, rfl, trivial⟩ ?_
      refine Go'.inLoop ?_
      exact ih (j + 1) H3 ⟨hF2.trans hF3, hlt, fun i z hz hij => by
        rcases Nat.lt_or_ge i j with h | h
        · exact hlo i z hz h
        · obtain rfl : i = j := by omega
          rw [hy] at hz; cases hz; exact hyx⟩ (by omega)
  · -- behind all
    obtain rfl : j = l.length := by omega
    have hpos : Pl.pos (OO ord) x l = l.length := by
      have h2 := Pl.pos_eq (OO ord) (x := x) (a := l) (b := []) (fun z hz => by
        obtain ⟨i, hi2, rfl⟩ := List.mem_iff_getElem.1 hz
        exact hlo i _ (List.getElem?_eq_getElem hi2) hi2) (fun z hz => by simp at hz)
      rw [List.append_nil] at h2
      exact h2
    have hfnd : Pl.fnd (OO ord) x l = false := by unfold Pl.fnd; rw [hpos, List.getElem?_eq_none (Nat.le_refl _)]
    -- region 2 (list.go:41)
    refine Go'.draw (fun _ => True) [(0, 0), (1, 0), (2, 0), (3, 0), (4, 0), (5, 0), (6, 0), (7, 0), (8, 0), (9, 1), (10, 1), (11, 2), (12, 0)] (by kernel_rfl) (by kernel_rfl) (trivial) ?_
    refine O.mv rfl rfl rfl rfl rfl ?_
    refine O.mv rfl rfl rfl rfl rfl ?_
    refine O.len rfl rfl rfl rfl Go.Proofs.Try.underlying74 rfl ?_
    refine O.cmp rfl rfl rfl rfl rfl rfl (lssF (by omega)) ?_
    refine O.mv rfl rfl rfl rfl rfl ?_
    refine Pl.pass rfl rfl rfl rfl ?_
    refine Pl.pass rfl rfl rfl rfl ?_
    refine Pl.pass rfl rfl rfl rfl ?_
    refine Pl.pass rfl rfl rfl rfl ?_
    refine Pl.pass rfl rfl rfl rfl ?_
    refine Pl.pass rfl rfl rfl rfl ?_
    refine Pl.pass2 rfl rfl rfl rfl trivial ?_
    refine O.pick rfl rfl rfl rfl rfl rfl ?_
    refine Pl.fin [(0, _), (1, _), (5, _), (8, _), (21, _)] ⟨rfl, rfl, rfl, rfl, rfl, trivial⟩ ?_
    refine Go'.condF rfl ?_
    refine Go'.exit rfl ?_
    refine Go'.seq ?_
    -- region 4 (list.go:44)
    refine Go'.draw (fun _ => True) [(0, 0), (1, 0), (2, 0), (3, 0), (4, 0), (5, 0), (6, 0), (7, 1), (8, 0), (9, 0), (10, 0), (11, 1), (12, 2), (13, 0), (14, 0), (15, 0), (16, 0)] (by kernel_rfl) (by kernel_rfl) (trivial) ?_
    refine O.mv rfl rfl rfl rfl rfl ?_
    refine O.mv rfl rfl rfl rfl rfl ?_
    refine O.mv rfl rfl rfl rfl rfl ?_
    refine O.len rfl rfl rfl rfl Go.Proofs.Try.underlying74 rfl ?_
    refine O.cmp rfl rfl rfl rfl rfl rfl (lssF (by omega)) ?_
    refine O.mv rfl rfl rfl rfl rfl ?_
    refine Pl.pass rfl rfl rfl rfl ?_
    refine Pl.pass rfl rfl rfl rfl ?_
    refine Pl.pass rfl rfl rfl rfl ?_
    refine Pl.pass rfl rfl rfl rfl ?_
    refine Pl.pass rfl rfl rfl rfl ?_
    refine Pl.pass rfl rfl rfl rfl ?_
    refine Pl.pass2 rfl rfl rfl rfl trivial ?_
    refine Pl.pass rfl rfl rfl rfl ?_
    refine O.pick rfl rfl rfl rfl rfl rfl ?_
    refine O.asg rfl rfl rfl rfl rfl ?_
    refine O.asg rfl rfl rfl rfl rfl ?_
    refine Pl.fin [(6, _), (7, _)] ⟨rfl, rfl, trivial⟩ ?_
    refine Go'.ret (vs := [_, _]) Go.Proofs.Try.func89 Go.Proofs.Try.results89 ⟨rfl, rfl, trivial⟩ ?_
    exact ⟨by rw [hpos, hfnd]; rfl, hF⟩

end Go.Bt