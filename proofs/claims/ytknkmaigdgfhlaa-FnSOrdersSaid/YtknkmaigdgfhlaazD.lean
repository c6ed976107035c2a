/- Contracts of functions of the program, proved by walking through their code. Conditions: those that each theorem names. -/
import Derived.Test.YtknkmaigdgfhlaazC
import Derived.Test.YtknkmaigdgfhlaaBi
namespace Go.Bt.FZ
open Go Go.Proofs
set_option maxRecDepth 20000
set_option maxHeartbeats 4000000

theorem search_spec {B : World} {H : Mem} {g : Ng} {X : List Int} {kp u : Value} (x : Int) (hn : NodeM EI H g X kp) (hs : Pl.Srt OI X) (hl : X.length ≤ 255) :
    Fn Try.prog B 168 [u, .pointer (some ⟨g.p, 0, none⟩), .int .i64 x] H (fun v H' => v = .tuple #[.int .i64 ((Pl.pos OI x X : Nat) : Int), .bool (Pl.fnd OI x X)] ∧ H' = H) := by
  refine fn_of Go.Proofs.Try.func168 rfl Go.Proofs.Try.ntmps168 ?_
  refine (show Go' _ _ _ _ 56 [(0, _), (1, _), (2, _)] [.code _] _ from ?_)
  refine Go'.seq ?_
  -- region 0 (map.go:132)
  refine Go'.region [(0, 0), (1, 0)] rfl ?_
  refine O.asg rfl rfl rfl rfl rfl ?_
  refine O.asg rfl rfl rfl rfl rfl ?_
  refine Pl.fin [(1, _), (2, _), (6, _), (7, _)] ⟨rfl, rfl, rfl, rfl, trivial⟩ ?_
  refine Go'.seq ?_
  -- region 1 (map.go:133)
  refine Go'.draw (fun _ => True) [(0, 0), (1, 0), (2, 0), (3, 1), (4, 0), (5, 0), (6, 0)] (by kernel_rfl) (by kernel_rfl) (trivial) ?_
  refine O.mv rfl rfl rfl rfl rfl ?_
  refine O.nc rfl rfl rfl rfl rfl ?_
  refine O.fa0 (off := 2) rfl rfl rfl rfl ⟨_, _, _, Go.Proofs.Try.underlying205, rfl, rfl, Go.Proofs.Try.sizeOf202⟩ rfl ?_
  refine O.ld rfl rfl rfl (fun w => ⟨Go.Proofs.Try.isAgg202 w, Go.Proofs.Try.sizeOf202 w⟩) rfl hn.c2 ?_
  refine O.len rfl rfl rfl rfl Go.Proofs.Try.underlying202 rfl ?_
  refine O.asg rfl rfl rfl rfl rfl ?_
  refine O.asg rfl rfl rfl rfl rfl ?_
  refine Pl.fin [(1, _), (2, _), (6, _), (7, _), (8, _), (9, _)] ⟨rfl, rfl, rfl, rfl, rfl, rfl, trivial⟩ ?_
  refine Go'.seq ?_
  refine Go'.block ?_
  refine Go'.loop ?_
  refine Go'.keep [(1, _), (2, _), (8, _), (9, _)] ⟨rfl, rfl, rfl, rfl, trivial⟩ ?_
  refine Go'.ind (σ := Nat × Nat) (fun s => s.2 - s.1) (fun s H' => H' = H ∧ s.1 ≤ s.2 ∧ s.2 ≤ X.length ∧ (∀ j y, X[j]? = some y → j < s.1 → OI.lt x y = false) ∧ (∀ j y, X[j]? = some y → s.2 ≤ j → OI.lt x y = true))
    (fun s => [(1, .pointer (some ⟨g.p, 0, none⟩)), (2, .int .i64 x), (8, .int .i64 (s.1 : Int)), (9, .int .i64 (s.2 : Int))]) (0, X.length) ⟨rfl, Nat.zero_le _, Nat.le_refl _, fun j y _ h => by simp at h, fun j y h1 h2 => by
      have := (List.getElem?_eq_some_iff.1 h1).1; simp only at h2; omega⟩ rfl ?_
  rintro ⟨lo, hi⟩ H1 ⟨hHH, hlh, hhl, hlo, hhi⟩ ih
  have e : H = H1 := hHH.symm
  subst e
  clear hHH
  simp only at hlh hhl hlo hhi
  refine Go'.seq ?_
  refine Go'.seq ?_
  by_cases hlt : lo < hi
  · -- a round
    -- region 2 (map.go:134)
    refine Go'.region [(0, 0), (1, 0), (2, 0)] rfl ?_
    refine O.mv rfl rfl rfl rfl rfl ?_
    refine O.mv rfl rfl rfl rfl rfl ?_
    refine O.cmp rfl rfl rfl rfl rfl rfl (lssT (by omega)) ?_
    refine Pl.fin [(1, _), (2, _), (8, _), (9, _), (18, _)] ⟨rfl, rfl, rfl, rfl, rfl, trivial⟩ ?_
    refine Go'.condT rfl ?_
    refine Go'.skip ?_
    refine Go'.block ?_
    refine Go'.seq ?_
    -- region 3 (map.go:135)
    refine Go'.region [(0, 0), (1, 0), (2, 0), (3, 0), (4, 0)] rfl ?_
    refine O.mv rfl rfl rfl rfl rfl ?_
    refine O.mv rfl rfl rfl rfl rfl ?_
    refine O.add (((lo + hi : Nat) : Int)) rfl rfl rfl rfl rfl rfl (by omega) (by omega) ?_
    refine O.quo ((((lo + hi) / 2 : Nat) : Int)) rfl rfl rfl rfl rfl rfl (by decide) (by rw [Int.tdiv_eq_ediv_of_nonneg (by omega)]; omega) (by omega) ?_
    refine O.asg rfl rfl rfl rfl rfl ?_
    refine Pl.fin [(1, _), (2, _), (8, _), (9, _), (10, _), (18, _)] ⟨rfl, rfl, rfl, rfl, rfl, rfl, trivial⟩ ?_
    refine Go'.seq ?_
    obtain ⟨y, hy⟩ : ∃ y, X[(lo + hi) / 2]? = some y := ⟨X[(lo + hi) / 2]'(by omega), List.getElem?_eq_getElem (by omega)⟩
    have hc : cl H g.ib (g.io + (lo + hi) / 2 * 1 + 0) = some (.int .i64 y) := Rd.item' EI hn.sl.rd hy (j := 0) rfl
    cases hky : OI.lt x y
    · -- not less
      -- region 4 (map.go:136)
      refine Go'.region [(0, 0), (1, 0), (2, 0), (3, 0), (4, 1), (5, 0), (6, 0), (7, 0), (8, 1), (9, 0), (10, 0)] rfl ?_
      refine O.mv rfl rfl rfl rfl rfl ?_
      refine O.mv rfl rfl rfl rfl rfl ?_
      refine O.nc rfl rfl rfl rfl rfl ?_
      refine O.fa0 (off := 2) rfl rfl rfl rfl ⟨_, _, _, Go.Proofs.Try.underlying205, rfl, rfl, Go.Proofs.Try.sizeOf202⟩ rfl ?_
      refine O.ld rfl rfl rfl (fun w => ⟨Go.Proofs.Try.isAgg202 w, Go.Proofs.Try.sizeOf202 w⟩) rfl hn.c2 ?_
      refine O.mv rfl rfl rfl rfl rfl ?_
      refine O.ix (j := (lo + hi) / 2) rfl rfl rfl rfl Go.Proofs.Try.underlying202 Go.Proofs.Try.sizeOf138 rfl rfl (by omega) (by omega) ?_
      refine O.faz rfl rfl rfl rfl ⟨_, _, _, Go.Proofs.Try.underlying138, rfl, rfl, Go.Proofs.Try.sizeOf3⟩ rfl ?_
      refine O.ld rfl rfl rfl (fun w => ⟨Go.Proofs.Try.isAgg3 w, Go.Proofs.Try.sizeOf3 w⟩) rfl hc ?_
      refine O.cmp rfl rfl rfl rfl rfl rfl (lssF (Int.not_lt.1 (of_decide_eq_false hky))) ?_
      refine O.not rfl rfl rfl rfl rfl ?_
      refine Pl.fin [(1, _), (2, _), (8, _), (9, _), (10, _), (18, _), (33, _)] ⟨rfl, rfl, rfl, rfl, rfl, rfl, rfl, trivial⟩ ?_
      refine Go'.condT rfl ?_
      -- region 5 (map.go:137)
      refine Go'.region [(0, 0), (1, 0), (2, 0)] rfl ?_
      refine O.mv rfl rfl rfl rfl rfl ?_
      refine O.add ((((lo + hi) / 2 + 1 : Nat) : Int)) rfl rfl rfl rfl rfl rfl (by omega) (by omega) ?_
      refine O.asg rfl rfl rfl rfl rfl ?_
      refine Pl.fin [(1, _), (2, _), (8, _), (9, _), (10, _), (18, _), (33, _)] ⟨rfl, rfl, rfl, rfl, rfl, rfl, rfl, trivial⟩ ?_
      refine Go'.inBlock ?_
      refine Go'.keep [(1, _), (2, _), (8, _), (9, _)] ⟨rfl, rfl, rfl, rfl, trivial⟩ ?_
      refine Go'.inLoop ?_
      exact ih ((lo + hi) / 2 + 1, hi) H ⟨rfl, by simp only; omega, hhl, fun j z hz hj => by
        simp only at hj
        have hjl := (List.getElem?_eq_some_iff.1 hz).1
        rcases Nat.lt_or_ge j ((lo + hi) / 2) with h | h
        · have h2 := List.pairwise_iff_getElem.1 hs j ((lo + hi) / 2) hjl (by omega) h
          rw [(List.getElem?_eq_some_iff.1 hz).2, (List.getElem?_eq_some_iff.1 hy).2] at h2
          cases h3 : OI.lt x z with
          | false => rfl
          | true => have h4 := OI.trans h3 h2; rw [hky] at h4; cases h4
        · have : j = (lo + hi) / 2 := by omega
          subst this
          rw [hy] at hz
          cases hz
          exact hky, hhi⟩ (by simp only; omega)
    · -- less
      -- region 4 (map.go:136)
      refine Go'.region [(0, 0), (1, 0), (2, 0), (3, 0), (4, 1), (5, 0), (6, 0), (7, 0), (8, 1), (9, 0), (10, 0)] rfl ?_
      refine O.mv rfl rfl rfl rfl rfl ?_
      refine O.mv rfl rfl rfl rfl rfl ?_
      refine O.nc rfl rfl rfl rfl rfl ?_
      refine O.fa0 (off := 2) rfl rfl rfl rfl ⟨_, _, _, Go.Proofs.Try.underlying205, rfl, rfl, Go.Proofs.Try.sizeOf202⟩ rfl ?_
      refine O.ld rfl rfl rfl (fun w => ⟨Go.Proofs.Try.isAgg202 w, Go.Proofs.Try.sizeOf202 w⟩) rfl hn.c2 ?_
      refine O.mv rfl rfl rfl rfl rfl ?_
      refine O.ix (j := (lo + hi) / 2) rfl rfl rfl rfl Go.Proofs.Try.underlying202 Go.Proofs.Try.sizeOf138 rfl rfl (by omega) (by omega) ?_
      refine O.faz rfl rfl rfl rfl ⟨_, _, _, Go.Proofs.Try.underlying138, rfl, rfl, Go.Proofs.Try.sizeOf3⟩ rfl ?_
      refine O.ld rfl rfl rfl (fun w => ⟨Go.Proofs.Try.isAgg3 w, Go.Proofs.Try.sizeOf3 w⟩) rfl hc ?_
      refine O.cmp rfl rfl rfl rfl rfl rfl (lssT (of_decide_eq_true hky)) ?_
      refine O.not rfl rfl rfl rfl rfl ?_
      refine Pl.fin [(1, _), (2, _), (8, _), (9, _), (10, _), (18, _), (33, _)] ⟨rfl, rfl, rfl, rfl, rfl, rfl, rfl, trivial⟩ ?_
      refine Go'.condF rfl ?_
      -- region 6 (map.go:139)
      refine Go'.region [(0, 0), (1, 0)] rfl ?_
      refine O.mv rfl rfl rfl rfl rfl ?_
      refine O.asg rfl rfl rfl rfl rfl ?_
      refine Pl.fin [(1, _), (2, _), (8, _), (9, _), (10, _), (18, _), (33, _)] ⟨rfl, rfl, rfl, rfl, rfl, rfl, rfl, trivial⟩ ?_
      refine Go'.inBlock ?_
      refine Go'.keep [(1, _), (2, _), (8, _), (9, _)] ⟨rfl, rfl, rfl, rfl, trivial⟩ ?_
      refine Go'.inLoop ?_
      exact ih (lo, (lo + hi) / 2) H ⟨rfl, by simp only; omega, by simp only; omega, hlo, fun j z hz hj => by
        simp only at hj
        have hjl := (List.getElem?_eq_some_iff.1 hz).1
        rcases Nat.lt_or_ge ((lo + hi) / 2) j with h | h
        · have h2 := List.pairwise_iff_getElem.1 hs ((lo + hi) / 2) j (by omega) hjl h
          rw [(List.getElem?_eq_some_iff.1 hz).2, (List.getElem?_eq_some_iff.1 hy).2] at h2
          exact OI.trans hky h2
        · have : j = (lo + hi) / 2 := by omega
          subst this
          rw [hy] at hz
          cases hz
          exact hky⟩ (by simp only; omega)
  · -- the end
    obtain rfl : hi = lo := by omega
    -- region 2 (map.go:134)
    refine Go'.region [(0, 0), (1, 0), (2, 0)] rfl ?_
    refine O.mv rfl rfl rfl rfl rfl ?_
    refine O.mv rfl rfl rfl rfl rfl ?_
    refine O.cmp rfl rfl rfl rfl rfl rfl (lssF (by omega)) ?_
    refine Pl.fin [(1, _), (2, _), (8, _), (9, _), (18, _)] ⟨rfl, rfl, rfl, rfl, rfl, trivial⟩ ?_
    refine Go'.condF rfl ?_
    refine Go'.exit rfl ?_
    refine Go'.seq ?_
    refine Go'.seq ?_
    by_cases h0 : 0 < hi
    · obtain ⟨y, hy⟩ : ∃ y, X[hi - 1]? = some y := ⟨X[hi - 1]'(by omega), List.getElem?_eq_getElem (by omega)⟩
      have hc : cl H g.ib (g.io + (hi - 1) * 1 + 0) = some (.int .i64 y) := Rd.item' EI hn.sl.rd hy (j := 0) rfl
      have hyk := hlo (hi - 1) y hy (by omega)
      cases hky : OI.lt y x
      · skip
        -- region 7 (map.go:142)
        refine Go'.region [(0, 0), (1, 0), (2, 0), (3, 0), (4, 0), (5, 0), (6, 1), (7, 0), (8, 0), (9, 0), (10, 0), (11, 1), (12, 0), (13, 0), (14, 0), (15, 0)] rfl ?_
        refine O.mv rfl rfl rfl rfl rfl ?_
        refine O.cmp rfl rfl rfl rfl rfl rfl (gtrT (by omega)) ?_
        refine O.mv rfl rfl rfl rfl rfl ?_
        refine O.mv rfl rfl rfl rfl rfl ?_
        refine O.nc rfl rfl rfl rfl rfl ?_
        refine O.fa0 (off := 2) rfl rfl rfl rfl ⟨_, _, _, Go.Proofs.Try.underlying205, rfl, rfl, Go.Proofs.Try.sizeOf202⟩ rfl ?_
        refine O.ld rfl rfl rfl (fun w => ⟨Go.Proofs.Try.isAgg202 w, Go.Proofs.Try.sizeOf202 w⟩) rfl hn.c2 ?_
        refine O.mv rfl rfl rfl rfl rfl ?_
        refine O.sub (((hi - 1 : Nat) : Int)) rfl rfl rfl rfl rfl rfl (by omega) (by omega) ?_
        refine O.ix (j := hi - 1) rfl rfl rfl rfl Go.Proofs.Try.underlying202 Go.Proofs.Try.sizeOf138 rfl rfl (by omega) (by omega) ?_
        refine O.faz rfl rfl rfl rfl ⟨_, _, _, Go.Proofs.Try.underlying138, rfl, rfl, Go.Proofs.Try.sizeOf3⟩ rfl ?_
        refine O.ld rfl rfl rfl (fun w => ⟨Go.Proofs.Try.isAgg3 w, Go.Proofs.Try.sizeOf3 w⟩) rfl hc ?_
        refine O.mv rfl rfl rfl rfl rfl ?_
        refine O.cmp rfl rfl rfl rfl rfl rfl (lssF (Int.not_lt.1 (of_decide_eq_false hky))) ?_
        refine O.not rfl rfl rfl rfl rfl ?_
        refine O.pick rfl rfl rfl rfl rfl rfl ?_
        refine Pl.fin [(8, _), (52, _)] ⟨rfl, rfl, trivial⟩ ?_
        refine Go'.condT rfl ?_
        refine Go'.seq ?_
        -- region 8 (map.go:143)
        refine Go'.region [(0, 0), (1, 0), (2, 0), (3, 0)] rfl ?_
        refine O.mv rfl rfl rfl rfl rfl ?_
        refine O.sub (((hi - 1 : Nat) : Int)) rfl rfl rfl rfl rfl rfl (by omega) (by omega) ?_
        refine O.asg rfl rfl rfl rfl rfl ?_
        refine O.asg rfl rfl rfl rfl rfl ?_
        refine Pl.fin [(6, _), (7, _), (8, _)] ⟨rfl, rfl, rfl, trivial⟩ ?_
        refine Go'.ret (vs := [_, _]) Go.Proofs.Try.func168 Go.Proofs.Try.results168 ⟨rfl, rfl, trivial⟩ ?_
        obtain ⟨e1, e2⟩ := Pl.search_found OI (x := x) hs hy hky hyk
        rw [e1, e2]; exact ⟨rfl, rfl⟩
      · skip
        -- region 7 (map.go:142)
        refine Go'.region [(0, 0), (1, 0), (2, 0), (3, 0), (4, 0), (5, 0), (6, 1), (7, 0), (8, 0), (9, 0), (10, 0), (11, 1), (12, 0), (13, 0), (14, 0), (15, 0)] rfl ?_
        refine O.mv rfl rfl rfl rfl rfl ?_
        refine O.cmp rfl rfl rfl rfl rfl rfl (gtrT (by omega)) ?_
        refine O.mv rfl rfl rfl rfl rfl ?_
        refine O.mv rfl rfl rfl rfl rfl ?_
        refine O.nc rfl rfl rfl rfl rfl ?_
        refine O.fa0 (off := 2) rfl rfl rfl rfl ⟨_, _, _, Go.Proofs.Try.underlying205, rfl, rfl, Go.Proofs.Try.sizeOf202⟩ rfl ?_
        refine O.ld rfl rfl rfl (fun w => ⟨Go.Proofs.Try.isAgg202 w, Go.Proofs.Try.sizeOf202 w⟩) rfl hn.c2 ?_
        refine O.mv rfl rfl rfl rfl rfl ?_
        refine O.sub (((hi - 1 : Nat) : Int)) rfl rfl rfl rfl rfl rfl (by omega) (by omega) ?_
        refine O.ix (j := hi - 1) rfl rfl rfl rfl Go.Proofs.Try.underlying202 Go.Proofs.Try.sizeOf138 rfl rfl (by omega) (by omega) ?_
        refine O.faz rfl rfl rfl rfl ⟨_, _, _, Go.Proofs.Try.underlying138, rfl, rfl, Go.Proofs.Try.sizeOf3⟩ rfl ?_
        refine O.ld rfl rfl rfl (fun w => ⟨Go.Proofs.Try.isAgg3 w, Go.Proofs.Try.sizeOf3 w⟩) rfl hc ?_
        refine O.mv rfl rfl rfl rfl rfl ?_
        refine O.cmp rfl rfl rfl rfl rfl rfl (lssT (of_decide_eq_true hky)) ?_
        refine O.not rfl rfl rfl rfl rfl ?_
        refine O.pick rfl rfl rfl rfl rfl rfl ?_
        refine Pl.fin [(8, _), (52, _)] ⟨rfl, rfl, trivial⟩ ?_
        refine Go'.condF rfl ?_
        refine Go'.skip ?_
        refine Go'.seq ?_
        -- region 9 (map.go:145)
        refine Go'.region [(0, 0), (1, 0), (2, 0)] rfl ?_
        refine O.mv rfl rfl rfl rfl rfl ?_
        refine O.asg rfl rfl rfl rfl rfl ?_
        refine O.asg rfl rfl rfl rfl rfl ?_
        refine Pl.fin [(6, _), (7, _)] ⟨rfl, rfl, trivial⟩ ?_
        refine Go'.ret (vs := [_, _]) Go.Proofs.Try.func168 Go.Proofs.Try.results168 ⟨rfl, rfl, trivial⟩ ?_
        obtain ⟨e1, e2⟩ := Pl.search_none OI (x := x) hs hhl (fun z _ hz => by rw [hy] at hz; cases hz; exact hky) (fun z hz => hhi hi z hz (Nat.le_refl _))
        rw [e1, e2]; exact ⟨rfl, rfl⟩
    · obtain rfl : hi = 0 := by omega
      -- region 7 (map.go:142)
      refine Go'.region [(0, 0), (1, 0), (2, 0), (3, 0), (4, 0), (5, 0), (6, 1), (7, 0), (8, 0), (9, 0), (10, 0), (11, 1), (12, 0), (13, 0), (14, 0), (15, 0)] rfl ?_
      refine O.mv rfl rfl rfl rfl rfl ?_
      refine O.cmp rfl rfl rfl rfl rfl rfl (gtrF (by omega)) ?_
      refine O.mv rfl rfl rfl rfl rfl ?_
      refine Pl.pass rfl rfl rfl rfl ?_
      refine Pl.pass rfl rfl rfl rfl ?_
      refine Pl.pass rfl rfl rfl rfl ?_
      refine Pl.pass rfl rfl rfl rfl ?_
      refine Pl.pass rfl rfl rfl rfl ?_
      refine Pl.pass rfl rfl rfl rfl ?_
      refine Pl.pass rfl rfl rfl rfl ?_
      refine Pl.pass rfl rfl rfl rfl ?_
      refine Pl.pass rfl rfl rfl rfl ?_
      refine Pl.pass rfl rfl rfl rfl ?_
      refine Pl.pass rfl rfl rfl rfl ?_
      refine Pl.pass rfl rfl rfl rfl ?_
      refine O.pick rfl rfl rfl rfl rfl rfl ?_
      refine Pl.fin [(8, _), (52, _)] ⟨rfl, rfl, trivial⟩ ?_
      refine Go'.condF rfl ?_
      refine Go'.skip ?_
      refine Go'.seq ?_
      -- region 9 (map.go:145)
      refine Go'.region [(0, 0), (1, 0), (2, 0)] rfl ?_
      refine O.mv rfl rfl rfl rfl rfl ?_
      refine O.asg rfl rfl rfl rfl rfl ?_
      refine O.asg rfl rfl rfl rfl rfl ?_
      refine Pl.fin [(6, _), (7, _)] ⟨rfl, rfl, trivial⟩ ?_
      refine Go'.ret (vs := [_, _]) Go.Proofs.Try.func168 Go.Proofs.Try.results168 ⟨rfl, rfl, trivial⟩ ?_
      obtain ⟨e1, e2⟩ := Pl.search_none OI (x := x) hs hhl (fun z h _ => absurd rfl h) (fun z hz => hhi 0 z hz (Nat.le_refl _))
      rw [e1, e2]; exact ⟨rfl, rfl⟩

end Go.Bt.FZ