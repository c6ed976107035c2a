/- Contracts of functions of the program, proved by walking through their code. Conditions: those that each theorem names. -/
import Derived.Test.YtknkmaigdgfhlaaTouE
namespace Go.Bt.FW
open Go Go.Proofs
set_option maxRecDepth 20000
set_option maxHeartbeats 4000000
set_option linter.unusedVariables false

def exml : List (Int × Wk) := [(1, ⟨#[]⟩), (3, ⟨#[]⟩), (4, ⟨#[97]⟩)]
theorem lawWIter_spec {B : World} {H : Mem} {d : Nat} {u um : Value} {l : List (Wk × Int)} {ms : List (Int × Wk)} (hd : 2 ≤ d ∧ d ≤ 128) (hi : InS EJ H u l) (hll : l.length ≤ 4294967296) (hu : InS EWm H um ms) (hml : ms.length ≤ 4294967296) :
    Fn Try.prog B 28 [.int .i64 (d : Int), u, um] H (fun r H' => r = .bool true ∧ Fr nowhere H H') := by
  have hrl := Pl.itRun_len OI (Pl.puts OI l) (wmv ms)
  have hwl : (wmv ms).length = ms.length := by unfold wmv; rw [List.length_map]
  refine fn_of Go.Proofs.Try.func28 rfl Go.Proofs.Try.ntmps28 ?_
  refine (show Go' _ _ _ _ 71 [(0, _), (1, _), (2, _)] [.code _] _ from ?_)
  refine Go'.seq ?_
  -- region 0 (exact.go:1964)
  refine Go'.region [(0, 0)] rfl ?_
  refine O.asg rfl rfl rfl rfl rfl ?_
  refine Pl.fin [(0, _), (1, _), (2, _), (6, _)] ⟨rfl, rfl, rfl, rfl, trivial⟩ ?_
  refine Go'.seq ?_
  -- region 1 (exact.go:1965)
  refine Go'.region [(0, 0), (1, 0), (2, 0), (3, 2), (4, 0), (5, 0), (6, 0), (7, 0), (8, 0)] rfl ?_
  refine O.mv rfl rfl rfl rfl rfl ?_
  refine O.mv rfl rfl rfl rfl rfl ?_
  refine O.mv rfl rfl rfl rfl rfl ?_
  refine O.call rfl rfl rfl Go.Proofs.Try.call36 rfl (witer_spec hd hi hll hu hml) ?_
  rintro _ H1 ⟨outs, v1, v2, rfl, h1, h2, hag, hF1⟩
  refine ⟨trivial, ?_⟩
  refine O.mv rfl rfl rfl rfl rfl ?_
  refine O.ext rfl rfl rfl rfl rfl rfl ?_
  refine O.ext rfl rfl rfl rfl rfl rfl ?_
  refine O.asg rfl rfl rfl rfl rfl ?_
  refine O.asg rfl rfl rfl rfl rfl ?_
  refine Pl.fin [(1, _), (2, _), (6, _), (7, _), (8, _)] ⟨rfl, rfl, rfl, rfl, rfl, trivial⟩ ?_
  refine Go'.seq ?_
  -- region 2 (exact.go:1966)
  refine Go'.region [(0, 0), (1, 0), (2, 2), (3, 0), (4, 0), (5, 0), (6, 0), (7, 0), (8, 0), (9, 0)] rfl ?_
  refine O.mv rfl rfl rfl rfl rfl ?_
  refine O.mv rfl rfl rfl rfl rfl ?_
  refine O.call rfl rfl rfl Go.Proofs.Try.call63 rfl (specWIter_spec (hi.fr hF1) hll (hu.fr hF1) hml) ?_
  rintro _ H2 ⟨v3, v4, v5, rfl, h3, h4, h5, hF2⟩
  replace h1 := h1.inS.fr hF2
  replace h2 := h2.inS.fr hF2
  replace h3 := h3.inS
  replace h4 := h4.inS
  replace h5 := h5.inS
  have hF12 := hF1.trans hF2
  generalize (Pl.itRun OI (Pl.puts OI l) (wmv ms)).2.1 = q at *
  generalize (Pl.itRun OI (Pl.puts OI l) (wmv ms)).2.2 = tl at *
  obtain ⟨hab, htb, hag⟩ := hag
  have n1 : (outs.map wod).length = q.length := by rw [List.length_map, hab]
  have n2 : (outs.map Option.isSome).length = q.length := by rw [List.length_map, hab]
  have n3 : (q.map wod).length = q.length := by rw [List.length_map]
  have n4 : (q.map Option.isSome).length = q.length := by rw [List.length_map]
  have hq0 : q.length ≤ 4294967296 := by omega
  obtain ⟨a1, c1, e1⟩ := h1.len
  obtain ⟨a2, c2, e2⟩ := h2.len
  obtain ⟨a3, c3, e3⟩ := h3.len
  obtain ⟨a4, c4, e4⟩ := h4.len
  obtain ⟨a5, c5, e5⟩ := h5.len
  subst e1 e2 e3 e4 e5
  clear hF1 hF2 hi hu
  refine ⟨trivial, ?_⟩
  refine O.mv rfl rfl rfl rfl rfl ?_
  refine O.ext rfl rfl rfl rfl rfl rfl ?_
  refine O.ext rfl rfl rfl rfl rfl rfl ?_
  refine O.ext rfl rfl rfl rfl rfl rfl ?_
  refine O.asg rfl rfl rfl rfl rfl ?_
  refine O.asg rfl rfl rfl rfl rfl ?_
  refine O.asg rfl rfl rfl rfl rfl ?_
  refine Pl.fin [(6, _), (7, _), (8, _), (9, _), (10, _), (11, _)] ⟨rfl, rfl, rfl, rfl, rfl, rfl, trivial⟩ ?_
  refine Go'.seq ?_
  refine Go'.seq ?_
  -- region 3 (exact.go:1967)
  refine Go'.region [(0, 0), (1, 0), (2, 0), (3, 0), (4, 0), (5, 0), (6, 0), (7, 0), (8, 0), (9, 0), (10, 0), (11, 0)] rfl ?_
  refine O.mv rfl rfl rfl rfl rfl ?_
  refine O.len rfl rfl rfl rfl Go.Proofs.Try.underlying26 rfl ?_
  refine O.mv rfl rfl rfl rfl rfl ?_
  refine O.len rfl rfl rfl rfl Go.Proofs.Try.underlying26 rfl ?_
  refine O.cmp rfl rfl rfl rfl rfl rfl (neqF (by omega)) ?_
  refine O.mv rfl rfl rfl rfl rfl ?_
  refine O.mv rfl rfl rfl rfl rfl ?_
  refine O.len rfl rfl rfl rfl Go.Proofs.Try.underlying50 rfl ?_
  refine O.mv rfl rfl rfl rfl rfl ?_
  refine O.len rfl rfl rfl rfl Go.Proofs.Try.underlying50 rfl ?_
  refine O.cmp rfl rfl rfl rfl rfl rfl (neqF (by omega)) ?_
  refine O.pick rfl rfl rfl rfl rfl rfl ?_
  refine Pl.fin [(6, _), (7, _), (8, _), (9, _), (10, _), (11, _), (38, _)] ⟨rfl, rfl, rfl, rfl, rfl, rfl, rfl, trivial⟩ ?_
  refine Go'.condF rfl ?_
  refine Go'.skip ?_
  refine Go'.seq ?_
  refine Go'.seq ?_
  -- region 5 (exact.go:1970)
  refine Go'.region [(0, 0), (1, 0), (2, 0)] rfl ?_
  refine O.mv rfl rfl rfl rfl rfl ?_
  refine O.len rfl rfl rfl rfl Go.Proofs.Try.underlying26 rfl ?_
  refine O.mv rfl rfl rfl rfl rfl ?_
  refine Pl.fin [(6, _), (7, _), (8, _), (9, _), (10, _), (11, _), (40, _), (41, _)] ⟨rfl, rfl, rfl, rfl, rfl, rfl, rfl, rfl, trivial⟩ ?_
  refine Go'.block ?_
  refine Go'.loop ?_
  refine Go'.keep [(7, _), (8, _), (9, _), (10, _), (11, _), (40, _), (41, _)] ⟨rfl, rfl, rfl, rfl, rfl, rfl, rfl, trivial⟩ ?_
  refine Go'.ind (σ := Nat) (fun j => q.length - j) (fun j H' => H' = H2 ∧ j ≤ q.length)
    (fun j => [(7, .slice a1 (outs.map wod).length c1), (8, .slice a2 (outs.map Option.isSome).length c2), (9, .slice a3 (q.map wod).length c3), (10, .slice a4 (q.map Option.isSome).length c4), (11, .slice a5 tl.length c5), (40, .int .i64 ((outs.map wod).length : Int)), (41, .int .i64 (j : Int))]) 0 ⟨rfl, Nat.zero_le _⟩ rfl ?_
  rintro j H3 ⟨hHH, hjl⟩ ih
  have eH : H2 = H3 := hHH.symm
  subst eH
  clear hHH
  refine Go'.seq ?_
  by_cases hlt : j < q.length
  · skip
    obtain ⟨y, hy⟩ : ∃ y, q[j]? = some y := ⟨q[j], List.getElem?_eq_getElem hlt⟩
    obtain ⟨x, hx⟩ : ∃ x, outs[j]? = some x := ⟨outs[j]'(by omega), List.getElem?_eq_getElem (by omega)⟩
    obtain ⟨k, hk⟩ : ∃ k, tl[j]? = some k := ⟨tl[j]'(by omega), List.getElem?_eq_getElem (by omega)⟩
    obtain ⟨b1, o1, cc1, e, hr1⟩ := h1.at (i := j) (x := wod x) (by rw [List.getElem?_map, hx]; rfl)
    cases e
    obtain ⟨b2, o2, cc2, e, hr2⟩ := h2.at (i := j) (x := x.isSome) (by rw [List.getElem?_map, hx]; rfl)
    cases e
    obtain ⟨b3, o3, cc3, e, hr3⟩ := h3.at (i := j) (x := wod y) (by rw [List.getElem?_map, hy]; rfl)
    cases e
    obtain ⟨b4, o4, cc4, e, hr4⟩ := h4.at (i := j) (x := y.isSome) (by rw [List.getElem?_map, hy]; rfl)
    cases e
    obtain ⟨b5, o5, cc5, e, hr5⟩ := h5.at hk
    cases e
    -- region 6 (exact.go:1970)
    refine Go'.region [(0, 0)] rfl ?_
    refine O.cmp rfl rfl rfl rfl rfl rfl (lssT (by omega)) ?_
    refine Pl.fin [(7, _), (8, _), (9, _), (10, _), (11, _), (40, _), (41, _), (42, _)] ⟨rfl, rfl, rfl, rfl, rfl, rfl, rfl, rfl, trivial⟩ ?_
    refine Go'.seq ?_
    refine Go'.condT rfl ?_
    refine Go'.skip ?_
    refine Go'.seq ?_
    refine Go'.block ?_
    refine Go'.seq ?_
    -- region 7 (exact.go:1970)
    refine Go'.region [(0, 0), (1, 0)] rfl ?_
    refine O.mv rfl rfl rfl rfl rfl ?_
    refine O.asg rfl rfl rfl rfl rfl ?_
    refine Pl.fin [(7, _), (8, _), (9, _), (10, _), (11, _), (12, _), (40, _), (41, _), (42, _)] ⟨rfl, rfl, rfl, rfl, rfl, rfl, rfl, rfl, rfl, trivial⟩ ?_
    refine Go'.seq ?_
    rcases k with _ | _
    · skip
      -- region 8 (exact.go:1971)
      refine Go'.draw (fun _ => True) [(0, 0), (1, 0), (2, 0), (3, 1), (4, 0), (5, 0), (6, 0), (7, 0), (8, 1), (9, 0), (10, 0), (11, 0), (12, 1), (13, 0), (14, 0), (15, 0), (16, 0), (17, 0), (18, 1), (19, 0), (20, 0), (21, 0), (22, 1), (23, 0), (24, 0), (25, 0)] (by kernel_rfl) (by kernel_rfl) (trivial) ?_
      refine O.mv rfl rfl rfl rfl rfl ?_
      refine O.mv rfl rfl rfl rfl rfl ?_
      refine O.ix (j := j) rfl rfl rfl rfl Go.Proofs.Try.underlying50 Go.Proofs.Try.sizeOf4 rfl rfl (by omega) (by omega) ?_
      refine O.ld rfl rfl rfl (fun w => ⟨Go.Proofs.Try.isAgg4 w, Go.Proofs.Try.sizeOf4 w⟩) rfl (hr5 0 _ rfl) ?_
      refine O.mv rfl rfl rfl rfl rfl ?_
      refine Pl.pass rfl rfl rfl rfl ?_
      refine Pl.pass rfl rfl rfl rfl ?_
      refine Pl.pass rfl rfl rfl rfl ?_
      refine Pl.pass rfl rfl rfl rfl ?_
      refine Pl.pass rfl rfl rfl rfl ?_
      refine Pl.pass rfl rfl rfl rfl ?_
      refine Pl.pass rfl rfl rfl rfl ?_
      refine Pl.pass rfl rfl rfl rfl ?_
      refine Pl.pass rfl rfl rfl rfl ?_
      refine Pl.pass rfl rfl rfl rfl ?_
      refine Pl.pass rfl rfl rfl rfl ?_
      refine Pl.pass rfl rfl rfl rfl ?_
      refine Pl.pass rfl rfl rfl rfl ?_
      refine Pl.pass rfl rfl rfl rfl ?_
      refine Pl.pass rfl rfl rfl rfl ?_
      refine Pl.pass rfl rfl rfl rfl ?_
      refine Pl.pass rfl rfl rfl rfl ?_
      refine Pl.pass rfl rfl rfl rfl ?_
      refine Pl.pass rfl rfl rfl rfl ?_
      refine Pl.pass rfl rfl rfl rfl ?_
      refine O.pick rfl rfl rfl rfl rfl rfl ?_
      refine Pl.fin [(7, _), (8, _), (9, _), (10, _), (11, _), (12, _), (40, _), (41, _), (42, _), (69, _)] ⟨rfl, rfl, rfl, rfl, rfl, rfl, rfl, rfl, rfl, rfl, trivial⟩ ?_
      refine Go'.condF rfl ?_
      refine Go'.skip ?_
      refine Go'.inBlock ?_
      -- region 10 (exact.go:1970)
      refine Go'.region [(0, 0), (1, 0)] rfl ?_
      refine O.add (((j + 1 : Nat) : Int)) rfl rfl rfl rfl rfl rfl (by omega) (by omega) ?_
      refine O.mv rfl rfl rfl rfl rfl ?_
      refine Pl.fin [(7, _), (8, _), (9, _), (10, _), (11, _), (12, _), (40, _), (41, _), (42, _), (69, _)] ⟨rfl, rfl, rfl, rfl, rfl, rfl, rfl, rfl, rfl, rfl, trivial⟩ ?_
      refine Go'.keep [(7, _), (8, _), (9, _), (10, _), (11, _), (40, _), (41, _)] ⟨rfl, rfl, rfl, rfl, rfl, rfl, rfl, trivial⟩ ?_
      refine Go'.inLoop ?_
      exact ih (j + 1) H2 ⟨rfl, hlt⟩ (by omega)
    · skip
      have exy : x = y := by
        have h := hag j hk
        rw [hx, hy] at h
        exact Option.some.inj h
      subst exy
      -- region 8 (exact.go:1971)
      refine Go'.draw (fun _ => True) [(0, 0), (1, 0), (2, 0), (3, 1), (4, 0), (5, 0), (6, 0), (7, 0), (8, 1), (9, 0), (10, 0), (11, 0), (12, 1), (13, 0), (14, 0), (15, 0), (16, 0), (17, 0), (18, 1), (19, 0), (20, 0), (21, 0), (22, 1), (23, 0), (24, 0), (25, 0)] (by kernel_rfl) (by kernel_rfl) (trivial) ?_
      refine O.mv rfl rfl rfl rfl rfl ?_
      refine O.mv rfl rfl rfl rfl rfl ?_
      refine O.ix (j := j) rfl rfl rfl rfl Go.Proofs.Try.underlying50 Go.Proofs.Try.sizeOf4 rfl rfl (by omega) (by omega) ?_
      refine O.ld rfl rfl rfl (fun w => ⟨Go.Proofs.Try.isAgg4 w, Go.Proofs.Try.sizeOf4 w⟩) rfl (hr5 0 _ rfl) ?_
      refine O.mv rfl rfl rfl rfl rfl ?_
      refine O.mv rfl rfl rfl rfl rfl ?_
      refine O.mv rfl rfl rfl rfl rfl ?_
      refine O.ix (j := j) rfl rfl rfl rfl Go.Proofs.Try.underlying26 Go.Proofs.Try.sizeOf54 rfl rfl (by omega) (by omega) ?_
      refine O.lds rfl rfl rfl (fun w => ⟨Go.Proofs.Try.isAgg54 w, Go.Proofs.Try.sizeOf54 w⟩) rfl rfl hr1 ?_
      refine O.mv rfl rfl rfl rfl rfl ?_
      refine O.mv rfl rfl rfl rfl rfl ?_
      refine O.ix (j := j) rfl rfl rfl rfl Go.Proofs.Try.underlying26 Go.Proofs.Try.sizeOf54 rfl rfl (by omega) (by omega) ?_
      refine O.lds rfl rfl rfl (fun w => ⟨Go.Proofs.Try.isAgg54 w, Go.Proofs.Try.sizeOf54 w⟩) rfl rfl hr3 ?_
      refine O.bin rfl rfl rfl rfl rfl rfl (word_neq (wod x) _ _) ?_
      refine O.mv rfl rfl rfl rfl rfl ?_
      refine O.mv rfl rfl rfl rfl rfl ?_
      refine O.mv rfl rfl rfl rfl rfl ?_
      refine O.ix (j := j) rfl rfl rfl rfl Go.Proofs.Try.underlying50 Go.Proofs.Try.sizeOf4 rfl rfl (by omega) (by omega) ?_
      refine O.ld rfl rfl rfl (fun w => ⟨Go.Proofs.Try.isAgg4 w, Go.Proofs.Try.sizeOf4 w⟩) rfl (hr2 0 _ rfl) ?_
      refine O.mv rfl rfl rfl rfl rfl ?_
      refine O.mv rfl rfl rfl rfl rfl ?_
      refine O.ix (j := j) rfl rfl rfl rfl Go.Proofs.Try.underlying50 Go.Proofs.Try.sizeOf4 rfl rfl (by omega) (by omega) ?_
      refine O.ld rfl rfl rfl (fun w => ⟨Go.Proofs.Try.isAgg4 w, Go.Proofs.Try.sizeOf4 w⟩) rfl (hr4 0 _ rfl) ?_
      refine O.bin rfl rfl rfl rfl rfl rfl (bool_neq x.isSome _ _) ?_
      refine O.pick rfl rfl rfl rfl rfl rfl ?_
      refine O.pick rfl rfl rfl rfl rfl rfl ?_
      refine Pl.fin [(7, _), (8, _), (9, _), (10, _), (11, _), (12, _), (40, _), (41, _), (42, _), (69, _)] ⟨rfl, rfl, rfl, rfl, rfl, rfl, rfl, rfl, rfl, rfl, trivial⟩ ?_
      refine Go'.condF rfl ?_
      refine Go'.skip ?_
      refine Go'.inBlock ?_
      -- region 10 (exact.go:1970)
      refine Go'.region [(0, 0), (1, 0)] rfl ?_
      refine O.add (((j + 1 : Nat) : Int)) rfl rfl rfl rfl rfl rfl (by omega) (by omega) ?_
      refine O.mv rfl rfl rfl rfl rfl ?_
      refine Pl.fin [(7, _), (8, _), (9, _), (10, _), (11, _), (12, _), (40, _), (41, _), (42, _), (69, _)] ⟨rfl, rfl, rfl, rfl, rfl, rfl, rfl, rfl, rfl, rfl, trivial⟩ ?_
      refine Go'.keep [(7, _), (8, _), (9, _), (10, _), (11, _), (40, _), (41, _)] ⟨rfl, rfl, rfl, rfl, rfl, rfl, rfl, trivial⟩ ?_
      refine Go'.inLoop ?_
      exact ih (j + 1) H2 ⟨rfl, hlt⟩ (by omega)
  · skip
    -- region 6 (exact.go:1970)
    refine Go'.region [(0, 0)] rfl ?_
    refine O.cmp rfl rfl rfl rfl rfl rfl (lssF (by omega)) ?_
    refine Pl.fin [(7, _), (8, _), (9, _), (10, _), (11, _), (40, _), (41, _), (42, _)] ⟨rfl, rfl, rfl, rfl, rfl, rfl, rfl, rfl, trivial⟩ ?_
    refine Go'.seq ?_
    refine Go'.condF rfl ?_
    refine Go'.exit rfl ?_
    refine Go'.seq ?_
    -- region 11 (exact.go:1975)
    refine Go'.region [(0, 0)] rfl ?_
    refine O.asg rfl rfl rfl rfl rfl ?_
    refine Pl.fin [(6, _)] ⟨rfl, trivial⟩ ?_
    refine Go'.ret (vs := [_]) Go.Proofs.Try.func28 Go.Proofs.Try.results28 ⟨rfl, trivial⟩ ?_
    exact ⟨rfl, hF12⟩

theorem zz6_spec {B : World} {H : Mem} {x : Int × Wk} : Fn Try.prog B 62 [.agg (EWm.enc x).toArray] H (fun r H' => (∃ b, r = .bool b) ∧ Fr nowhere H H') := by
  refine fn_of Go.Proofs.Try.func62 rfl Go.Proofs.Try.ntmps62 ?_
  refine (show Go' _ _ _ _ 7 [(0, _)] [.code _] _ from ?_)
  refine Go'.seq ?_
  -- region 0 (zz_fits.go:66)
  refine Go'.region [(0, 2), (1, 0)] rfl ?_
  refine O.box rfl rfl rfl rfl ?_
  intro H1 M1
  refine ⟨trivial, ?_⟩
  have mi : Rd H1 H.size 0 (EWm.enc x) := M1.rd _ [] (by simp [Value.cells])
  refine O.asg rfl rfl rfl rfl rfl ?_
  refine Pl.fin [(1, _), (2, _)] ⟨rfl, rfl, trivial⟩ ?_
  refine Go'.seq ?_
  refine Go'.seq ?_
  by_cases h : (2147483647 : Int) < (ByteArray.size x.2 : Int)
  · skip
    -- region 1 (zz_fits.go:67)
    refine Go'.region [(0, 0), (1, 1), (2, 0), (3, 0)] rfl ?_
    refine O.fa0 (off := 1) rfl rfl rfl rfl ⟨_, _, _, Go.Proofs.Try.underlying40, rfl, rfl, Go.Proofs.Try.sizeOf9⟩ rfl ?_
    refine O.ld rfl rfl rfl (fun w => ⟨Go.Proofs.Try.isAgg9 w, Go.Proofs.Try.sizeOf9 w⟩) rfl (mi 1 _ rfl) ?_
    refine O.lenS rfl rfl rfl rfl Go.Proofs.Try.underlying9 rfl ?_
    refine O.cmp rfl rfl rfl rfl rfl rfl (gtrT (by omega)) ?_
    refine Pl.fin [(2, _), (6, _)] ⟨rfl, rfl, trivial⟩ ?_
    refine Go'.condT rfl ?_
    refine Go'.seq ?_
    -- region 2 (zz_fits.go:68)
    refine Go'.region [(0, 0)] rfl ?_
    refine O.asg rfl rfl rfl rfl rfl ?_
    refine Pl.fin [(2, _)] ⟨rfl, trivial⟩ ?_
    refine Go'.ret (vs := [_]) Go.Proofs.Try.func62 Go.Proofs.Try.results62 ⟨rfl, trivial⟩ ?_
    exact ⟨⟨_, rfl⟩, M1.fr nowhere⟩
  · skip
    -- region 1 (zz_fits.go:67)
    refine Go'.region [(0, 0), (1, 1), (2, 0), (3, 0)] rfl ?_
    refine O.fa0 (off := 1) rfl rfl rfl rfl ⟨_, _, _, Go.Proofs.Try.underlying40, rfl, rfl, Go.Proofs.Try.sizeOf9⟩ rfl ?_
    refine O.ld rfl rfl rfl (fun w => ⟨Go.Proofs.Try.isAgg9 w, Go.Proofs.Try.sizeOf9 w⟩) rfl (mi 1 _ rfl) ?_
    refine O.lenS rfl rfl rfl rfl Go.Proofs.Try.underlying9 rfl ?_
    refine O.cmp rfl rfl rfl rfl rfl rfl (gtrF (by omega)) ?_
    refine Pl.fin [(2, _), (6, _)] ⟨rfl, rfl, trivial⟩ ?_
    refine Go'.condF rfl ?_
    refine Go'.skip ?_
    refine Go'.seq ?_
    -- region 3 (zz_fits.go:70)
    refine Go'.region [(0, 0)] rfl ?_
    refine O.asg rfl rfl rfl rfl rfl ?_
    refine Pl.fin [(2, _)] ⟨rfl, trivial⟩ ?_
    refine Go'.ret (vs := [_]) Go.Proofs.Try.func62 Go.Proofs.Try.results62 ⟨rfl, trivial⟩ ?_
    exact ⟨⟨_, rfl⟩, M1.fr nowhere⟩

theorem zz5_spec {B : World} {H : Mem} {u : Value} {l : List (Int × Wk)} (hi : InS EWm H u l) : Fn Try.prog B 27 [u] H (fun r H' => (∃ b, r = .bool b ∧ (b = true → (l.length : Int) ≤ 2147483647)) ∧ Fr nowhere H H') := by
  obtain ⟨a, c, hu⟩ := hi.len
  subst hu
  refine fn_of Go.Proofs.Try.func27 rfl Go.Proofs.Try.ntmps27 ?_
  refine (show Go' _ _ _ _ 18 [(0, _)] [.code _] _ from ?_)
  refine Go'.seq ?_
  -- region 0 (zz_fits.go:53)
  refine Go'.region [(0, 0)] rfl ?_
  refine O.asg rfl rfl rfl rfl rfl ?_
  refine Pl.fin [(0, _), (2, _)] ⟨rfl, rfl, trivial⟩ ?_
  refine Go'.seq ?_
  refine Go'.seq ?_
  by_cases hbig : (2147483647 : Int) < (l.length : Int)
  · skip
    -- region 1 (zz_fits.go:54)
    refine Go'.region [(0, 0), (1, 0), (2, 0)] rfl ?_
    refine O.mv rfl rfl rfl rfl rfl ?_
    refine O.len rfl rfl rfl rfl Go.Proofs.Try.underlying36 rfl ?_
    refine O.cmp rfl rfl rfl rfl rfl rfl (gtrT (by omega)) ?_
    refine Pl.fin [(0, _), (2, _), (7, _)] ⟨rfl, rfl, rfl, trivial⟩ ?_
    refine Go'.condT rfl ?_
    refine Go'.seq ?_
    -- region 2 (zz_fits.go:55)
    refine Go'.region [(0, 0)] rfl ?_
    refine O.asg rfl rfl rfl rfl rfl ?_
    refine Pl.fin [(0, _), (2, _)] ⟨rfl, rfl, trivial⟩ ?_
    refine Go'.ret (vs := [_]) Go.Proofs.Try.func27 Go.Proofs.Try.results27 ⟨rfl, trivial⟩ ?_
    exact ⟨⟨false, rfl, fun h => by cases h⟩, Fr.refl _ _⟩
  · skip
    -- region 1 (zz_fits.go:54)
    refine Go'.region [(0, 0), (1, 0), (2, 0)] rfl ?_
    refine O.mv rfl rfl rfl rfl rfl ?_
    refine O.len rfl rfl rfl rfl Go.Proofs.Try.underlying36 rfl ?_
    refine O.cmp rfl rfl rfl rfl rfl rfl (gtrF (by omega)) ?_
    refine Pl.fin [(0, _), (2, _), (7, _)] ⟨rfl, rfl, rfl, trivial⟩ ?_
    refine Go'.condF rfl ?_
    refine Go'.skip ?_
    refine Go'.seq ?_
    refine Go'.seq ?_
    -- region 3 (zz_fits.go:57)
    refine Go'.region [(0, 0), (1, 0), (2, 0)] rfl ?_
    refine O.mv rfl rfl rfl rfl rfl ?_
    refine O.len rfl rfl rfl rfl Go.Proofs.Try.underlying36 rfl ?_
    refine O.mv rfl rfl rfl rfl rfl ?_
    refine Pl.fin [(2, _), (8, _), (9, _), (10, _)] ⟨rfl, rfl, rfl, rfl, trivial⟩ ?_
    refine Go'.block ?_
    refine Go'.loop ?_
    refine Go'.keep [(8, _), (9, _), (10, _)] ⟨rfl, rfl, rfl, trivial⟩ ?_
    refine Go'.ind (σ := Nat) (fun j => l.length - j) (fun j H' => Fr nowhere H H' ∧ j ≤ l.length)
      (fun j => [(8, .slice a l.length c), (9, .int .i64 (l.length : Int)), (10, .int .i64 (j : Int))]) 0 ⟨Fr.refl _ _, Nat.zero_le _⟩ rfl ?_
    rintro j H2 ⟨hF, hjl⟩ ih
    have hi2 := hi.fr hF
    refine Go'.seq ?_
    by_cases hlt : j < l.length
    · skip
      obtain ⟨y, hy⟩ : ∃ y, l[j]? = some y := ⟨l[j], List.getElem?_eq_getElem hlt⟩
      obtain ⟨b, o, c', e, hr⟩ := hi2.at hy
      cases e
      -- region 4 (zz_fits.go:57)
      refine Go'.region [(0, 0)] rfl ?_
      refine O.cmp rfl rfl rfl rfl rfl rfl (lssT (by omega)) ?_
      refine Pl.fin [(8, _), (9, _), (10, _), (11, _)] ⟨rfl, rfl, rfl, rfl, trivial⟩ ?_
      refine Go'.seq ?_
      refine Go'.condT rfl ?_
      refine Go'.skip ?_
      refine Go'.seq ?_
      refine Go'.block ?_
      refine Go'.seq ?_
      -- region 5 (zz_fits.go:57)
      refine Go'.region [(0, 0), (1, 1), (2, 2), (3, 2)] rfl ?_
      refine O.ix (j := j) rfl rfl rfl rfl Go.Proofs.Try.underlying36 Go.Proofs.Try.sizeOf40 rfl rfl (by omega) hlt ?_
      refine O.lds rfl rfl rfl (fun w => ⟨Go.Proofs.Try.isAgg40 w, Go.Proofs.Try.sizeOf40 w⟩) rfl rfl hr ?_
      refine O.alloc rfl rfl rfl Go.Proofs.Try.zeroValue40 ?_
      intro H3 M3
      refine ⟨trivial, ?_⟩
      have hs3 := M3.size
      have m7 : Wr H3 H2.size 0 2 := M3.wr 2 (by decide)
      refine O.st rfl rfl Go.Proofs.Try.sizeOf40 rfl rfl rfl rfl rfl m7 ?_
      intro H4 W4
      have hf4 : Fr nowhere H2 H4 := (M3.fr nowhere).trans' W4.fr (fun _ _ _ h => h) (fun b o hb hz => by have h1 := hz.1; omega)
      have x4 : Rd H4 H2.size 0 (EWm.enc y) := W4.all
      refine ⟨trivial, ?_⟩
      refine Pl.fin [(4, _), (8, _), (9, _), (10, _), (11, _)] ⟨rfl, rfl, rfl, rfl, rfl, trivial⟩ ?_
      refine Go'.seq ?_
      -- region 6 (zz_fits.go:58)
      refine Go'.region [(0, 1), (1, 2), (2, 0)] rfl ?_
      refine O.lds rfl rfl rfl (fun w => ⟨Go.Proofs.Try.isAgg40 w, Go.Proofs.Try.sizeOf40 w⟩) rfl rfl x4 ?_
      refine O.call rfl rfl rfl Go.Proofs.Try.call62 rfl zz6_spec ?_
      rintro _ H5 ⟨⟨bz, rfl⟩, hF5⟩
      refine ⟨trivial, ?_⟩
      refine O.not rfl rfl rfl rfl rfl ?_
      refine Pl.fin [(4, _), (8, _), (9, _), (10, _), (11, _), (16, _)] ⟨rfl, rfl, rfl, rfl, rfl, rfl, trivial⟩ ?_
      cases bz
      · skip
        refine Go'.condT rfl ?_
        refine Go'.seq ?_
        -- region 7 (zz_fits.go:59)
        refine Go'.region [(0, 0)] rfl ?_
        refine O.asg rfl rfl rfl rfl rfl ?_
        refine Pl.fin [(2, _), (4, _), (8, _), (9, _), (10, _), (11, _), (16, _)] ⟨rfl, rfl, rfl, rfl, rfl, rfl, rfl, trivial⟩ ?_
        refine Go'.ret (vs := [_]) Go.Proofs.Try.func27 Go.Proofs.Try.results27 ⟨rfl, trivial⟩ ?_
        exact ⟨⟨false, rfl, fun h => by cases h⟩, (hF.trans hf4).trans hF5⟩
      · skip
        refine Go'.condF rfl ?_
        refine Go'.skip ?_
        refine Go'.inBlock ?_
        -- region 8 (zz_fits.go:57)
        refine Go'.region [(0, 0), (1, 0)] rfl ?_
        refine O.add (((j + 1 : Nat) : Int)) rfl rfl rfl rfl rfl rfl (by omega) (by omega) ?_
        refine O.mv rfl rfl rfl rfl rfl ?_
        refine Pl.fin [(4, _), (8, _), (9, _), (10, _), (11, _), (16, _)] ⟨rfl, rfl, rfl, rfl, rfl, rfl, trivial⟩ ?_
        refine Go'.keep [(8, _), (9, _), (10, _)] ⟨rfl, rfl, rfl, trivial⟩ ?_
        refine Go'.inLoop ?_
        exact ih (j + 1) H5 ⟨(hF.trans hf4).trans hF5, hlt⟩ (by omega)
    · skip
      -- region 4 (zz_fits.go:57)
      refine Go'.region [(0, 0)] rfl ?_
      refine O.cmp rfl rfl rfl rfl rfl rfl (lssF (by omega)) ?_
      refine Pl.fin [(8, _), (9, _), (10, _), (11, _)] ⟨rfl, rfl, rfl, rfl, trivial⟩ ?_
      refine Go'.seq ?_
      refine Go'.condF rfl ?_
      refine Go'.exit rfl ?_
      refine Go'.seq ?_
      -- region 9 (zz_fits.go:62)
      refine Go'.region [(0, 0)] rfl ?_
      refine O.asg rfl rfl rfl rfl rfl ?_
      refine Pl.fin [(2, _)] ⟨rfl, trivial⟩ ?_
      refine Go'.ret (vs := [_]) Go.Proofs.Try.func27 Go.Proofs.Try.results27 ⟨rfl, trivial⟩ ?_
      exact ⟨⟨true, rfl, fun _ => by omega⟩, hF⟩

def fitp (z : Int) : Bool := decide (0 < z) && fitsb z
theorem fitp_nat {z : Int} (h : fitp z = true) : ∃ d : Nat, z = (d : Int) ∧ 2 ≤ d ∧ d ≤ 128 := by
  unfold fitp fitsb at h
  simp only [Bool.or_eq_true, Bool.and_eq_true, decide_eq_true_eq] at h
  exact ⟨z.toNat, by omega, by omega, by omega⟩
theorem fit_spec {B : World} {H : Mem} {z : Int} {b : Bool} (h : fitp z = b) : Fn Try.prog B 29 [.int .i64 z] H (fun r H' => r = .bool b ∧ H' = H) := by
  subst h
  refine fn_of Go.Proofs.Try.func29 rfl Go.Proofs.Try.ntmps29 ?_
  refine (show Go' _ _ _ _ 9 [(0, _)] [.code _] _ from ?_)
  refine Go'.seq ?_
  -- region 0 (others.go:116)
  refine Go'.region [(0, 0)] rfl ?_
  refine O.asg rfl rfl rfl rfl rfl ?_
  refine Pl.fin [(0, _), (2, _)] ⟨rfl, rfl, trivial⟩ ?_
  refine Go'.seq ?_
  by_cases h0 : 0 < z
  · skip
    -- region 1 (others.go:117)
    refine Go'.region [(0, 0), (1, 0), (2, 0), (3, 0), (4, 2), (5, 0), (6, 0)] rfl ?_
    refine O.mv rfl rfl rfl rfl rfl ?_
    refine O.cmp rfl rfl rfl rfl rfl rfl (gtrT (by omega)) ?_
    refine O.mv rfl rfl rfl rfl rfl ?_
    refine O.mv rfl rfl rfl rfl rfl ?_
    refine O.callQ rfl rfl rfl Go.Proofs.Try.call20 rfl fits_spec trivial ?_
    refine O.pick rfl rfl rfl rfl rfl rfl ?_
    refine O.asg rfl rfl rfl rfl rfl ?_
    refine Pl.fin [(2, _)] ⟨rfl, trivial⟩ ?_
    refine Go'.ret (vs := [_]) Go.Proofs.Try.func29 Go.Proofs.Try.results29 ⟨rfl, trivial⟩ ?_
    exact ⟨by unfold fitp; rw [decide_eq_true h0]; rfl, rfl⟩
  · skip
    -- region 1 (others.go:117)
    refine Go'.region [(0, 0), (1, 0), (2, 0), (3, 0), (4, 2), (5, 0), (6, 0)] rfl ?_
    refine O.mv rfl rfl rfl rfl rfl ?_
    refine O.cmp rfl rfl rfl rfl rfl rfl (gtrF (by omega)) ?_
    refine O.mv rfl rfl rfl rfl rfl ?_
    refine Pl.pass rfl rfl rfl rfl ?_
    refine Pl.pass2 rfl rfl rfl rfl trivial ?_
    refine O.pick rfl rfl rfl rfl rfl rfl ?_
    refine O.asg rfl rfl rfl rfl rfl ?_
    refine Pl.fin [(2, _)] ⟨rfl, trivial⟩ ?_
    refine Go'.ret (vs := [_]) Go.Proofs.Try.func29 Go.Proofs.Try.results29 ⟨rfl, trivial⟩ ?_
    exact ⟨by unfold fitp; rw [decide_eq_false h0]; rfl, rfl⟩

theorem fnExactWIter {B : World} {H : Mem} {z : Int} {u um : Value} {l : List (Wk × Int)} {ms : List (Int × Wk)} (hi : InS EJ H u l) (hu : InS EWm H um ms) :
    Fn Try.prog B 9 [.int .i64 z, u, um] H (fun r H' => r = .bool true ∧ Fr nowhere H H') := by
  have hi00 := hi
  have hu00 := hu
  have hbz : zzb l = true → (l.length : Int) ≤ 2147483647 := fun h => by
    unfold zzb at h
    rw [Bool.and_eq_true] at h
    exact of_decide_eq_true h.1
  refine fn_of Go.Proofs.Try.func9 rfl Go.Proofs.Try.ntmps9 ?_
  refine (show Go' _ _ _ _ 32 [(0, _), (1, _), (2, _)] [.code _] _ from ?_)
  refine Go'.seq ?_
  -- region 0 (exact.go:1957)
  refine Go'.region [(0, 0)] rfl ?_
  refine O.asg rfl rfl rfl rfl rfl ?_
  refine Pl.fin [(0, _), (1, _), (2, _), (6, _)] ⟨rfl, rfl, rfl, rfl, trivial⟩ ?_
  refine Go'.seq ?_
  refine Go'.seq ?_
  cases hzb : zzb l
  · skip
    -- region 1 (exact.go:1958)
    refine Go'.region [(0, 0), (1, 2), (2, 0), (3, 0), (4, 0), (5, 2), (6, 0), (7, 0)] rfl ?_
    refine O.mv rfl rfl rfl rfl rfl ?_
    refine O.call rfl rfl rfl Go.Proofs.Try.call17 rfl (zz2b_spec hi) ?_
    rintro _ H0 ⟨rfl, hF0⟩
    rw [hzb]
    have hi0 := hi00.fr hF0
    have hu0 := hu00.fr hF0
    refine ⟨trivial, ?_⟩
    refine O.not rfl rfl rfl rfl rfl ?_
    refine O.mv rfl rfl rfl rfl rfl ?_
    refine Pl.pass rfl rfl rfl rfl ?_
    refine Pl.pass2 rfl rfl rfl rfl trivial ?_
    refine Pl.pass rfl rfl rfl rfl ?_
    refine O.pick rfl rfl rfl rfl rfl rfl ?_
    refine Pl.fin [(0, _), (1, _), (2, _), (6, _), (14, _)] ⟨rfl, rfl, rfl, rfl, rfl, trivial⟩ ?_
    refine Go'.condT rfl ?_
    refine Go'.seq ?_
    -- region 2 (exact.go:1959)
    refine Go'.region [(0, 0)] rfl ?_
    refine O.asg rfl rfl rfl rfl rfl ?_
    refine Pl.fin [(0, _), (1, _), (2, _), (6, _)] ⟨rfl, rfl, rfl, rfl, trivial⟩ ?_
    refine Go'.ret (vs := [_]) Go.Proofs.Try.func9 Go.Proofs.Try.results9 ⟨rfl, trivial⟩ ?_
    exact ⟨rfl, hF0⟩
  · skip
    replace hbz := hbz hzb
    -- region 1 (exact.go:1958)
    refine Go'.region [(0, 0), (1, 2), (2, 0), (3, 0), (4, 0), (5, 2), (6, 0), (7, 0)] rfl ?_
    refine O.mv rfl rfl rfl rfl rfl ?_
    refine O.call rfl rfl rfl Go.Proofs.Try.call17 rfl (zz2b_spec hi) ?_
    rintro _ H0 ⟨rfl, hF0⟩
    rw [hzb]
    have hi0 := hi00.fr hF0
    have hu0 := hu00.fr hF0
    refine ⟨trivial, ?_⟩
    refine O.not rfl rfl rfl rfl rfl ?_
    refine O.mv rfl rfl rfl rfl rfl ?_
    refine O.mv rfl rfl rfl rfl rfl ?_
    refine O.call rfl rfl rfl Go.Proofs.Try.call27 rfl (zz5_spec hu0) ?_
    rintro _ H01 ⟨⟨bz, rfl, hbz2⟩, hF01⟩
    replace hi0 := hi0.fr hF01
    replace hu0 := hu0.fr hF01
    replace hF0 := hF0.trans hF01
    refine ⟨trivial, ?_⟩
    refine O.not rfl rfl rfl rfl rfl ?_
    refine O.pick rfl rfl rfl rfl rfl rfl ?_
    refine Pl.fin [(0, _), (1, _), (2, _), (6, _), (14, _)] ⟨rfl, rfl, rfl, rfl, rfl, trivial⟩ ?_
    cases bz
    · skip
      refine Go'.condT rfl ?_
      refine Go'.seq ?_
      -- region 2 (exact.go:1959)
      refine Go'.region [(0, 0)] rfl ?_
      refine O.asg rfl rfl rfl rfl rfl ?_
      refine Pl.fin [(0, _), (1, _), (2, _), (6, _)] ⟨rfl, rfl, rfl, rfl, trivial⟩ ?_
      refine Go'.ret (vs := [_]) Go.Proofs.Try.func9 Go.Proofs.Try.results9 ⟨rfl, trivial⟩ ?_
      exact ⟨rfl, hF0⟩
    · skip
      replace hbz2 := hbz2 rfl
      refine Go'.condF rfl ?_
      refine Go'.skip ?_
      refine Go'.seq ?_
      cases hfz : fitp z
      · skip
        -- region 3 (exact.go:1961)
        refine Go'.region [(0, 2), (1, 0), (2, 0), (3, 0), (4, 2), (5, 2), (6, 0), (7, 0), (8, 2), (9, 0), (10, 0), (11, 0), (12, 0), (13, 0), (14, 2), (15, 0), (16, 0), (17, 0)] rfl ?_
        refine O.call rfl rfl rfl Go.Proofs.Try.call19 rfl exWords_spec ?_
        rintro ev H1 ⟨hev, hF1⟩
        refine ⟨trivial, ?_⟩
        refine O.bld (cs := [.int .i64 1, .string ⟨#[]⟩]) rfl rfl rfl rfl (st40) rfl (by kernel_rfl) ?_
        refine O.bld (cs := [.int .i64 3, .string ⟨#[]⟩]) rfl rfl rfl rfl (st40) rfl (by kernel_rfl) ?_
        refine O.bld (cs := [.int .i64 4, .string ⟨#[97]⟩]) rfl rfl rfl rfl (st40) rfl (by kernel_rfl) ?_
        refine O.bsl (cs := (row EWm exml)) rfl rfl rfl ⟨Go.Proofs.Try.underlying36, Go.Proofs.Try.sizeOf40, Go.Proofs.Try.zeroValue40, ⟨_, Go.Proofs.Try.typeInfo40, rfl⟩, rfl, by decide, by decide⟩ rfl (by decide) (by kernel_rfl) ?_
        intro H9 M9
        have hem : InS EWm H9 (.slice (some ⟨H1.size, 0, none⟩) 3 3) exml := .inl ⟨H1.size, 0, 3, rfl, by decide, M9.rd _ [] (by simp)⟩
        replace hev := hev.fr (M9.fr nowhere)
        replace hF1 := hF1.trans (M9.fr nowhere)
        refine ⟨trivial, ?_⟩
        refine O.call rfl rfl rfl Go.Proofs.Try.call28 rfl (lawWIter_spec (d := 2) (by decide) hev (by decide) hem (by decide)) ?_
        rintro _ H2 ⟨rfl, hF2⟩
        have hF := hF1.trans hF2
        have hi2 := hi0.fr hF
        have hu2 := hu0.fr hF
        refine ⟨trivial, ?_⟩
        refine O.mv rfl rfl rfl rfl rfl ?_
        refine O.mv rfl rfl rfl rfl rfl ?_
        refine O.callQ rfl rfl rfl Go.Proofs.Try.call29 rfl (fit_spec hfz) trivial ?_
        refine O.not rfl rfl rfl rfl rfl ?_
        refine O.mv rfl rfl rfl rfl rfl ?_
        refine Pl.pass rfl rfl rfl rfl ?_
        refine Pl.pass rfl rfl rfl rfl ?_
        refine Pl.pass rfl rfl rfl rfl ?_
        refine Pl.pass2 rfl rfl rfl rfl trivial ?_
        refine O.pick rfl rfl rfl rfl rfl rfl ?_
        refine O.pick rfl rfl rfl rfl rfl rfl ?_
        refine O.asg rfl rfl rfl rfl rfl ?_
        refine Pl.fin [(6, _)] ⟨rfl, trivial⟩ ?_
        refine Go'.ret (vs := [_]) Go.Proofs.Try.func9 Go.Proofs.Try.results9 ⟨rfl, trivial⟩ ?_
        exact ⟨rfl, hF0.trans hF⟩
      · skip
        obtain ⟨d, rfl, hd⟩ := fitp_nat hfz
        -- region 3 (exact.go:1961)
        refine Go'.region [(0, 2), (1, 0), (2, 0), (3, 0), (4, 2), (5, 2), (6, 0), (7, 0), (8, 2), (9, 0), (10, 0), (11, 0), (12, 0), (13, 0), (14, 2), (15, 0), (16, 0), (17, 0)] rfl ?_
        refine O.call rfl rfl rfl Go.Proofs.Try.call19 rfl exWords_spec ?_
        rintro ev H1 ⟨hev, hF1⟩
        refine ⟨trivial, ?_⟩
        refine O.bld (cs := [.int .i64 1, .string ⟨#[]⟩]) rfl rfl rfl rfl (st40) rfl (by kernel_rfl) ?_
        refine O.bld (cs := [.int .i64 3, .string ⟨#[]⟩]) rfl rfl rfl rfl (st40) rfl (by kernel_rfl) ?_
        refine O.bld (cs := [.int .i64 4, .string ⟨#[97]⟩]) rfl rfl rfl rfl (st40) rfl (by kernel_rfl) ?_
        refine O.bsl (cs := (row EWm exml)) rfl rfl rfl ⟨Go.Proofs.Try.underlying36, Go.Proofs.Try.sizeOf40, Go.Proofs.Try.zeroValue40, ⟨_, Go.Proofs.Try.typeInfo40, rfl⟩, rfl, by decide, by decide⟩ rfl (by decide) (by kernel_rfl) ?_
        intro H9 M9
        have hem : InS EWm H9 (.slice (some ⟨H1.size, 0, none⟩) 3 3) exml := .inl ⟨H1.size, 0, 3, rfl, by decide, M9.rd _ [] (by simp)⟩
        replace hev := hev.fr (M9.fr nowhere)
        replace hF1 := hF1.trans (M9.fr nowhere)
        refine ⟨trivial, ?_⟩
        refine O.call rfl rfl rfl Go.Proofs.Try.call28 rfl (lawWIter_spec (d := 2) (by decide) hev (by decide) hem (by decide)) ?_
        rintro _ H2 ⟨rfl, hF2⟩
        have hF := hF1.trans hF2
        have hi2 := hi0.fr hF
        have hu2 := hu0.fr hF
        refine ⟨trivial, ?_⟩
        refine O.mv rfl rfl rfl rfl rfl ?_
        refine O.mv rfl rfl rfl rfl rfl ?_
        refine O.callQ rfl rfl rfl Go.Proofs.Try.call29 rfl (fit_spec hfz) trivial ?_
        refine O.not rfl rfl rfl rfl rfl ?_
        refine O.mv rfl rfl rfl rfl rfl ?_
        refine O.mv rfl rfl rfl rfl rfl ?_
        refine O.mv rfl rfl rfl rfl rfl ?_
        refine O.mv rfl rfl rfl rfl rfl ?_
        refine O.call rfl rfl rfl Go.Proofs.Try.call28 rfl (lawWIter_spec hd hi2 (by omega) hu2 (by omega)) ?_
        rintro _ H3 ⟨rfl, hF3⟩
        replace hF := hF.trans hF3
        refine ⟨trivial, ?_⟩
        refine O.pick rfl rfl rfl rfl rfl rfl ?_
        refine O.pick rfl rfl rfl rfl rfl rfl ?_
        refine O.asg rfl rfl rfl rfl rfl ?_
        refine Pl.fin [(6, _)] ⟨rfl, trivial⟩ ?_
        refine Go'.ret (vs := [_]) Go.Proofs.Try.func9 Go.Proofs.Try.results9 ⟨rfl, trivial⟩ ?_
        exact ⟨rfl, hF0.trans hF⟩

end Go.Bt.FW
