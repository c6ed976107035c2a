/- Contracts of functions of the program, proved by walking through their code. Conditions: those that each theorem names. -/
import Derived.Test.YtknkmaigdgfhlaaTouE
namespace Go.Bt.FW
open Go Go.Proofs
set_option maxRecDepth 20000
set_option maxHeartbeats 4000000
set_option linter.unusedVariables false

def exml : List (Int × Wk) := [(1, ⟨#[]⟩), (3, ⟨#[]⟩), (4, ⟨#[97]⟩)]
theorem lawWIter_spec {B : World} {H : Mem} {d : Nat} {u um : Value} {l : List (Wk × Int)} {ms : List (Int × Wk)} (hd : 2 ≤ d ∧ d ≤ 128) (hi : InS EJ H u l) (hll : l.length ≤ 4294967296) (hu : InS EWm H um ms) (hml : ms.length ≤ 4294967296) :
    Fn Try.prog B 28 [.int .i64 (d : Int), u, um] H (fun r H' => r = .bool true ∧ Fr nowhere H H') := by
  have hrl := Pl.itRun_len OI (Pl.puts OI l) (wmv ms)
  have hwl : (wmv ms).length = ms.length := by unfold wmv; rw [List.length_map]
  refine fn_of Go.Proofs.Try.func28 rfl Go.Proofs.Try.ntmps28 ?_
  refine (show Go' _ _ _ _ 71 [(0, _), (1, _), (2, _)] [.code _] _ from ?_)
  refine Go'.seq ?_
  -- region 0 (exact.go:1964)
  refine Go'.region [(0, 0)] rfl ?_
  refine O.asg rfl rfl rfl rfl rfl ?_
  refine Pl.fin [(0, _), (1, _), (2, _), (6, _)] ⟨rfl, rfl, rfl, rfl, trivial⟩ ?_
  refine Go'.seq ?_
  -- region 1 (exact.go:1965)
  refine Go'.region [(0, 0), (1, 0), (2, 0), (3, 2), (4, 0), (5, 0), (6, 0), (7, 0), (8, 0)] rfl ?_
  refine O.mv rfl rfl rfl rfl rfl ?_
  refine O.mv rfl rfl rfl rfl rfl ?_
  refine O.mv rfl rfl rfl rfl rfl ?_
  refine O.call rfl rfl rfl Go.Proofs.Try.call36 rfl (witer_spec hd hi hll hu hml) ?_
  rintro _ H1 ⟨outs, v1, v2, rfl, h1, h2, hag, hF1⟩
  refine ⟨trivial, ?_⟩
  refine O.mv rfl rfl rfl rfl rfl ?_
  refine O.ext rfl rfl rfl rfl rfl rfl ?_
  refine O.ext rfl rfl rfl rfl rfl rfl ?_
  refine O.asg rfl rfl rfl rfl rfl ?_
  refine O.asg rfl rfl rfl rfl rfl ?_
  refine Pl.fin [(1, _), (2, _), (6, _), (7, _), (8, _)] ⟨rfl, rfl, rfl, rfl, rfl, trivial⟩ ?_
  refine Go'.seq ?_
  -- region 2 (exact.go:1966)
  refine Go'.region [(0, 0), (1, 0), (2, 2), (3, 0), (4, 0), (5, 0), (6, 0), (7, 0), (8, 0), (9, 0)] rfl ?_
  refine O.mv rfl rfl rfl rfl rfl ?_
  refine O.mv rfl rfl rfl rfl rfl ?_
  refine O.call rfl rfl rfl Go.Proofs.Try.call63 rfl (specWIter_spec (hi.fr hF1) hll (hu.fr hF1) hml) ?_
  rintro _ H2 ⟨v3, v4, v5, rfl, h3, h4, h5, hF2⟩
  replace h1 := h1.inS.fr hF2
  replace h2 := h2.inS.fr hF2
  replace h3 := h3.inS
  replace h4 := h4.inS
  replace h5 := h5.inS
  have hF12 := hF1.trans hF2
  generalize (Pl.itRun OI (Pl.puts OI l) (wmv ms)).2.1 = q at *
  generalize (Pl.itRun OI (Pl.puts OI l) (wmv ms)).2.2 = tl at *
  obtain ⟨hab, htb, hag⟩ := hag
  have n1 : (outs.map wod).length = q.length := by rw [List.length_map, hab]
  have n2 : (outs.map Option.isSome).length = q.length := by rw [List.length_map, hab]
  have n3 : (q.map wod).length = q.length := by rw [List.length_map]
  have n4 : (q.map Option.isSome).length = q.length := by rw [List.length_map]
  have hq0 : q.length ≤ 4294967296 := by omega
  obtain ⟨a1, c1, e1⟩ := h1.len
  obtain ⟨a2, c2, e2⟩ := h2.len
  obtain ⟨a3, c3, e3⟩ := h3.len
  obtain ⟨a4, c4, e4⟩ := h4.len
  obtain ⟨a5, c5, e5⟩ := h5.len
  subst e1 e2 e3 e4 e5
  clear hF1 hF2 hi hu
  refine ⟨trivial, ?_⟩
  refine O.mv rfl rfl rfl rfl rfl ?_
  refine O.ext rfl rfl rfl rfl rfl rfl ?_
  refine O.ext rfl rfl rfl rfl rfl rfl ?_
  refine O.ext rfl rfl rfl rfl rfl rfl ?_
  refine O.asg rfl rfl rfl rfl rfl ?_
  refine O.asg rfl rfl rfl rfl rfl ?_
  refine O.asg rfl rfl rfl rfl rfl ?_
  refine Pl.fin [(6, _), (7, _), (8, _), (9, _), (10, _), (11, _)] ⟨rfl, rfl, rfl, rfl, rfl, rfl, trivial⟩ ?_
  refine Go'.seq ?_
  refine Go'.seq ?_
  -- region 3 (exact.go:1967)
  refine Go'.region [(0, 0), (1, 0), (2, 0), (3, 0), (4, 0), (5, 0), (6, 0), (7, 0), (8, 0), (9, 0), (10, 0), (11, 0)] rfl ?_
  refine O.mv rfl rfl rfl rfl rfl ?_
  refine O.len rfl rfl rfl rfl Go.Proofs.Try.underlying26 rfl ?_
  refine O.mv rfl rfl rfl rfl rfl ?_
  refine O.len rfl rfl rfl rfl Go.Proofs.Try.underlying26 rfl ?_
  refine O.cmp rfl rfl rfl rfl rfl rfl (neqF (by omega)) ?_
  refine O.mv rfl rfl rfl rfl rfl ?_
  refine O.mv rfl rfl rfl rfl rfl ?_
  refine O.len rfl rfl rfl rfl Go.Proofs.Try.underlying50 rfl ?_
  refine O.mv rfl rfl rfl rfl rfl ?_
  refine O.len rfl rfl rfl rfl Go.Proofs.Try.underlying50 rfl ?_
  refine O.cmp rfl rfl rfl rfl rfl rfl (neqF (by omega)) ?_
  refine O.pick rfl rfl rfl rfl rfl rfl ?_
  refine Pl.fin [(6, _), (7, _), (8, _), (9, _), (10, _), (11, _), (38, _)] ⟨rfl, rfl, rfl, rfl, rfl, rfl, rfl, trivial⟩ ?_
  refine Go'.condF rfl ?_
  refine Go'.skip ?_
  refine Go'.seq ?_
  refine Go'.seq ?_
  -- region 5 (exact.go:1970)
  refine Go'.region [(0, 0), (1, 0), (2, 0)] rfl ?_
  refine O.mv rfl rfl rfl rfl rfl ?_
  refine O.len rfl rfl rfl rfl Go.Proofs.Try.underlying26 rfl ?_
  refine O.mv rfl rfl rfl rfl rfl ?_
  refine Pl.fin [(6, _), (7, _), (8, _), (9, _), (10, _), (11, _), (40, _), (41, _)] ⟨rfl, rfl, rfl, rfl, rfl, rfl, rfl, rfl, trivial⟩ ?_
  refine Go'.block ?_
  refine Go'.loop ?_
  refine Go'.keep [(7, _), (8, _), (9, _), (10, _), (11, _), (40, _), (41, _)] ⟨rfl, rfl, rfl, rfl, rfl, rfl, rfl, trivial⟩ ?_
  refine Go'.ind (σ := Nat) (fun j => q.length - j) (fun j H' => H' = H2 ∧ j ≤ q.length)
    (fun j => [(7, .slice a1 (outs.map wod).length c1), (8, .slice a2 (outs.map Option.isSome).length c2), (9, .slice a3 (q.map wod).length c3), (10, .slice a4 (q.map Option.isSome).length c4), (11, .slice a5 tl.length c5), (40, .int .i64 ((outs.map wod).length : Int)), (41, .int .i64 (j : Int))]) 0 ⟨rfl, Nat.zero_le _⟩ rfl ?_
  rintro j H3 ⟨hHH, hjl⟩ ih
  have eH : H2 = H3 := hHH.symm
  subst eH
  clear hHH
  refine Go'.seq ?_
  by_cases hlt : j < q.length
  · skip
    obtain ⟨y, hy⟩ : ∃ y, q[j]? = some y := ⟨q[j], List.getElem?_eq_getElem hlt⟩
    obtain ⟨x, hx⟩ : ∃ x, outs[j]? = some x := ⟨outs[j]'(by omega), List.getElem?_eq_getElem (by omega)⟩
    obtain ⟨k, hk⟩ : ∃ k, tl[j]? = some k := ⟨tl[j]'(by omega), List.getElem?_eq_getElem (by omega)⟩
    obtain ⟨b1, o1, cc1, e, hr1⟩ := h1.at (i := j) (x := wod x) (by rw [List.getElem?_map, hx]; rfl)
    cases e
    obtain ⟨b2, o2, cc2, e, hr2⟩ := h2.at (i := j) (x := x.isSome) (by rw [List.getElem?_map, hx]; rfl)
    cases e
    obtain ⟨b3, o3, cc3, e, hr3⟩ := h3.at (i := j) (x := wod y) (by rw [List.getElem?_map, hy]; rfl)
    cases e
    obtain ⟨b4, o4, cc4, e, hr4⟩ := h4.at (i := j) (x := y.isSome) (by rw [List.getElem?_map, hy]; rfl)
    cases e
    obtain ⟨b5, o5, cc5, e, hr5⟩ := h5.at hk
    cases e
    -- region 6 (exact.go:1970)
    refine Go'.region [(0, 0)] rfl ?_
    refine O.cmp rfl rfl rfl rfl rfl rfl (lssT (by omega)) ?_
    refine Pl.fin [(7, _), (8, _), (9, _), (10, _), (11, _), (40, _), (41, _), (42, _)] ⟨rfl, rfl, rfl, rfl, rfl, rfl, rfl, rfl, trivial⟩ ?_
    refine Go'.seq ?_
    refine Go'.condT rfl ?_
    refine Go'.skip ?_
    refine Go'.seq ?_
    refine Go'.block ?_
    refine Go'.seq ?_
    -- region 7 (exact.go:1970)
    refine Go'.region [(0, 0), (1, 0)] rfl ?_
    refine O.mv rfl rfl rfl rfl rfl ?_
    refine O.asg rfl rfl rfl rfl rfl ?_
    refine Pl.fin [(7, _), (8, _), (9, _), (10, _), (11, _), (12, _), (40, _), (41, _), (42, _)] ⟨rfl, rfl, rfl, rfl, rfl, rfl, rfl, rfl, rfl, trivial⟩ ?_
    refine Go'.seq ?_
    rcases k with _ | _
    · skip
      -- region 8 (exact.go:1971)
      refine Go'.draw (fun _ => True) [(0, 0), (1, 0), (2, 0), (3, 1), (4, 0), (5, 0), (6, 0), (7, 0), (8, 1), (9, 0), (10, 0), (11, 0), (12, 1), (13, 0), (14, 0), (15, 0), (16, 0), (17, 0), (18, 1), (19, 0), (20, 0), (21, 0), (22, 1), (23, 0), (24, 0), (25, 0)] (by kernel_rfl) (by kernel_rfl) (trivial) ?_
      refine O.mv rfl rfl rfl rfl rfl ?_
      refine O.mv rfl rfl rfl rfl rfl ?_
      refine O.ix (j := j) rfl rfl rfl rfl Go.Proofs.Try.underlying50 Go.Proofs.Try.sizeOf4 rfl rfl (by omega) (by omega) ?_
      refine O.ld rfl rfl rfl (fun w => ⟨Go.Proofs.Try.isAgg4 w, Go.Proofs.Try.sizeOf4 w⟩) rfl (hr5 0 _ rfl) ?_
      refine O.mv rfl rfl rfl rfl rfl ?_
      refine Pl.pass rfl rfl rfl rfl ?_
      refine Pl.pass rfl rfl rfl rfl ?_
      refine Pl.pass rfl rfl rfl rfl ?_
      refine Pl.pass rfl rfl rfl rfl ?_
      refine Pl.pass rfl rfl rfl rfl ?_
      refine Pl.pass rfl rfl rfl rfl ?_
      refine Pl.pass rfl rfl rfl rfl ?_
      refine Pl.pass rfl rfl rfl rfl ?_
      refine Pl.pass rfl rfl rfl rfl ?_
      refine Pl.pass rfl rfl rfl rfl ?_
      refine Pl.pass rfl rfl rfl rfl ?_
      refine Pl.pass rfl rfl rfl rfl ?_
      refine Pl.pass rfl rfl rfl rfl ?_
      refine Pl.pass rfl rfl rfl rfl ?_
      refine Pl.pass rfl rfl rfl rfl ?_
      refine Pl.pass rfl rfl rfl rfl ?_
      refine Pl.pass rfl rfl rfl rfl ?_
      refine Pl.pass rfl rfl rfl rfl ?_
      refine Pl.pass rfl rfl rfl rfl ?_
      refine Pl.pass rfl rfl rfl rfl ?_
      refine O.pick rfl rfl rfl rfl rfl rfl ?_
      refine Pl.fin [(7, _), (8, _), (9, _), (10, _), (11, _), (12, _), (40, _), (41, _), (42, _), (69, _)] ⟨rfl, rfl, rfl, rfl, rfl, rfl, rfl, rfl, rfl, rfl, trivial⟩ ?_
      refine Go'.condF rfl ?_
      refine Go'.skip ?_
      refine Go'.inBlock ?_
      -- region 10 (exact.go:1970)
      refine Go'.region [(0, 0), (1, 0)] rfl ?_
      refine O.add (((j + 1 : Nat) : Int)) rfl rfl rfl rfl rfl rfl (by omega) (by omega) ?_
      refine O.mv rfl rfl rfl rfl rfl ?_
      refine Pl.fin [(7, _), (8, _), (9, _), (10, _), (11, _), (12, _), (40, _), (41, _), (42, _), (69, _)] ⟨rfl, rfl, rfl, rfl, rfl, rfl, rfl, rfl, rfl, rfl, trivial⟩ ?_
      refine Go'.keep [(7, _), (8, _), (9, _), (10, _), (11, _), (40, _), (41, _)] ⟨rfl, rfl, rfl, rfl, rfl, rfl, rfl, trivial⟩ ?_
      refine Go'.inLoop ?_
      exact ih (j + 1) H2 ⟨rfl, hlt⟩ (by omega)
    · skip
      have exy : x = y := by
        have h := hag j hk
        rw [hx, hy] at h
        exact Option.some.inj h
      subst exy
      -- region 8 (exact.go:1971)
      refine Go'.draw (fun _ => True) [(0, 0), (1, 0), (2, 0), (3, 1), (4, 0), (5, 0), (6, 0), (7, 0), (8, 1), (9, 0), (10, 0), (11, 0), (12, 1), (13, 0), (14, 0), (15, 0), (16, 0), (17, 0), (18, 1), (19, 0), (20, 0), (21, 0), (22, 1), (23, 0), (24, 0), (25, 0)] (by kernel_rfl) (by kernel_rfl) (trivial) ?_
      refine O.mv rfl rfl rfl rfl rfl ?_
      refine O.mv rfl rfl rfl rfl rfl ?_
      refine O.ix (j := j) rfl rfl rfl rfl Go.Proofs.Try.underlying50 Go.Proofs.Try.sizeOf4 rfl rfl (by omega) (by omega) ?_
      refine O.ld rfl rfl rfl (fun w => ⟨Go.Proofs.Try.isAgg4 w, Go.Proofs.Try.sizeOf4 w⟩) rfl (hr5 0 _ rfl) ?_
      refine O.mv rfl rfl rfl rfl rfl ?_
      refine O.mv rfl rfl rfl rfl rfl ?_
      refine O.mv rfl rfl rfl rfl rfl ?_
      refine O.ix (j := j) rfl rfl rfl rfl Go.Proofs.Try.underlying26 Go.Proofs.Try.sizeOf54 rfl rfl (by omega) (by omega) ?_
      refine O.lds rfl rfl rfl (fun w => ⟨Go.Proofs.Try.isAgg54 w, Go.Proofs.Try.sizeOf54 w⟩) rfl rfl hr1 ?_
      refine O.mv rfl rfl rfl rfl rfl ?_
      refine O.mv rfl rfl rfl rfl rfl ?_
      refine O.ix (j := j) rfl rfl rfl rfl Go.Proofs.Try.underlying26 Go.Proofs.Try.sizeOf54 rfl rfl (by omega) (by omega) ?_
      refine O.lds rfl rfl rfl (fun w => ⟨Go.Proofs.Try.isAgg54 w, Go.Proofs.Try.sizeOf54 w⟩) rfl rfl hr3 ?_
      refine O.bin rfl rfl rfl rfl rfl rfl (word_neq (wod x) _ _) ?_
      refine O.mv rfl rfl rfl rfl rfl ?_
      refine O.mv rfl rfl rfl rfl rfl ?_
      refine O.mv rfl rfl rfl rfl rfl ?_
      refine O.ix (j := j) rfl rfl rfl rfl Go.Proofs.Try.underlying50 Go.Proofs.Try.sizeOf4 rfl rfl (by omega) (by omega) ?_
      refine O.ld rfl rfl rfl (fun w => ⟨Go.Proofs.Try.isAgg4 w, Go.Proofs.Try.sizeOf4 w⟩) rfl (hr2 0 _ rfl) ?_
      refine O.mv rfl rfl rfl rfl rfl ?_
      refine O.mv rfl rfl rfl rfl rfl ?_
      refine O.ix (j := j) rfl rfl rfl rfl Go.Proofs.Try.underlying50 Go.Proofs.Try.sizeOf4 rfl rfl (by omega) (by omega) ?_
      refine O.ld rfl rfl rfl (fun w => ⟨Go.Proofs.Try.isAgg4 w, Go.Proofs.Try.sizeOf4 w⟩) rfl (hr4 0 _ rfl) ?_
      refine O.bin rfl rfl rfl rfl rfl rfl (bool_neq x.isSome _ _) ?_
      refine O.pick rfl rfl rfl rfl rfl rfl ?_
      refine O.pick rfl rfl rfl rfl rfl rfl ?_
      refine Pl.fin [(7, _), (8, _), (9, _), (10, _), (11, _), (12, _), (40, _), (41, _), (42, _), (69, _)] ⟨rfl, rfl, rfl, rfl, rfl, rfl, rfl, rfl, rfl, rfl, trivial⟩ ?_
      refine Go'.condF rfl ?_
      refine Go'.skip ?_
      refine Go'.inBlock ?_
      -- region 10 (exact.go:1970)
      refine Go'.region [(0, 0), (1, 0)] rfl ?_
      refine O.add (((j + 1 : Nat) : Int)) rfl rfl rfl rfl rfl rfl (by omega) (by omega) ?_
      refine O.mv rfl rfl rfl rfl rfl ?_
      refine Pl.fin [(7, _), (8, _), (9, _), (10, _), (11, _), (12, _), (40, _), (41, _), (42, _), (69, _)] ⟨rfl, rfl, rfl, rfl, rfl, rfl, rfl, rfl, rfl, rfl, trivial⟩ ?_
      refine Go'.keep [(7, _), (8, _), (9, _), (10, _), (11, _), (40, _), (41, _)] ⟨rfl, rfl, rfl, rfl, rfl, rfl, rfl, trivial⟩ ?_
      refine Go'.inLoop ?_
      exact ih (j + 1) H2 ⟨rfl, hlt⟩ (by omega)
  · skip
    -- region 6 (exact.go:1970)
    refine Go'.region [(0, 0)] rfl ?_
    refine O.cmp rfl rfl rfl rfl rfl rfl (lssF (by omega)) ?_
    refine Pl.fin [(7, _), (8, _), (9, _), (10, _), (11, _), (40, _), (41, _), (42, _)] ⟨rfl, rfl, rfl, rfl, rfl, rfl, rfl, rfl, trivial⟩ ?_
    refine Go'.seq ?_
    refine Go'.condF rfl ?_
    refine Go'.exit rfl ?_
    refine Go'.seq ?_
    -- region 11 (exact.go:1975)
    refine Go'.region [(0, 0)] rfl ?_
    refine O.asg rfl rfl rfl rfl rfl ?_
    refine Pl.fin [(6, _)] ⟨rfl, trivial⟩ ?_
    refine Go'.ret (vs := [_]) Go.Proofs.Try.func28 Go.Proofs.Try.results28 ⟨rfl, trivial⟩ ?_
    exact ⟨rfl, hF12⟩

theorem zz6_spec {B : World} {H : Mem} {x : Int × Wk} : Fn Try.prog B 62 [.agg (EWm.enc x).toArray] H (fun r H' => (∃ b, r = .bool b) ∧ Fr nowhere H H') := by
  refine fn_of Go.Proofs.Try.func62 rfl Go.Proofs.Try.ntmps62 ?_
  refine (show Go' _ _ _ _ 7 [(0, _)] [.code _] _ from ?_)
  refine Go'.seq ?_
  -- region 0 (zz_fits.go:66)
  refine Go'.region [(0, 2), (1, 0)] rfl ?_
  refine O.box rfl rfl rfl rfl ?_
  intro H1 M1
  refine ⟨trivial, ?_⟩
  have mi : Rd H1 H.size 0 (EWm.enc x) := M1.rd _ [] (by simp [Value.cells])
  refine O.asg rfl rfl rfl rfl rfl ?_
  refine Pl.fin [(1, _), (2, _)] ⟨rfl, rfl, trivial⟩ ?_
  refine Go'.seq ?_
  refine Go'.seq ?_
  by_cases h : (2147483647 : Int) < (ByteArray.size x.2 : Int)
  · skip
    -- region 1 (zz_fits.go:67)
    refine Go'.region [(0, 0), (1, 1), (2, 0), (3, 0)] rfl ?_
    refine O.fa0 (off := 1) rfl rfl rfl rfl ⟨_, _, _, Go.Proofs.Try.underlying40, rfl, rfl, Go.Proofs.Try.sizeOf9⟩ rfl ?_
    refine O.ld rfl rfl rfl (fun w => ⟨Go.Proofs.Try.isAgg9 w, Go.Proofs.Try.sizeOf9 w⟩) rfl (mi 1 _ rfl) ?_
    refine O.lenS rfl rfl rfl rfl Go.Proofs.Try.underlying9 rfl ?_
    refine O.cmp rfl rfl rfl rfl rfl rfl (gtrT (by omega)) ?_
    refine Pl.fin [(2, _), (6, _)] ⟨rfl, rfl, trivial⟩ ?_
    refine Go'.condT rfl ?_
    refine Go'.seq ?_
    -- region 2 (zz_fits.go:68)
    refine Go'.region [(0, 0)] rfl ?_
    refine O.asg rfl rfl rfl rfl rfl ?_
    refine Pl.fin [(2, _)] ⟨rfl, trivial⟩ ?_
    refine Go'.ret (vs := [_]) Go.Proofs.Try.func62 Go.Proofs.Try.results62 ⟨rfl, trivial⟩ ?_
    exact ⟨⟨_, rfl⟩, M1.fr nowhere⟩
  · skip
    -- region 1 (zz_fits.go:67)
    refine Go'.region [(0, 0), (1, 1), (2, 0), (3, 0)] rfl ?_
    refine O.fa0 (off := 1) rfl rfl rfl rfl ⟨_, _, _, Go.Proofs.Try.underlying40, rfl, rfl, Go.Proofs.Try.sizeOf9⟩ rfl ?_
    refine O.ld rfl rfl rfl (fun w => ⟨Go.Proofs.Try.isAgg9 w, Go.Proofs.Try.sizeOf9 w⟩) rfl (mi 1 _ rfl) ?_
    refine O.lenS rfl rfl rfl rfl Go.Proofs.Try.underlying9 rfl ?_
    refine O.cmp rfl rfl rfl rfl rfl rfl (gtrF (by omega)) ?_
    refine Pl.fin [(2, _), (6, _)] ⟨rfl, rfl, trivial⟩ ?_
    refine Go'.condF rfl ?_
    refine Go'.skip ?_
    refine Go'.seq ?_
    -- region 3 (zz_fits.go:70)
    refine Go'.region [(0, 0)] rfl ?_
    refine O.asg rfl rfl rfl rfl rfl ?_
    refine Pl.fin [(2, _)] ⟨rfl, trivial⟩ ?_
    refine Go'.ret (vs := [_]) Go.Proofs.Try.func62 Go.Proofs.Try.results62 ⟨rfl, trivial⟩ ?_
    exact ⟨⟨_, rfl⟩, M1.fr nowhere⟩

theorem zz5_spec {B : World} {H : Mem} {u : Value} {l : List (Int × Wk)} (hi : InS EWm H u l) : Fn Try.prog B 27 [u] H (fun r H' => (∃ b, r = .bool b ∧ (b = true → (l.length : Int) ≤ 2147483647)) ∧ Fr nowhere H H') := by
  obtain ⟨a, c, hu⟩ := hi.len
  subst hu
  refine fn_of Go.Proofs.Try.func27 rfl Go.Proofs.Try.ntmps27 ?_
  refine (show Go' _ _ _ _ 18 [(0, _)] [.code _] _ from ?_)
  refine Go'.seq ?_
  -- region 0 (zz_fits.go:53)
  refine Go'.region [(0, 0)] rfl ?_
  refine O.asg rfl rfl rfl rfl rfl ?_
  refine Pl.fin [(0, _), (2, _)] ⟨rfl, rfl, trivial⟩ ?_
  refine Go'.seq ?_
  refine Go'.seq ?_
  by_cases hbig : (2147483647 : Int) < (l.length : Int)
  · skip
    -- region 1 (zz_fits.go:54)
    refine Go'.region [(0, 0), (1, 0), (2, 0)] rfl ?_
    refine O.mv rfl rfl rfl rfl rfl ?_
    refine O.len rfl rfl rfl rfl Go.Proofs.Try.underlying36 rfl ?_
    refine O.cmp rfl rfl rfl rfl rfl rfl (gtrT (by omega)) ?_
    refine Pl.fin [(0, _), (2, _), (7, _)] ⟨rfl, rfl, rfl, trivial⟩ ?_
    refine Go'.condT rfl ?_
    refine Go'.seq ?_
    -- region 2 (zz_fits.go:55)
    refine Go'.region [(0, 0)] rfl ?_
    refine O.asg rfl rfl rfl rfl rfl ?_
    refine Pl.fin [(0, _), (2, _)] ⟨rfl, rfl, trivial⟩ ?_
    refine Go'.ret (vs := [_]) Go.Proofs.Try.func27 Go.Proofs.Try.results27 ⟨rfl, trivial⟩ ?_
    exact ⟨⟨false, rfl, fun h => by cases h⟩, Fr.refl _ _⟩
  · skip
    -- region 1 (zz_fits.go:54)
    refine Go'.region [(0, 0), (1, 0), (2, 0)] rfl ?_
    refine O.mv rfl rfl rfl rfl rfl ?_
    refine O.len rfl rfl rfl rfl Go.Proofs.Try.underlying36 rfl ?_
    refine O.cmp rfl rfl rfl rfl rfl rfl (gtrF (by omega)) ?_
    refine Pl.fin [(0, _), (2, _), (7, _)] ⟨rfl, rfl, rfl, trivial⟩ ?_
    refine Go'.condF rfl ?_
    refine Go'.skip ?_
    refine Go'.seq ?_
    refine Go'.seq ?_
    -- region 3 (zz_fits.go:57)
    refine Go'.region [(0, 0), (1, 0), (2, 0)] rfl ?_
    refine O.mv rfl rfl rfl rfl rfl ?_
    refine O.len rfl rfl rfl rfl Go.Proofs.Try.underlying36 rfl ?_
    refine O.mv rfl rfl rfl rfl rfl ?_
    refine Pl.fin [(2, _), (8, _), (9, _), (10, _)] ⟨rfl, rfl, rfl, rfl, trivial⟩ ?_
    refine Go'.block ?_
    refine Go'.loop ?_
    refine Go'.keep [(8, _), (9, _), (10, _)] ⟨rfl, rfl, rfl, trivial⟩ ?_
    refine Go'.ind (σ := Nat) (fun j => l.length - j) (fun j H' => Fr nowhere H H' ∧ j ≤ l.length)
      (fun j => [(8, .slice a l.length c), (9, .int .i64 (l.length : Int)), (10, .int .i64 (j : Int))]) 0 ⟨Fr.refl _ _, Nat.zero_le _⟩ rfl ?_
    rintro j H2 ⟨hF, hjl⟩ ih
    have hi2 := hi.fr hF
    refine Go'.seq ?_
    by_cases hlt : j < l.length
    · skip
      obtain ⟨y, hy⟩ : ∃ y, l[j]? = some y := ⟨l[j], List.getElem?_eq_getElem hlt⟩
      obtain ⟨b, o, c', e, hr⟩ := hi2.at hy
      cases e
      -- region 4 (zz_fits.go:57)
      refine Go'.region [(0, 0)] rfl ?_
      refine O.cmp rfl rfl rfl rfl rfl rfl (lssT (by omega)) ?_
      refine Pl.fin [(8, _), (9, _), (10, _), (11, _)] ⟨rfl, rfl, rfl, rfl, trivial⟩ ?_
      refine Go'.seq ?_
      refine Go'.condT rfl ?_
      refine Go'.skip ?_
      refine Go'.seq ?_
      refine Go'.block ?_
      refine Go'.seq ?_
      -- region 5 (zz_fits.go:57)
      refine Go'.region [(0, 0), (1, 1), (2, 2), (3, 2)] rfl ?_
      refine O.ix (j := j) rfl rfl rfl rfl Go.Proofs.Try.underlying36 Go.Proofs.Try.sizeOf40 rfl rfl (by omega) hlt ?_
      refine O.lds rfl rfl rfl (fun w => ⟨Go.Proofs.Try.isAgg40 w, Go.Proofs.Try.sizeOf40 w⟩) rfl rfl hr ?_
      refine O.alloc rfl rfl rfl Go.Proofs.Try.zeroValue40 ?_
      intro H3 M3
      refine ⟨trivial, ?_⟩
      have hs3 := M3.size
      have m7 : Wr H3 H2.size 0 2 := M3.wr 2 (by decide)
      refine O.st rfl rfl Go.Proofs.Try.sizeOf40 rfl rfl rfl rfl rfl m7 ?_
      intro H4 W4
      have hf4 : Fr nowhere H2 H4 := (M3.fr nowhere).trans' W4.fr (fun _ _ _ h => h) (fun b o hb hz => by have h1 := hz.1; omega)
      have x4 : Rd H4 H2.size 0 (EWm.enc y) := W4.all
      refine ⟨trivial, ?_⟩
      refine Pl.fin [(4, _), (8, _), (9, _), (10, _), (11, _)] ⟨rfl, rfl, rfl, rfl, rfl, trivial⟩ ?_
      refine Go'.seq ?_
      -- region 6 (zz_fits.go:58)
      refine Go'.region [(0, 1), (1, 2), (2, 0)] rfl ?_
      refine O.lds rfl rfl rfl (fun w => ⟨Go.Proofs.Try.isAgg40 w, Go.Proofs.Try.sizeOf40 w⟩) rfl rfl x4 ?_
      refine O.call rfl rfl rfl Go.Proofs.Try.call62 rfl zz6_spec ?_
      rintro _ H5 ⟨⟨bz, rfl⟩, hF5⟩
      refine ⟨trivial, ?_⟩
      refine O.not rfl rfl rfl rfl rfl ?_
      refine Pl.fin [(4, _), (8, _), (9, _), (10, _), (11, _), (16, _)] ⟨rfl, rfl, rfl, rfl, rfl, rfl, trivial⟩ ?_
      cases bz
      · skip
        refine Go'.condT rfl ?_
        refine Go'.seq ?_
        -- region 7 (zz_fits.go:59)
        refine Go'.region [(0, 0)] rfl ?_
        refine O.asg rfl rfl rfl rfl rfl ?_
        refine Pl.fin [(2, _), (4, _), (8, _), (9, _), (10, _), (11, _), (16, _)] ⟨rfl, rfl, rfl, rfl, rfl, rfl, rfl, trivial⟩ ?_
        refine Go'.ret (vs := [_]) Go.Proofs.Try.func27 Go.Proofs.Try.results27 ⟨rfl, trivial⟩ ?_
        exact ⟨⟨false, rfl, fun h => by cases h⟩, (hF.trans hf4).trans hF5⟩
      · skip
        refine Go'.condF rfl ?_
        refine Go'.skip ?_
        refine Go'.inBlock ?_
        -- region 8 (zz_fits.go:57)
        refine Go'.region [(0, 0), (1, 0)] rfl ?_
        refine O.add (((j + 1 : Nat) : Int)) rfl rfl rfl rfl rfl rfl (by omega) (by omega) ?_
        refine O.mv rfl rfl rfl rfl rfl ?_
        refine Pl.fin [(4, _), (8, _), (9, _), (10, _), (11, _), (16, _)] ⟨rfl, rfl, rfl, rfl, rfl, rfl, trivial⟩ ?_
        refine Go'.keep [(8, _), (9, _), (10, _)] ⟨rfl, rfl, rfl, trivial⟩ ?_
        refine Go'.inLoop ?_
        exact ih (j + 1) H5 ⟨(hF.trans hf4).trans hF5, hlt⟩ (by omega)
    · skip
      -- region 4 (zz_fits.go:57)
      refine Go'.region [(0, 0)] rfl ?_
      refine O.cmp rfl rfl rfl rfl rfl rfl (lssF (by omega)) ?_
      refine Pl.fin [(8, _), (9, _), (10, _), (11, _)] ⟨rfl, rfl, rfl, rfl, trivial⟩ ?_
      refine Go'.seq ?_
      refine Go'.condF rfl ?_
      refine Go'.exit rfl ?_
      refine Go'.seq ?_
      -- region 9 (zz_fits.go:62)
      refine Go'.region [(0, 0)] rfl ?_
      refine O.asg rfl rfl rfl rfl rfl ?_
      refine Pl.fin [(2, _)] ⟨rfl, trivial⟩ ?_
      refine Go'.ret (vs := [_]) Go.Proofs.Try.func27 Go.Proofs.Try.results27 ⟨rfl, trivial⟩ ?_
      exact ⟨⟨true, rfl, fun _ => by omega⟩, hF⟩

def fitp (z : Int) : Bool := decide (0 < z) && fitsb z
theorem fitp_nat {z : Int} (h : fitp z = true) : ∃ d : Nat, z = (d : Int) ∧ 2 ≤ d ∧ d ≤ 128 := by
  unfold fitp fitsb at h
  simp only [Bool.or_eq_true, Bool.and_eq_true, decide_eq_true_eq] at h
  exact ⟨z.toNat, by omega, by omega, by omega⟩
theorem fit_spec {B : World} {H : Mem} {z : Int} {b : Bool} (h : fitp z = b) : Fn Try.prog B 29 [.int .i64 z] H (fun r H' => r = .bool b ∧ H' = H) := by
  subst h
  refine fn_of Go.Proofs.Try.func29 rfl Go.Proofs.Try.ntmps29 ?_
  refine (show Go' _ _ _ _ 9 [(0, _)] [.code _] _ from ?_)
  refine Go'.seq ?_
  -- region 0 (others.go:116)
  refine Go'.region [(0, 0)] rfl ?_
  refine O.asg rfl rfl rfl rfl rfl ?_
  refine Pl.fin [(0, _), (2, _)] ⟨rfl, rfl, trivial⟩ ?_
  refine Go'.seq ?_
  by_cases h0 : 0 < z
  · skip
    -- region 1 (others.go:117)
    refine Go'.region [(0, 0), (1, 0), (2, 0), (3, 0), (4, 2), (5, 0), (6, 0)] rfl ?_
    refine O.mv rfl rfl rfl rfl rfl ?_
    refine O.cmp rfl rfl rfl rfl rfl rfl (gtrT (by omega)) ?_
    refine O.mv rfl rfl rfl rfl rfl ?_
    refine O.mv rfl rfl rfl rfl rfl ?_
    refine O.callQ rfl rfl rfl Go.Proofs.Try.call20 rfl fits_spec trivial ?_
    refine O.pick rfl rfl rfl rfl rfl rfl ?_
    refine O.asg rfl rfl rfl rfl rfl ?_
    refine Pl.fin [(2, _)] ⟨rfl, trivial⟩ ?_
    refine Go'.ret (vs := [_]) Go.Proofs.Try.func29 Go.Proofs.Try.results29 ⟨rfl, trivial⟩ ?_
    exact ⟨by unfold fitp; rw [decide_eq_true h0]; rfl, rfl⟩
  · skip
    -- region 1 (others.go:117)
    refine Go'.region [(0, 0), (1, 0), (2, 0), (3, 0), (4, 2), (5, 0), (6, 0)] rfl ?_
    refine O.mv rfl rfl rfl rfl rfl ?_
    refine O.cmp rfl rfl rfl rfl rfl rfl (gtrF (by omega)) ?_
    refine O.mv rfl rfl rfl rfl rfl ?_
    refine Pl.pass rfl rfl rfl rfl ?_
    refine Pl.pass2 rfl rfl rfl rfl trivial ?_
    refine O.pick rfl rfl rfl rfl rfl rfl ?_
    refine O.asg rfl rfl rfl rfl rfl ?_
    refine Pl.fin [(2, _)] ⟨rfl, trivial⟩ ?_
    refine Go'.ret (vs := [_]) Go.Proofs.Try.func29 Go.Proofs.Try.results29 ⟨rfl, trivial⟩ ?_
    exact ⟨by unfold fitp; rw [decide_eq_false h0]; rfl, rfl⟩

theorem fnExactWIter {B : World} {H : Mem} {z : Int} {u um : Value} {l : List (Wk × Int)} {ms : List (Int × Wk)} (hi : InS EJ H u l) (hu : InS EWm H um ms) :
    Fn Try.prog B 9 [.int .i64 z, u, um] H (fun r H' => r = .bool true ∧ Fr nowhere H H') := by
  have hi00 := hi
  have hu00 := hu
  have hbz : zzb l = true → (l.length : Int) ≤ 2147483647 := fun h => by
    unfold zzb at h
    rw [Bool.and_eq_true] at h
    exact of_decide_eq_true h.1
  refine fn_of Go.Proofs.Try.func9 rfl Go.Proofs.Try.ntmps9 ?_
  refine (show Go' _ _ _ _ 32 [(0, _), (1, _), (2, _)] [.code _] _ from ?_)
  refine Go'.seq ?_
  -- region 0 (exact.go:1957)
  refine Go'.region [(0, 0)] rfl ?_
  refine O.asg rfl rfl rfl rfl rfl ?_
  refine Pl.fin [(0, _), (1, _), (2, _), (6, _)] ⟨rfl, rfl, rfl, rfl, trivial⟩ ?_
  refine Go'.seq ?_
  refine Go'.seq ?_
  cases hzb : zzb l
  · skip
    -- region 1 (exact.go:1958)
    refine Go'.region [(0, 0), (1, 2), (2, 0), (3, 0), (4, 0), (5, 2), (6, 0), (7, 0)] rfl ?_
    refine O.mv rfl rfl rfl rfl rfl ?_
    refine O.call rfl rfl rfl Go.Proofs.Try.call17 rfl (zz2b_spec hi) ?_
    rintro _ H0 ⟨rfl, hF0⟩
    rw [hzb]
    have hi0 := hi00.fr hF0
    have hu0 := hu00.fr hF0
    refine ⟨trivial, ?_⟩
    refine O.not rfl rfl rfl rfl rfl ?_
    refine O.mv rfl rfl rfl rfl rfl ?_
    refine Pl.pass rfl rfl rfl rfl ?_
    refine Pl.pass2 rfl rfl rfl rfl trivial ?_
    refine Pl.pass rfl rfl rfl rfl ?_
    refine O.pick rfl rfl rfl rfl rfl rfl ?_
    refine Pl.fin [(0, _), (1, _), (2, _), (6, _), (14, _)] ⟨rfl, rfl, rfl, rfl, rfl, trivial⟩ ?_
    refine Go'.condT rfl ?_
    refine Go'.seq ?_
    -- region 2 (exact.go:1959)
    refine Go'.region [(0, 0)] rfl ?_
    refine O.asg rfl rfl rfl rfl rfl ?_
    refine Pl.fin [(0, _), (1, _), (2, _), (6, _)] ⟨rfl, rfl, rfl, rfl, trivial⟩ ?_
    refine Go'.ret (vs := [_]) Go.Proofs.Try.func9 Go.Proofs.Try.results9 ⟨rfl, trivial⟩ ?_
    exact ⟨rfl, hF0⟩
  · skip
    replace hbz := hbz hzb
    -- region 1 (exact.go:1958)
    refine Go'.region [(0, 0), (1, 2), (2, 0), (3, 0), (4, 0), (5, 2), (6, 0), (7, 0)] rfl ?_
    refine O.mv rfl rfl rfl rfl rfl ?_
    refine O.call rfl rfl rfl Go.Proofs.Try.call17 rfl (zz2b_spec hi) ?_
    rintro _ H0 ⟨rfl, hF0⟩
    rw [hzb]
    have hi0 := hi00.fr hF0
    have hu0 := hu00.fr hF0
    refine ⟨trivial, ?_⟩
    refine O.not rfl rfl rfl rfl rfl ?_
    refine O.mv rfl rfl rfl rfl rfl ?_
    refine O.mv rfl rfl rfl rfl rfl ?_
    refine O.call rfl rfl rfl Go.Proofs.Try.call27 rfl (zz5_spec hu0) ?_
    rintro _ H01 ⟨⟨bz, rfl, hbz2⟩, hF01⟩
    replace hi0 := hi0.fr hF01
    replace hu0 := hu0.fr hF01
    replace hF0 := hF0.trans hF01
    refine ⟨trivial, ?_⟩
    refine O.not rfl rfl rfl rfl rfl ?_
    refine O.pick rfl rfl rfl rfl rfl rfl ?_
    refine Pl.fin [(0, _), (1, _), (2, _), (6, _), (14, _)] ⟨rfl, rfl, rfl, rfl, rfl, trivial⟩ ?_
    cases bz
    · skip
      refine Go'.condT rfl ?_
      refine Go'.seq ?_
      -- region 2 (exact.go:1959)
      refine Go'.region [(0, 0)] rfl ?_
      refine O.asg rfl rfl rfl rfl rfl ?_
      refine Pl.fin [(0, _), (1, _), (2, _), (6, _)] ⟨rfl, rfl, rfl, rfl, trivial⟩ ?_
      refine Go'.ret (vs := [_]) Go.Proofs.Try.func9 Go.Proofs.Try.results9 ⟨rfl, trivial⟩ ?_
      exact ⟨rfl, hF0⟩
    · skip
      replace hbz2 := hbz2 rfl
      refine Go'.condF rfl ?_
      refine Go'.skip ?_
      refine Go'.seq ?_
      cases hfz : fitp z
      · skip
        -- region 3 (exact.go:1961)
        refine Go'.region [(0, 2), (1, 0), (2, 0), (3, 0), (4, 2), (5, 2), (6, 0), (7, 0), (8, 2), (9, 0), (10, 0), (11, 0), (12, 0), (13, 0), (14, 2), (15, 0), (16, 0), (17, 0)] rfl ?_
        refine O.call rfl rfl rfl Go.Proofs.Try.call19 rfl exWords_spec ?_
        rintro ev H1 ⟨hev, hF1⟩
        refine ⟨trivial, ?_⟩
        refine O.bld (cs := [.int .i64 1, .string ⟨#[]⟩]) rfl rfl rfl rfl (st40) rfl (by kernel_rfl) ?_
        refine O.bld (cs := [.int .i64 3, .string ⟨#[]⟩]) rfl rfl rfl rfl (st40) rfl (by kernel_rfl) ?_
        refine O.bld (cs := [.int .i64 4, .string ⟨#[97]⟩]) rfl rfl rfl rfl (st40) rfl (by kernel_rfl) ?_
        refine O.bsl (cs := (row EWm exml)) rfl rfl rfl ⟨Go.Proofs.Try.underlying36, Go.Proofs.Try.sizeOf40, Go.Proofs.Try.zeroValue40, ⟨_, Go.Proofs.Try.typeInfo40, rfl⟩, rfl, by decide, by decide⟩ rfl (by decide) (by kernel_rfl) ?_
        intro H9 M9
        have hem : InS EWm H9 (.slice (some ⟨H1.size, 0, none⟩) 3 3) exml := .inl ⟨H1.size, 0, 3, rfl, by decide, M9.rd _ [] (by simp)⟩
        replace hev := hev.fr (M9.fr nowhere)
        replace hF1 := hF1.trans (M9.fr nowhere)
        refine ⟨trivial, ?_⟩
        refine O.call rfl rfl rfl Go.Proofs.Try.call28 rfl (lawWIter_spec (d := 2) (by decide) hev (by decide) hem (by decide)) ?_
        rintro _ H2 ⟨rfl, hF2⟩
        have hF := hF1.trans hF2
        have hi2 := hi0.fr hF
        have hu2 := hu0.fr hF
        refine ⟨trivial, ?_⟩
        refine O.mv rfl rfl rfl rfl rfl ?_
        refine O.mv rfl rfl rfl rfl rfl ?_
        refine O.callQ rfl rfl rfl Go.Proofs.Try.call29 rfl (fit_spec hfz) trivial ?_
        refine O.not rfl rfl rfl rfl rfl ?_
        refine O.mv rfl rfl rfl rfl rfl ?_
        refine Pl.pass rfl rfl rfl rfl ?_
        refine Pl.pass rfl rfl rfl rfl ?_
        refine Pl.pass rfl rfl rfl rfl ?_
        refine Pl.pass2 rfl rfl rfl rfl trivial ?_
        refine O.pick rfl rfl rfl rfl rfl rfl ?_
        refine O.pick rfl rfl rfl rfl rfl rfl ?_
        refine O.asg rfl rfl rfl rfl rfl ?_
        refine Pl.fin [(6, _)] ⟨rfl, trivial⟩ ?_
        refine Go'.ret (vs := [_]) Go.Proofs.Try.func9 Go.Proofs.Try.results9 ⟨rfl, trivial⟩ ?_
        exact ⟨rfl, hF0.trans hF⟩
      · skip
        obtain ⟨d, rfl, hd⟩ := fitp_nat hfz
        -- region 3 (exact.go:1961)
        refine Go'.region [(0, 2), (1, 0), (2, 0), (3, 0), (4, 2), (5, 2), (6, 0), (7, 0), (8, 2), (9, 0), (10, 0), (11, 0), (12, 0), (13, 0), (14, 2), (15, 0), (16, 0), (17, 0)] rfl ?_
        refine O.call rfl rfl rfl Go.Proofs.Try.call19 rfl exWords_spec ?_
        rintro ev H1 ⟨hev, hF1⟩
        refine ⟨trivial, ?_⟩
        refine O.bld (cs := [.int .i64 1, .string ⟨#[]⟩]) rfl rfl rfl rfl (st40) rfl (by kernel_rfl) ?_
        refine O.bld (cs := [.int .i64 3, .string ⟨#[]⟩]) rfl rfl rfl rfl (st40) rfl (by kernel_rfl) ?_
        refine O.bld (cs := [.int .i64 4, .string ⟨#[97]⟩]) rfl rfl rfl rfl (st40) rfl (by kernel_rfl) ?_
        refine O.bsl (cs := (row EWm exml)) rfl rfl rfl ⟨Go.Proofs.Try.underlying36, Go.Proofs.Try.sizeOf40, Go.Proofs.Try.zeroValue40, ⟨_, Go.Proofs.Try.typeInfo40, rfl⟩, rfl, by decide, by decide⟩ rfl (by decide) (by kernel_rfl) ?_
        intro H9 M9
        have hem : InS EWm H9 (.slice (some ⟨H1.size, 0, none⟩) 3 3) exml := .inl ⟨H1.size, 0, 3, rfl, by decide, M9.rd _ [] (by simp)⟩
        replace hev := hev.fr (M9.fr nowhere)
        replace hF1 := hF1.trans (M9.fr nowhere)
        refine ⟨trivial, ?_⟩
        refine O.call rfl rfl rfl Go.Proofs.Try.call28 rfl (lawWIter_spec (d := 2) (by decide) hev (by decide) hem (by decide)) ?_
        rintro _ H2 ⟨rfl, hF2⟩
        have hF := hF1.trans hF2
        have hi2 := hi0.fr hF
        have hu2 := hu0.fr hF
        refine ⟨trivial, ?_⟩
        refine O.mv rfl rfl rfl rfl rfl ?_
        refine O.mv rfl rfl rfl rfl rfl ?_
        refine O.callQ rfl rfl rfl Go.Proofs.Try.call29 rfl (fit_spec hfz) trivial ?_
        refine O.not rfl rfl rfl rfl rfl ?_
        refine O.mv rfl rfl rfl rfl rfl ?_
        refine O.mv rfl rfl rfl rfl rfl ?_
        refine O.mv rfl rfl rfl rfl rfl ?_
        refine O.mv rfl rfl rfl rfl rfl ?_
        refine O.call rfl rfl rfl Go.Proofs.Try.call28 rfl (lawWIter_spec hd hi2 (by omega) hu2 (by omega)) ?_
        rintro _ H3 ⟨rfl, hF3⟩
        replace hF := hF.trans hF3
        refine ⟨trivial, ?_⟩
        refine O.pick rfl rfl rfl rfl rfl rfl ?_
        refine O.pick rfl rfl rfl rfl rfl rfl ?_
        refine O.asg rfl rfl rfl rfl rfl ?_
        refine Pl.fin [(6, _)] ⟨rfl, trivial⟩ ?_
        refine Go'.ret (vs := [_]) Go.Proofs.Try.func9 Go.Proofs.Try.results9 ⟨rfl, trivial⟩ ?_
        exact ⟨rfl, hF0.trans hF⟩

end Go.Bt.FW
namespace Go.Bt.FW
open Go Go.Proofs
set_option maxRecDepth 20000
set_option maxHeartbeats 4000000
set_option linter.unusedVariables false

/-- A key. -/
def EWk : Elt Wk := { enc := fun k => [.string k], s := 1, len := fun _ => rfl, one := fun _ => rfl, pos := by decide }
theorem nkeys0 {B : World} {H : Mem} {P : Ps} (hP : PsOk P) {v : Value} {acc : List Wk} {Z : Nat → Prop} {h : Nat} {t : Gt EI 0} (hg : Gt.Good H P 0 t) (hA : AccN EWk Z H v acc) (hnz : ∀ b o, Gt.af 0 t b o → ¬ Z b) (hlen : acc.length + (Gt.L 0 t).length ≤ 4294967296) :
    Fn Try.prog B 115 [.pointer (some ⟨Gt.p 0 t, 0, none⟩), v] H (fun r H' => ∃ Z', AccN EWk Z' H' r (acc ++ (Gt.L 0 t).map (fun x : Wk × Int => x.1)) ∧ Fr (fun b _ => Z b) H H' ∧ ∀ b, Z' b → Z b ∨ H.size ≤ b) := by
  obtain ⟨gg, X⟩ := t
  have hN : NodeM EI H gg X (.pointer none) := hg.1
  have hxm : X.length ≤ P.mx := hg.2.2.2
  have hx255 := hP.hx
  have hltN : ∀ b o, ncl EI gg b o → b < H.size := fun b o hb => NodeM.lt hN hb
  replace hlen : acc.length + X.length ≤ 4294967296 := hlen
  show Fn _ _ _ _ _ (fun r H' => ∃ Z', AccN EWk Z' H' r (acc ++ X.map (fun x : Wk × Int => x.1)) ∧ Fr (fun b _ => Z b) H H' ∧ ∀ b, Z' b → Z b ∨ H.size ≤ b)
  refine fn_of Go.Proofs.Try.func115 rfl Go.Proofs.Try.ntmps115 ?_
  refine (show Go' _ _ _ _ 79 [(0, _), (1, _)] [.code _] _ from ?_)
  refine Go'.seq ?_
  -- region 0 (map.go:1157)
  refine Go'.region [(0, 0)] rfl ?_
  refine O.asg rfl rfl rfl rfl rfl ?_
  refine Pl.fin [(0, _), (1, _), (4, _)] ⟨rfl, rfl, rfl, trivial⟩ ?_
  refine Go'.seq ?_
  refine Go'.seq ?_
  -- region 1 (map.go:1158)
  refine Go'.region [(0, 0), (1, 2)] rfl ?_
  refine O.mv rfl rfl rfl rfl rfl ?_
  refine O.callQ rfl rfl rfl Go.Proofs.Try.call118 rfl (leaf_spec hN.c3) trivial ?_
  refine Pl.fin [(0, _), (1, _), (4, _), (8, _)] ⟨rfl, rfl, rfl, rfl, trivial⟩ ?_
  refine Go'.condT rfl ?_
  refine Go'.seq ?_
  refine Go'.seq ?_
  -- region 2 (map.go:1159)
  refine Go'.region [(0, 0)] rfl ?_
  refine O.asg rfl rfl rfl rfl rfl ?_
  refine Pl.fin [(0, _), (1, _), (4, _), (5, _)] ⟨rfl, rfl, rfl, rfl, trivial⟩ ?_
  refine Go'.block ?_
  refine Go'.loop ?_
  refine Go'.keep [(0, _), (1, _), (5, _)] ⟨rfl, rfl, rfl, trivial⟩ ?_
  refine Go'.ind (σ := Nat × Value × (Nat → Prop)) (fun s => X.length - s.1) (fun s H' => s.1 ≤ X.length ∧ AccN EWk s.2.2 H' s.2.1 (acc ++ (X.take s.1).map (fun x : Wk × Int => x.1)) ∧ Fr (fun b _ => Z b) H H' ∧ ∀ b, s.2.2 b → Z b ∨ H.size ≤ b)
    (fun s => [(0, .pointer (some ⟨gg.p, 0, none⟩)), (1, s.2.1), (5, .int .i64 (s.1 : Int))]) (0, v, Z) ⟨Nat.zero_le _, by rw [List.take_zero]; show AccN EWk Z H v (acc ++ []); rw [List.append_nil]; exact hA, Fr.refl _ _, fun b hb => .inl hb⟩ rfl ?_
  clear hA
  rintro ⟨j, sv, Z1⟩ H2 ⟨hj, hA, hF, hZ1⟩ ih
  simp only at hj hA hZ1
  have hsz := hF.size
  replace hN := NodeM.fr EI hN hF (fun x y hxy hz => hnz x y hxy hz)
  refine Go'.seq ?_
  refine Go'.seq ?_
  by_cases hlt : j < X.length
  · skip
    obtain ⟨y, hy⟩ : ∃ y, X[j]? = some y := ⟨X[j], List.getElem?_eq_getElem hlt⟩
    have hd : acc ++ (X.take (j + 1)).map (fun x : Wk × Int => x.1) = acc ++ (X.take j).map (fun x : Wk × Int => x.1) ++ [y.1] := by rw [List.take_add_one, hy, List.map_append, List.append_assoc]; rfl
    have hal : (acc ++ (X.take j).map (fun x : Wk × Int => x.1)).length = acc.length + j := by rw [List.length_append, List.length_map, List.length_take]; omega
    -- region 3 (map.go:1159)
    refine Go'.region [(0, 0), (1, 0), (2, 0), (3, 0), (4, 1), (5, 0), (6, 0)] rfl ?_
    refine O.mv rfl rfl rfl rfl rfl ?_
    refine O.mv rfl rfl rfl rfl rfl ?_
    refine O.nc rfl rfl rfl rfl rfl ?_
    refine O.fa0 (off := 2) rfl rfl rfl rfl ⟨_, _, _, Go.Proofs.Try.underlying173, rfl, rfl, Go.Proofs.Try.sizeOf170⟩ rfl ?_
    refine O.ld rfl rfl rfl (fun w => ⟨Go.Proofs.Try.isAgg170 w, Go.Proofs.Try.sizeOf170 w⟩) rfl hN.c2 ?_
    refine O.len rfl rfl rfl rfl Go.Proofs.Try.underlying170 rfl ?_
    refine O.cmp rfl rfl rfl rfl rfl rfl (lssT (by omega)) ?_
    refine Pl.fin [(0, _), (1, _), (5, _), (15, _)] ⟨rfl, rfl, rfl, rfl, trivial⟩ ?_
    refine Go'.condT rfl ?_
    refine Go'.skip ?_
    refine Go'.seq ?_
    refine Go'.block ?_
    -- region 5 (map.go:1160)
    refine Go'.region [(0, 0), (1, 0), (2, 0), (3, 0), (4, 1), (5, 0), (6, 0), (7, 0), (8, 1), (9, 2), (10, 2), (11, 0)] rfl ?_
    refine O.mv rfl rfl rfl rfl rfl ?_
    refine O.mv rfl rfl rfl rfl rfl ?_
    refine O.nc rfl rfl rfl rfl rfl ?_
    refine O.fa0 (off := 2) rfl rfl rfl rfl ⟨_, _, _, Go.Proofs.Try.underlying173, rfl, rfl, Go.Proofs.Try.sizeOf170⟩ rfl ?_
    refine O.ld rfl rfl rfl (fun w => ⟨Go.Proofs.Try.isAgg170 w, Go.Proofs.Try.sizeOf170 w⟩) rfl hN.c2 ?_
    refine O.mv rfl rfl rfl rfl rfl ?_
    refine O.ix (j := j) rfl rfl rfl rfl Go.Proofs.Try.underlying170 Go.Proofs.Try.sizeOf113 rfl rfl (by omega) (by omega) ?_
    refine O.fa (off := 1) rfl rfl rfl rfl ⟨_, _, _, Go.Proofs.Try.underlying113, rfl, rfl, Go.Proofs.Try.sizeOf9⟩ rfl ?_
    refine O.ld rfl rfl rfl (fun w => ⟨Go.Proofs.Try.isAgg9 w, Go.Proofs.Try.sizeOf9 w⟩) rfl (hN.sl.cell hy (j := 1) rfl) ?_
    refine O.bsl (cs := (EWk.enc y.1)) rfl rfl rfl ⟨Go.Proofs.Try.underlying48, Go.Proofs.Try.sizeOf9, Go.Proofs.Try.zeroValue9, ⟨_, Go.Proofs.Try.typeInfo9, rfl⟩, rfl, by decide, by decide⟩ rfl (by decide) (by kernel_rfl) ?_
    intro H3 M3
    have hs3 := M3.size
    have hA3 := hA.fr (M3.fr nowhere) (fun _ _ _ _ => nw)
    have hv3 : InS EWk H3 (.slice (some ⟨H2.size, 0, none⟩) 1 1) [y.1] := .inl ⟨_, _, _, rfl, Nat.le_refl _, M3.rd _ [] (by simp [row, EWk])⟩
    refine ⟨trivial, ?_⟩
    refine O.appI (E := EWk) rfl rfl rfl ⟨Go.Proofs.Try.underlying48, Go.Proofs.Try.sizeOf9, Go.Proofs.Try.zeroValue9, ⟨_, Go.Proofs.Try.typeInfo9, rfl⟩, rfl, by decide, by decide⟩ rfl hA3 rfl hv3 (Nat.le_trans (Nat.mul_le_mul_left _ (Nat.le_of_ble_eq_true (n := _) (m := 4096) rfl)) (by rw [hal, List.length_singleton]; omega)) (by rw [hal, List.length_singleton]; omega) ?_
    intro v4 H4 hA4 hF4 hs4
    have hg4 := hF4.size
    rw [← hd] at hA4
    refine ⟨trivial, ?_⟩
    refine O.asg rfl rfl rfl rfl rfl ?_
    refine Pl.fin [(0, _), (1, _), (5, _), (15, _)] ⟨rfl, rfl, rfl, rfl, trivial⟩ ?_
    refine Go'.inBlock ?_
    -- region 4 (map.go:1159)
    refine Go'.region [(0, 0), (1, 0), (2, 0)] rfl ?_
    refine O.mv rfl rfl rfl rfl rfl ?_
    refine O.add (((j + 1 : Nat) : Int)) rfl rfl rfl rfl rfl rfl (by omega) (by omega) ?_
    refine O.asg rfl rfl rfl rfl rfl ?_
    refine Pl.fin [(0, _), (1, _), (5, _), (15, _)] ⟨rfl, rfl, rfl, rfl, trivial⟩ ?_
    refine Go'.keep [(0, _), (1, _), (5, _)] ⟨rfl, rfl, rfl, trivial⟩ ?_
    refine Go'.inLoop ?_
    exact ih (j + 1, v4, _) H4 ⟨hlt, hA4, (hF.trans' (M3.fr nowhere) (fun _ _ _ h => h) (fun _ _ _ h => h.elim)).trans' hF4 (fun _ _ _ h => h) (fun b o hb hz => (hZ1 b hz).elim id (fun h => by omega)), fun b hb => hb.elim (hZ1 b) (fun h => .inr (by omega))⟩ (by simp only; omega)
  · skip
    obtain rfl : j = X.length := by omega
    rw [List.take_length] at hA
    -- region 3 (map.go:1159)
    refine Go'.region [(0, 0), (1, 0), (2, 0), (3, 0), (4, 1), (5, 0), (6, 0)] rfl ?_
    refine O.mv rfl rfl rfl rfl rfl ?_
    refine O.mv rfl rfl rfl rfl rfl ?_
    refine O.nc rfl rfl rfl rfl rfl ?_
    refine O.fa0 (off := 2) rfl rfl rfl rfl ⟨_, _, _, Go.Proofs.Try.underlying173, rfl, rfl, Go.Proofs.Try.sizeOf170⟩ rfl ?_
    refine O.ld rfl rfl rfl (fun w => ⟨Go.Proofs.Try.isAgg170 w, Go.Proofs.Try.sizeOf170 w⟩) rfl hN.c2 ?_
    refine O.len rfl rfl rfl rfl Go.Proofs.Try.underlying170 rfl ?_
    refine O.cmp rfl rfl rfl rfl rfl rfl (lssF (by omega)) ?_
    refine Pl.fin [(0, _), (1, _), (5, _), (15, _)] ⟨rfl, rfl, rfl, rfl, trivial⟩ ?_
    refine Go'.condF rfl ?_
    refine Go'.exit rfl ?_
    refine Go'.seq ?_
    -- region 6 (map.go:1162)
    refine Go'.region [(0, 0), (1, 0)] rfl ?_
    refine O.mv rfl rfl rfl rfl rfl ?_
    refine O.asg rfl rfl rfl rfl rfl ?_
    refine Pl.fin [(0, _), (1, _), (4, _)] ⟨rfl, rfl, rfl, trivial⟩ ?_
    refine Go'.ret (vs := [_]) Go.Proofs.Try.func115 Go.Proofs.Try.results115 ⟨rfl, trivial⟩ ?_
    exact ⟨Z1, hA, hF, hZ1⟩

theorem nkeys {B : World} {P : Ps} (hP : PsOk P) : ∀ (h : Nat) {H : Mem} {v : Value} {acc : List Wk} {Z : Nat → Prop} {t : Gt EI h}, Gt.Good H P h t → AccN EWk Z H v acc → (∀ b o, Gt.af h t b o → ¬ Z b) → acc.length + (Gt.L h t).length ≤ 4294967296 →
    Fn Try.prog B 115 [.pointer (some ⟨Gt.p h t, 0, none⟩), v] H (fun r H' => ∃ Z', AccN EWk Z' H' r (acc ++ (Gt.L h t).map (fun x : Wk × Int => x.1)) ∧ Fr (fun b _ => Z b) H H' ∧ ∀ b, Z' b → Z b ∨ H.size ≤ b)
  | 0, _, _, _, _, _, hg, hA, hnz, hlen => nkeys0 (h := 0) hP hg hA hnz hlen
  | h + 1, H, v, acc, Z, (gg, X, K), hg, hA, hnz, hlen => by
    have ih := @nkeys B P hP h
    have hI : Inn H P h gg X ((Gt.ps h K).map some) K := hg.inn
    have hKl : K.length = X.length + 1 := hg.2.2.2.2.2.1
    have hxm : X.length ≤ P.mx := hg.2.2.2.2.1
    have hx255 := hP.hx
    have hKL : (K.map (Gt.L h)).length = X.length + 1 := by rw [List.length_map]; exact hKl
    have hol : ((Gt.ps h K).map some).length = X.length + 1 := by rw [List.length_map, Gt.ps, List.length_map]; exact hKl
    replace hlen : acc.length + (Pl.inter X (K.map (Gt.L h))).length ≤ 4294967296 := hlen
    have hlt : ∀ x y, innc h gg K x y → x < H.size := fun x y hb => hI.lt hb
    have hin : ∀ H', Fr (fun x _ => Z x) H H' → Inn H' P h gg X ((Gt.ps h K).map some) K := fun H' hf => hI.fr hf (fun x y hxy hz => hnz x y hxy hz)
    have hcat : ∀ {Z1 Z2 : Nat → Prop} {H2 H3 : Mem}, Fr (fun x _ => Z x) H H2 → (∀ b, Z1 b → Z b ∨ H.size ≤ b) → Fr (fun x _ => Z1 x) H2 H3 → (∀ b, Z2 b → Z1 b ∨ H2.size ≤ b) → Fr (fun x _ => Z x) H H3 ∧ ∀ b, Z2 b → Z b ∨ H.size ≤ b := by
      intro Z1 Z2 H2 H3 hF hZ1 hF2 hZ2
      have := hF.size
      exact ⟨hF.trans' hF2 (fun _ _ _ h => h) (fun b o hb hz => (hZ1 b hz).elim id (fun h => by omega)), fun b hb => (hZ2 b hb).elim (hZ1 b) (fun h => .inr (by omega))⟩
    have hkz : ∀ {Z1 : Nat → Prop} {k : Gt EI h}, k ∈ K → (∀ b, Z1 b → Z b ∨ H.size ≤ b) → ∀ b o, Gt.af h k b o → ¬ Z1 b := fun hk hZ1 b o hb hz => (hZ1 b hz).elim (hnz b o (.inr (.inr ⟨_, hk, hb⟩))) (fun hz => by have := hlt b o (.inr (.inr ⟨_, hk, hb⟩)); omega)
    show Fn _ _ _ _ _ (fun r H' => ∃ Z', AccN EWk Z' H' r (acc ++ (Pl.inter X (K.map (Gt.L h))).map (fun x : Wk × Int => x.1)) ∧ Fr (fun b _ => Z b) H H' ∧ ∀ b, Z' b → Z b ∨ H.size ≤ b)
    refine fn_of Go.Proofs.Try.func115 rfl Go.Proofs.Try.ntmps115 ?_
    refine (show Go' _ _ _ _ 79 [(0, _), (1, _)] [.code _] _ from ?_)
    refine Go'.seq ?_
    -- region 0 (map.go:1157)
    refine Go'.region [(0, 0)] rfl ?_
    refine O.asg rfl rfl rfl rfl rfl ?_
    refine Pl.fin [(0, _), (1, _), (4, _)] ⟨rfl, rfl, rfl, trivial⟩ ?_
    refine Go'.seq ?_
    refine Go'.seq ?_
    -- region 1 (map.go:1158)
    refine Go'.region [(0, 0), (1, 2)] rfl ?_
    refine O.mv rfl rfl rfl rfl rfl ?_
    refine O.callQ rfl rfl rfl Go.Proofs.Try.call118 rfl (leaf_spec hI.n.c3) trivial ?_
    refine Pl.fin [(0, _), (1, _), (4, _), (8, _)] ⟨rfl, rfl, rfl, rfl, trivial⟩ ?_
    refine Go'.condF rfl ?_
    refine Go'.skip ?_
    refine Go'.seq ?_
    refine Go'.seq ?_
    -- region 7 (map.go:1164)
    refine Go'.region [(0, 0)] rfl ?_
    refine O.asg rfl rfl rfl rfl rfl ?_
    refine Pl.fin [(0, _), (1, _), (4, _), (6, _)] ⟨rfl, rfl, rfl, rfl, trivial⟩ ?_
    refine Go'.block ?_
    refine Go'.loop ?_
    refine Go'.keep [(0, _), (1, _), (6, _)] ⟨rfl, rfl, rfl, trivial⟩ ?_
    refine Go'.ind (σ := Nat × Value × (Nat → Prop)) (fun s => X.length - s.1) (fun s H' => s.1 ≤ X.length ∧ AccN EWk s.2.2 H' s.2.1 (acc ++ (Pl.pre (X.take s.1) ((K.map (Gt.L h)).take s.1)).map (fun x : Wk × Int => x.1)) ∧ Fr (fun b _ => Z b) H H' ∧ ∀ b, s.2.2 b → Z b ∨ H.size ≤ b)
      (fun s => [(0, .pointer (some ⟨gg.p, 0, none⟩)), (1, s.2.1), (6, .int .i64 (s.1 : Int))]) (0, v, Z) ⟨Nat.zero_le _, by rw [List.take_zero]; show AccN EWk Z H v (acc ++ []); rw [List.append_nil]; exact hA, Fr.refl _ _, fun b hb => .inl hb⟩ rfl ?_
    clear hA
    rintro ⟨j, sv, Z1⟩ H2 ⟨hj, hA, hF, hZ1⟩ ih2
    simp only at hj hA hZ1
    have hsz := hF.size
    have hI2 := hin H2 hF
    have hpl := Pl.pre_len X (K.map (Gt.L h)) hKL j hj
    have hal : (acc ++ (Pl.pre (X.take j) ((K.map (Gt.L h)).take j)).map (fun x : Wk × Int => x.1)).length = acc.length + (Pl.pre (X.take j) ((K.map (Gt.L h)).take j)).length := by rw [List.length_append, List.length_map]
    obtain ⟨k, hkk⟩ : ∃ k, K[j]? = some k := ⟨K[j], List.getElem?_eq_getElem (by omega)⟩
    have hkL : (K.map (Gt.L h))[j]? = some (Gt.L h k) := by rw [List.getElem?_map, hkk]; rfl
    have hkK : k ∈ K := List.mem_of_getElem? hkk
    have hok : ((Gt.ps h K).map some)[j]? = some (some (Gt.p h k)) := by rw [Gt.ps, List.map_map, List.getElem?_map, hkk]; rfl
    refine Go'.seq ?_
    refine Go'.seq ?_
    by_cases hlt2 : j < X.length
    · skip
      obtain ⟨y, hy⟩ : ∃ y, X[j]? = some y := ⟨X[j], List.getElem?_eq_getElem hlt2⟩
      have hps := Pl.pre_succ hy hkL
      have hpl2 := Pl.pre_len X (K.map (Gt.L h)) hKL (j + 1) hlt2
      rw [hps, List.length_append, List.length_append, List.length_singleton] at hpl2
      -- region 8 (map.go:1164)
      refine Go'.region [(0, 0), (1, 0), (2, 0), (3, 0), (4, 1), (5, 0), (6, 0)] rfl ?_
      refine O.mv rfl rfl rfl rfl rfl ?_
      refine O.mv rfl rfl rfl rfl rfl ?_
      refine O.nc rfl rfl rfl rfl rfl ?_
      refine O.fa0 (off := 2) rfl rfl rfl rfl ⟨_, _, _, Go.Proofs.Try.underlying173, rfl, rfl, Go.Proofs.Try.sizeOf170⟩ rfl ?_
      refine O.ld rfl rfl rfl (fun w => ⟨Go.Proofs.Try.isAgg170 w, Go.Proofs.Try.sizeOf170 w⟩) rfl hI2.n.c2 ?_
      refine O.len rfl rfl rfl rfl Go.Proofs.Try.underlying170 rfl ?_
      refine O.cmp rfl rfl rfl rfl rfl rfl (lssT (by omega)) ?_
      refine Pl.fin [(0, _), (1, _), (6, _), (36, _)] ⟨rfl, rfl, rfl, rfl, trivial⟩ ?_
      refine Go'.condT rfl ?_
      refine Go'.skip ?_
      refine Go'.seq ?_
      refine Go'.block ?_
      refine Go'.seq ?_
      -- region 10 (map.go:1165)
      refine Go'.region [(0, 0), (1, 0), (2, 0), (3, 1), (4, 0), (5, 1), (6, 0), (7, 0), (8, 1), (9, 0), (10, 2), (11, 0)] rfl ?_
      refine O.mv rfl rfl rfl rfl rfl ?_
      refine O.nc rfl rfl rfl rfl rfl ?_
      refine O.fa0 (off := 3) rfl rfl rfl rfl ⟨_, _, _, Go.Proofs.Try.underlying173, rfl, rfl, Go.Proofs.Try.sizeOf171⟩ rfl ?_
      refine O.ld rfl rfl rfl (fun w => ⟨Go.Proofs.Try.isAgg171 w, Go.Proofs.Try.sizeOf171 w⟩) rfl hI2.n.c3 ?_
      refine O.nc rfl rfl rfl rfl rfl ?_
      refine O.ld rfl rfl rfl (fun w => ⟨Go.Proofs.Try.isAgg176 w, Go.Proofs.Try.sizeOf176 w⟩) rfl hI2.k.c ?_
      refine O.mv rfl rfl rfl rfl rfl ?_
      refine O.ix (j := j) rfl rfl rfl rfl Go.Proofs.Try.underlying176 Go.Proofs.Try.sizeOf163 rfl rfl (by omega) (by omega) ?_
      refine O.ld rfl rfl rfl (fun w => ⟨Go.Proofs.Try.isAgg163 w, Go.Proofs.Try.sizeOf163 w⟩) rfl (hI2.k.at hok) ?_
      refine O.mv rfl rfl rfl rfl rfl ?_
      refine O.call rfl rfl rfl Go.Proofs.Try.call115 rfl (ih (hI2.c.1 k hkK).1 hA (hkz hkK hZ1) (by rw [hal]; omega)) ?_
      rintro _ H4 ⟨Z4, hA4, hF4, hZ4⟩
      obtain ⟨hF5, hZ5⟩ := hcat hF hZ1 hF4 hZ4
      have hsz5 := hF5.size
      refine ⟨trivial, ?_⟩
      refine O.asg rfl rfl rfl rfl rfl ?_
      refine Pl.fin [(0, _), (1, _), (6, _), (36, _)] ⟨rfl, rfl, rfl, rfl, trivial⟩ ?_
      have hI4 := hin H4 hF5
      have hal4 : (acc ++ (Pl.pre (X.take j) ((K.map (Gt.L h)).take j)).map (fun x : Wk × Int => x.1) ++ (Gt.L h k).map (fun x : Wk × Int => x.1)).length = acc.length + (Pl.pre (X.take j) ((K.map (Gt.L h)).take j)).length + (Gt.L h k).length := by rw [List.length_append, hal, List.length_map]
      -- region 11 (map.go:1166)
      refine Go'.region [(0, 0), (1, 0), (2, 0), (3, 0), (4, 1), (5, 0), (6, 0), (7, 0), (8, 1), (9, 2), (10, 2), (11, 0)] rfl ?_
      refine O.mv rfl rfl rfl rfl rfl ?_
      refine O.mv rfl rfl rfl rfl rfl ?_
      refine O.nc rfl rfl rfl rfl rfl ?_
      refine O.fa0 (off := 2) rfl rfl rfl rfl ⟨_, _, _, Go.Proofs.Try.underlying173, rfl, rfl, Go.Proofs.Try.sizeOf170⟩ rfl ?_
      refine O.ld rfl rfl rfl (fun w => ⟨Go.Proofs.Try.isAgg170 w, Go.Proofs.Try.sizeOf170 w⟩) rfl hI4.n.c2 ?_
      refine O.mv rfl rfl rfl rfl rfl ?_
      refine O.ix (j := j) rfl rfl rfl rfl Go.Proofs.Try.underlying170 Go.Proofs.Try.sizeOf113 rfl rfl (by omega) (by omega) ?_
      refine O.fa (off := 1) rfl rfl rfl rfl ⟨_, _, _, Go.Proofs.Try.underlying113, rfl, rfl, Go.Proofs.Try.sizeOf9⟩ rfl ?_
      refine O.ld rfl rfl rfl (fun w => ⟨Go.Proofs.Try.isAgg9 w, Go.Proofs.Try.sizeOf9 w⟩) rfl (hI4.n.sl.cell hy (j := 1) rfl) ?_
      refine O.bsl (cs := (EWk.enc y.1)) rfl rfl rfl ⟨Go.Proofs.Try.underlying48, Go.Proofs.Try.sizeOf9, Go.Proofs.Try.zeroValue9, ⟨_, Go.Proofs.Try.typeInfo9, rfl⟩, rfl, by decide, by decide⟩ rfl (by decide) (by kernel_rfl) ?_
      intro H6 M6
      have hs6 := M6.size
      have hA6 := hA4.fr (M6.fr nowhere) (fun _ _ _ _ => nw)
      have hv6 : InS EWk H6 (.slice (some ⟨H4.size, 0, none⟩) 1 1) [y.1] := .inl ⟨_, _, _, rfl, Nat.le_refl _, M6.rd _ [] (by simp [row, EWk])⟩
      refine ⟨trivial, ?_⟩
      refine O.appI (E := EWk) rfl rfl rfl ⟨Go.Proofs.Try.underlying48, Go.Proofs.Try.sizeOf9, Go.Proofs.Try.zeroValue9, ⟨_, Go.Proofs.Try.typeInfo9, rfl⟩, rfl, by decide, by decide⟩ rfl hA6 rfl hv6 (Nat.le_trans (Nat.mul_le_mul_left _ (Nat.le_of_ble_eq_true (n := _) (m := 4096) rfl)) (by rw [hal4, List.length_singleton]; omega)) (by rw [hal4, List.length_singleton]; omega) ?_
      intro v7 H7 hA7 hF7 hs7
      have hg7 := hF7.size
      refine ⟨trivial, ?_⟩
      refine O.asg rfl rfl rfl rfl rfl ?_
      refine Pl.fin [(0, _), (1, _), (6, _), (36, _)] ⟨rfl, rfl, rfl, rfl, trivial⟩ ?_
      refine Go'.inBlock ?_
      -- region 9 (map.go:1164)
      refine Go'.region [(0, 0), (1, 0), (2, 0)] rfl ?_
      refine O.mv rfl rfl rfl rfl rfl ?_
      refine O.add (((j + 1 : Nat) : Int)) rfl rfl rfl rfl rfl rfl (by omega) (by omega) ?_
      refine O.asg rfl rfl rfl rfl rfl ?_
      refine Pl.fin [(0, _), (1, _), (6, _), (36, _)] ⟨rfl, rfl, rfl, rfl, trivial⟩ ?_
      refine Go'.keep [(0, _), (1, _), (6, _)] ⟨rfl, rfl, rfl, trivial⟩ ?_
      refine Go'.inLoop ?_
      refine ih2 (j + 1, v7, fun b => Z4 b ∨ (b = H6.size ∧ b < H7.size)) H7 ⟨hlt2, ?_, (hF5.trans' (M6.fr nowhere) (fun _ _ _ h => h) (fun _ _ _ h => h.elim)).trans' hF7 (fun _ _ _ h => h) (fun b o hb hz => (hZ5 b hz).elim id (fun h => by omega)), fun b hb => hb.elim (hZ5 b) (fun h => .inr (by omega))⟩ (by simp only; omega)
      simp only
      rw [hps, List.map_append, List.map_append, ← List.append_assoc, ← List.append_assoc]
      exact hA7
    · skip
      obtain rfl : j = X.length := by omega
      have hil := Pl.inter_eq_pre (Nat.le_refl _) hkL
      rw [List.take_length, show (K.map (Gt.L h)).take (X.length + 1) = K.map (Gt.L h) from List.take_of_length_le (by omega)] at hil
      rw [List.take_length] at hA hal hpl
      have hll := congrArg List.length hil
      rw [List.length_append] at hll
      -- region 8 (map.go:1164)
      refine Go'.region [(0, 0), (1, 0), (2, 0), (3, 0), (4, 1), (5, 0), (6, 0)] rfl ?_
      refine O.mv rfl rfl rfl rfl rfl ?_
      refine O.mv rfl rfl rfl rfl rfl ?_
      refine O.nc rfl rfl rfl rfl rfl ?_
      refine O.fa0 (off := 2) rfl rfl rfl rfl ⟨_, _, _, Go.Proofs.Try.underlying173, rfl, rfl, Go.Proofs.Try.sizeOf170⟩ rfl ?_
      refine O.ld rfl rfl rfl (fun w => ⟨Go.Proofs.Try.isAgg170 w, Go.Proofs.Try.sizeOf170 w⟩) rfl hI2.n.c2 ?_
      refine O.len rfl rfl rfl rfl Go.Proofs.Try.underlying170 rfl ?_
      refine O.cmp rfl rfl rfl rfl rfl rfl (lssF (by omega)) ?_
      refine Pl.fin [(0, _), (1, _), (6, _), (36, _)] ⟨rfl, rfl, rfl, rfl, trivial⟩ ?_
      refine Go'.condF rfl ?_
      refine Go'.exit rfl ?_
      refine Go'.seq ?_
      -- region 12 (map.go:1168)
      refine Go'.draw (fun _ => True) [(0, 0), (1, 0), (2, 0), (3, 1), (4, 0), (5, 1), (6, 0), (7, 0), (8, 0), (9, 1), (10, 0), (11, 1), (12, 0), (13, 0), (14, 0), (15, 1), (16, 0), (17, 2), (18, 0)] (by kernel_rfl) (by kernel_rfl) (trivial) ?_
      refine O.mv rfl rfl rfl rfl rfl ?_
      refine O.nc rfl rfl rfl rfl rfl ?_
      refine O.fa0 (off := 3) rfl rfl rfl rfl ⟨_, _, _, Go.Proofs.Try.underlying173, rfl, rfl, Go.Proofs.Try.sizeOf171⟩ rfl ?_
      refine O.ld rfl rfl rfl (fun w => ⟨Go.Proofs.Try.isAgg171 w, Go.Proofs.Try.sizeOf171 w⟩) rfl hI2.n.c3 ?_
      refine O.nc rfl rfl rfl rfl rfl ?_
      refine O.ld rfl rfl rfl (fun w => ⟨Go.Proofs.Try.isAgg176 w, Go.Proofs.Try.sizeOf176 w⟩) rfl hI2.k.c ?_
      refine O.mv rfl rfl rfl rfl rfl ?_
      refine O.nc rfl rfl rfl rfl rfl ?_
      refine O.fa0 (off := 3) rfl rfl rfl rfl ⟨_, _, _, Go.Proofs.Try.underlying173, rfl, rfl, Go.Proofs.Try.sizeOf171⟩ rfl ?_
      refine O.ld rfl rfl rfl (fun w => ⟨Go.Proofs.Try.isAgg171 w, Go.Proofs.Try.sizeOf171 w⟩) rfl hI2.n.c3 ?_
      refine O.nc rfl rfl rfl rfl rfl ?_
      refine O.ld rfl rfl rfl (fun w => ⟨Go.Proofs.Try.isAgg176 w, Go.Proofs.Try.sizeOf176 w⟩) rfl hI2.k.c ?_
      refine O.len rfl rfl rfl rfl Go.Proofs.Try.underlying176 rfl ?_
      refine O.sub (((X.length : Nat) : Int)) rfl rfl rfl rfl rfl rfl (by omega) (by omega) ?_
      refine O.ix (j := X.length) rfl rfl rfl rfl Go.Proofs.Try.underlying176 Go.Proofs.Try.sizeOf163 rfl rfl (by omega) (by omega) ?_
      refine O.ld rfl rfl rfl (fun w => ⟨Go.Proofs.Try.isAgg163 w, Go.Proofs.Try.sizeOf163 w⟩) rfl (hI2.k.at hok) ?_
      refine O.mv rfl rfl rfl rfl rfl ?_
      refine O.call rfl rfl rfl Go.Proofs.Try.call115 rfl (ih (hI2.c.1 k hkK).1 hA (hkz hkK hZ1) (by rw [hal]; omega)) ?_
      rintro _ H4 ⟨Z4, hA4, hF4, hZ4⟩
      obtain ⟨hF5, hZ5⟩ := hcat hF hZ1 hF4 hZ4
      refine ⟨trivial, ?_⟩
      refine O.asg rfl rfl rfl rfl rfl ?_
      refine Pl.fin [(4, _)] ⟨rfl, trivial⟩ ?_
      refine Go'.ret (vs := [_]) Go.Proofs.Try.func115 Go.Proofs.Try.results115 ⟨rfl, trivial⟩ ?_
      refine ⟨Z4, ?_, hF5, hZ5⟩
      rw [hil, List.map_append, ← List.append_assoc]
      exact hA4

theorem len_spec {B : World} {H : Mem} {tr : Nat} {P : Ps} {S : Nat → Prop} {l : List (Wk × Int)} (hM : MapM H tr P S l) :
    Fn Try.prog B 114 [.pointer (some ⟨tr, 0, none⟩)] H (fun r H' => r = .int .i64 (l.length : Int) ∧ H' = H) := by
  refine fn_of Go.Proofs.Try.func114 rfl Go.Proofs.Try.ntmps114 ?_
  refine (show Go' _ _ _ _ 7 [(0, _)] [.code _] _ from ?_)
  refine Go'.seq ?_
  -- region 0 (map.go:335)
  refine Go'.region [(0, 0)] rfl ?_
  refine O.asg rfl rfl rfl rfl rfl ?_
  refine Pl.fin [(0, _), (2, _)] ⟨rfl, rfl, trivial⟩ ?_
  refine Go'.seq ?_
  -- region 1 (map.go:336)
  refine Go'.region [(0, 0), (1, 0), (2, 0), (3, 1), (4, 0)] rfl ?_
  refine O.mv rfl rfl rfl rfl rfl ?_
  refine O.nc rfl rfl rfl rfl rfl ?_
  refine O.fa0 (off := 3) rfl rfl rfl rfl ⟨_, _, _, Go.Proofs.Try.underlying165, rfl, rfl, Go.Proofs.Try.sizeOf3⟩ rfl ?_
  refine O.ld rfl rfl rfl (fun w => ⟨Go.Proofs.Try.isAgg3 w, Go.Proofs.Try.sizeOf3 w⟩) rfl hM.cnt ?_
  refine O.asg rfl rfl rfl rfl rfl ?_
  refine Pl.fin [(2, _)] ⟨rfl, trivial⟩ ?_
  refine Go'.ret (vs := [_]) Go.Proofs.Try.func114 Go.Proofs.Try.results114 ⟨rfl, trivial⟩ ?_
  exact ⟨rfl, rfl⟩

theorem keys_spec {B : World} {H : Mem} {tr : Nat} {P : Ps} (hP : PsOk P) {S : Nat → Prop} {l : List (Wk × Int)} (hM : MapM H tr P S l) (hll : l.length ≤ 4294967296) :
    Fn Try.prog B 72 [.pointer (some ⟨tr, 0, none⟩)] H (fun r H' => OutS EWk H' r (l.map (fun x : Wk × Int => x.1)) ∧ Fr nowhere H H') := by
  have lt0 := hM.lt
  refine fn_of Go.Proofs.Try.func72 rfl Go.Proofs.Try.ntmps72 ?_
  refine (show Go' _ _ _ _ 19 [(0, _)] [.code _] _ from ?_)
  refine Go'.seq ?_
  -- region 0 (map.go:1149)
  refine Go'.region [(0, 0)] rfl ?_
  refine O.asg rfl rfl rfl rfl rfl ?_
  refine Pl.fin [(0, _), (2, _)] ⟨rfl, rfl, trivial⟩ ?_
  refine Go'.seq ?_
  -- region 1 (map.go:1150)
  refine Go'.region [(0, 0), (1, 2), (2, 2), (3, 0)] rfl ?_
  refine O.mv rfl rfl rfl rfl rfl ?_
  refine O.callQ rfl rfl rfl Go.Proofs.Try.call114 rfl (len_spec hM) trivial ?_
  refine O.mks (j := 0) (c := l.length) rfl rfl rfl ⟨Go.Proofs.Try.underlying48, Go.Proofs.Try.sizeOf9, Go.Proofs.Try.zeroValue9, ⟨_, Go.Proofs.Try.typeInfo9, rfl⟩, rfl, by decide, by decide⟩ rfl rfl rfl rfl (by omega) (Nat.le_trans (Nat.mul_le_mul_right _ (Nat.le_of_ble_eq_true (n := _) (m := 4096) rfl)) (by omega)) (by omega) ?_
  intro H1 M1
  have hs1 := M1.size
  have hA1 : AccN EWk (fun b => H.size ≤ b) H1 (.slice (some ⟨H.size, 0, none⟩) 0 l.length) [] := ⟨H.size, 0, l.length, rfl, Nat.le_refl _, by omega, ⟨rfl, Nat.zero_le _, Rd.nil _ _ _, M1.wr _ (by rw [zeroRow_size]; exact Nat.le_refl _)⟩⟩
  replace hM := hM.fr (M1.fr nowhere) (fun _ _ _ => nw)
  obtain ⟨tc, srt, cnt, own, lt, hr⟩ := hM
  refine ⟨trivial, ?_⟩
  refine O.asg rfl rfl rfl rfl rfl ?_
  refine Pl.fin [(0, _), (2, _), (3, _)] ⟨rfl, rfl, rfl, trivial⟩ ?_
  refine Go'.seq ?_
  refine Go'.seq ?_
  rcases hr with ⟨rfl, hptr⟩ | ⟨h, t, hg, hx1, e, hc, hnt, hown⟩
  · skip
    -- region 2 (map.go:1151)
    refine Go'.region [(0, 0), (1, 0), (2, 0), (3, 1), (4, 0)] rfl ?_
    refine O.mv rfl rfl rfl rfl rfl ?_
    refine O.nc rfl rfl rfl rfl rfl ?_
    refine O.fa0 (off := 2) rfl rfl rfl rfl ⟨_, _, _, Go.Proofs.Try.underlying165, rfl, rfl, Go.Proofs.Try.sizeOf163⟩ rfl ?_
    refine O.ld rfl rfl rfl (fun w => ⟨Go.Proofs.Try.isAgg163 w, Go.Proofs.Try.sizeOf163 w⟩) rfl hptr ?_
    refine O.notNil rfl rfl rfl rfl Go.Proofs.Try.underlying163 rfl rfl ?_
    refine Pl.fin [(0, _), (2, _), (3, _), (11, _)] ⟨rfl, rfl, rfl, rfl, trivial⟩ ?_
    refine Go'.condF rfl ?_
    refine Go'.skip ?_
    refine Go'.seq ?_
    -- region 4 (map.go:1154)
    refine Go'.region [(0, 0), (1, 0)] rfl ?_
    refine O.mv rfl rfl rfl rfl rfl ?_
    refine O.asg rfl rfl rfl rfl rfl ?_
    refine Pl.fin [(2, _)] ⟨rfl, trivial⟩ ?_
    refine Go'.ret (vs := [_]) Go.Proofs.Try.func72 Go.Proofs.Try.results72 ⟨rfl, trivial⟩ ?_
    exact ⟨hA1.acc.out, M1.fr nowhere⟩
  · skip
    have hptr : cl H1 tr 2 = some (.pointer (some ⟨Gt.p h t, 0, none⟩)) := hc
    -- region 2 (map.go:1151)
    refine Go'.region [(0, 0), (1, 0), (2, 0), (3, 1), (4, 0)] rfl ?_
    refine O.mv rfl rfl rfl rfl rfl ?_
    refine O.nc rfl rfl rfl rfl rfl ?_
    refine O.fa0 (off := 2) rfl rfl rfl rfl ⟨_, _, _, Go.Proofs.Try.underlying165, rfl, rfl, Go.Proofs.Try.sizeOf163⟩ rfl ?_
    refine O.ld rfl rfl rfl (fun w => ⟨Go.Proofs.Try.isAgg163 w, Go.Proofs.Try.sizeOf163 w⟩) rfl hptr ?_
    refine O.notNil rfl rfl rfl rfl Go.Proofs.Try.underlying163 rfl rfl ?_
    refine Pl.fin [(0, _), (2, _), (3, _), (11, _)] ⟨rfl, rfl, rfl, rfl, trivial⟩ ?_
    refine Go'.condT rfl ?_
    -- region 3 (map.go:1152)
    refine Go'.region [(0, 0), (1, 0), (2, 0), (3, 1), (4, 0), (5, 2), (6, 0)] rfl ?_
    refine O.mv rfl rfl rfl rfl rfl ?_
    refine O.nc rfl rfl rfl rfl rfl ?_
    refine O.fa0 (off := 2) rfl rfl rfl rfl ⟨_, _, _, Go.Proofs.Try.underlying165, rfl, rfl, Go.Proofs.Try.sizeOf163⟩ rfl ?_
    refine O.ld rfl rfl rfl (fun w => ⟨Go.Proofs.Try.isAgg163 w, Go.Proofs.Try.sizeOf163 w⟩) rfl hptr ?_
    refine O.mv rfl rfl rfl rfl rfl ?_
    refine O.call rfl rfl rfl Go.Proofs.Try.call115 rfl (nkeys hP h hg hA1 (fun b o hb hz => by have := lt0 b (hown b o hb); have hz' : H.size ≤ b := hz; omega) (by rw [e]; simpa using hll)) ?_
    rintro _ H2 ⟨Z2, hA2, hF2, hZ2⟩
    refine ⟨trivial, ?_⟩
    refine O.asg rfl rfl rfl rfl rfl ?_
    refine Pl.fin [(2, _), (3, _)] ⟨rfl, rfl, trivial⟩ ?_
    refine Go'.seq ?_
    -- region 4 (map.go:1154)
    refine Go'.region [(0, 0), (1, 0)] rfl ?_
    refine O.mv rfl rfl rfl rfl rfl ?_
    refine O.asg rfl rfl rfl rfl rfl ?_
    refine Pl.fin [(2, _)] ⟨rfl, trivial⟩ ?_
    refine Go'.ret (vs := [_]) Go.Proofs.Try.func72 Go.Proofs.Try.results72 ⟨rfl, trivial⟩ ?_
    rw [List.nil_append, e] at hA2
    exact ⟨hA2.acc.out, (M1.fr nowhere).trans' hF2 (fun _ _ _ h => h) (fun b o hb hz => by have hz' : H.size ≤ b := hz; omega)⟩

theorem wkeys_spec {B : World} {H : Mem} {d : Nat} {u : Value} {l : List (Wk × Int)} (hd : 2 ≤ d ∧ d ≤ 128) (hi : InS EJ H u l) (hll : l.length ≤ 4294967296) :
    Fn Try.prog B 34 [.int .i64 (d : Int), u] H (fun r H' => OutS EWk H' r ((Pl.puts OI l).map (fun x : Wk × Int => x.1)) ∧ Fr nowhere H H') := by
  have hP : PsOk ⟨0, 2 * d - 1, d - 1⟩ := ⟨by show 2 * d - 1 = 2 * (d - 1) + 1; omega, by show 1 ≤ d - 1; omega, by show 2 * d - 1 ≤ 255; omega⟩
  have hpl := Pl.puts_length OI l
  refine fn_of Go.Proofs.Try.func34 rfl Go.Proofs.Try.ntmps34 ?_
  refine (show Go' _ _ _ _ 9 [(0, _), (1, _)] [.code _] _ from ?_)
  refine Go'.seq ?_
  -- region 0 (set.go:84)
  refine Go'.region [(0, 0)] rfl ?_
  refine O.asg rfl rfl rfl rfl rfl ?_
  refine Pl.fin [(0, _), (1, _), (4, _)] ⟨rfl, rfl, rfl, trivial⟩ ?_
  refine Go'.seq ?_
  -- region 1 (set.go:85)
  refine Go'.region [(0, 0), (1, 0), (2, 2), (3, 2), (4, 0)] rfl ?_
  refine O.mv rfl rfl rfl rfl rfl ?_
  refine O.mv rfl rfl rfl rfl rfl ?_
  refine O.call rfl rfl rfl Go.Proofs.Try.call71 rfl (growWords_spec hd hi hll) ?_
  rintro _ H2 ⟨tr, S, rfl, hM, hF2, _⟩
  unfold ptr
  refine ⟨trivial, ?_⟩
  refine O.call rfl rfl rfl Go.Proofs.Try.call72 rfl (keys_spec hP hM (by omega)) ?_
  rintro r H3 ⟨hr, hF3⟩
  refine ⟨trivial, ?_⟩
  refine O.asg rfl rfl rfl rfl rfl ?_
  refine Pl.fin [(4, _)] ⟨rfl, trivial⟩ ?_
  refine Go'.ret (vs := [_]) Go.Proofs.Try.func34 Go.Proofs.Try.results34 ⟨rfl, trivial⟩ ?_
  exact ⟨hr, hF2.trans hF3⟩

theorem swp_get {α : Type} {X : List α} {i j : Nat} {x y : α} (hi : i < X.length) (hj : j < X.length) (hne : i ≠ j) (k : Nat) :
    ((X.set i x).set j y)[k]? = if k = j then some y else if k = i then some x else X[k]? := by
  rw [List.getElem?_set]
  by_cases h1 : j = k
  · subst h1
    rw [if_pos rfl, if_pos rfl, if_pos (by rw [List.length_set]; exact hj)]
  · rw [if_neg h1, if_neg (fun h => h1 h.symm), List.getElem?_set]
    by_cases h2 : i = k
    · subst h2; rw [if_pos rfl, if_pos rfl, if_pos hi]
    · rw [if_neg h2, if_neg (fun h => h2 h.symm)]
theorem set_td {α : Type} {X : List α} {i : Nat} {x : α} (hi : i < X.length) : X.take i ++ x :: X.drop (i + 1) = X.set i x := (List.set_eq_take_append_cons_drop.trans (if_pos hi)).symm

theorem rev_spec {B : World} {H : Mem} {v : Value} {l : List (Wk)} {Z : Nat → Prop} (hA : AccN EWk Z H v l) (hll : l.length ≤ 4294967296) :
    Fn Try.prog B 82 [v] H (fun _ H' => AccN EWk Z H' v l.reverse ∧ Fr (fun b _ => Z b) H H') := by
  obtain ⟨b, o, c, rfl, hz, hb, hS⟩ := hA
  refine fn_of Go.Proofs.Try.func82 rfl Go.Proofs.Try.ntmps82 ?_
  refine (show Go' _ _ _ _ 28 [(0, _)] [.code _] _ from ?_)
  refine Go'.seq ?_
  -- region 0 (slices.go:484)
  refine Go'.region [(0, 0), (1, 0), (2, 0), (3, 0), (4, 0)] rfl ?_
  refine O.mv rfl rfl rfl rfl rfl ?_
  refine O.len rfl rfl rfl rfl Go.Proofs.Try.underlying48 rfl ?_
  refine O.sub (((l.length : Int) - 1)) rfl rfl rfl rfl rfl rfl (by omega) (by omega) ?_
  refine O.asg rfl rfl rfl rfl rfl ?_
  refine O.asg rfl rfl rfl rfl rfl ?_
  refine Pl.fin [(0, _), (2, _), (3, _)] ⟨rfl, rfl, rfl, trivial⟩ ?_
  refine Go'.block ?_
  refine Go'.loop ?_
  refine Go'.keep [(0, _), (2, _), (3, _)] ⟨rfl, rfl, rfl, trivial⟩ ?_
  refine Go'.ind (σ := Nat × List (Wk)) (fun s => l.length - s.1) (fun s H' => SlE EWk H' b o c s.2 ∧ s.2.length = l.length ∧ (∀ k, k < l.length → s.2[k]? = if k < s.1 ∨ l.length ≤ k + s.1 then l[l.length - 1 - k]? else l[k]?) ∧ Fr (fun b _ => Z b) H H')
    (fun s => [(0, .slice (some ⟨b, o, none⟩) l.length c), (2, .int .i64 (s.1 : Int)), (3, .int .i64 ((l.length : Int) - 1 - s.1))]) (0, l) ⟨hS, rfl, fun k hk => by rw [if_neg (by omega)], Fr.refl _ _⟩ (by simp) ?_
  clear hS
  rintro ⟨i, m⟩ H2 ⟨hS, hml, hm, hF⟩ ih
  simp only at hS hml hm ih
  have hsz := hF.size
  refine Go'.seq ?_
  refine Go'.seq ?_
  by_cases hlt : (i : Int) < (l.length : Int) - 1 - i
  · skip
    have hjl : l.length - 1 - i < m.length := by omega
    have hil : i < m.length := by omega
    obtain ⟨x, hx⟩ : ∃ x, m[i]? = some x := ⟨m[i], List.getElem?_eq_getElem hil⟩
    obtain ⟨y, hy⟩ : ∃ y, m[l.length - 1 - i]? = some y := ⟨m[l.length - 1 - i], List.getElem?_eq_getElem hjl⟩
    have hx2 := hx
    rw [hm i (by omega), if_neg (by omega)] at hx2
    have hy2 := hy
    rw [hm _ (by omega), if_neg (by omega)] at hy2
    have wj := hS.wri hjl
    have wi := hS.wri hil
    have hlm : l.length = m.length := hml.symm
    -- region 1 (slices.go:484)
    refine Go'.region [(0, 0), (1, 0), (2, 0)] rfl ?_
    refine O.mv rfl rfl rfl rfl rfl ?_
    refine O.mv rfl rfl rfl rfl rfl ?_
    refine O.cmp rfl rfl rfl rfl rfl rfl (lssT hlt) ?_
    refine Pl.fin [(0, _), (2, _), (3, _), (9, _)] ⟨rfl, rfl, rfl, rfl, trivial⟩ ?_
    refine Go'.condT rfl ?_
    refine Go'.skip ?_
    refine Go'.seq ?_
    refine Go'.block ?_
    -- region 3 (slices.go:485)
    refine Go'.draw (fun _ => True) [(0, 0), (1, 0), (2, 0), (3, 0), (4, 0), (5, 0), (6, 0), (7, 1), (8, 0), (9, 0), (10, 0), (11, 1), (12, 0), (13, 2), (14, 0), (15, 3)] (by kernel_rfl) (by kernel_rfl) (trivial) ?_
    refine O.mv rfl rfl rfl rfl rfl ?_
    refine O.mv rfl rfl rfl rfl rfl ?_
    refine O.mv rfl rfl rfl rfl rfl ?_
    refine O.mv rfl rfl rfl rfl rfl ?_
    refine O.mv rfl rfl rfl rfl rfl ?_
    refine O.mv rfl rfl rfl rfl rfl ?_
    refine O.ix (j := (l.length - 1 - i)) rfl rfl rfl rfl Go.Proofs.Try.underlying48 Go.Proofs.Try.sizeOf9 rfl rfl (by omega) (by omega) ?_
    refine O.ld rfl rfl rfl (fun w => ⟨Go.Proofs.Try.isAgg9 w, Go.Proofs.Try.sizeOf9 w⟩) rfl (hS.cell hy (j := 0) rfl) ?_
    refine O.mv rfl rfl rfl rfl rfl ?_
    refine O.mv rfl rfl rfl rfl rfl ?_
    refine O.ix (j := i) rfl rfl rfl rfl Go.Proofs.Try.underlying48 Go.Proofs.Try.sizeOf9 rfl rfl (by omega) (by omega) ?_
    refine O.ld rfl rfl rfl (fun w => ⟨Go.Proofs.Try.isAgg9 w, Go.Proofs.Try.sizeOf9 w⟩) rfl (hS.cell hx (j := 0) rfl) ?_
    refine O.ix (j := i) rfl rfl rfl rfl Go.Proofs.Try.underlying48 Go.Proofs.Try.sizeOf9 rfl rfl (by omega) (by omega) ?_
    refine O.st (vs := (EWk.enc y)) rfl rfl Go.Proofs.Try.sizeOf9 rfl rfl rfl rfl rfl wi ?_
    intro H3 W3
    have hS3 := hS.set W3 hil
    rw [set_td hil] at hS3
    have wj3 := hS3.wri (i := l.length - 1 - i) (by rw [List.length_set]; exact hjl)
    refine ⟨trivial, ?_⟩
    refine O.ix (j := (l.length - 1 - i)) rfl rfl rfl rfl Go.Proofs.Try.underlying48 Go.Proofs.Try.sizeOf9 rfl rfl (by omega) (by omega) ?_
    refine O.st3 (vs := (EWk.enc x)) rfl rfl Go.Proofs.Try.sizeOf9 rfl rfl rfl rfl rfl wj3 ?_
    intro H4 W4
    have hS4 := hS3.set W4 (by rw [List.length_set]; exact hjl)
    rw [set_td (by rw [List.length_set]; exact hjl)] at hS4
    refine Pl.fin [(0, _), (2, _), (3, _), (9, _)] ⟨rfl, rfl, rfl, rfl, trivial⟩ ?_
    refine Go'.inBlock ?_
    -- region 2 (slices.go:484)
    refine Go'.region [(0, 0), (1, 0), (2, 0), (3, 0), (4, 0), (5, 0)] rfl ?_
    refine O.mv rfl rfl rfl rfl rfl ?_
    refine O.add (((i + 1 : Nat) : Int)) rfl rfl rfl rfl rfl rfl (by omega) (by omega) ?_
    refine O.mv rfl rfl rfl rfl rfl ?_
    refine O.sub (((l.length : Int) - 1 - ((i + 1 : Nat) : Int))) rfl rfl rfl rfl rfl rfl (by omega) (by omega) ?_
    refine O.asg rfl rfl rfl rfl rfl ?_
    refine O.asg rfl rfl rfl rfl rfl ?_
    refine Pl.fin [(0, _), (2, _), (3, _), (9, _)] ⟨rfl, rfl, rfl, rfl, trivial⟩ ?_
    refine Go'.keep [(0, _), (2, _), (3, _)] ⟨rfl, rfl, rfl, trivial⟩ ?_
    refine Go'.inLoop ?_
    refine ih (i + 1, (m.set i y).set (l.length - 1 - i) x) H4 ⟨hS4, by simpa using hml, fun k hk => ?_, (hF.trans' W3.fr (fun _ _ _ h => h) (fun b' o' _ h => by rw [show b' = b from h.1]; exact hz)).trans' W4.fr (fun _ _ _ h => h) (fun b' o' _ h => by rw [show b' = b from h.1]; exact hz)⟩ (by simp only; omega)
    simp only
    rw [swp_get hil hjl (by omega) k]
    by_cases h1 : k = l.length - 1 - i
    · rw [if_pos h1, if_pos (by omega), h1, show l.length - 1 - (l.length - 1 - i) = i by omega, hx2]
    · rw [if_neg h1]
      by_cases h2 : k = i
      · rw [if_pos h2, if_pos (by omega), h2, hy2]
      · rw [if_neg h2, hm k hk]
        by_cases h3 : k < i ∨ l.length ≤ k + i
        · rw [if_pos h3, if_pos (by omega)]
        · rw [if_neg h3, if_neg (by omega)]
  · skip
    -- region 1 (slices.go:484)
    refine Go'.region [(0, 0), (1, 0), (2, 0)] rfl ?_
    refine O.mv rfl rfl rfl rfl rfl ?_
    refine O.mv rfl rfl rfl rfl rfl ?_
    refine O.cmp rfl rfl rfl rfl rfl rfl (lssF (by simp only; omega)) ?_
    refine Pl.fin [(0, _), (2, _), (3, _), (9, _)] ⟨rfl, rfl, rfl, rfl, trivial⟩ ?_
    refine Go'.condF rfl ?_
    refine Go'.exit rfl ?_
    have e : m = l.reverse := by
      refine List.ext_getElem? fun k => ?_
      rcases Nat.lt_or_ge k l.length with hk | hk
      · rw [hm k hk, List.getElem?_reverse hk]
        by_cases h3 : k < i ∨ l.length ≤ k + i
        · rw [if_pos h3]
        · rw [if_neg h3, show l.length - 1 - k = k by omega]
      · rw [List.getElem?_eq_none (by omega), List.getElem?_eq_none (by rw [List.length_reverse]; exact hk)]
    subst e
    refine Go'.fall Go.Proofs.Try.func82 Go.Proofs.Try.results82 (vs := []) trivial ?_
    exact ⟨⟨b, o, c, by rw [List.length_reverse], hz, by omega, hS⟩, hF⟩

theorem cloneA_spec {B : World} {H : Mem} {v : Value} {l : List (Wk)} (hi : InS EWk H v l) (hll : l.length ≤ 4294967296) :
    Fn Try.prog B 81 [v] H (fun r H' => Acc EWk (fun b => H.size ≤ b) H' r l ∧ Fr nowhere H H') := by
  obtain ⟨a, c, rfl⟩ := hi.len
  rcases a with _ | a
  · skip
    obtain rfl : l = [] := by
      rcases hi with ⟨b, o, c', e, _⟩ | ⟨e, _⟩
      · cases e
      · exact e
    refine fn_of Go.Proofs.Try.func81 rfl Go.Proofs.Try.ntmps81 ?_
    refine (show Go' _ _ _ _ 8 [(0, _)] [.code _] _ from ?_)
    refine Go'.seq ?_
    -- region 0 (slices.go:355)
    refine Go'.region [(0, 0)] rfl ?_
    refine O.asg rfl rfl rfl rfl rfl ?_
    refine Pl.fin [(0, _), (2, _)] ⟨rfl, rfl, trivial⟩ ?_
    refine Go'.seq ?_
    refine Go'.seq ?_
    -- region 1 (slices.go:357)
    refine Go'.region [(0, 0), (1, 0)] rfl ?_
    refine O.mv rfl rfl rfl rfl rfl ?_
    refine O.slNil rfl rfl rfl rfl Go.Proofs.Try.underlying48 rfl rfl ?_
    refine Pl.fin [(0, _), (2, _), (4, _)] ⟨rfl, rfl, rfl, trivial⟩ ?_
    refine Go'.condT rfl ?_
    refine Go'.seq ?_
    -- region 2 (slices.go:358)
    refine Go'.region [(0, 0)] rfl ?_
    refine O.asg rfl rfl rfl rfl rfl ?_
    refine Pl.fin [(0, _), (2, _)] ⟨rfl, rfl, trivial⟩ ?_
    refine Go'.ret (vs := [_]) Go.Proofs.Try.func81 Go.Proofs.Try.results81 ⟨rfl, trivial⟩ ?_
    exact ⟨Acc.nil _ _ _, Fr.refl _ _⟩
  · skip
    refine fn_of Go.Proofs.Try.func81 rfl Go.Proofs.Try.ntmps81 ?_
    refine (show Go' _ _ _ _ 8 [(0, _)] [.code _] _ from ?_)
    refine Go'.seq ?_
    -- region 0 (slices.go:355)
    refine Go'.region [(0, 0)] rfl ?_
    refine O.asg rfl rfl rfl rfl rfl ?_
    refine Pl.fin [(0, _), (2, _)] ⟨rfl, rfl, trivial⟩ ?_
    refine Go'.seq ?_
    refine Go'.seq ?_
    -- region 1 (slices.go:357)
    refine Go'.region [(0, 0), (1, 0)] rfl ?_
    refine O.mv rfl rfl rfl rfl rfl ?_
    refine O.slNil rfl rfl rfl rfl Go.Proofs.Try.underlying48 rfl rfl ?_
    refine Pl.fin [(0, _), (2, _), (4, _)] ⟨rfl, rfl, rfl, trivial⟩ ?_
    refine Go'.condF rfl ?_
    refine Go'.skip ?_
    refine Go'.seq ?_
    -- region 3 (slices.go:362)
    refine Go'.region [(0, 2), (1, 0), (2, 2), (3, 0)] rfl ?_
    refine O.bsl (cs := []) rfl rfl rfl ⟨Go.Proofs.Try.underlying48, Go.Proofs.Try.sizeOf9, Go.Proofs.Try.zeroValue9, ⟨_, Go.Proofs.Try.typeInfo9, rfl⟩, rfl, by decide, by decide⟩ rfl (by decide) (by kernel_rfl) ?_
    intro H1 M1
    have hs1 := M1.size
    have hA1 := AccN.made (E := EWk) M1
    refine ⟨trivial, ?_⟩
    refine O.mv rfl rfl rfl rfl rfl ?_
    refine O.appI (E := EWk) rfl rfl rfl ⟨Go.Proofs.Try.underlying48, Go.Proofs.Try.sizeOf9, Go.Proofs.Try.zeroValue9, ⟨_, Go.Proofs.Try.typeInfo9, rfl⟩, rfl, by decide, by decide⟩ rfl hA1 rfl (hi.fr (M1.fr nowhere)) (Nat.le_trans (Nat.mul_le_mul_left _ (Nat.le_of_ble_eq_true (n := _) (m := 4096) rfl)) (by simp only [List.length_nil]; omega)) (by simp only [List.length_nil]; omega) ?_
    intro v2 H2 hA2 hF2 hs2
    rw [List.nil_append] at hA2
    refine ⟨trivial, ?_⟩
    refine O.asg rfl rfl rfl rfl rfl ?_
    refine Pl.fin [(2, _)] ⟨rfl, trivial⟩ ?_
    refine Go'.ret (vs := [_]) Go.Proofs.Try.func81 Go.Proofs.Try.results81 ⟨rfl, trivial⟩ ?_
    exact ⟨.inr (hA2.mono fun b _ hz => hz.elim id (fun h => by omega)), (M1.fr nowhere).trans' hF2 (fun _ _ _ h => h) (fun b o hb hz => by have hz' : H.size ≤ b := hz; omega)⟩

theorem revA_spec {B : World} {H : Mem} {v : Value} {l : List (Wk)} {Z : Nat → Prop} (hA : Acc EWk Z H v l) (hll : l.length ≤ 4294967296) :
    Fn Try.prog B 82 [v] H (fun _ H' => Acc EWk Z H' v l.reverse ∧ Fr (fun b _ => Z b) H H') := by
  rcases hA with ⟨rfl, rfl⟩ | hA
  rotate_left
  · exact (rev_spec hA hll).mono fun _ _ h => ⟨.inr h.1, h.2⟩
  refine fn_of Go.Proofs.Try.func82 rfl Go.Proofs.Try.ntmps82 ?_
  refine (show Go' _ _ _ _ 28 [(0, _)] [.code _] _ from ?_)
  refine Go'.seq ?_
  -- region 0 (slices.go:484)
  refine Go'.region [(0, 0), (1, 0), (2, 0), (3, 0), (4, 0)] rfl ?_
  refine O.mv rfl rfl rfl rfl rfl ?_
  refine O.len rfl rfl rfl rfl Go.Proofs.Try.underlying48 rfl ?_
  refine O.sub ((-1 : Int)) rfl rfl rfl rfl rfl rfl (by omega) (by omega) ?_
  refine O.asg rfl rfl rfl rfl rfl ?_
  refine O.asg rfl rfl rfl rfl rfl ?_
  refine Pl.fin [(0, _), (2, _), (3, _)] ⟨rfl, rfl, rfl, trivial⟩ ?_
  refine Go'.block ?_
  refine Go'.loop ?_
  refine Go'.seq ?_
  refine Go'.seq ?_
  -- region 1 (slices.go:484)
  refine Go'.region [(0, 0), (1, 0), (2, 0)] rfl ?_
  refine O.mv rfl rfl rfl rfl rfl ?_
  refine O.mv rfl rfl rfl rfl rfl ?_
  refine O.cmp rfl rfl rfl rfl rfl rfl (lssF (by omega)) ?_
  refine Pl.fin [(0, _), (2, _), (3, _), (9, _)] ⟨rfl, rfl, rfl, rfl, trivial⟩ ?_
  refine Go'.condF rfl ?_
  refine Go'.exit rfl ?_
  refine Go'.fall Go.Proofs.Try.func82 Go.Proofs.Try.results82 (vs := []) trivial ?_
  exact ⟨Acc.nil _ _ _, Fr.refl _ _⟩

theorem turnedA_spec {B : World} {H : Mem} {v : Value} {l : List (Wk)} (hi : InS EWk H v l) (hll : l.length ≤ 4294967296) :
    Fn Try.prog B 37 [v] H (fun r H' => Acc EWk (fun b => H.size ≤ b) H' r l.reverse ∧ Fr nowhere H H') := by
  refine fn_of Go.Proofs.Try.func37 rfl Go.Proofs.Try.ntmps37 ?_
  refine (show Go' _ _ _ _ 9 [(0, _)] [.code _] _ from ?_)
  refine Go'.seq ?_
  -- region 0 (trees.go:16)
  refine Go'.region [(0, 0)] rfl ?_
  refine O.asg rfl rfl rfl rfl rfl ?_
  refine Pl.fin [(0, _), (2, _)] ⟨rfl, rfl, trivial⟩ ?_
  refine Go'.seq ?_
  -- region 1 (trees.go:17)
  refine Go'.region [(0, 0), (1, 2), (2, 0)] rfl ?_
  refine O.mv rfl rfl rfl rfl rfl ?_
  refine O.call rfl rfl rfl Go.Proofs.Try.call81 rfl (cloneA_spec hi hll) ?_
  rintro v1 H1 ⟨h1, hF1⟩
  refine ⟨trivial, ?_⟩
  refine O.asg rfl rfl rfl rfl rfl ?_
  refine Pl.fin [(2, _), (3, _)] ⟨rfl, rfl, trivial⟩ ?_
  refine Go'.seq ?_
  -- region 2 (trees.go:18)
  refine Go'.region [(0, 0), (1, 2)] rfl ?_
  refine O.mv rfl rfl rfl rfl rfl ?_
  refine O.call rfl rfl rfl Go.Proofs.Try.call82 rfl (revA_spec h1 hll) ?_
  rintro _ H2 ⟨h2, hF2⟩
  refine ⟨trivial, ?_⟩
  refine Pl.fin [(2, _), (3, _)] ⟨rfl, rfl, trivial⟩ ?_
  refine Go'.seq ?_
  -- region 3 (trees.go:19)
  refine Go'.region [(0, 0), (1, 0)] rfl ?_
  refine O.mv rfl rfl rfl rfl rfl ?_
  refine O.asg rfl rfl rfl rfl rfl ?_
  refine Pl.fin [(2, _)] ⟨rfl, trivial⟩ ?_
  refine Go'.ret (vs := [_]) Go.Proofs.Try.func37 Go.Proofs.Try.results37 ⟨rfl, trivial⟩ ?_
  exact ⟨h2, hF1.trans' hF2 (fun _ _ _ h => h) (fun b o hb hz => by have hz' : H.size ≤ b := hz; omega)⟩

theorem alive3 : (Pl.puts OI (exl.take 3)).length = 3 := by decide +kernel
theorem aliveW_spec {B : World} {H : Mem} : Fn Try.prog B 33 [] H (fun r H' => r = .bool true ∧ Fr nowhere H H') := by
  refine fn_of Go.Proofs.Try.func33 rfl Go.Proofs.Try.ntmps33 ?_
  refine (show Go' _ _ _ _ 6 [] [.code _] _ from ?_)
  refine Go'.seq ?_
  -- region 0 (help.go:119)
  refine Go'.region [(0, 0)] rfl ?_
  refine O.asg rfl rfl rfl rfl rfl ?_
  refine Pl.fin [(0, _)] ⟨rfl, trivial⟩ ?_
  refine Go'.seq ?_
  -- region 1 (help.go:119)
  refine Go'.region [(0, 2), (1, 0), (2, 2), (3, 0), (4, 0), (5, 0)] rfl ?_
  refine O.call rfl rfl rfl Go.Proofs.Try.call19 rfl exWords_spec ?_
  rintro ev H1 ⟨hev, hF1⟩
  obtain ⟨a, c, hu⟩ := hev.len
  subst hu
  refine ⟨trivial, ?_⟩
  refine O.slcIn (E := EJ) (jl := 0) (jh := 3) rfl rfl rfl rfl Go.Proofs.Try.underlying26 Go.Proofs.Try.sizeOf54 rfl hev ⟨_, by rfl⟩ rfl (by decide) (by decide) ?_
  intro v1 hv1
  rw [List.drop_zero, Nat.sub_zero] at hv1
  refine O.call rfl rfl rfl Go.Proofs.Try.call34 rfl (wkeys_spec (d := 2) (by decide) hv1 (by decide)) ?_
  rintro _ H2 ⟨h2, hF2⟩
  obtain ⟨a2, c2, e2⟩ := h2.inS.len
  subst e2
  have e3 : ((Pl.puts OI (exl.take 3)).map (fun x : Wk × Int => x.1)).length = 3 := by rw [List.length_map]; exact alive3
  rw [e3]
  refine ⟨trivial, ?_⟩
  refine O.len rfl rfl rfl rfl Go.Proofs.Try.underlying48 rfl ?_
  refine O.cmp rfl rfl rfl rfl rfl rfl (eqlT (by omega)) ?_
  refine O.asg rfl rfl rfl rfl rfl ?_
  refine Pl.fin [(0, _)] ⟨rfl, trivial⟩ ?_
  refine Go'.ret (vs := [_]) Go.Proofs.Try.func33 Go.Proofs.Try.results33 ⟨rfl, trivial⟩ ?_
  exact ⟨rfl, hF1.trans hF2⟩

end Go.Bt.FW
namespace Go.Bt.FW
open Go Go.Proofs
set_option maxRecDepth 20000
set_option maxHeartbeats 4000000
set_option linter.unusedVariables false

theorem walk_spec {B : World} {H : Mem} {bd bl d : Nat} {u dv : Value} {l : List (Wk × Int)} {fw : Bool} (hd : 2 ≤ d ∧ d ≤ 128) (hi : InS EJ H u l) (hll : l.length ≤ 2147483647) (cd : cl H bd 0 = some (.int .i64 (d : Int))) (cu : cl H bl 0 = some u) (hdue : InS EWk H dv ((Pl.wdue (Pl.puts OI l) fw).map (fun x : Wk × Int => x.1))) :
    Fn Try.prog B 35 [.int .i64 (if fw then (0 : Int) else 1), .int .i64 (if fw then (2 : Int) else 3), dv, ptr bd, ptr bl] H (fun r H' => r = .bool true ∧ Fr nowhere H H') := by
  have hpl := Pl.puts_length OI l
  have hrun := Pl.wlk_run OI (Pl.puts OI l) fw ((⟨#[]⟩ : Wk), (0 : Int)) (Pl.puts OI l).length (Nat.le_refl _)
  have hrl := Pl.itRun_len OI (Pl.puts OI l) (Pl.wlk fw ((⟨#[]⟩ : Wk), (0 : Int)) (Pl.puts OI l).length)
  have hwn : (Pl.wlk fw ((⟨#[]⟩ : Wk), (0 : Int)) (Pl.puts OI l).length).length = (Pl.puts OI l).length + 1 := by simp [Pl.wlk]
  rw [hwn] at hrl
  have hwm : Pl.wlk fw ((⟨#[]⟩ : Wk), (0 : Int)) (Pl.puts OI l).length = wmv ((if fw then (0 : Int) else 1, ⟨#[]⟩) :: List.replicate (Pl.puts OI l).length (if fw then (2 : Int) else 3, ⟨#[]⟩)) := by
    unfold wmv Pl.wlk
    rw [List.map_cons, List.map_replicate]
    rfl
  rw [hwm] at hrun hrl
  have hdl : ((Pl.wdue (Pl.puts OI l) fw).map (fun x : Wk × Int => x.1)).length = (Pl.puts OI l).length := by rw [List.length_map, Pl.wdue_len]
  have hdg : ∀ (i : Nat) (y : Wk × Int), (Pl.wdue (Pl.puts OI l) fw)[i]? = some y → ((Pl.wdue (Pl.puts OI l) fw).map (fun x : Wk × Int => x.1))[i]? = some y.1 := fun i y h => by rw [List.getElem?_map, h]; rfl
  have hdn : (Pl.wdue (Pl.puts OI l) fw).length = (Pl.puts OI l).length := Pl.wdue_len _ _
  generalize hD : Pl.wdue (Pl.puts OI l) fw = D at *
  generalize hb0 : (if fw then (0 : Int) else 1) = b0 at *
  generalize hn0 : (if fw then (2 : Int) else 3) = n0 at *
  generalize hT : (Pl.puts OI l) = T at *
  generalize hdd : D.map (fun x : Wk × Int => x.1) = due at *
  obtain ⟨ad, cdd, e⟩ := hdue.len
  subst e
  refine fn_of Go.Proofs.Try.func35 rfl Go.Proofs.Try.ntmps35 ?_
  refine (show Go' _ _ _ _ 77 [(0, _), (1, _), (2, _), (3, _), (4, _)] [.code _] _ from ?_)
  refine Go'.seq ?_
  -- region 0 (shapes.go:318)
  refine Go'.region [(0, 0)] rfl ?_
  refine O.asg rfl rfl rfl rfl rfl ?_
  refine Pl.fin [(0, _), (1, _), (2, _), (3, _), (4, _), (8, _)] ⟨rfl, rfl, rfl, rfl, rfl, rfl, trivial⟩ ?_
  refine Go'.seq ?_
  -- region 1 (shapes.go:319)
  refine Go'.region [(0, 0), (1, 0), (2, 2), (3, 0)] rfl ?_
  refine O.mv rfl rfl rfl rfl rfl ?_
  refine O.bld (cs := [.int .i64 b0, .string ⟨#[]⟩]) rfl rfl rfl rfl (st40) rfl (by kernel_rfl) ?_
  refine O.bsl (cs := (row EWm [(b0, ⟨#[]⟩)])) rfl rfl rfl ⟨Go.Proofs.Try.underlying36, Go.Proofs.Try.sizeOf40, Go.Proofs.Try.zeroValue40, ⟨_, Go.Proofs.Try.typeInfo40, rfl⟩, rfl, by decide, by decide⟩ rfl (by decide) (by kernel_rfl) ?_
  intro H1 M1
  have hs1 := M1.size
  have hA1 : Acc EWm (fun b => H.size ≤ b) H1 (.slice (some ⟨H.size, 0, none⟩) 1 1) [(b0, ⟨#[]⟩)] := .inr ⟨H.size, 0, 1, rfl, Nat.le_refl _, by omega, ⟨rfl, Nat.le_refl _, M1.rd _ [] (by simp), M1.wr 2 (by simp [row, EWm])⟩⟩
  refine ⟨trivial, ?_⟩
  refine O.asg rfl rfl rfl rfl rfl ?_
  refine Pl.fin [(1, _), (2, _), (3, _), (4, _), (8, _), (9, _)] ⟨rfl, rfl, rfl, rfl, rfl, rfl, trivial⟩ ?_
  refine Go'.seq ?_
  refine Go'.seq ?_
  -- region 2 (shapes.go:320)
  refine Go'.region [(0, 0), (1, 0), (2, 0)] rfl ?_
  refine O.mv rfl rfl rfl rfl rfl ?_
  refine O.len rfl rfl rfl rfl Go.Proofs.Try.underlying48 rfl ?_
  refine O.mv rfl rfl rfl rfl rfl ?_
  refine Pl.fin [(1, _), (2, _), (3, _), (4, _), (8, _), (9, _), (18, _), (19, _)] ⟨rfl, rfl, rfl, rfl, rfl, rfl, rfl, rfl, trivial⟩ ?_
  refine Go'.block ?_
  refine Go'.loop ?_
  refine Go'.keep [(1, _), (2, _), (3, _), (4, _), (9, _), (18, _), (19, _)] ⟨rfl, rfl, rfl, rfl, rfl, rfl, rfl, trivial⟩ ?_
  refine Go'.ind (σ := Nat × Value) (fun s => due.length - s.1) (fun s H' => Fr nowhere H H' ∧ s.1 ≤ due.length ∧ Acc EWm (fun b => H.size ≤ b) H' s.2 ((b0, ⟨#[]⟩) :: List.replicate s.1 (n0, ⟨#[]⟩)))
    (fun s => [(1, .int .i64 n0), (2, .slice ad due.length cdd), (3, ptr bd), (4, ptr bl), (9, s.2), (18, .int .i64 (due.length : Int)), (19, .int .i64 (s.1 : Int))]) (0, _) ⟨M1.fr nowhere, Nat.zero_le _, hA1⟩ rfl ?_
  rintro ⟨j, sv⟩ H2 ⟨hF, hj, hA⟩ ih
  simp only at hj hA
  have hF12 := hF
  have hsz := hF12.size
  refine Go'.seq ?_
  by_cases hlt : j < due.length
  · skip
    have hal : ((b0, (⟨#[]⟩ : Wk)) :: List.replicate j (n0, (⟨#[]⟩ : Wk))).length = j + 1 := by simp
    -- region 3 (shapes.go:320)
    refine Go'.region [(0, 0)] rfl ?_
    refine O.cmp rfl rfl rfl rfl rfl rfl (lssT (by omega)) ?_
    refine Pl.fin [(1, _), (2, _), (3, _), (4, _), (9, _), (18, _), (19, _), (20, _)] ⟨rfl, rfl, rfl, rfl, rfl, rfl, rfl, rfl, trivial⟩ ?_
    refine Go'.seq ?_
    refine Go'.condT rfl ?_
    refine Go'.skip ?_
    refine Go'.seq ?_
    refine Go'.block ?_
    -- region 4 (shapes.go:321)
    refine Go'.region [(0, 0), (1, 0), (2, 0), (3, 2), (4, 2), (5, 0)] rfl ?_
    refine O.mv rfl rfl rfl rfl rfl ?_
    refine O.mv rfl rfl rfl rfl rfl ?_
    refine O.bld (cs := [.int .i64 n0, .string ⟨#[]⟩]) rfl rfl rfl rfl (st40) rfl (by kernel_rfl) ?_
    refine O.bsl (cs := (row EWm [(n0, ⟨#[]⟩)])) rfl rfl rfl ⟨Go.Proofs.Try.underlying36, Go.Proofs.Try.sizeOf40, Go.Proofs.Try.zeroValue40, ⟨_, Go.Proofs.Try.typeInfo40, rfl⟩, rfl, by decide, by decide⟩ rfl (by decide) (by kernel_rfl) ?_
    intro H3 M3
    have hs3 := M3.size
    have hA3 := hA.fr (M3.fr nowhere) (fun _ _ _ _ => nw)
    have m3 : Rd H3 H2.size 0 (row EWm [(n0, ⟨#[]⟩)]) := M3.rd _ [] (by simp)
    refine ⟨trivial, ?_⟩
    refine O.appA (E := EWm) (Y := [(n0, ⟨#[]⟩)]) rfl rfl rfl ⟨Go.Proofs.Try.underlying36, Go.Proofs.Try.sizeOf40, Go.Proofs.Try.zeroValue40, ⟨_, Go.Proofs.Try.typeInfo40, rfl⟩, rfl, by decide, by decide⟩ rfl hA3 rfl ⟨_, _, _, rfl, m3⟩ (Nat.succ_pos _) (Nat.le_trans (Nat.mul_le_mul_left _ (Nat.le_of_ble_eq_true (n := _) (m := 4096) rfl)) (by rw [hal]; simp only [List.length_cons, List.length_nil]; omega)) (by rw [hal]; simp only [List.length_cons, List.length_nil]; omega) ?_
    intro v4 H4 hA4 hF4 hs4
    have hg4 := hF4.size
    refine ⟨trivial, ?_⟩
    refine O.asg rfl rfl rfl rfl rfl ?_
    refine Pl.fin [(1, _), (2, _), (3, _), (4, _), (9, _), (18, _), (19, _), (20, _)] ⟨rfl, rfl, rfl, rfl, rfl, rfl, rfl, rfl, trivial⟩ ?_
    refine Go'.inBlock ?_
    -- region 5 (shapes.go:320)
    refine Go'.region [(0, 0), (1, 0)] rfl ?_
    refine O.add (((j + 1 : Nat) : Int)) rfl rfl rfl rfl rfl rfl (by omega) (by omega) ?_
    refine O.mv rfl rfl rfl rfl rfl ?_
    refine Pl.fin [(1, _), (2, _), (3, _), (4, _), (9, _), (18, _), (19, _), (20, _)] ⟨rfl, rfl, rfl, rfl, rfl, rfl, rfl, rfl, trivial⟩ ?_
    refine Go'.keep [(1, _), (2, _), (3, _), (4, _), (9, _), (18, _), (19, _)] ⟨rfl, rfl, rfl, rfl, rfl, rfl, rfl, trivial⟩ ?_
    refine Go'.inLoop ?_
    exact ih (j + 1, v4) H4 ⟨(hF.trans (M3.fr nowhere)).trans' hF4 (fun _ _ _ h => h) (fun b o hb hz => by have hz' : H.size ≤ b := hz; omega), hlt, by
      have e : (b0, (⟨#[]⟩ : Wk)) :: List.replicate (j + 1) (n0, (⟨#[]⟩ : Wk)) = (b0, (⟨#[]⟩ : Wk)) :: List.replicate j (n0, (⟨#[]⟩ : Wk)) ++ [(n0, ⟨#[]⟩)] := by rw [List.replicate_succ', List.cons_append]
      simp only
      rw [e]
      exact hA4.mono fun b _ hz => hz.elim id (fun h => by omega)⟩ (by simp only; omega)
  · skip
    obtain rfl : j = due.length := by omega
    rw [hdl] at hA
    -- region 3 (shapes.go:320)
    refine Go'.region [(0, 0)] rfl ?_
    refine O.cmp rfl rfl rfl rfl rfl rfl (lssF (by omega)) ?_
    refine Pl.fin [(1, _), (2, _), (3, _), (4, _), (9, _), (18, _), (19, _), (20, _)] ⟨rfl, rfl, rfl, rfl, rfl, rfl, rfl, rfl, trivial⟩ ?_
    refine Go'.seq ?_
    refine Go'.condF rfl ?_
    refine Go'.exit rfl ?_
    refine Go'.seq ?_
    -- region 6 (shapes.go:323)
    refine Go'.region [(0, 1), (1, 1), (2, 0), (3, 2), (4, 0), (5, 0), (6, 0), (7, 0), (8, 0)] rfl ?_
    refine O.ld rfl rfl rfl (fun w => ⟨Go.Proofs.Try.isAgg3 w, Go.Proofs.Try.sizeOf3 w⟩) rfl (hF12.keep cd nw) ?_
    refine O.ld rfl rfl rfl (fun w => ⟨Go.Proofs.Try.isAgg26 w, Go.Proofs.Try.sizeOf26 w⟩) rfl (hF12.keep cu nw) ?_
    refine O.mv rfl rfl rfl rfl rfl ?_
    refine O.call rfl rfl rfl Go.Proofs.Try.call36 rfl (witer_spec hd (hi.fr hF12) (by omega) hA.inS (by simp; omega)) ?_
    rintro _ H5 ⟨outs, v1, v2, rfl, h1, h2, hag, hF5⟩
    rw [hT] at hag
    have hF15 := hF12.trans hF5
    obtain ⟨ga, gb, gc⟩ := hag
    have hol : outs.length = T.length + 1 := by rw [ga]; exact hrl.1
    have hot : ∀ i, i ≤ T.length → outs[i]? = some (D[i]?) := fun i hi => by
      obtain ⟨g1, g2⟩ := hrun.2 i hi
      rw [gc i g2]; exact g1
    replace h1 := h1.inS
    replace h2 := h2.inS
    have n1 : (outs.map wod).length = T.length + 1 := by rw [List.length_map]; exact hol
    have n2 : (outs.map Option.isSome).length = T.length + 1 := by rw [List.length_map]; exact hol
    obtain ⟨a1, c1, e1⟩ := h1.len
    obtain ⟨a2, c2, e2⟩ := h2.len
    subst e1 e2
    obtain ⟨b2, o2, cc2, e, hr2⟩ := h2.at (i := due.length) (x := false) (by rw [List.getElem?_map, hdl, hot _ (Nat.le_refl _), List.getElem?_eq_none (by omega)]; rfl)
    cases e
    refine ⟨trivial, ?_⟩
    refine O.mv rfl rfl rfl rfl rfl ?_
    refine O.ext rfl rfl rfl rfl rfl rfl ?_
    refine O.ext rfl rfl rfl rfl rfl rfl ?_
    refine O.asg rfl rfl rfl rfl rfl ?_
    refine O.asg rfl rfl rfl rfl rfl ?_
    refine Pl.fin [(2, _), (10, _), (11, _)] ⟨rfl, rfl, rfl, trivial⟩ ?_
    refine Go'.seq ?_
    refine Go'.seq ?_
    -- region 7 (shapes.go:324)
    refine Go'.region [(0, 0), (1, 0), (2, 0), (3, 0), (4, 0), (5, 0), (6, 0), (7, 0), (8, 0), (9, 0), (10, 0), (11, 0), (12, 0), (13, 0), (14, 0), (15, 0), (16, 0), (17, 0), (18, 0), (19, 1), (20, 0)] rfl ?_
    refine O.mv rfl rfl rfl rfl rfl ?_
    refine O.len rfl rfl rfl rfl Go.Proofs.Try.underlying26 rfl ?_
    refine O.mv rfl rfl rfl rfl rfl ?_
    refine O.len rfl rfl rfl rfl Go.Proofs.Try.underlying48 rfl ?_
    refine O.add ((due.length : Int) + 1) rfl rfl rfl rfl rfl rfl (by omega) (by omega) ?_
    refine O.cmp rfl rfl rfl rfl rfl rfl (neqF (by omega)) ?_
    refine O.mv rfl rfl rfl rfl rfl ?_
    refine O.mv rfl rfl rfl rfl rfl ?_
    refine O.len rfl rfl rfl rfl Go.Proofs.Try.underlying50 rfl ?_
    refine O.mv rfl rfl rfl rfl rfl ?_
    refine O.len rfl rfl rfl rfl Go.Proofs.Try.underlying48 rfl ?_
    refine O.add ((due.length : Int) + 1) rfl rfl rfl rfl rfl rfl (by omega) (by omega) ?_
    refine O.cmp rfl rfl rfl rfl rfl rfl (neqF (by omega)) ?_
    refine O.pick rfl rfl rfl rfl rfl rfl ?_
    refine O.mv rfl rfl rfl rfl rfl ?_
    refine O.mv rfl rfl rfl rfl rfl ?_
    refine O.mv rfl rfl rfl rfl rfl ?_
    refine O.len rfl rfl rfl rfl Go.Proofs.Try.underlying48 rfl ?_
    refine O.ix (j := due.length) rfl rfl rfl rfl Go.Proofs.Try.underlying50 Go.Proofs.Try.sizeOf4 rfl rfl (by omega) (by omega) ?_
    refine O.ld rfl rfl rfl (fun w => ⟨Go.Proofs.Try.isAgg4 w, Go.Proofs.Try.sizeOf4 w⟩) rfl (hr2 0 _ rfl) ?_
    refine O.pick rfl rfl rfl rfl rfl rfl ?_
    refine Pl.fin [(2, _), (10, _), (11, _), (54, _)] ⟨rfl, rfl, rfl, rfl, trivial⟩ ?_
    refine Go'.condF rfl ?_
    refine Go'.skip ?_
    refine Go'.seq ?_
    refine Go'.seq ?_
    -- region 9 (shapes.go:327)
    refine Go'.region [(0, 0), (1, 0), (2, 0)] rfl ?_
    refine O.mv rfl rfl rfl rfl rfl ?_
    refine O.len rfl rfl rfl rfl Go.Proofs.Try.underlying48 rfl ?_
    refine O.mv rfl rfl rfl rfl rfl ?_
    refine Pl.fin [(10, _), (11, _), (55, _), (56, _), (57, _)] ⟨rfl, rfl, rfl, rfl, rfl, trivial⟩ ?_
    refine Go'.block ?_
    refine Go'.loop ?_
    refine Go'.keep [(10, _), (11, _), (55, _), (56, _), (57, _)] ⟨rfl, rfl, rfl, rfl, rfl, trivial⟩ ?_
    refine Go'.ind (σ := Nat) (fun j => due.length - j) (fun j H' => H' = H5 ∧ j ≤ due.length)
      (fun j => [(10, .slice a1 (outs.map wod).length c1), (11, .slice (some ⟨b2, o2, none⟩) (outs.map Option.isSome).length c2), (55, .slice ad due.length cdd), (56, .int .i64 (due.length : Int)), (57, .int .i64 (j : Int))]) 0 ⟨rfl, Nat.zero_le _⟩ rfl ?_
    clear ih hA hj
    rintro j H6 ⟨hHH, hj⟩ ih
    have eH : H5 = H6 := hHH.symm
    subst eH
    clear hHH
    refine Go'.seq ?_
    by_cases hlt2 : j < due.length
    · skip
      obtain ⟨y, hy⟩ : ∃ y, D[j]? = some y := ⟨D[j]'(by omega), List.getElem?_eq_getElem (by omega)⟩
      have hoy : outs[j]? = some (some y) := by rw [hot j (by omega), hy]
      obtain ⟨b3, o3, c3, e, hr3⟩ := (hdue.fr hF15).at (hdg j y hy)
      cases e
      obtain ⟨b4, o4, c4, e, hr4⟩ := h1.at (i := j) (x := y) (by rw [List.getElem?_map, hoy]; rfl)
      cases e
      obtain ⟨b5, o5, c5, e, hr5⟩ := h2.at (i := j) (x := true) (by rw [List.getElem?_map, hoy]; rfl)
      cases e
      -- region 10 (shapes.go:327)
      refine Go'.region [(0, 0)] rfl ?_
      refine O.cmp rfl rfl rfl rfl rfl rfl (lssT (by omega)) ?_
      refine Pl.fin [(10, _), (11, _), (55, _), (56, _), (57, _), (58, _)] ⟨rfl, rfl, rfl, rfl, rfl, rfl, trivial⟩ ?_
      refine Go'.seq ?_
      refine Go'.condT rfl ?_
      refine Go'.skip ?_
      refine Go'.seq ?_
      refine Go'.block ?_
      refine Go'.seq ?_
      -- region 11 (shapes.go:327)
      refine Go'.region [(0, 0), (1, 0), (2, 1), (3, 0), (4, 0)] rfl ?_
      refine O.mv rfl rfl rfl rfl rfl ?_
      refine O.ix (j := j) rfl rfl rfl rfl Go.Proofs.Try.underlying48 Go.Proofs.Try.sizeOf9 rfl rfl (by omega) hlt2 ?_
      refine O.ld rfl rfl rfl (fun w => ⟨Go.Proofs.Try.isAgg9 w, Go.Proofs.Try.sizeOf9 w⟩) rfl (hr3 0 _ rfl) ?_
      refine O.asg rfl rfl rfl rfl rfl ?_
      refine O.asg rfl rfl rfl rfl rfl ?_
      refine Pl.fin [(10, _), (11, _), (12, _), (13, _), (55, _), (56, _), (57, _), (58, _)] ⟨rfl, rfl, rfl, rfl, rfl, rfl, rfl, rfl, trivial⟩ ?_
      refine Go'.seq ?_
      -- region 12 (shapes.go:328)
      refine Go'.region [(0, 0), (1, 0), (2, 0), (3, 1), (4, 0), (5, 0), (6, 0), (7, 0), (8, 0), (9, 0), (10, 1), (11, 0), (12, 0), (13, 0)] rfl ?_
      refine O.mv rfl rfl rfl rfl rfl ?_
      refine O.mv rfl rfl rfl rfl rfl ?_
      refine O.ix (j := j) rfl rfl rfl rfl Go.Proofs.Try.underlying50 Go.Proofs.Try.sizeOf4 rfl rfl (by omega) (by omega) ?_
      refine O.ld rfl rfl rfl (fun w => ⟨Go.Proofs.Try.isAgg4 w, Go.Proofs.Try.sizeOf4 w⟩) rfl (hr5 0 _ rfl) ?_
      refine O.not rfl rfl rfl rfl rfl ?_
      refine O.mv rfl rfl rfl rfl rfl ?_
      refine O.mv rfl rfl rfl rfl rfl ?_
      refine O.mv rfl rfl rfl rfl rfl ?_
      refine O.ix (j := j) rfl rfl rfl rfl Go.Proofs.Try.underlying26 Go.Proofs.Try.sizeOf54 rfl rfl (by omega) (by omega) ?_
      refine O.faz rfl rfl rfl rfl ⟨_, _, _, Go.Proofs.Try.underlying54, rfl, rfl, Go.Proofs.Try.sizeOf9⟩ rfl ?_
      refine O.ld rfl rfl rfl (fun w => ⟨Go.Proofs.Try.isAgg9 w, Go.Proofs.Try.sizeOf9 w⟩) rfl (hr4 0 _ rfl) ?_
      refine O.mv rfl rfl rfl rfl rfl ?_
      refine O.sneq rfl rfl rfl rfl rfl rfl (show (!(ByteArray.toList y.1 == ByteArray.toList y.1)) = false by simp) ?_
      refine O.pick rfl rfl rfl rfl rfl rfl ?_
      refine Pl.fin [(10, _), (11, _), (12, _), (13, _), (55, _), (56, _), (57, _), (58, _), (75, _)] ⟨rfl, rfl, rfl, rfl, rfl, rfl, rfl, rfl, rfl, trivial⟩ ?_
      refine Go'.condF rfl ?_
      refine Go'.skip ?_
      refine Go'.inBlock ?_
      -- region 14 (shapes.go:327)
      refine Go'.region [(0, 0), (1, 0)] rfl ?_
      refine O.add (((j + 1 : Nat) : Int)) rfl rfl rfl rfl rfl rfl (by omega) (by omega) ?_
      refine O.mv rfl rfl rfl rfl rfl ?_
      refine Pl.fin [(10, _), (11, _), (12, _), (13, _), (55, _), (56, _), (57, _), (58, _), (75, _)] ⟨rfl, rfl, rfl, rfl, rfl, rfl, rfl, rfl, rfl, trivial⟩ ?_
      refine Go'.keep [(10, _), (11, _), (55, _), (56, _), (57, _)] ⟨rfl, rfl, rfl, rfl, rfl, trivial⟩ ?_
      refine Go'.inLoop ?_
      exact ih (j + 1) H5 ⟨rfl, hlt2⟩ (by omega)
    · skip
      -- region 10 (shapes.go:327)
      refine Go'.region [(0, 0)] rfl ?_
      refine O.cmp rfl rfl rfl rfl rfl rfl (lssF (by omega)) ?_
      refine Pl.fin [(10, _), (11, _), (55, _), (56, _), (57, _), (58, _)] ⟨rfl, rfl, rfl, rfl, rfl, rfl, trivial⟩ ?_
      refine Go'.seq ?_
      refine Go'.condF rfl ?_
      refine Go'.exit rfl ?_
      refine Go'.seq ?_
      -- region 15 (shapes.go:332)
      refine Go'.region [(0, 0)] rfl ?_
      refine O.asg rfl rfl rfl rfl rfl ?_
      refine Pl.fin [(8, _)] ⟨rfl, trivial⟩ ?_
      refine Go'.ret (vs := [_]) Go.Proofs.Try.func35 Go.Proofs.Try.results35 ⟨rfl, trivial⟩ ?_
      exact ⟨rfl, hF15⟩

theorem fnWIterates {B : World} {H : Mem} {z : Int} {u : Value} {l : List (Wk × Int)} (hi : InS EJ H u l) :
    Fn Try.prog B 12 [.int .i64 z, u] H (fun r H' => r = .bool true ∧ Fr nowhere H H') := by
  have hi0 := hi
  refine fn_of Go.Proofs.Try.func12 rfl Go.Proofs.Try.ntmps12 ?_
  refine (show Go' _ _ _ _ 30 [(0, _), (1, _)] [.code _] _ from ?_)
  refine Go'.seq ?_
  -- region 0 (shapes.go:310)
  refine Go'.region [(0, 2), (1, 2), (2, 0)] rfl ?_
  refine O.box rfl rfl rfl rfl ?_
  intro H1 M1
  refine ⟨trivial, ?_⟩
  have hs1 := M1.size
  have cz : cl H1 H.size 0 = some (.int .i64 z) := M1.cl 0
  refine O.box rfl rfl rfl rfl ?_
  intro H2 M2
  refine ⟨trivial, ?_⟩
  have hs2 := M2.size
  replace cz := M2.keep cz
  have cu : cl H2 H1.size 0 = some u := (M2.cl 0).trans (by obtain ⟨a, c, e⟩ := hi.len; subst e; rfl)
  have hF := (M1.fr nowhere).trans (M2.fr nowhere)
  refine O.asg rfl rfl rfl rfl rfl ?_
  refine Pl.fin [(2, _), (3, _), (4, _)] ⟨rfl, rfl, rfl, trivial⟩ ?_
  refine Go'.seq ?_
  refine Go'.seq ?_
  -- region 1 (shapes.go:311)
  refine Go'.region [(0, 1), (1, 2), (2, 0)] rfl ?_
  refine O.ld rfl rfl rfl (fun w => ⟨Go.Proofs.Try.isAgg26 w, Go.Proofs.Try.sizeOf26 w⟩) rfl cu ?_
  refine O.call rfl rfl rfl Go.Proofs.Try.call17 rfl (zz2_spec (hi.fr hF)) ?_
  rintro _ H3 ⟨⟨bz, rfl, hbz⟩, hF3⟩
  replace cz := hF3.keep cz nw
  replace cu := hF3.keep cu nw
  replace hF := hF.trans hF3
  refine ⟨trivial, ?_⟩
  refine O.not rfl rfl rfl rfl rfl ?_
  refine Pl.fin [(2, _), (3, _), (4, _), (9, _)] ⟨rfl, rfl, rfl, rfl, trivial⟩ ?_
  cases bz
  · skip
    refine Go'.condT rfl ?_
    refine Go'.seq ?_
    -- region 2 (shapes.go:312)
    refine Go'.region [(0, 0)] rfl ?_
    refine O.asg rfl rfl rfl rfl rfl ?_
    refine Pl.fin [(2, _), (3, _), (4, _)] ⟨rfl, rfl, rfl, trivial⟩ ?_
    refine Go'.ret (vs := [_]) Go.Proofs.Try.func12 Go.Proofs.Try.results12 ⟨rfl, trivial⟩ ?_
    exact ⟨rfl, hF⟩
  · skip
    replace hbz := hbz rfl
    refine Go'.condF rfl ?_
    refine Go'.skip ?_
    refine Go'.seq ?_
    refine Go'.seq ?_
    cases hfz : fitp z
    · skip
      -- region 3 (shapes.go:314)
      refine Go'.region [(0, 1), (1, 2), (2, 0)] rfl ?_
      refine O.ld rfl rfl rfl (fun w => ⟨Go.Proofs.Try.isAgg3 w, Go.Proofs.Try.sizeOf3 w⟩) rfl cz ?_
      refine O.callQ rfl rfl rfl Go.Proofs.Try.call29 rfl (fit_spec hfz) trivial ?_
      refine O.not rfl rfl rfl rfl rfl ?_
      refine Pl.fin [(2, _), (3, _), (4, _), (12, _)] ⟨rfl, rfl, rfl, rfl, trivial⟩ ?_
      refine Go'.condT rfl ?_
      refine Go'.seq ?_
      -- region 4 (shapes.go:315)
      refine Go'.region [(0, 2), (1, 0)] rfl ?_
      refine O.call rfl rfl rfl Go.Proofs.Try.call33 rfl aliveW_spec ?_
      rintro _ H4 ⟨rfl, hF4⟩
      refine ⟨trivial, ?_⟩
      refine O.asg rfl rfl rfl rfl rfl ?_
      refine Pl.fin [(2, _), (3, _), (4, _)] ⟨rfl, rfl, rfl, trivial⟩ ?_
      refine Go'.ret (vs := [_]) Go.Proofs.Try.func12 Go.Proofs.Try.results12 ⟨rfl, trivial⟩ ?_
      exact ⟨rfl, hF.trans hF4⟩
    · skip
      -- region 3 (shapes.go:314)
      refine Go'.region [(0, 1), (1, 2), (2, 0)] rfl ?_
      refine O.ld rfl rfl rfl (fun w => ⟨Go.Proofs.Try.isAgg3 w, Go.Proofs.Try.sizeOf3 w⟩) rfl cz ?_
      refine O.callQ rfl rfl rfl Go.Proofs.Try.call29 rfl (fit_spec hfz) trivial ?_
      refine O.not rfl rfl rfl rfl rfl ?_
      refine Pl.fin [(2, _), (3, _), (4, _), (12, _)] ⟨rfl, rfl, rfl, rfl, trivial⟩ ?_
      refine Go'.condF rfl ?_
      refine Go'.skip ?_
      refine Go'.seq ?_
      obtain ⟨d, rfl, hd⟩ := fitp_nat hfz
      have hpl := Pl.puts_length OI l
      -- region 5 (shapes.go:317)
      refine Go'.region [(0, 1), (1, 1), (2, 2), (3, 0)] rfl ?_
      refine O.ld rfl rfl rfl (fun w => ⟨Go.Proofs.Try.isAgg3 w, Go.Proofs.Try.sizeOf3 w⟩) rfl cz ?_
      refine O.ld rfl rfl rfl (fun w => ⟨Go.Proofs.Try.isAgg26 w, Go.Proofs.Try.sizeOf26 w⟩) rfl cu ?_
      refine O.call rfl rfl rfl Go.Proofs.Try.call34 rfl (wkeys_spec hd (hi.fr hF) (by omega)) ?_
      rintro kv H4 ⟨hk, hF4⟩
      replace cz := hF4.keep cz nw
      replace cu := hF4.keep cu nw
      replace hF := hF.trans hF4
      replace hk := hk.inS
      refine ⟨trivial, ?_⟩
      refine O.asg rfl rfl rfl rfl rfl ?_
      refine Pl.fin [(2, _), (3, _), (4, _), (5, _)] ⟨rfl, rfl, rfl, rfl, trivial⟩ ?_
      refine Go'.seq ?_
      -- region 6 (shapes.go:318)
      refine Go'.region [(0, 0), (1, 0)] rfl ?_
      refine O.mkf rfl rfl rfl rfl rfl rfl ?_
      refine O.asg rfl rfl rfl rfl rfl ?_
      refine Pl.fin [(4, _), (5, _), (6, _)] ⟨rfl, rfl, rfl, trivial⟩ ?_
      refine Go'.seq ?_
      -- region 7 (shapes.go:334)
      refine Go'.region [(0, 0), (1, 0), (2, 2), (3, 0), (4, 0), (5, 0), (6, 2), (7, 2), (8, 0), (9, 0), (10, 2), (11, 0), (12, 0)] rfl ?_
      refine O.mv rfl rfl rfl rfl rfl ?_
      refine O.mv rfl rfl rfl rfl rfl ?_
      refine O.callC rfl rfl rfl rfl Go.Proofs.Try.call35 rfl (us := []) (caps := [ptr H.size, ptr H1.size]) (walk_spec (fw := true) hd (hi.fr hF) (by omega) cz cu (show InS EWk _ kv ((Pl.wdue (Pl.puts OI l) true).map (fun x : Wk × Int => x.1)) from hk)) ?_
      rintro _ H5 ⟨rfl, hF5⟩
      replace cz := hF5.keep cz nw
      replace cu := hF5.keep cu nw
      replace hF := hF.trans hF5
      replace hk := hk.fr hF5
      refine ⟨trivial, ?_⟩
      refine O.mv rfl rfl rfl rfl rfl ?_
      refine O.mv rfl rfl rfl rfl rfl ?_
      refine O.mv rfl rfl rfl rfl rfl ?_
      refine O.call rfl rfl rfl Go.Proofs.Try.call37 rfl (turnedA_spec hk (by rw [List.length_map]; omega)) ?_
      rintro tv H6 ⟨ht, hF6⟩
      replace cz := hF6.keep cz nw
      replace cu := hF6.keep cu nw
      replace hF := hF.trans hF6
      have htv := ht.inS
      rw [← List.map_reverse] at htv
      refine ⟨trivial, ?_⟩
      refine O.callC rfl rfl rfl rfl Go.Proofs.Try.call35 rfl (us := []) (caps := [ptr H.size, ptr H1.size]) (walk_spec (fw := false) hd (hi.fr hF) (by omega) cz cu (show InS EWk _ tv ((Pl.wdue (Pl.puts OI l) false).map (fun x : Wk × Int => x.1)) from htv)) ?_
      rintro _ H7 ⟨rfl, hF7⟩
      replace hF := hF.trans hF7
      refine ⟨trivial, ?_⟩
      refine O.pick rfl rfl rfl rfl rfl rfl ?_
      refine O.mv rfl rfl rfl rfl rfl ?_
      refine O.call rfl rfl rfl Go.Proofs.Try.call33 rfl aliveW_spec ?_
      rintro _ H8 ⟨rfl, hF8⟩
      refine ⟨trivial, ?_⟩
      refine O.pick rfl rfl rfl rfl rfl rfl ?_
      refine O.asg rfl rfl rfl rfl rfl ?_
      refine Pl.fin [(4, _)] ⟨rfl, trivial⟩ ?_
      refine Go'.ret (vs := [_]) Go.Proofs.Try.func12 Go.Proofs.Try.results12 ⟨rfl, trivial⟩ ?_
      exact ⟨rfl, hF.trans hF8⟩

end Go.Bt.FW
