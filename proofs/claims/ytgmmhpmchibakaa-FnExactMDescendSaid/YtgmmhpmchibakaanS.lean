/- Contracts of functions of the program, proved by walking through their code. Conditions: those that each theorem names. -/
import Derived.Test.YtgmmhpmchibakaanP
import Derived.Test.YtgmmhpmchibakaanK
namespace Go.Bt
open Go Go.Proofs
set_option maxRecDepth 20000
set_option maxHeartbeats 4000000
set_option linter.unusedVariables false

theorem Pl.dn_step {α : Type} (O : Pl.Swo α) {x : α} {l : List α} (hs : Pl.Srt O l) {i : Nat} {y : α} (hy : l[i]? = some y) : O.lt x y = false ↔ i < Pl.pos O x l + (Pl.fnd O x l).toNat := by
  obtain ⟨hil, hy2⟩ := List.getElem?_eq_some_iff.1 hy
  have hp := Pl.pos_split O x l
  have hd := hs.drop_pos O (x := x)
  cases hf : Pl.fnd O x l with
  | false =>
    have ha := Pl.after_pos O hs hf
    simp only [Bool.toNat_false, Nat.add_zero]
    constructor
    · intro h
      rcases Nat.lt_or_ge i (Pl.pos O x l) with h1 | h1
      · exact h1
      · have := ha y (List.mem_iff_getElem?.2 ⟨i - Pl.pos O x l, by rw [List.getElem?_drop, Nat.add_sub_cancel' h1]; exact hy⟩)
        rw [h] at this; cases this
    · intro h
      have := hp.1 y (List.mem_iff_getElem?.2 ⟨i, by rw [List.getElem?_take_of_lt h]; exact hy⟩)
      exact O.asy this
  | true =>
    obtain ⟨z, hz, h1, h2⟩ := Pl.fnd_at O hs hf
    simp only [Bool.toNat_true]
    constructor
    · intro h
      rcases Nat.lt_or_ge i (Pl.pos O x l + 1) with h3 | h3
      · exact h3
      · have h4 := List.pairwise_iff_getElem.1 hs (Pl.pos O x l) i (List.getElem?_eq_some_iff.1 hz).1 hil (by omega)
        rw [(List.getElem?_eq_some_iff.1 hz).2, hy2] at h4
        rw [O.lt_of_le_of_lt h1 h4] at h; cases h
    · intro h
      rcases Nat.lt_or_ge i (Pl.pos O x l) with h3 | h3
      · have := hp.1 y (List.mem_iff_getElem?.2 ⟨i, by rw [List.getElem?_take_of_lt h3]; exact hy⟩)
        exact O.asy this
      · obtain rfl : i = Pl.pos O x l := by omega
        rw [hy] at hz; cases hz; exact h2

theorem down_spec {B : World} {H : Mem} {v u : Value} {ord : List Int} {l : List (Int × Int)} {x : Int × Int} (ho : InS EN H v ord) (hl : ord.length < 4611686018427387904) (hi : InS EJ H u l) (hs : Pl.Srt (OO ord) l) (hll : l.length ≤ 4294967296) :
    Fn Try.prog B 82 [v, u, .agg (EJ.enc x).toArray] H (fun r H' => OutS EJ H' r (Pl.dn (OO ord) x l).reverse ∧ Fr nowhere H H') := by
  obtain ⟨a, c, hu⟩ := hi.len
  subst hu
  have hle : Pl.pos (OO ord) x l + (Pl.fnd (OO ord) x l).toNat ≤ l.length := by
    have := Pl.pos_le (OO ord) x l
    cases h : Pl.fnd (OO ord) x l with
    | false => simpa using this
    | true => have := Pl.fnd_pos_lt (OO ord) h; simp; omega
  refine fn_of Go.Proofs.Try.func82 rfl Go.Proofs.Try.ntmps82 ?_
  refine (show Go' _ _ _ _ 28 [(0, _), (1, _), (2, _)] [.code _] _ from ?_)
  refine Go'.seq ?_
  -- region 0 (list.go:114)
  refine Go'.region [(0, 2), (1, 0)] rfl ?_
  refine O.box rfl rfl rfl rfl ?_
  intro H1 M1
  refine ⟨trivial, ?_⟩
  have hF1 := M1.fr nowhere
  replace ho := ho.fr hF1
  replace hi := hi.fr hF1
  have mi : Rd H1 H.size 0 (EJ.enc x) := M1.rd _ [] (by simp [Value.cells])
  refine O.asg rfl rfl rfl rfl rfl ?_
  refine Pl.fin [(0, _), (1, _), (5, _), (6, _)] ⟨rfl, rfl, rfl, rfl, trivial⟩ ?_
  refine Go'.seq ?_
  -- region 1 (list.go:115)
  refine Go'.region [(0, 0)] rfl ?_
  refine O.asg rfl rfl rfl rfl rfl ?_
  refine Pl.fin [(0, _), (1, _), (5, _), (6, _), (7, _)] ⟨rfl, rfl, rfl, rfl, rfl, trivial⟩ ?_
  refine Go'.seq ?_
  refine Go'.block ?_
  refine Go'.loop ?_
  refine Go'.keep [(0, _), (1, _), (5, _), (7, _)] ⟨rfl, rfl, rfl, rfl, trivial⟩ ?_
  refine Go'.ind (σ := Nat) (fun j => l.length - j) (fun j H' => Fr nowhere H1 H' ∧ j ≤ Pl.pos (OO ord) x l + (Pl.fnd (OO ord) x l).toNat)
    (fun j => [(0, v), (1, .slice a l.length c), (5, .pointer (some ⟨H.size, 0, none⟩)), (7, .int .i64 (j : Int))]) 0 ⟨Fr.refl _ _, Nat.zero_le _⟩ rfl ?_
  rintro j H2 ⟨hF2, hjl⟩ ih
  have ho2 := ho.fr hF2
  have hi2 := hi.fr hF2
  have mi2 : Rd H2 H.size 0 (EJ.enc x) := hF2.rd mi (fun _ _ => nw)
  refine Go'.seq ?_
  refine Go'.seq ?_
  by_cases hlt : j < l.length
  · skip
    obtain ⟨y, hy⟩ : ∃ y, l[j]? = some y := ⟨l[j], List.getElem?_eq_getElem hlt⟩
    obtain ⟨b, o, c', e, hr⟩ := hi2.at hy
    cases e
    have hst := Pl.dn_step (OO ord) hs (x := x) hy
    cases hlx : (OO ord).lt x y
    · skip
      -- region 2 (list.go:116)
      refine Go'.draw (fun H' => Rd H' H.size 0 (EJ.enc x) ∧ Rd H' b (o + j * 2) (EJ.enc y)) [(0, 0), (1, 0), (2, 0), (3, 0), (4, 0), (5, 0), (6, 1), (7, 0), (8, 0), (9, 0), (10, 1), (11, 2), (12, 0), (13, 0)] (by kernel_rfl) (by kernel_rfl) (⟨mi2, hr⟩) ?_
      refine O.mv rfl rfl rfl rfl rfl ?_
      refine O.mv rfl rfl rfl rfl rfl ?_
      refine O.len rfl rfl rfl rfl Go.Proofs.Try.underlying22 rfl ?_
      refine O.cmp rfl rfl rfl rfl rfl rfl (lssT (by omega)) ?_
      refine O.mv rfl rfl rfl rfl rfl ?_
      refine O.mv rfl rfl rfl rfl rfl ?_
      refine O.lds rfl rfl rfl (fun w => ⟨Go.Proofs.Try.isAgg35 w, Go.Proofs.Try.sizeOf35 w⟩) rfl rfl mi2 ?_
      refine O.mv rfl rfl rfl rfl rfl ?_
      refine O.mv rfl rfl rfl rfl rfl ?_
      refine O.ix (j := j) rfl rfl rfl rfl Go.Proofs.Try.underlying22 Go.Proofs.Try.sizeOf35 rfl rfl (by omega) hlt ?_
      refine O.lds rfl rfl rfl (fun w => ⟨Go.Proofs.Try.isAgg35 w, Go.Proofs.Try.sizeOf35 w⟩) rfl rfl hr ?_
      refine O.call rfl rfl rfl Go.Proofs.Try.call51 rfl (before_spec ho2 hl) ?_
      rintro _ H3 ⟨rfl, hF3⟩
      rw [hlx]
      refine ⟨⟨hF3.rd mi2 (fun _ _ => nw), hF3.rd hr (fun _ _ => nw)⟩, ?_⟩
      refine O.not rfl rfl rfl rfl rfl ?_
      refine O.pick rfl rfl rfl rfl rfl rfl ?_
      refine Pl.fin [(0, _), (1, _), (5, _), (7, _), (21, _)] ⟨rfl, rfl, rfl, rfl, rfl, trivial⟩ ?_
      refine Go'.condT rfl ?_
      refine Go'.skip ?_
      refine Go'.block ?_
      -- region 3 (list.go:117)
      refine Go'.region [(0, 0), (1, 0), (2, 0)] rfl ?_
      refine O.mv rfl rfl rfl rfl rfl ?_
      refine O.add (((j + 1 : Nat) : Int)) rfl rfl rfl rfl rfl rfl (by omega) (by omega) ?_
      refine O.asg rfl rfl rfl rfl rfl ?_
      refine Pl.fin [(0, _), (1, _), (5, _), (7, _), (21, _)] ⟨rfl, rfl, rfl, rfl, rfl, trivial⟩ ?_
      refine Go'.inBlock ?_
      refine Go'.keep [(0, _), (1, _), (5, _), (7, _)] ⟨rfl, rfl, rfl, rfl, trivial⟩ ?_
      refine Go'.inLoop ?_
      exact ih (j + 1) H3 ⟨hF2.trans hF3, hst.1 hlx⟩ (by omega)
    · skip
      -- region 2 (list.go:116)
      refine Go'.draw (fun H' => Rd H' H.size 0 (EJ.enc x) ∧ Rd H' b (o + j * 2) (EJ.enc y)) [(0, 0), (1, 0), (2, 0), (3, 0), (4, 0), (5, 0), (6, 1), (7, 0), (8, 0), (9, 0), (10, 1), (11, 2), (12, 0), (13, 0)] (by kernel_rfl) (by kernel_rfl) (⟨mi2, hr⟩) ?_
      refine O.mv rfl rfl rfl rfl rfl ?_
      refine O.mv rfl rfl rfl rfl rfl ?_
      refine O.len rfl rfl rfl rfl Go.Proofs.Try.underlying22 rfl ?_
      refine O.cmp rfl rfl rfl rfl rfl rfl (lssT (by omega)) ?_
      refine O.mv rfl rfl rfl rfl rfl ?_
      refine O.mv rfl rfl rfl rfl rfl ?_
      refine O.lds rfl rfl rfl (fun w => ⟨Go.Proofs.Try.isAgg35 w, Go.Proofs.Try.sizeOf35 w⟩) rfl rfl mi2 ?_
      refine O.mv rfl rfl rfl rfl rfl ?_
      refine O.mv rfl rfl rfl rfl rfl ?_
      refine O.ix (j := j) rfl rfl rfl rfl Go.Proofs.Try.underlying22 Go.Proofs.Try.sizeOf35 rfl rfl (by omega) hlt ?_
      refine O.lds rfl rfl rfl (fun w => ⟨Go.Proofs.Try.isAgg35 w, Go.Proofs.Try.sizeOf35 w⟩) rfl rfl hr ?_
      refine O.call rfl rfl rfl Go.Proofs.Try.call51 rfl (before_spec ho2 hl) ?_
      rintro _ H3 ⟨rfl, hF3⟩
      rw [hlx]
      refine ⟨⟨hF3.rd mi2 (fun _ _ => nw), hF3.rd hr (fun _ _ => nw)⟩, ?_⟩
      refine O.not rfl rfl rfl rfl rfl ?_
      refine O.pick rfl rfl rfl rfl rfl rfl ?_
      refine Pl.fin [(0, _), (1, _), (5, _), (7, _), (21, _)] ⟨rfl, rfl, rfl, rfl, rfl, trivial⟩ ?_
      have hj : j = Pl.pos (OO ord) x l + (Pl.fnd (OO ord) x l).toNat := by
        rcases Nat.lt_or_ge j (Pl.pos (OO ord) x l + (Pl.fnd (OO ord) x l).toNat) with h | h
        · rw [hst.2 h] at hlx; cases hlx
        · omega
      replace hi2 := hi2.fr hF3
      refine Go'.condF rfl ?_
      refine Go'.exit rfl ?_
      refine Go'.seq ?_
      -- region 4 (list.go:119)
      refine Go'.region [(0, 0), (1, 0), (2, 0), (3, 2), (4, 0)] rfl ?_
      refine O.mv rfl rfl rfl rfl rfl ?_
      refine O.mv rfl rfl rfl rfl rfl ?_
      refine O.slcIn (E := EJ) (jl := 0) (jh := j) rfl rfl rfl rfl Go.Proofs.Try.underlying22 Go.Proofs.Try.sizeOf35 rfl hi2 ⟨_, by rfl⟩ rfl (by omega) (by omega) ?_
      intro v1 hv1
      rw [List.drop_zero, Nat.sub_zero] at hv1
      rw [hj] at hv1
      refine O.call rfl rfl rfl Go.Proofs.Try.call81 rfl (turned_spec (l := Pl.dn (OO ord) x l) hv1 (by have := Pl.dn_le (OO ord) x l; omega)) ?_
      rintro tv H4 ⟨htv, hF4⟩
      refine ⟨trivial, ?_⟩
      refine O.asg rfl rfl rfl rfl rfl ?_
      refine Pl.fin [(6, _)] ⟨rfl, trivial⟩ ?_
      refine Go'.ret (vs := [_]) Go.Proofs.Try.func82 Go.Proofs.Try.results82 ⟨rfl, trivial⟩ ?_
      exact ⟨htv, ((hF1.trans hF2).trans hF3).trans hF4⟩
  · skip
    have hj : j = Pl.pos (OO ord) x l + (Pl.fnd (OO ord) x l).toNat := by omega
    -- region 2 (list.go:116)
    refine Go'.draw (fun _ => True) [(0, 0), (1, 0), (2, 0), (3, 0), (4, 0), (5, 0), (6, 1), (7, 0), (8, 0), (9, 0), (10, 1), (11, 2), (12, 0), (13, 0)] (by kernel_rfl) (by kernel_rfl) (trivial) ?_
    refine O.mv rfl rfl rfl rfl rfl ?_
    refine O.mv rfl rfl rfl rfl rfl ?_
    refine O.len rfl rfl rfl rfl Go.Proofs.Try.underlying22 rfl ?_
    refine O.cmp rfl rfl rfl rfl rfl rfl (lssF (by omega)) ?_
    refine O.mv rfl rfl rfl rfl rfl ?_
    refine Pl.pass rfl rfl rfl rfl ?_
    refine Pl.pass rfl rfl rfl rfl ?_
    refine Pl.pass rfl rfl rfl rfl ?_
    refine Pl.pass rfl rfl rfl rfl ?_
    refine Pl.pass rfl rfl rfl rfl ?_
    refine Pl.pass rfl rfl rfl rfl ?_
    refine Pl.pass2 rfl rfl rfl rfl trivial ?_
    refine Pl.pass rfl rfl rfl rfl ?_
    refine O.pick rfl rfl rfl rfl rfl rfl ?_
    refine Pl.fin [(0, _), (1, _), (5, _), (7, _), (21, _)] ⟨rfl, rfl, rfl, rfl, rfl, trivial⟩ ?_
    refine Go'.condF rfl ?_
    refine Go'.exit rfl ?_
    refine Go'.seq ?_
    -- region 4 (list.go:119)
    refine Go'.region [(0, 0), (1, 0), (2, 0), (3, 2), (4, 0)] rfl ?_
    refine O.mv rfl rfl rfl rfl rfl ?_
    refine O.mv rfl rfl rfl rfl rfl ?_
    refine O.slcIn (E := EJ) (jl := 0) (jh := j) rfl rfl rfl rfl Go.Proofs.Try.underlying22 Go.Proofs.Try.sizeOf35 rfl hi2 ⟨_, by rfl⟩ rfl (by omega) (by omega) ?_
    intro v1 hv1
    rw [List.drop_zero, Nat.sub_zero] at hv1
    rw [hj] at hv1
    refine O.call rfl rfl rfl Go.Proofs.Try.call81 rfl (turned_spec (l := Pl.dn (OO ord) x l) hv1 (by have := Pl.dn_le (OO ord) x l; omega)) ?_
    rintro tv H4 ⟨htv, hF4⟩
    refine ⟨trivial, ?_⟩
    refine O.asg rfl rfl rfl rfl rfl ?_
    refine Pl.fin [(6, _)] ⟨rfl, trivial⟩ ?_
    refine Go'.ret (vs := [_]) Go.Proofs.Try.func82 Go.Proofs.Try.results82 ⟨rfl, trivial⟩ ?_
    exact ⟨htv, (hF1.trans hF2).trans hF4⟩

theorem gdescend_spec {B : World} {H : Mem} {v u dg nl : Value} {ord : List Int} {l : List (Int × Int)} {x : Int × Int} {n : Int} (ho : InS EN H v ord) (hl : ord.length < 4611686018427387904) (hi : InS EJ H u l) (hll : l.length ≤ 4294967296) :
    Fn Try.prog B 50 [.agg #[v, dg, nl], u, .agg (EJ.enc x).toArray, .int .i64 n] H (fun r H' => InS EJ H' r (firstN (Pl.dn (OO ord) x (Pl.puts (OO ord) l)).reverse n) ∧ Fr nowhere H H') := by
  have hpl := Pl.puts_length (OO ord) l
  refine fn_of Go.Proofs.Try.func50 rfl Go.Proofs.Try.ntmps50 ?_
  refine (show Go' _ _ _ _ 19 [(0, _), (1, _), (2, _), (3, _)] [.code _] _ from ?_)
  refine Go'.seq ?_
  -- region 0 (tree.go:100)
  refine Go'.region [(0, 2), (1, 2), (2, 0)] rfl ?_
  refine O.box rfl rfl rfl rfl ?_
  intro H1 M1
  refine ⟨trivial, ?_⟩
  replace ho := ho.fr (M1.fr nowhere)
  replace hi := hi.fr (M1.fr nowhere)
  have mi : cl H1 H.size 0 = some v := (M1.cl 0).trans rfl
  refine O.box rfl rfl rfl rfl ?_
  intro H2 M2
  refine ⟨trivial, ?_⟩
  replace ho := ho.fr (M2.fr nowhere)
  replace hi := hi.fr (M2.fr nowhere)
  replace mi := M2.keep mi
  have mx : Rd H2 H1.size 0 (EJ.enc x) := M2.rd _ [] (by simp [Value.cells])
  refine O.asg rfl rfl rfl rfl rfl ?_
  refine Pl.fin [(1, _), (3, _), (4, _), (6, _), (8, _)] ⟨rfl, rfl, rfl, rfl, rfl, trivial⟩ ?_
  refine Go'.seq ?_
  -- region 1 (tree.go:101)
  refine Go'.draw (fun H' => cl H' H.size 0 = some v ∧ Rd H' H1.size 0 (EJ.enc x)) [(0, 0), (1, 0), (2, 0), (3, 1), (4, 0), (6, 0), (8, 0), (5, 2), (7, 2), (9, 2), (10, 0)] (by kernel_rfl) (by kernel_rfl) (⟨mi, mx⟩) ?_
  refine O.faz rfl rfl rfl rfl ⟨_, _, _, Go.Proofs.Try.underlying58, rfl, rfl, Go.Proofs.Try.sizeOf39⟩ rfl ?_
  refine O.ldC rfl rfl rfl (fun w => ⟨Go.Proofs.Try.isAgg39 w, Go.Proofs.Try.sizeOf39 w⟩) rfl (fun _ h => h.1) ?_
  refine O.faz rfl rfl rfl rfl ⟨_, _, _, Go.Proofs.Try.underlying58, rfl, rfl, Go.Proofs.Try.sizeOf39⟩ rfl ?_
  refine O.ld rfl rfl rfl (fun w => ⟨Go.Proofs.Try.isAgg39 w, Go.Proofs.Try.sizeOf39 w⟩) rfl mi ?_
  refine O.mv rfl rfl rfl rfl rfl ?_
  refine O.ldsC rfl rfl rfl (fun w => ⟨Go.Proofs.Try.isAgg35 w, Go.Proofs.Try.sizeOf35 w⟩) rfl rfl (fun _ h => h.2) ?_
  refine O.mv rfl rfl rfl rfl rfl ?_
  refine O.call rfl rfl rfl Go.Proofs.Try.call47 rfl (tree_spec ho hl hi hll) ?_
  rintro sv H3 ⟨hsv, hF3⟩
  replace mi := hF3.keep mi nw
  replace mx := hF3.rd mx (fun _ _ => nw)
  refine ⟨⟨mi, mx⟩, ?_⟩
  refine O.call rfl rfl rfl Go.Proofs.Try.call82 rfl (down_spec (x := x) (ho.fr hF3) hl hsv.inS (Pl.puts_srt _ _) (by omega)) ?_
  rintro tv H4 ⟨htv, hF4⟩
  replace mi := hF4.keep mi nw
  replace mx := hF4.rd mx (fun _ _ => nw)
  refine ⟨⟨mi, mx⟩, ?_⟩
  refine O.call rfl rfl rfl Go.Proofs.Try.call80 rfl (first_spec (n := n) htv.inS) ?_
  rintro fv H5 ⟨hfv, rfl⟩
  refine ⟨⟨mi, mx⟩, ?_⟩
  refine O.asg rfl rfl rfl rfl rfl ?_
  refine Pl.fin [(8, _)] ⟨rfl, trivial⟩ ?_
  refine Go'.ret (vs := [_]) Go.Proofs.Try.func50 Go.Proofs.Try.results50 ⟨rfl, trivial⟩ ?_
  exact ⟨hfv, (((M1.fr nowhere).trans (M2.fr nowhere)).trans hF3).trans hF4⟩

theorem lawMDescend_spec {B : World} {H : Mem} {d : Nat} {u : Value} {l : List (Int × Int)} {p n : Int} (hd : 2 ≤ d ∧ d ≤ 128) (hi : InS EJ H u l) (hll : l.length ≤ 4294967296) :
    Fn Try.prog B 20 [.int .i64 (d : Int), u, .int .i64 p, .int .i64 n] H (fun r H' => r = .bool true ∧ Fr nowhere H H') := by
  have hpl := Pl.puts_length OI l
  have hdl := Pl.dn_le OI (p, 0) (Pl.puts OI l)
  have hfl : (firstN (Pl.dn OI (p, 0) (Pl.puts OI l)).reverse n).length ≤ 4294967296 := by
    unfold firstN; split
    · rw [List.length_reverse]; omega
    · rw [List.length_take, List.length_reverse]; omega
  refine fn_of Go.Proofs.Try.func20 rfl Go.Proofs.Try.ntmps20 ?_
  refine (show Go' _ _ _ _ 25 [(0, _), (1, _), (2, _), (3, _)] [.code _] _ from ?_)
  refine Go'.seq ?_
  -- region 0 (exact.go:1458)
  refine Go'.region [(0, 0)] rfl ?_
  refine O.asg rfl rfl rfl rfl rfl ?_
  refine Pl.fin [(0, _), (1, _), (2, _), (3, _), (8, _)] ⟨rfl, rfl, rfl, rfl, rfl, trivial⟩ ?_
  refine Go'.seq ?_
  -- region 1 (exact.go:1459)
  refine Go'.region [(0, 0), (1, 0), (2, 0), (3, 0), (4, 2), (5, 0)] rfl ?_
  refine O.mv rfl rfl rfl rfl rfl ?_
  refine O.mv rfl rfl rfl rfl rfl ?_
  refine O.mv rfl rfl rfl rfl rfl ?_
  refine O.mv rfl rfl rfl rfl rfl ?_
  refine O.call rfl rfl rfl Go.Proofs.Try.call40 rfl (mdescend_spec (x := (p, 0)) hd hi hll) ?_
  rintro r1 H1 ⟨hr1, hF1⟩
  refine ⟨trivial, ?_⟩
  refine O.asg rfl rfl rfl rfl rfl ?_
  refine Pl.fin [(1, _), (2, _), (3, _), (8, _), (9, _)] ⟨rfl, rfl, rfl, rfl, rfl, trivial⟩ ?_
  refine Go'.seq ?_
  -- region 2 (exact.go:1460)
  refine Go'.region [(0, 0), (1, 0), (2, 0), (3, 0), (4, 0), (5, 2), (6, 0)] rfl ?_
  refine O.bld (cs := [.slice none 0 0, .int .i64 0, .bool false]) rfl rfl rfl rfl (st58) rfl (by kernel_rfl) ?_
  refine O.mv rfl rfl rfl rfl rfl ?_
  refine O.mv rfl rfl rfl rfl rfl ?_
  refine O.bld (cs := (EJ.enc (p, 0))) rfl rfl rfl rfl (st35) rfl (by kernel_rfl) ?_
  refine O.mv rfl rfl rfl rfl rfl ?_
  refine O.call rfl rfl rfl Go.Proofs.Try.call50 rfl (gdescend_spec (x := (p, 0)) (ord := []) (n := n) (InS.nil EN H1) (by simp) (hi.fr hF1) hll) ?_
  rintro r2 H2 ⟨hr2, hF2⟩
  rw [OO_nil] at hr2
  refine ⟨trivial, ?_⟩
  refine O.asg rfl rfl rfl rfl rfl ?_
  refine Pl.fin [(8, _), (9, _), (10, _)] ⟨rfl, rfl, rfl, trivial⟩ ?_
  refine Go'.seq ?_
  -- region 3 (exact.go:1461)
  refine Go'.region [(0, 0), (1, 0), (2, 2), (3, 0)] rfl ?_
  refine O.mv rfl rfl rfl rfl rfl ?_
  refine O.mv rfl rfl rfl rfl rfl ?_
  refine O.callQ rfl rfl rfl Go.Proofs.Try.call27 rfl (eqItems_spec (hr1.inS.fr hF2) hr2 hfl) trivial ?_
  refine O.asg rfl rfl rfl rfl rfl ?_
  refine Pl.fin [(8, _)] ⟨rfl, trivial⟩ ?_
  refine Go'.ret (vs := [_]) Go.Proofs.Try.func20 Go.Proofs.Try.results20 ⟨rfl, trivial⟩ ?_
  exact ⟨rfl, hF1.trans hF2⟩

theorem fnExactMDescend {B : World} {H : Mem} {z : Int} {u : Value} {l : List (Int × Int)} {p n : Int} (hi : InS EJ H u l) :
    Fn Try.prog B 7 [.int .i64 z, u, .int .i64 p, .int .i64 n] H (fun r H' => r = .bool true ∧ Fr nowhere H H') := by
  obtain ⟨a, c, hu⟩ := hi.len
  subst hu
  have hi0 := hi
  refine fn_of Go.Proofs.Try.func7 rfl Go.Proofs.Try.ntmps7 ?_
  refine (show Go' _ _ _ _ 30 [(0, _), (1, _), (2, _), (3, _)] [.code _] _ from ?_)
  refine Go'.seq ?_
  -- region 0 (exact.go:1451)
  refine Go'.region [(0, 0)] rfl ?_
  refine O.asg rfl rfl rfl rfl rfl ?_
  refine Pl.fin [(0, _), (1, _), (2, _), (3, _), (8, _)] ⟨rfl, rfl, rfl, rfl, rfl, trivial⟩ ?_
  refine Go'.seq ?_
  refine Go'.seq ?_
  by_cases hbig : (2147483647 : Int) < (l.length : Int)
  · skip
    -- region 1 (exact.go:1452)
    refine Go'.region [(0, 0), (1, 0), (2, 0)] rfl ?_
    refine O.mv rfl rfl rfl rfl rfl ?_
    refine O.len rfl rfl rfl rfl Go.Proofs.Try.underlying22 rfl ?_
    refine O.cmp rfl rfl rfl rfl rfl rfl (gtrT (by omega)) ?_
    refine Pl.fin [(0, _), (1, _), (2, _), (3, _), (8, _), (11, _)] ⟨rfl, rfl, rfl, rfl, rfl, rfl, trivial⟩ ?_
    refine Go'.condT rfl ?_
    refine Go'.seq ?_
    -- region 2 (exact.go:1453)
    refine Go'.region [(0, 0)] rfl ?_
    refine O.asg rfl rfl rfl rfl rfl ?_
    refine Pl.fin [(0, _), (1, _), (2, _), (3, _), (8, _)] ⟨rfl, rfl, rfl, rfl, rfl, trivial⟩ ?_
    refine Go'.ret (vs := [_]) Go.Proofs.Try.func7 Go.Proofs.Try.results7 ⟨rfl, trivial⟩ ?_
    exact ⟨rfl, Fr.refl _ _⟩
  · skip
    -- region 1 (exact.go:1452)
    refine Go'.region [(0, 0), (1, 0), (2, 0)] rfl ?_
    refine O.mv rfl rfl rfl rfl rfl ?_
    refine O.len rfl rfl rfl rfl Go.Proofs.Try.underlying22 rfl ?_
    refine O.cmp rfl rfl rfl rfl rfl rfl (gtrF (by omega)) ?_
    refine Pl.fin [(0, _), (1, _), (2, _), (3, _), (8, _), (11, _)] ⟨rfl, rfl, rfl, rfl, rfl, rfl, trivial⟩ ?_
    refine Go'.condF rfl ?_
    refine Go'.skip ?_
    refine Go'.seq ?_
    cases hfz : fitsb z
    · skip
      -- region 3 (exact.go:1455)
      refine Go'.region [(0, 2), (1, 2), (2, 0), (3, 0), (4, 2), (5, 0), (6, 0), (7, 0), (8, 0), (9, 0), (10, 0), (11, 0), (12, 0), (13, 0), (14, 0), (15, 2), (16, 0), (17, 0), (18, 0)] rfl ?_
      refine O.call rfl rfl rfl Go.Proofs.Try.call15 rfl exItems_spec ?_
      rintro ev H1 ⟨hev, hF1⟩
      refine ⟨trivial, ?_⟩
      refine O.call rfl rfl rfl Go.Proofs.Try.call20 rfl (lawMDescend_spec (d := 2) (p := 4) (n := 2) (by decide) hev (by decide)) ?_
      rintro _ H2 ⟨rfl, hF2⟩
      have hF := hF1.trans hF2
      have hi2 := hi0.fr hF
      refine ⟨trivial, ?_⟩
      refine O.mv rfl rfl rfl rfl rfl ?_
      refine O.mv rfl rfl rfl rfl rfl ?_
      refine O.callQ rfl rfl rfl Go.Proofs.Try.call16 rfl (fits_spec' hfz) trivial ?_
      refine O.mv rfl rfl rfl rfl rfl ?_
      refine Pl.pass rfl rfl rfl rfl ?_
      refine Pl.pass rfl rfl rfl rfl ?_
      refine O.pick rfl rfl rfl rfl rfl rfl ?_
      refine O.not rfl rfl rfl rfl rfl ?_
      refine O.mv rfl rfl rfl rfl rfl ?_
      refine Pl.pass rfl rfl rfl rfl ?_
      refine Pl.pass rfl rfl rfl rfl ?_
      refine Pl.pass rfl rfl rfl rfl ?_
      refine Pl.pass rfl rfl rfl rfl ?_
      refine Pl.pass2 rfl rfl rfl rfl trivial ?_
      refine O.pick rfl rfl rfl rfl rfl rfl ?_
      refine O.pick rfl rfl rfl rfl rfl rfl ?_
      refine O.asg rfl rfl rfl rfl rfl ?_
      refine Pl.fin [(8, _)] ⟨rfl, trivial⟩ ?_
      refine Go'.ret (vs := [_]) Go.Proofs.Try.func7 Go.Proofs.Try.results7 ⟨rfl, trivial⟩ ?_
      exact ⟨rfl, hF⟩
    · skip
      by_cases hp : 0 < z
      · skip
        obtain ⟨d, rfl⟩ := Int.eq_ofNat_of_zero_le (by omega : 0 ≤ z)
        have hd : 2 ≤ d ∧ d ≤ 128 := by
          unfold fitsb at hfz
          simp only [Bool.or_eq_true, Bool.and_eq_true, decide_eq_true_eq] at hfz
          omega
        -- region 3 (exact.go:1455)
        refine Go'.region [(0, 2), (1, 2), (2, 0), (3, 0), (4, 2), (5, 0), (6, 0), (7, 0), (8, 0), (9, 0), (10, 0), (11, 0), (12, 0), (13, 0), (14, 0), (15, 2), (16, 0), (17, 0), (18, 0)] rfl ?_
        refine O.call rfl rfl rfl Go.Proofs.Try.call15 rfl exItems_spec ?_
        rintro ev H1 ⟨hev, hF1⟩
        refine ⟨trivial, ?_⟩
        refine O.call rfl rfl rfl Go.Proofs.Try.call20 rfl (lawMDescend_spec (d := 2) (p := 4) (n := 2) (by decide) hev (by decide)) ?_
        rintro _ H2 ⟨rfl, hF2⟩
        have hF := hF1.trans hF2
        have hi2 := hi0.fr hF
        refine ⟨trivial, ?_⟩
        refine O.mv rfl rfl rfl rfl rfl ?_
        refine O.mv rfl rfl rfl rfl rfl ?_
        refine O.callQ rfl rfl rfl Go.Proofs.Try.call16 rfl (fits_spec' hfz) trivial ?_
        refine O.mv rfl rfl rfl rfl rfl ?_
        refine O.mv rfl rfl rfl rfl rfl ?_
        refine O.cmp rfl rfl rfl rfl rfl rfl (gtrT (by omega)) ?_
        refine O.pick rfl rfl rfl rfl rfl rfl ?_
        refine O.not rfl rfl rfl rfl rfl ?_
        refine O.mv rfl rfl rfl rfl rfl ?_
        refine O.mv rfl rfl rfl rfl rfl ?_
        refine O.mv rfl rfl rfl rfl rfl ?_
        refine O.mv rfl rfl rfl rfl rfl ?_
        refine O.mv rfl rfl rfl rfl rfl ?_
        refine O.call rfl rfl rfl Go.Proofs.Try.call20 rfl (lawMDescend_spec hd hi2 (by omega)) ?_
        rintro _ H3 ⟨rfl, hF3⟩
        replace hF := hF.trans hF3
        refine ⟨trivial, ?_⟩
        refine O.pick rfl rfl rfl rfl rfl rfl ?_
        refine O.pick rfl rfl rfl rfl rfl rfl ?_
        refine O.asg rfl rfl rfl rfl rfl ?_
        refine Pl.fin [(8, _)] ⟨rfl, trivial⟩ ?_
        refine Go'.ret (vs := [_]) Go.Proofs.Try.func7 Go.Proofs.Try.results7 ⟨rfl, trivial⟩ ?_
        exact ⟨rfl, hF⟩
      · skip
        -- region 3 (exact.go:1455)
        refine Go'.region [(0, 2), (1, 2), (2, 0), (3, 0), (4, 2), (5, 0), (6, 0), (7, 0), (8, 0), (9, 0), (10, 0), (11, 0), (12, 0), (13, 0), (14, 0), (15, 2), (16, 0), (17, 0), (18, 0)] rfl ?_
        refine O.call rfl rfl rfl Go.Proofs.Try.call15 rfl exItems_spec ?_
        rintro ev H1 ⟨hev, hF1⟩
        refine ⟨trivial, ?_⟩
        refine O.call rfl rfl rfl Go.Proofs.Try.call20 rfl (lawMDescend_spec (d := 2) (p := 4) (n := 2) (by decide) hev (by decide)) ?_
        rintro _ H2 ⟨rfl, hF2⟩
        have hF := hF1.trans hF2
        have hi2 := hi0.fr hF
        refine ⟨trivial, ?_⟩
        refine O.mv rfl rfl rfl rfl rfl ?_
        refine O.mv rfl rfl rfl rfl rfl ?_
        refine O.callQ rfl rfl rfl Go.Proofs.Try.call16 rfl (fits_spec' hfz) trivial ?_
        refine O.mv rfl rfl rfl rfl rfl ?_
        refine O.mv rfl rfl rfl rfl rfl ?_
        refine O.cmp rfl rfl rfl rfl rfl rfl (gtrF (by omega)) ?_
        refine O.pick rfl rfl rfl rfl rfl rfl ?_
        refine O.not rfl rfl rfl rfl rfl ?_
        refine O.mv rfl rfl rfl rfl rfl ?_
        refine Pl.pass rfl rfl rfl rfl ?_
        refine Pl.pass rfl rfl rfl rfl ?_
        refine Pl.pass rfl rfl rfl rfl ?_
        refine Pl.pass rfl rfl rfl rfl ?_
        refine Pl.pass2 rfl rfl rfl rfl trivial ?_
        refine O.pick rfl rfl rfl rfl rfl rfl ?_
        refine O.pick rfl rfl rfl rfl rfl rfl ?_
        refine O.asg rfl rfl rfl rfl rfl ?_
        refine Pl.fin [(8, _)] ⟨rfl, trivial⟩ ?_
        refine Go'.ret (vs := [_]) Go.Proofs.Try.func7 Go.Proofs.Try.results7 ⟨rfl, trivial⟩ ?_
        exact ⟨rfl, hF⟩

end Go.Bt