/- Contracts of functions of the program, proved by walking through their code. Conditions: those that each theorem names. -/
import Derived.Test.YtmboghgpakhceaaToiI
import Derived.Test.YtmboghgpakhceaaToiF
namespace Go.Bt.FG
open Go Go.Proofs
set_option maxRecDepth 20000
set_option maxHeartbeats 4000000
set_option linter.unusedVariables false
set_option linter.unusedSectionVars false

theorem Pl.dn_step {α : Type} (O : Pl.Swo α) {x : α} {l : List α} (hs : Pl.Srt O l) {i : Nat} {y : α} (hy : l[i]? = some y) : O.lt x y = false ↔ i < Pl.pos O x l + (Pl.fnd O x l).toNat := by
  obtain ⟨hil, hy2⟩ := List.getElem?_eq_some_iff.1 hy
  have hp := Pl.pos_split O x l
  have hd := hs.drop_pos O (x := x)
  cases hf : Pl.fnd O x l with
  | false =>
    have ha := Pl.after_pos O hs hf
    simp only [Bool.toNat_false, Nat.add_zero]
    constructor
    · intro h
      rcases Nat.lt_or_ge i (Pl.pos O x l) with h1 | h1
      · exact h1
      · have := ha y (List.mem_iff_getElem?.2 ⟨i - Pl.pos O x l, by rw [List.getElem?_drop, Nat.add_sub_cancel' h1]; exact hy⟩)
        rw [h] at this; cases this
    · intro h
      have := hp.1 y (List.mem_iff_getElem?.2 ⟨i, by rw [List.getElem?_take_of_lt h]; exact hy⟩)
      exact O.asy this
  | true =>
    obtain ⟨z, hz, h1, h2⟩ := Pl.fnd_at O hs hf
    simp only [Bool.toNat_true]
    constructor
    · intro h
      rcases Nat.lt_or_ge i (Pl.pos O x l + 1) with h3 | h3
      · exact h3
      · have h4 := List.pairwise_iff_getElem.1 hs (Pl.pos O x l) i (List.getElem?_eq_some_iff.1 hz).1 hil (by omega)
        rw [(List.getElem?_eq_some_iff.1 hz).2, hy2] at h4
        rw [O.lt_of_le_of_lt h1 h4] at h; cases h
    · intro h
      rcases Nat.lt_or_ge i (Pl.pos O x l) with h3 | h3
      · have := hp.1 y (List.mem_iff_getElem?.2 ⟨i, by rw [List.getElem?_take_of_lt h3]; exact hy⟩)
        exact O.asy this
      · obtain rfl : i = Pl.pos O x l := by omega
        rw [hy] at hz; cases hz; exact h2

theorem down_spec {B : World} {H : Mem} {v u : Value} {ord : List Int} {l : List (Int × Int)} {x : Int × Int} (ho : InS EN H v ord) (hl : ord.length < 4611686018427387904) (hi : InS EJ H u l) (hs : Pl.Srt (OO ord) l) (hll : l.length ≤ 4294967296) :
    Fn Try.prog B 146 [v, u, .agg (EJ.enc x).toArray] H (fun r H' => OutS EJ H' r (Pl.dn (OO ord) x l).reverse ∧ Fr nowhere H H') := by
  obtain ⟨a, c, hu⟩ := hi.len
  subst hu
  have hle : Pl.pos (OO ord) x l + (Pl.fnd (OO ord) x l).toNat ≤ l.length := by
    have := Pl.pos_le (OO ord) x l
    cases h : Pl.fnd (OO ord) x l with
    | false => simpa using this
    | true => have := Pl.fnd_pos_lt (OO ord) h; simp; omega
  refine fn_of Go.Proofs.Try.func146 rfl Go.Proofs.Try.ntmps146 ?_
  refine (show Go' _ _ _ _ 28 [(0, _), (1, _), (2, _)] [.code _] _ from ?_)
  refine Go'.seq ?_
  -- region 0 (list.go:114)
  refine Go'.region [(0, 2), (1, 0)] rfl ?_
  refine O.box rfl rfl rfl rfl ?_
  intro H1 M1
  refine ⟨trivial, ?_⟩
  have hF1 := M1.fr nowhere
  replace ho := ho.fr hF1
  replace hi := hi.fr hF1
  have mi : Rd H1 H.size 0 (EJ.enc x) := M1.rd _ [] (by simp [Value.cells])
  refine O.asg rfl rfl rfl rfl rfl ?_
  refine Pl.fin [(0, _), (1, _), (5, _), (6, _)] ⟨rfl, rfl, rfl, rfl, trivial⟩ ?_
  refine Go'.seq ?_
  -- region 1 (list.go:115)
  refine Go'.region [(0, 0)] rfl ?_
  refine O.asg rfl rfl rfl rfl rfl ?_
  refine Pl.fin [(0, _), (1, _), (5, _), (6, _), (7, _)] ⟨rfl, rfl, rfl, rfl, rfl, trivial⟩ ?_
  refine Go'.seq ?_
  refine Go'.block ?_
  refine Go'.loop ?_
  refine Go'.keep [(0, _), (1, _), (5, _), (7, _)] ⟨rfl, rfl, rfl, rfl, trivial⟩ ?_
  refine Go'.ind (σ := Nat) (fun j => l.length - j) (fun j H' => Fr nowhere H1 H' ∧ j ≤ Pl.pos (OO ord) x l + (Pl.fnd (OO ord) x l).toNat)
    (fun j => [(0, v), (1, .slice a l.length c), (5, .pointer (some ⟨H.size, 0, none⟩)), (7, .int .i64 (j : Int))]) 0 ⟨Fr.refl _ _, Nat.zero_le _⟩ rfl ?_
  rintro j H2 ⟨hF2, hjl⟩ ih
  have ho2 := ho.fr hF2
  have hi2 := hi.fr hF2
  have mi2 : Rd H2 H.size 0 (EJ.enc x) := hF2.rd mi (fun _ _ => nw)
  refine Go'.seq ?_
  refine Go'.seq ?_
  by_cases hlt : j < l.length
  · skip
    obtain ⟨y, hy⟩ : ∃ y, l[j]? = some y := ⟨l[j], List.getElem?_eq_getElem hlt⟩
    obtain ⟨b, o, c', e, hr⟩ := hi2.at hy
    cases e
    have hst := Pl.dn_step (OO ord) hs (x := x) hy
    cases hlx : (OO ord).lt x y
    · skip
      -- region 2 (list.go:116)
      refine Go'.draw (fun H' => Rd H' H.size 0 (EJ.enc x) ∧ Rd H' b (o + j * 2) (EJ.enc y)) [(0, 0), (1, 0), (2, 0), (3, 0), (4, 0), (5, 0), (6, 1), (7, 0), (8, 0), (9, 0), (10, 1), (11, 2), (12, 0), (13, 0)] (by kernel_rfl) (by kernel_rfl) (⟨mi2, hr⟩) ?_
      refine O.mv rfl rfl rfl rfl rfl ?_
      refine O.mv rfl rfl rfl rfl rfl ?_
      refine O.len rfl rfl rfl rfl Go.Proofs.Try.underlying25 rfl ?_
      refine O.cmp rfl rfl rfl rfl rfl rfl (lssT (by omega)) ?_
      refine O.mv rfl rfl rfl rfl rfl ?_
      refine O.mv rfl rfl rfl rfl rfl ?_
      refine O.lds rfl rfl rfl (fun w => ⟨Go.Proofs.Try.isAgg27 w, Go.Proofs.Try.sizeOf27 w⟩) rfl rfl mi2 ?_
      refine O.mv rfl rfl rfl rfl rfl ?_
      refine O.mv rfl rfl rfl rfl rfl ?_
      refine O.ix (j := j) rfl rfl rfl rfl Go.Proofs.Try.underlying25 Go.Proofs.Try.sizeOf27 rfl rfl (by omega) hlt ?_
      refine O.lds rfl rfl rfl (fun w => ⟨Go.Proofs.Try.isAgg27 w, Go.Proofs.Try.sizeOf27 w⟩) rfl rfl hr ?_
      refine O.call rfl rfl rfl Go.Proofs.Try.call186 rfl (before_spec ho2 hl) ?_
      rintro _ H3 ⟨rfl, hF3⟩
      rw [hlx]
      refine ⟨⟨hF3.rd mi2 (fun _ _ => nw), hF3.rd hr (fun _ _ => nw)⟩, ?_⟩
      refine O.not rfl rfl rfl rfl rfl ?_
      refine O.pick rfl rfl rfl rfl rfl rfl ?_
      refine Pl.fin [(0, _), (1, _), (5, _), (7, _), (21, _)] ⟨rfl, rfl, rfl, rfl, rfl, trivial⟩ ?_
      refine Go'.condT rfl ?_
      refine Go'.skip ?_
      refine Go'.block ?_
      -- region 3 (list.go:117)
      refine Go'.region [(0, 0), (1, 0), (2, 0)] rfl ?_
      refine O.mv rfl rfl rfl rfl rfl ?_
      refine O.add (((j + 1 : Nat) : Int)) rfl rfl rfl rfl rfl rfl (by omega) (by omega) ?_
      refine O.asg rfl rfl rfl rfl rfl ?_
      refine Pl.fin [(0, _), (1, _), (5, _), (7, _), (21, _)] ⟨rfl, rfl, rfl, rfl, rfl, trivial⟩ ?_
      refine Go'.inBlock ?_
      refine Go'.keep [(0, _), (1, _), (5, _), (7, _)] ⟨rfl, rfl, rfl, rfl, trivial⟩ ?_
      refine Go'.inLoop ?_
      exact ih (j + 1) H3 ⟨hF2.trans hF3, hst.1 hlx⟩ (by omega)
    · skip
      -- region 2 (list.go:116)
      refine Go'.draw (fun H' => Rd H' H.size 0 (EJ.enc x) ∧ Rd H' b (o + j * 2) (EJ.enc y)) [(0, 0), (1, 0), (2, 0), (3, 0), (4, 0), (5, 0), (6, 1), (7, 0), (8, 0), (9, 0), (10, 1), (11, 2), (12, 0), (13, 0)] (by kernel_rfl) (by kernel_rfl) (⟨mi2, hr⟩) ?_
      refine O.mv rfl rfl rfl rfl rfl ?_
      refine O.mv rfl rfl rfl rfl rfl ?_
      refine O.len rfl rfl rfl rfl Go.Proofs.Try.underlying25 rfl ?_
      refine O.cmp rfl rfl rfl rfl rfl rfl (lssT (by omega)) ?_
      refine O.mv rfl rfl rfl rfl rfl ?_
      refine O.mv rfl rfl rfl rfl rfl ?_
      refine O.lds rfl rfl rfl (fun w => ⟨Go.Proofs.Try.isAgg27 w, Go.Proofs.Try.sizeOf27 w⟩) rfl rfl mi2 ?_
      refine O.mv rfl rfl rfl rfl rfl ?_
      refine O.mv rfl rfl rfl rfl rfl ?_
      refine O.ix (j := j) rfl rfl rfl rfl Go.Proofs.Try.underlying25 Go.Proofs.Try.sizeOf27 rfl rfl (by omega) hlt ?_
      refine O.lds rfl rfl rfl (fun w => ⟨Go.Proofs.Try.isAgg27 w, Go.Proofs.Try.sizeOf27 w⟩) rfl rfl hr ?_
      refine O.call rfl rfl rfl Go.Proofs.Try.call186 rfl (before_spec ho2 hl) ?_
      rintro _ H3 ⟨rfl, hF3⟩
      rw [hlx]
      refine ⟨⟨hF3.rd mi2 (fun _ _ => nw), hF3.rd hr (fun _ _ => nw)⟩, ?_⟩
      refine O.not rfl rfl rfl rfl rfl ?_
      refine O.pick rfl rfl rfl rfl rfl rfl ?_
      refine Pl.fin [(0, _), (1, _), (5, _), (7, _), (21, _)] ⟨rfl, rfl, rfl, rfl, rfl, trivial⟩ ?_
      have hj : j = Pl.pos (OO ord) x l + (Pl.fnd (OO ord) x l).toNat := by
        rcases Nat.lt_or_ge j (Pl.pos (OO ord) x l + (Pl.fnd (OO ord) x l).toNat) with h | h
        · rw [hst.2 h] at hlx; cases hlx
        · omega
      replace hi2 := hi2.fr hF3
      refine Go'.condF rfl ?_
      refine Go'.exit rfl ?_
      refine Go'.seq ?_
      -- region 4 (list.go:119)
      refine Go'.region [(0, 0), (1, 0), (2, 0), (3, 2), (4, 0)] rfl ?_
      refine O.mv rfl rfl rfl rfl rfl ?_
      refine O.mv rfl rfl rfl rfl rfl ?_
      refine O.slcIn (E := EJ) (jl := 0) (jh := j) rfl rfl rfl rfl Go.Proofs.Try.underlying25 Go.Proofs.Try.sizeOf27 rfl hi2 ⟨_, by rfl⟩ rfl (by omega) (by omega) ?_
      intro v1 hv1
      rw [List.drop_zero, Nat.sub_zero] at hv1
      rw [hj] at hv1
      refine O.call rfl rfl rfl Go.Proofs.Try.call145 rfl (turned_spec (l := Pl.dn (OO ord) x l) hv1 (by have := Pl.dn_le (OO ord) x l; omega)) ?_
      rintro tv H4 ⟨htv, hF4⟩
      refine ⟨trivial, ?_⟩
      refine O.asg rfl rfl rfl rfl rfl ?_
      refine Pl.fin [(6, _)] ⟨rfl, trivial⟩ ?_
      refine Go'.ret (vs := [_]) Go.Proofs.Try.func146 Go.Proofs.Try.results146 ⟨rfl, trivial⟩ ?_
      exact ⟨htv, ((hF1.trans hF2).trans hF3).trans hF4⟩
  · skip
    have hj : j = Pl.pos (OO ord) x l + (Pl.fnd (OO ord) x l).toNat := by omega
    -- region 2 (list.go:116)
    refine Go'.draw (fun _ => True) [(0, 0), (1, 0), (2, 0), (3, 0), (4, 0), (5, 0), (6, 1), (7, 0), (8, 0), (9, 0), (10, 1), (11, 2), (12, 0), (13, 0)] (by kernel_rfl) (by kernel_rfl) (trivial) ?_
    refine O.mv rfl rfl rfl rfl rfl ?_
    refine O.mv rfl rfl rfl rfl rfl ?_
    refine O.len rfl rfl rfl rfl Go.Proofs.Try.underlying25 rfl ?_
    refine O.cmp rfl rfl rfl rfl rfl rfl (lssF (by omega)) ?_
    refine O.mv rfl rfl rfl rfl rfl ?_
    refine Pl.pass rfl rfl rfl rfl ?_
    refine Pl.pass rfl rfl rfl rfl ?_
    refine Pl.pass rfl rfl rfl rfl ?_
    refine Pl.pass rfl rfl rfl rfl ?_
    refine Pl.pass rfl rfl rfl rfl ?_
    refine Pl.pass rfl rfl rfl rfl ?_
    refine Pl.pass2 rfl rfl rfl rfl trivial ?_
    refine Pl.pass rfl rfl rfl rfl ?_
    refine O.pick rfl rfl rfl rfl rfl rfl ?_
    refine Pl.fin [(0, _), (1, _), (5, _), (7, _), (21, _)] ⟨rfl, rfl, rfl, rfl, rfl, trivial⟩ ?_
    refine Go'.condF rfl ?_
    refine Go'.exit rfl ?_
    refine Go'.seq ?_
    -- region 4 (list.go:119)
    refine Go'.region [(0, 0), (1, 0), (2, 0), (3, 2), (4, 0)] rfl ?_
    refine O.mv rfl rfl rfl rfl rfl ?_
    refine O.mv rfl rfl rfl rfl rfl ?_
    refine O.slcIn (E := EJ) (jl := 0) (jh := j) rfl rfl rfl rfl Go.Proofs.Try.underlying25 Go.Proofs.Try.sizeOf27 rfl hi2 ⟨_, by rfl⟩ rfl (by omega) (by omega) ?_
    intro v1 hv1
    rw [List.drop_zero, Nat.sub_zero] at hv1
    rw [hj] at hv1
    refine O.call rfl rfl rfl Go.Proofs.Try.call145 rfl (turned_spec (l := Pl.dn (OO ord) x l) hv1 (by have := Pl.dn_le (OO ord) x l; omega)) ?_
    rintro tv H4 ⟨htv, hF4⟩
    refine ⟨trivial, ?_⟩
    refine O.asg rfl rfl rfl rfl rfl ?_
    refine Pl.fin [(6, _)] ⟨rfl, trivial⟩ ?_
    refine Go'.ret (vs := [_]) Go.Proofs.Try.func146 Go.Proofs.Try.results146 ⟨rfl, trivial⟩ ?_
    exact ⟨htv, (hF1.trans hF2).trans hF4⟩

theorem gdescend_spec {B : World} {H : Mem} {v u dg nl : Value} {ord : List Int} {l : List (Int × Int)} {x : Int × Int} {n : Int} (ho : InS EN H v ord) (hl : ord.length < 4611686018427387904) (hi : InS EJ H u l) (hll : l.length ≤ 4294967296) :
    Fn Try.prog B 94 [.agg #[v, dg, nl], u, .agg (EJ.enc x).toArray, .int .i64 n] H (fun r H' => InS EJ H' r (firstN (Pl.dn (OO ord) x (Pl.puts (OO ord) l)).reverse n) ∧ Fr nowhere H H') := by
  have hpl := Pl.puts_length (OO ord) l
  refine fn_of Go.Proofs.Try.func94 rfl Go.Proofs.Try.ntmps94 ?_
  refine (show Go' _ _ _ _ 19 [(0, _), (1, _), (2, _), (3, _)] [.code _] _ from ?_)
  refine Go'.seq ?_
  -- region 0 (tree.go:100)
  refine Go'.region [(0, 2), (1, 2), (2, 0)] rfl ?_
  refine O.box rfl rfl rfl rfl ?_
  intro H1 M1
  refine ⟨trivial, ?_⟩
  replace ho := ho.fr (M1.fr nowhere)
  replace hi := hi.fr (M1.fr nowhere)
  have mi : cl H1 H.size 0 = some v := (M1.cl 0).trans rfl
  refine O.box rfl rfl rfl rfl ?_
  intro H2 M2
  refine ⟨trivial, ?_⟩
  replace ho := ho.fr (M2.fr nowhere)
  replace hi := hi.fr (M2.fr nowhere)
  replace mi := M2.keep mi
  have mx : Rd H2 H1.size 0 (EJ.enc x) := M2.rd _ [] (by simp [Value.cells])
  refine O.asg rfl rfl rfl rfl rfl ?_
  refine Pl.fin [(1, _), (3, _), (4, _), (6, _), (8, _)] ⟨rfl, rfl, rfl, rfl, rfl, trivial⟩ ?_
  refine Go'.seq ?_
  -- region 1 (tree.go:101)
  refine Go'.draw (fun H' => cl H' H.size 0 = some v ∧ Rd H' H1.size 0 (EJ.enc x)) [(0, 0), (1, 0), (2, 0), (3, 1), (4, 0), (6, 0), (8, 0), (5, 2), (7, 2), (9, 2), (10, 0)] (by kernel_rfl) (by kernel_rfl) (⟨mi, mx⟩) ?_
  refine O.faz rfl rfl rfl rfl ⟨_, _, _, Go.Proofs.Try.underlying24, rfl, rfl, Go.Proofs.Try.sizeOf22⟩ rfl ?_
  refine O.ldC rfl rfl rfl (fun w => ⟨Go.Proofs.Try.isAgg22 w, Go.Proofs.Try.sizeOf22 w⟩) rfl (fun _ h => h.1) ?_
  refine O.faz rfl rfl rfl rfl ⟨_, _, _, Go.Proofs.Try.underlying24, rfl, rfl, Go.Proofs.Try.sizeOf22⟩ rfl ?_
  refine O.ld rfl rfl rfl (fun w => ⟨Go.Proofs.Try.isAgg22 w, Go.Proofs.Try.sizeOf22 w⟩) rfl mi ?_
  refine O.mv rfl rfl rfl rfl rfl ?_
  refine O.ldsC rfl rfl rfl (fun w => ⟨Go.Proofs.Try.isAgg27 w, Go.Proofs.Try.sizeOf27 w⟩) rfl rfl (fun _ h => h.2) ?_
  refine O.mv rfl rfl rfl rfl rfl ?_
  refine O.call rfl rfl rfl Go.Proofs.Try.call42 rfl (tree_spec ho hl hi hll) ?_
  rintro sv H3 ⟨hsv, hF3⟩
  replace mi := hF3.keep mi nw
  replace mx := hF3.rd mx (fun _ _ => nw)
  refine ⟨⟨mi, mx⟩, ?_⟩
  refine O.call rfl rfl rfl Go.Proofs.Try.call146 rfl (down_spec (x := x) (ho.fr hF3) hl hsv.inS (Pl.puts_srt _ _) (by omega)) ?_
  rintro tv H4 ⟨htv, hF4⟩
  replace mi := hF4.keep mi nw
  replace mx := hF4.rd mx (fun _ _ => nw)
  refine ⟨⟨mi, mx⟩, ?_⟩
  refine O.call rfl rfl rfl Go.Proofs.Try.call144 rfl (first_spec (n := n) htv.inS) ?_
  rintro fv H5 ⟨hfv, rfl⟩
  refine ⟨⟨mi, mx⟩, ?_⟩
  refine O.asg rfl rfl rfl rfl rfl ?_
  refine Pl.fin [(8, _)] ⟨rfl, trivial⟩ ?_
  refine Go'.ret (vs := [_]) Go.Proofs.Try.func94 Go.Proofs.Try.results94 ⟨rfl, trivial⟩ ?_
  exact ⟨hfv, (((M1.fr nowhere).trans (M2.fr nowhere)).trans hF3).trans hF4⟩

theorem igdescend_spec {B : World} {H : Mem} {d : Nat} {nl : Bool} {v u : Value} {ord : List Int} {l : List (Int × Int)} (hd : d = 0 ∨ 2 ≤ d ∧ d ≤ 128) (ho : InS EN H v ord) (hol : ord.length ≤ 4294967296) (hi : InS EJ H u l) (hll : l.length ≤ 4294967296) (x : Int × Int) {n : Int} :
    Fn Try.prog B 60 [.agg #[v, .int .i64 (d : Int), .bool nl], u, .agg (EJ.enc x).toArray, .int .i64 n] H (fun r H' => OutS EJ H' r (firstN ((Pl.dn (OO ord) x (Pl.puts (OO ord) l)).reverse) n) ∧ Fr nowhere H H') := by
  obtain ⟨a, c, hu⟩ := hi.len
  subst hu
  obtain ⟨av, mv, cv, hv⟩ := InS.form ho
  subst hv
  have hF : Fr nowhere H H := Fr.refl _ _
  have hP := PD_ok hd
  refine fn_of Go.Proofs.Try.func60 rfl Go.Proofs.Try.ntmps60 ?_
  refine (show Go' _ _ _ _ 18 [(0, _), (1, _), (2, _), (3, _)] [.code _] _ from ?_)
  refine Go'.seq ?_
  -- region 0 (treeg.go:234)
  refine Go'.region [(0, 2), (1, 2), (2, 0)] rfl ?_
  refine O.box rfl rfl rfl rfl ?_
  intro B1 MB1
  refine ⟨trivial, ?_⟩
  have hsB1 := MB1.size
  replace hF := hF.trans (MB1.fr nowhere)
  have mm : Rd B1 H.size 0 [.slice av mv cv, .int .i64 (d : Int), .bool nl] := MB1.rd _ [] (by simp [Value.cells])
  have mm0 : cl B1 H.size 0 = some (.slice av mv cv) := mm 0 _ rfl
  have mm1 : cl B1 H.size (0 + 1) = some (.int .i64 (d : Int)) := mm 1 _ rfl
  refine O.box rfl rfl rfl rfl ?_
  intro B2 MB2
  refine ⟨trivial, ?_⟩
  have hsB2 := MB2.size
  replace hF := hF.trans (MB2.fr nowhere)
  replace mm := (MB2.fr nowhere).rd mm (fun _ _ => nw)
  replace mm0 := (MB2.fr nowhere).keep mm0 nw
  replace mm1 := (MB2.fr nowhere).keep mm1 nw
  have mpivot : Rd B2 B1.size 0 (EJ.enc x) := MB2.rd _ [] (by simp [Value.cells])
  refine O.asg rfl rfl rfl rfl rfl ?_
  refine Pl.fin [(1, _), (3, _), (4, _), (6, _), (8, _)] ⟨rfl, rfl, rfl, rfl, rfl, trivial⟩ ?_
  refine Go'.seq ?_
  -- region 1 (treeg.go:235)
  refine Go'.region [(0, 2)] rfl ?_
  refine O.alloc rfl rfl rfl Go.Proofs.Try.zeroValue25 ?_
  intro H2 M2
  refine ⟨trivial, ?_⟩
  have hs2 := M2.size
  replace hF := hF.trans (M2.fr nowhere)
  replace mm := (M2.fr nowhere).rd mm (fun _ _ => nw)
  replace mm0 := (M2.fr nowhere).keep mm0 nw
  replace mm1 := (M2.fr nowhere).keep mm1 nw
  replace mpivot := (M2.fr nowhere).rd mpivot (fun _ _ => nw)
  have hD : cl H2 B2.size 0 = some (.slice none 0 0) := (M2.cl 0).trans rfl
  have hw : Wr H2 B2.size 0 1 := M2.wr 1 (by decide)
  refine Pl.fin [(1, _), (3, _), (4, _), (6, _), (8, _), (9, _)] ⟨rfl, rfl, rfl, rfl, rfl, rfl, trivial⟩ ?_
  refine Go'.seq ?_
  -- region 2 (treeg.go:236)
  refine Go'.draw (fun H' => Rd H' B1.size 0 (EJ.enc x)) [(0, 1), (1, 0), (3, 0), (4, 0), (2, 2), (5, 2), (6, 2)] (by kernel_rfl) (by kernel_rfl) (mpivot) ?_
  refine O.lds rfl rfl rfl (fun w => ⟨Go.Proofs.Try.isAgg24 w, Go.Proofs.Try.sizeOf24 w⟩) rfl rfl mm ?_
  refine O.mv rfl rfl rfl rfl rfl ?_
  refine O.ldsC rfl rfl rfl (fun w => ⟨Go.Proofs.Try.isAgg27 w, Go.Proofs.Try.sizeOf27 w⟩) rfl rfl (fun _ h => h) ?_
  refine O.mv rfl rfl rfl rfl rfl ?_
  refine O.call rfl rfl rfl Go.Proofs.Try.call68 rfl (grow_spec hd (ho.fr hF) hol (hi.fr hF) hll) ?_
  rintro _ H3 ⟨I, hIo, hIw, hIb, tr, S, rfl, hM, hF3, hS⟩
  have hs3 := hF3.size
  replace hF := hF.trans hF3
  replace mm := hF3.rd mm (fun _ _ => nw)
  replace mm0 := hF3.keep mm0 nw
  replace mm1 := hF3.keep mm1 nw
  replace mpivot := hF3.rd mpivot (fun _ _ => nw)
  replace hD := hF3.keep hD nw
  replace hw := hF3.wr hw
  have hSb : ∀ b, S b ∨ (b < cx.base ∧ cx.own b) → H2.size ≤ b := fun b hb => hb.elim (hS b) (fun h => hIw b h.2)
  have hOO : OO ord = OI := by rw [← hIo]; rfl
  have hpl := Pl.puts_length OI l
  have hSlt := hM.lt
  have hbs := hM.tc.hb
  unfold ptr
  refine ⟨mpivot, ?_⟩
  refine O.call rfl rfl rfl Go.Proofs.Try.call107 rfl (taker_spec (n := n) hD hw) ?_
  rintro _ H4 ⟨b2, b3, rfl, hT, hF4⟩
  have hs4 := hF4.size
  replace hF := hF.trans hF4
  replace hM := hM.fr hF4 (fun _ _ _ => nw)
  replace mm := hF4.rd mm (fun _ _ => nw)
  replace mm0 := hF4.keep mm0 nw
  replace mm1 := hF4.keep mm1 nw
  replace mpivot := hF4.rd mpivot (fun _ _ => nw)
  refine ⟨mpivot, ?_⟩
  refine O.call rfl rfl rfl Go.Proofs.Try.call110 rfl (Descend_spec (cbTk B b2 b3 B2.size n) Try.call152 hP x hM hT (fun b hb hz => hz.elim (fun h => by have := hSb b (.inl hb); omega) (fun h => by have := hSlt b hb; omega)) (fun b hz hb => hz.elim (fun h => by have := hSb b (.inr hb); omega) (fun h => by omega)) (by omega) (Nat.le_refl _)) ?_
  rintro _ H5 ⟨Z5, hT5, hF5, hZ5⟩
  have hmk : ∀ {b o v}, cl H4 b o = some v → b ≠ B2.size → b < B2.size → cl H5 b o = some v := fun {b o v} h h1 h2 => hF5.keep h (fun hz => hz.elim h1 (fun h => by omega))
  replace mm := hF5.rd mm (fun _ _ hz => hz.elim (fun h => by omega) (fun h => by omega))
  replace mpivot := hF5.rd mpivot (fun _ _ hz => hz.elim (fun h => by omega) (fun h => by omega))
  obtain ⟨ov, hv, hov⟩ := TkT.out hT5
  rw [takes_first] at hov
  replace hF := hF.trans' hF5 (fun _ _ _ h => h) (fun b o hb hz => hz.elim (fun h => by omega) (fun h => by omega))
  refine ⟨mpivot, ?_⟩
  refine Pl.fin [(8, _), (9, _)] ⟨rfl, rfl, trivial⟩ ?_
  refine Go'.seq ?_
  -- region 3 (treeg.go:237)
  refine Go'.region [(0, 1), (1, 0)] rfl ?_
  refine O.ld rfl rfl rfl (fun w => ⟨Go.Proofs.Try.isAgg25 w, Go.Proofs.Try.sizeOf25 w⟩) rfl hv ?_
  refine O.asg rfl rfl rfl rfl rfl ?_
  refine Pl.fin [(8, _)] ⟨rfl, trivial⟩ ?_
  refine Go'.ret (vs := [_]) Go.Proofs.Try.func60 Go.Proofs.Try.results60 ⟨rfl, trivial⟩ ?_
  rw [hOO]; exact ⟨hov, hF⟩

theorem igascend_spec {B : World} {H : Mem} {d : Nat} {nl : Bool} {v u : Value} {ord : List Int} {l : List (Int × Int)} (hd : d = 0 ∨ 2 ≤ d ∧ d ≤ 128) (ho : InS EN H v ord) (hol : ord.length ≤ 4294967296) (hi : InS EJ H u l) (hll : l.length ≤ 4294967296) (x : Int × Int) {n : Int} :
    Fn Try.prog B 59 [.agg #[v, .int .i64 (d : Int), .bool nl], u, .agg (EJ.enc x).toArray, .int .i64 n] H (fun r H' => OutS EJ H' r (firstN (Pl.up (OO ord) x (Pl.puts (OO ord) l)) n) ∧ Fr nowhere H H') := by
  obtain ⟨a, c, hu⟩ := hi.len
  subst hu
  obtain ⟨av, mv, cv, hv⟩ := InS.form ho
  subst hv
  have hF : Fr nowhere H H := Fr.refl _ _
  have hP := PD_ok hd
  refine fn_of Go.Proofs.Try.func59 rfl Go.Proofs.Try.ntmps59 ?_
  refine (show Go' _ _ _ _ 18 [(0, _), (1, _), (2, _), (3, _)] [.code _] _ from ?_)
  refine Go'.seq ?_
  -- region 0 (treeg.go:227)
  refine Go'.region [(0, 2), (1, 2), (2, 0)] rfl ?_
  refine O.box rfl rfl rfl rfl ?_
  intro B1 MB1
  refine ⟨trivial, ?_⟩
  have hsB1 := MB1.size
  replace hF := hF.trans (MB1.fr nowhere)
  have mm : Rd B1 H.size 0 [.slice av mv cv, .int .i64 (d : Int), .bool nl] := MB1.rd _ [] (by simp [Value.cells])
  have mm0 : cl B1 H.size 0 = some (.slice av mv cv) := mm 0 _ rfl
  have mm1 : cl B1 H.size (0 + 1) = some (.int .i64 (d : Int)) := mm 1 _ rfl
  refine O.box rfl rfl rfl rfl ?_
  intro B2 MB2
  refine ⟨trivial, ?_⟩
  have hsB2 := MB2.size
  replace hF := hF.trans (MB2.fr nowhere)
  replace mm := (MB2.fr nowhere).rd mm (fun _ _ => nw)
  replace mm0 := (MB2.fr nowhere).keep mm0 nw
  replace mm1 := (MB2.fr nowhere).keep mm1 nw
  have mpivot : Rd B2 B1.size 0 (EJ.enc x) := MB2.rd _ [] (by simp [Value.cells])
  refine O.asg rfl rfl rfl rfl rfl ?_
  refine Pl.fin [(1, _), (3, _), (4, _), (6, _), (8, _)] ⟨rfl, rfl, rfl, rfl, rfl, trivial⟩ ?_
  refine Go'.seq ?_
  -- region 1 (treeg.go:228)
  refine Go'.region [(0, 2)] rfl ?_
  refine O.alloc rfl rfl rfl Go.Proofs.Try.zeroValue25 ?_
  intro H2 M2
  refine ⟨trivial, ?_⟩
  have hs2 := M2.size
  replace hF := hF.trans (M2.fr nowhere)
  replace mm := (M2.fr nowhere).rd mm (fun _ _ => nw)
  replace mm0 := (M2.fr nowhere).keep mm0 nw
  replace mm1 := (M2.fr nowhere).keep mm1 nw
  replace mpivot := (M2.fr nowhere).rd mpivot (fun _ _ => nw)
  have hD : cl H2 B2.size 0 = some (.slice none 0 0) := (M2.cl 0).trans rfl
  have hw : Wr H2 B2.size 0 1 := M2.wr 1 (by decide)
  refine Pl.fin [(1, _), (3, _), (4, _), (6, _), (8, _), (9, _)] ⟨rfl, rfl, rfl, rfl, rfl, rfl, trivial⟩ ?_
  refine Go'.seq ?_
  -- region 2 (treeg.go:229)
  refine Go'.draw (fun H' => Rd H' B1.size 0 (EJ.enc x)) [(0, 1), (1, 0), (3, 0), (4, 0), (2, 2), (5, 2), (6, 2)] (by kernel_rfl) (by kernel_rfl) (mpivot) ?_
  refine O.lds rfl rfl rfl (fun w => ⟨Go.Proofs.Try.isAgg24 w, Go.Proofs.Try.sizeOf24 w⟩) rfl rfl mm ?_
  refine O.mv rfl rfl rfl rfl rfl ?_
  refine O.ldsC rfl rfl rfl (fun w => ⟨Go.Proofs.Try.isAgg27 w, Go.Proofs.Try.sizeOf27 w⟩) rfl rfl (fun _ h => h) ?_
  refine O.mv rfl rfl rfl rfl rfl ?_
  refine O.call rfl rfl rfl Go.Proofs.Try.call68 rfl (grow_spec hd (ho.fr hF) hol (hi.fr hF) hll) ?_
  rintro _ H3 ⟨I, hIo, hIw, hIb, tr, S, rfl, hM, hF3, hS⟩
  have hs3 := hF3.size
  replace hF := hF.trans hF3
  replace mm := hF3.rd mm (fun _ _ => nw)
  replace mm0 := hF3.keep mm0 nw
  replace mm1 := hF3.keep mm1 nw
  replace mpivot := hF3.rd mpivot (fun _ _ => nw)
  replace hD := hF3.keep hD nw
  replace hw := hF3.wr hw
  have hSb : ∀ b, S b ∨ (b < cx.base ∧ cx.own b) → H2.size ≤ b := fun b hb => hb.elim (hS b) (fun h => hIw b h.2)
  have hOO : OO ord = OI := by rw [← hIo]; rfl
  have hpl := Pl.puts_length OI l
  have hSlt := hM.lt
  have hbs := hM.tc.hb
  unfold ptr
  refine ⟨mpivot, ?_⟩
  refine O.call rfl rfl rfl Go.Proofs.Try.call107 rfl (taker_spec (n := n) hD hw) ?_
  rintro _ H4 ⟨b2, b3, rfl, hT, hF4⟩
  have hs4 := hF4.size
  replace hF := hF.trans hF4
  replace hM := hM.fr hF4 (fun _ _ _ => nw)
  replace mm := hF4.rd mm (fun _ _ => nw)
  replace mm0 := hF4.keep mm0 nw
  replace mm1 := hF4.keep mm1 nw
  replace mpivot := hF4.rd mpivot (fun _ _ => nw)
  refine ⟨mpivot, ?_⟩
  refine O.call rfl rfl rfl Go.Proofs.Try.call109 rfl (Ascend_spec (cbTk B b2 b3 B2.size n) Try.call152 hP x hM hT (fun b hb hz => hz.elim (fun h => by have := hSb b (.inl hb); omega) (fun h => by have := hSlt b hb; omega)) (fun b hz hb => hz.elim (fun h => by have := hSb b (.inr hb); omega) (fun h => by omega)) (by omega) (Nat.le_refl _)) ?_
  rintro _ H5 ⟨Z5, hT5, hF5, hZ5⟩
  have hmk : ∀ {b o v}, cl H4 b o = some v → b ≠ B2.size → b < B2.size → cl H5 b o = some v := fun {b o v} h h1 h2 => hF5.keep h (fun hz => hz.elim h1 (fun h => by omega))
  replace mm := hF5.rd mm (fun _ _ hz => hz.elim (fun h => by omega) (fun h => by omega))
  replace mpivot := hF5.rd mpivot (fun _ _ hz => hz.elim (fun h => by omega) (fun h => by omega))
  obtain ⟨ov, hv, hov⟩ := TkT.out hT5
  rw [takes_first] at hov
  replace hF := hF.trans' hF5 (fun _ _ _ h => h) (fun b o hb hz => hz.elim (fun h => by omega) (fun h => by omega))
  refine ⟨mpivot, ?_⟩
  refine Pl.fin [(8, _), (9, _)] ⟨rfl, rfl, trivial⟩ ?_
  refine Go'.seq ?_
  -- region 3 (treeg.go:230)
  refine Go'.region [(0, 1), (1, 0)] rfl ?_
  refine O.ld rfl rfl rfl (fun w => ⟨Go.Proofs.Try.isAgg25 w, Go.Proofs.Try.sizeOf25 w⟩) rfl hv ?_
  refine O.asg rfl rfl rfl rfl rfl ?_
  refine Pl.fin [(8, _)] ⟨rfl, trivial⟩ ?_
  refine Go'.ret (vs := [_]) Go.Proofs.Try.func59 Go.Proofs.Try.results59 ⟨rfl, trivial⟩ ?_
  rw [hOO]; exact ⟨hov, hF⟩

theorem lawGDescend_spec {B : World} {H : Mem} {d : Nat} {nl : Bool} {v u : Value} {ord : List Int} {l : List (Int × Int)} (hd : d = 0 ∨ 2 ≤ d ∧ d ≤ 128) (ho : InS EN H v ord) (hol : ord.length ≤ 4294967296) (hi : InS EJ H u l) (hll : l.length ≤ 4294967296) {x : Int × Int} {n : Int} :
    Fn Try.prog B 46 [.agg #[v, .int .i64 (d : Int), .bool nl], u, .agg (EJ.enc x).toArray, .int .i64 n] H (fun r H' => r = .bool true ∧ Fr nowhere H H') := by
  obtain ⟨a, c, hu⟩ := hi.len
  subst hu
  obtain ⟨av, mv, cv, hv⟩ := InS.form ho
  subst hv
  have hF : Fr nowhere H H := Fr.refl _ _
  have hP := PD_ok hd
  refine fn_of Go.Proofs.Try.func46 rfl Go.Proofs.Try.ntmps46 ?_
  refine (show Go' _ _ _ _ 24 [(0, _), (1, _), (2, _), (3, _)] [.code _] _ from ?_)
  refine Go'.seq ?_
  -- region 0 (exact.go:370)
  refine Go'.region [(0, 2), (1, 2), (2, 0)] rfl ?_
  refine O.box rfl rfl rfl rfl ?_
  intro B1 MB1
  refine ⟨trivial, ?_⟩
  have hsB1 := MB1.size
  replace hF := hF.trans (MB1.fr nowhere)
  have mm : Rd B1 H.size 0 [.slice av mv cv, .int .i64 (d : Int), .bool nl] := MB1.rd _ [] (by simp [Value.cells])
  have mm0 : cl B1 H.size 0 = some (.slice av mv cv) := mm 0 _ rfl
  have mm1 : cl B1 H.size (0 + 1) = some (.int .i64 (d : Int)) := mm 1 _ rfl
  refine O.box rfl rfl rfl rfl ?_
  intro B2 MB2
  refine ⟨trivial, ?_⟩
  have hsB2 := MB2.size
  replace hF := hF.trans (MB2.fr nowhere)
  replace mm := (MB2.fr nowhere).rd mm (fun _ _ => nw)
  replace mm0 := (MB2.fr nowhere).keep mm0 nw
  replace mm1 := (MB2.fr nowhere).keep mm1 nw
  have mpivot : Rd B2 B1.size 0 (EJ.enc x) := MB2.rd _ [] (by simp [Value.cells])
  refine O.asg rfl rfl rfl rfl rfl ?_
  refine Pl.fin [(1, _), (3, _), (4, _), (6, _), (8, _)] ⟨rfl, rfl, rfl, rfl, rfl, trivial⟩ ?_
  refine Go'.seq ?_
  have hpl := Pl.puts_length (OO ord) l
  have hdl := Pl.dn_le (OO ord) x (Pl.puts (OO ord) l)
  have hfl := firstN_len (Pl.dn (OO ord) x (Pl.puts (OO ord) l)).reverse n
  rw [List.length_reverse] at hfl
  -- region 1 (exact.go:371)
  refine Go'.region [(0, 1), (1, 0), (2, 1), (3, 0), (4, 2), (5, 0)] rfl ?_
  refine O.lds rfl rfl rfl (fun w => ⟨Go.Proofs.Try.isAgg24 w, Go.Proofs.Try.sizeOf24 w⟩) rfl rfl mm ?_
  refine O.mv rfl rfl rfl rfl rfl ?_
  refine O.lds rfl rfl rfl (fun w => ⟨Go.Proofs.Try.isAgg27 w, Go.Proofs.Try.sizeOf27 w⟩) rfl rfl mpivot ?_
  refine O.mv rfl rfl rfl rfl rfl ?_
  refine O.call rfl rfl rfl Go.Proofs.Try.call60 rfl (igdescend_spec hd (ho.fr hF) hol (hi.fr hF) hll x (n := n)) ?_
  rintro v1 H3 ⟨h1, hF3⟩
  replace hF := hF.trans hF3
  replace mm := hF3.rd mm (fun _ _ => nw)
  replace mm0 := hF3.keep mm0 nw
  replace mm1 := hF3.keep mm1 nw
  replace mpivot := hF3.rd mpivot (fun _ _ => nw)
  refine ⟨trivial, ?_⟩
  refine O.asg rfl rfl rfl rfl rfl ?_
  refine Pl.fin [(1, _), (3, _), (4, _), (6, _), (8, _), (9, _)] ⟨rfl, rfl, rfl, rfl, rfl, rfl, trivial⟩ ?_
  refine Go'.seq ?_
  -- region 2 (exact.go:372)
  refine Go'.region [(0, 1), (1, 0), (2, 1), (3, 0), (4, 2), (5, 0)] rfl ?_
  refine O.lds rfl rfl rfl (fun w => ⟨Go.Proofs.Try.isAgg24 w, Go.Proofs.Try.sizeOf24 w⟩) rfl rfl mm ?_
  refine O.mv rfl rfl rfl rfl rfl ?_
  refine O.lds rfl rfl rfl (fun w => ⟨Go.Proofs.Try.isAgg27 w, Go.Proofs.Try.sizeOf27 w⟩) rfl rfl mpivot ?_
  refine O.mv rfl rfl rfl rfl rfl ?_
  refine O.call rfl rfl rfl Go.Proofs.Try.call94 rfl (gdescend_spec (x := x) (n := n) (ho.fr hF) (by omega) (hi.fr hF) hll) ?_
  rintro v2 H4 ⟨h2, hF4⟩
  replace hF := hF.trans hF4
  replace mm := hF4.rd mm (fun _ _ => nw)
  replace mm0 := hF4.keep mm0 nw
  replace mm1 := hF4.keep mm1 nw
  replace mpivot := hF4.rd mpivot (fun _ _ => nw)
  refine ⟨trivial, ?_⟩
  refine O.asg rfl rfl rfl rfl rfl ?_
  refine Pl.fin [(8, _), (9, _), (10, _)] ⟨rfl, rfl, rfl, trivial⟩ ?_
  refine Go'.seq ?_
  -- region 3 (exact.go:373)
  refine Go'.region [(0, 0), (1, 0), (2, 2), (3, 0)] rfl ?_
  refine O.mv rfl rfl rfl rfl rfl ?_
  refine O.mv rfl rfl rfl rfl rfl ?_
  refine O.callQ rfl rfl rfl Go.Proofs.Try.call28 rfl (eqItems_spec (h1.inS.fr hF4) h2 (by omega)) trivial ?_
  refine O.asg rfl rfl rfl rfl rfl ?_
  refine Pl.fin [(8, _)] ⟨rfl, trivial⟩ ?_
  refine Go'.ret (vs := [_]) Go.Proofs.Try.func46 Go.Proofs.Try.results46 ⟨rfl, trivial⟩ ?_
  exact ⟨rfl, hF⟩

theorem fnExactGDescend {B : World} {H : Mem} {z : Int} {nl : Bool} {v u : Value} {ord : List Int} {l : List (Int × Int)} {y2 : Int × Int} {n : Int} (ho : InS EN H v ord) (hi : InS EJ H u l) :
    Fn Try.prog B 13 [.agg #[v, .int .i64 z, .bool nl], u, .agg (EJ.enc y2).toArray, .int .i64 n] H (fun r H' => r = .bool true ∧ Fr nowhere H H') := by
  obtain ⟨a, c, hu⟩ := hi.len
  subst hu
  obtain ⟨av, mv, cv, hv⟩ := InS.form ho
  subst hv
  have hF : Fr nowhere H H := Fr.refl _ _
  refine fn_of Go.Proofs.Try.func13 rfl Go.Proofs.Try.ntmps13 ?_
  refine (show Go' _ _ _ _ 34 [(0, _), (1, _), (2, _), (3, _)] [.code _] _ from ?_)
  refine Go'.seq ?_
  -- region 0 (exact.go:363)
  refine Go'.region [(0, 2), (1, 2), (2, 0)] rfl ?_
  refine O.box rfl rfl rfl rfl ?_
  intro B1 MB1
  refine ⟨trivial, ?_⟩
  have hsB1 := MB1.size
  replace hF := hF.trans (MB1.fr nowhere)
  have mm : Rd B1 H.size 0 [.slice av mv cv, .int .i64 z, .bool nl] := MB1.rd _ [] (by simp [Value.cells])
  have mm0 : cl B1 H.size 0 = some (.slice av mv cv) := mm 0 _ rfl
  have mm1 : cl B1 H.size (0 + 1) = some (.int .i64 z) := mm 1 _ rfl
  refine O.box rfl rfl rfl rfl ?_
  intro B2 MB2
  refine ⟨trivial, ?_⟩
  have hsB2 := MB2.size
  replace hF := hF.trans (MB2.fr nowhere)
  replace mm := (MB2.fr nowhere).rd mm (fun _ _ => nw)
  replace mm0 := (MB2.fr nowhere).keep mm0 nw
  replace mm1 := (MB2.fr nowhere).keep mm1 nw
  have mpivot : Rd B2 B1.size 0 (EJ.enc y2) := MB2.rd _ [] (by simp [Value.cells])
  refine O.asg rfl rfl rfl rfl rfl ?_
  refine Pl.fin [(1, _), (3, _), (4, _), (6, _), (8, _)] ⟨rfl, rfl, rfl, rfl, rfl, trivial⟩ ?_
  refine Go'.seq ?_
  refine Go'.seq ?_
  cases hoz : decide (ord.length ≤ 2147483647)
  · skip
    -- region 1 (exact.go:364)
    refine Go'.region [(0, 1), (1, 2), (2, 0), (3, 0), (4, 0), (5, 0), (6, 0), (7, 0)] rfl ?_
    refine O.lds rfl rfl rfl (fun w => ⟨Go.Proofs.Try.isAgg24 w, Go.Proofs.Try.sizeOf24 w⟩) rfl rfl mm ?_
    refine O.call rfl rfl rfl Go.Proofs.Try.call23 rfl (zzFits1_spec (ho.fr hF) hoz) ?_
    rintro _ H1 ⟨rfl, hF1⟩
    replace hF := hF.trans hF1
    replace mm := hF1.rd mm (fun _ _ => nw)
    replace mm0 := hF1.keep mm0 nw
    replace mm1 := hF1.keep mm1 nw
    replace mpivot := hF1.rd mpivot (fun _ _ => nw)
    refine ⟨trivial, ?_⟩
    refine O.not rfl rfl rfl rfl rfl ?_
    refine O.mv rfl rfl rfl rfl rfl ?_
    refine Pl.pass rfl rfl rfl rfl ?_
    refine Pl.pass rfl rfl rfl rfl ?_
    refine Pl.pass rfl rfl rfl rfl ?_
    refine O.pick rfl rfl rfl rfl rfl rfl ?_
    refine Pl.fin [(1, _), (3, _), (4, _), (6, _), (8, _), (16, _)] ⟨rfl, rfl, rfl, rfl, rfl, rfl, trivial⟩ ?_
    refine Go'.condT rfl ?_
    refine Go'.seq ?_
    -- region 2 (exact.go:365)
    refine Go'.region [(0, 0)] rfl ?_
    refine O.asg rfl rfl rfl rfl rfl ?_
    refine Pl.fin [(1, _), (3, _), (4, _), (6, _), (8, _)] ⟨rfl, rfl, rfl, rfl, rfl, trivial⟩ ?_
    refine Go'.ret (vs := [_]) Go.Proofs.Try.func13 Go.Proofs.Try.results13 ⟨rfl, trivial⟩ ?_
    exact ⟨rfl, hF⟩
  · skip
    have hoz2 := of_decide_eq_true hoz
    by_cases hb_lenl : (2147483647 : Int) < (l.length : Int)
    · skip
      -- region 1 (exact.go:364)
      refine Go'.region [(0, 1), (1, 2), (2, 0), (3, 0), (4, 0), (5, 0), (6, 0), (7, 0)] rfl ?_
      refine O.lds rfl rfl rfl (fun w => ⟨Go.Proofs.Try.isAgg24 w, Go.Proofs.Try.sizeOf24 w⟩) rfl rfl mm ?_
      refine O.call rfl rfl rfl Go.Proofs.Try.call23 rfl (zzFits1_spec (ho.fr hF) hoz) ?_
      rintro _ H1 ⟨rfl, hF1⟩
      replace hF := hF.trans hF1
      replace mm := hF1.rd mm (fun _ _ => nw)
      replace mm0 := hF1.keep mm0 nw
      replace mm1 := hF1.keep mm1 nw
      replace mpivot := hF1.rd mpivot (fun _ _ => nw)
      refine ⟨trivial, ?_⟩
      refine O.not rfl rfl rfl rfl rfl ?_
      refine O.mv rfl rfl rfl rfl rfl ?_
      refine O.mv rfl rfl rfl rfl rfl ?_
      refine O.len rfl rfl rfl rfl Go.Proofs.Try.underlying25 rfl ?_
      refine O.cmp rfl rfl rfl rfl rfl rfl (gtrT (by omega)) ?_
      refine O.pick rfl rfl rfl rfl rfl rfl ?_
      refine Pl.fin [(1, _), (3, _), (4, _), (6, _), (8, _), (16, _)] ⟨rfl, rfl, rfl, rfl, rfl, rfl, trivial⟩ ?_
      refine Go'.condT rfl ?_
      refine Go'.seq ?_
      -- region 2 (exact.go:365)
      refine Go'.region [(0, 0)] rfl ?_
      refine O.asg rfl rfl rfl rfl rfl ?_
      refine Pl.fin [(1, _), (3, _), (4, _), (6, _), (8, _)] ⟨rfl, rfl, rfl, rfl, rfl, trivial⟩ ?_
      refine Go'.ret (vs := [_]) Go.Proofs.Try.func13 Go.Proofs.Try.results13 ⟨rfl, trivial⟩ ?_
      exact ⟨rfl, hF⟩
    · skip
      -- region 1 (exact.go:364)
      refine Go'.region [(0, 1), (1, 2), (2, 0), (3, 0), (4, 0), (5, 0), (6, 0), (7, 0)] rfl ?_
      refine O.lds rfl rfl rfl (fun w => ⟨Go.Proofs.Try.isAgg24 w, Go.Proofs.Try.sizeOf24 w⟩) rfl rfl mm ?_
      refine O.call rfl rfl rfl Go.Proofs.Try.call23 rfl (zzFits1_spec (ho.fr hF) hoz) ?_
      rintro _ H1 ⟨rfl, hF1⟩
      replace hF := hF.trans hF1
      replace mm := hF1.rd mm (fun _ _ => nw)
      replace mm0 := hF1.keep mm0 nw
      replace mm1 := hF1.keep mm1 nw
      replace mpivot := hF1.rd mpivot (fun _ _ => nw)
      refine ⟨trivial, ?_⟩
      refine O.not rfl rfl rfl rfl rfl ?_
      refine O.mv rfl rfl rfl rfl rfl ?_
      refine O.mv rfl rfl rfl rfl rfl ?_
      refine O.len rfl rfl rfl rfl Go.Proofs.Try.underlying25 rfl ?_
      refine O.cmp rfl rfl rfl rfl rfl rfl (gtrF (by omega)) ?_
      refine O.pick rfl rfl rfl rfl rfl rfl ?_
      refine Pl.fin [(1, _), (3, _), (4, _), (6, _), (8, _), (16, _)] ⟨rfl, rfl, rfl, rfl, rfl, rfl, trivial⟩ ?_
      refine Go'.condF rfl ?_
      refine Go'.skip ?_
      refine Go'.seq ?_
      cases hfz : fitsb z
      · skip
        -- region 3 (exact.go:367)
        refine Go'.region [(0, 2), (1, 2), (2, 0), (3, 2), (4, 0), (5, 0), (6, 1), (7, 2), (8, 0), (9, 0), (10, 1), (11, 0), (12, 1), (13, 0), (14, 2), (15, 0), (16, 0), (17, 0)] rfl ?_
        refine O.call rfl rfl rfl Go.Proofs.Try.call30 rfl exMake_spec ?_
        rintro _ H2 ⟨rfl, hF2⟩
        replace hF := hF.trans hF2
        replace mm := hF2.rd mm (fun _ _ => nw)
        replace mm0 := hF2.keep mm0 nw
        replace mm1 := hF2.keep mm1 nw
        replace mpivot := hF2.rd mpivot (fun _ _ => nw)
        refine ⟨trivial, ?_⟩
        refine O.call rfl rfl rfl Go.Proofs.Try.call32 rfl exItems_spec ?_
        rintro ev H3 ⟨hev, hF3⟩
        replace hF := hF.trans hF3
        replace mm := hF3.rd mm (fun _ _ => nw)
        replace mm0 := hF3.keep mm0 nw
        replace mm1 := hF3.keep mm1 nw
        replace mpivot := hF3.rd mpivot (fun _ _ => nw)
        refine ⟨trivial, ?_⟩
        refine O.bld (cs := [.int .i64 4, .int .i64 0]) rfl rfl rfl rfl (st27) rfl (by kernel_rfl) ?_
        refine O.call rfl rfl rfl Go.Proofs.Try.call46 rfl (lawGDescend_spec (d := 2) (by decide) (InS.nil EN _) (by decide) hev (by decide) (x := (4, 0)) (n := 2)) ?_
        rintro _ H4 ⟨rfl, hF4⟩
        replace hF := hF.trans hF4
        replace mm := hF4.rd mm (fun _ _ => nw)
        replace mm0 := hF4.keep mm0 nw
        replace mm1 := hF4.keep mm1 nw
        replace mpivot := hF4.rd mpivot (fun _ _ => nw)
        refine ⟨trivial, ?_⟩
        refine O.mv rfl rfl rfl rfl rfl ?_
        refine O.fa0 (off := 1) rfl rfl rfl rfl ⟨_, _, _, Go.Proofs.Try.underlying24, rfl, rfl, Go.Proofs.Try.sizeOf3⟩ rfl ?_
        refine O.ld rfl rfl rfl (fun w => ⟨Go.Proofs.Try.isAgg3 w, Go.Proofs.Try.sizeOf3 w⟩) rfl mm1 ?_
        refine O.callQ rfl rfl rfl Go.Proofs.Try.call33 rfl (fits_spec' hfz) trivial ?_
        refine O.not rfl rfl rfl rfl rfl ?_
        refine O.mv rfl rfl rfl rfl rfl ?_
        refine Pl.pass rfl rfl rfl rfl ?_
        refine Pl.pass rfl rfl rfl rfl ?_
        refine Pl.pass rfl rfl rfl rfl ?_
        refine Pl.pass rfl rfl rfl rfl ?_
        refine Pl.pass2 rfl rfl rfl rfl trivial ?_
        refine O.pick rfl rfl rfl rfl rfl rfl ?_
        refine O.pick rfl rfl rfl rfl rfl rfl ?_
        refine O.asg rfl rfl rfl rfl rfl ?_
        refine Pl.fin [(8, _)] ⟨rfl, trivial⟩ ?_
        refine Go'.ret (vs := [_]) Go.Proofs.Try.func13 Go.Proofs.Try.results13 ⟨rfl, trivial⟩ ?_
        exact ⟨rfl, hF⟩
      · skip
        obtain ⟨d, rfl, hd⟩ := fitsb_nat hfz
        -- region 3 (exact.go:367)
        refine Go'.region [(0, 2), (1, 2), (2, 0), (3, 2), (4, 0), (5, 0), (6, 1), (7, 2), (8, 0), (9, 0), (10, 1), (11, 0), (12, 1), (13, 0), (14, 2), (15, 0), (16, 0), (17, 0)] rfl ?_
        refine O.call rfl rfl rfl Go.Proofs.Try.call30 rfl exMake_spec ?_
        rintro _ H2 ⟨rfl, hF2⟩
        replace hF := hF.trans hF2
        replace mm := hF2.rd mm (fun _ _ => nw)
        replace mm0 := hF2.keep mm0 nw
        replace mm1 := hF2.keep mm1 nw
        replace mpivot := hF2.rd mpivot (fun _ _ => nw)
        refine ⟨trivial, ?_⟩
        refine O.call rfl rfl rfl Go.Proofs.Try.call32 rfl exItems_spec ?_
        rintro ev H3 ⟨hev, hF3⟩
        replace hF := hF.trans hF3
        replace mm := hF3.rd mm (fun _ _ => nw)
        replace mm0 := hF3.keep mm0 nw
        replace mm1 := hF3.keep mm1 nw
        replace mpivot := hF3.rd mpivot (fun _ _ => nw)
        refine ⟨trivial, ?_⟩
        refine O.bld (cs := [.int .i64 4, .int .i64 0]) rfl rfl rfl rfl (st27) rfl (by kernel_rfl) ?_
        refine O.call rfl rfl rfl Go.Proofs.Try.call46 rfl (lawGDescend_spec (d := 2) (by decide) (InS.nil EN _) (by decide) hev (by decide) (x := (4, 0)) (n := 2)) ?_
        rintro _ H4 ⟨rfl, hF4⟩
        replace hF := hF.trans hF4
        replace mm := hF4.rd mm (fun _ _ => nw)
        replace mm0 := hF4.keep mm0 nw
        replace mm1 := hF4.keep mm1 nw
        replace mpivot := hF4.rd mpivot (fun _ _ => nw)
        refine ⟨trivial, ?_⟩
        refine O.mv rfl rfl rfl rfl rfl ?_
        refine O.fa0 (off := 1) rfl rfl rfl rfl ⟨_, _, _, Go.Proofs.Try.underlying24, rfl, rfl, Go.Proofs.Try.sizeOf3⟩ rfl ?_
        refine O.ld rfl rfl rfl (fun w => ⟨Go.Proofs.Try.isAgg3 w, Go.Proofs.Try.sizeOf3 w⟩) rfl mm1 ?_
        refine O.callQ rfl rfl rfl Go.Proofs.Try.call33 rfl (fits_spec' hfz) trivial ?_
        refine O.not rfl rfl rfl rfl rfl ?_
        refine O.mv rfl rfl rfl rfl rfl ?_
        refine O.lds rfl rfl rfl (fun w => ⟨Go.Proofs.Try.isAgg24 w, Go.Proofs.Try.sizeOf24 w⟩) rfl rfl mm ?_
        refine O.mv rfl rfl rfl rfl rfl ?_
        refine O.lds rfl rfl rfl (fun w => ⟨Go.Proofs.Try.isAgg27 w, Go.Proofs.Try.sizeOf27 w⟩) rfl rfl mpivot ?_
        refine O.mv rfl rfl rfl rfl rfl ?_
        refine O.call rfl rfl rfl Go.Proofs.Try.call46 rfl (lawGDescend_spec hd (ho.fr hF) (by omega) (hi.fr hF) (by omega) (x := y2)) ?_
        rintro _ H5 ⟨rfl, hF5⟩
        replace hF := hF.trans hF5
        replace mm := hF5.rd mm (fun _ _ => nw)
        replace mm0 := hF5.keep mm0 nw
        replace mm1 := hF5.keep mm1 nw
        replace mpivot := hF5.rd mpivot (fun _ _ => nw)
        refine ⟨trivial, ?_⟩
        refine O.pick rfl rfl rfl rfl rfl rfl ?_
        refine O.pick rfl rfl rfl rfl rfl rfl ?_
        refine O.asg rfl rfl rfl rfl rfl ?_
        refine Pl.fin [(8, _)] ⟨rfl, trivial⟩ ?_
        refine Go'.ret (vs := [_]) Go.Proofs.Try.func13 Go.Proofs.Try.results13 ⟨rfl, trivial⟩ ?_
        exact ⟨rfl, hF⟩

end Go.Bt.FG
namespace Go.Bt.FG
open Go Go.Proofs
set_option maxRecDepth 20000
set_option maxHeartbeats 4000000
set_option linter.unusedVariables false
set_option linter.unusedSectionVars false

theorem up_first {O : Pl.Swo (Int × Int)} {x : Int × Int} {L : List (Int × Int)} (hs : Pl.Srt O L) (h : L[0]? = some x) : Pl.up O x L = L := by
  have hi : O.lt x x = false := by
    cases h : O.lt x x with
    | false => rfl
    | true => have h2 := O.asy h; rw [h] at h2; cases h2
  obtain ⟨e1, _⟩ := Pl.search_found O hs h hi hi
  unfold Pl.up; rw [e1]; rfl
theorem dn_last {O : Pl.Swo (Int × Int)} {x : Int × Int} {L : List (Int × Int)} (hs : Pl.Srt O L) (h : L[L.length - 1]? = some x) : Pl.dn O x L = L := by
  have hi : O.lt x x = false := by
    cases h : O.lt x x with
    | false => rfl
    | true => have h2 := O.asy h; rw [h] at h2; cases h2
  obtain ⟨e1, e2⟩ := Pl.search_found O hs h hi hi
  have hl := (List.getElem?_eq_some_iff.1 h).1
  unfold Pl.dn; rw [e1, e2, show L.length - 1 + true.toNat = L.length by simp; omega, List.take_length]
theorem firstN_0 {α : Type} (m : List α) : firstN m 0 = m := by unfold firstN; simp

theorem igscan_spec {B : World} {H : Mem} {d : Nat} {nl : Bool} {v u : Value} {ord : List Int} {l : List (Int × Int)} (hd : d = 0 ∨ 2 ≤ d ∧ d ≤ 128) (ho : InS EN H v ord) (hol : ord.length ≤ 4294967296) (hi : InS EJ H u l) (hll : l.length ≤ 4294967296) {n : Int} :
    Fn Try.prog B 57 [.agg #[v, .int .i64 (d : Int), .bool nl], u, .int .i64 n] H (fun r H' => OutS EJ H' r (firstN (Pl.puts (OO ord) l) n) ∧ Fr nowhere H H') := by
  obtain ⟨a, c, hu⟩ := hi.len
  subst hu
  obtain ⟨av, mv, cv, hv⟩ := InS.form ho
  subst hv
  have hF : Fr nowhere H H := Fr.refl _ _
  have hP := PD_ok hd
  refine fn_of Go.Proofs.Try.func57 rfl Go.Proofs.Try.ntmps57 ?_
  refine (show Go' _ _ _ _ 15 [(0, _), (1, _), (2, _)] [.code _] _ from ?_)
  refine Go'.seq ?_
  -- region 0 (treeg.go:199)
  refine Go'.region [(0, 2), (1, 0)] rfl ?_
  refine O.box rfl rfl rfl rfl ?_
  intro B1 MB1
  refine ⟨trivial, ?_⟩
  have hsB1 := MB1.size
  replace hF := hF.trans (MB1.fr nowhere)
  have mm : Rd B1 H.size 0 [.slice av mv cv, .int .i64 (d : Int), .bool nl] := MB1.rd _ [] (by simp [Value.cells])
  have mm0 : cl B1 H.size 0 = some (.slice av mv cv) := mm 0 _ rfl
  have mm1 : cl B1 H.size (0 + 1) = some (.int .i64 (d : Int)) := mm 1 _ rfl
  refine O.asg rfl rfl rfl rfl rfl ?_
  refine Pl.fin [(1, _), (2, _), (3, _), (6, _)] ⟨rfl, rfl, rfl, rfl, trivial⟩ ?_
  refine Go'.seq ?_
  -- region 1 (treeg.go:200)
  refine Go'.region [(0, 2)] rfl ?_
  refine O.alloc rfl rfl rfl Go.Proofs.Try.zeroValue25 ?_
  intro H2 M2
  refine ⟨trivial, ?_⟩
  have hs2 := M2.size
  replace hF := hF.trans (M2.fr nowhere)
  replace mm := (M2.fr nowhere).rd mm (fun _ _ => nw)
  replace mm0 := (M2.fr nowhere).keep mm0 nw
  replace mm1 := (M2.fr nowhere).keep mm1 nw
  have hD : cl H2 B1.size 0 = some (.slice none 0 0) := (M2.cl 0).trans rfl
  have hw : Wr H2 B1.size 0 1 := M2.wr 1 (by decide)
  refine Pl.fin [(1, _), (2, _), (3, _), (6, _), (7, _)] ⟨rfl, rfl, rfl, rfl, rfl, trivial⟩ ?_
  refine Go'.seq ?_
  -- region 2 (treeg.go:201)
  refine Go'.region [(0, 1), (1, 0), (2, 2), (3, 0), (4, 2), (5, 2)] rfl ?_
  refine O.lds rfl rfl rfl (fun w => ⟨Go.Proofs.Try.isAgg24 w, Go.Proofs.Try.sizeOf24 w⟩) rfl rfl mm ?_
  refine O.mv rfl rfl rfl rfl rfl ?_
  refine O.call rfl rfl rfl Go.Proofs.Try.call68 rfl (grow_spec hd (ho.fr hF) hol (hi.fr hF) hll) ?_
  rintro _ H3 ⟨I, hIo, hIw, hIb, tr, S, rfl, hM, hF3, hS⟩
  have hs3 := hF3.size
  replace hF := hF.trans hF3
  replace mm := hF3.rd mm (fun _ _ => nw)
  replace mm0 := hF3.keep mm0 nw
  replace mm1 := hF3.keep mm1 nw
  replace hD := hF3.keep hD nw
  replace hw := hF3.wr hw
  have hSb : ∀ b, S b ∨ (b < cx.base ∧ cx.own b) → H2.size ≤ b := fun b hb => hb.elim (hS b) (fun h => hIw b h.2)
  have hOO : OO ord = OI := by rw [← hIo]; rfl
  have hpl := Pl.puts_length OI l
  have hSlt := hM.lt
  have hbs := hM.tc.hb
  unfold ptr
  refine ⟨trivial, ?_⟩
  refine O.mv rfl rfl rfl rfl rfl ?_
  refine O.call rfl rfl rfl Go.Proofs.Try.call107 rfl (taker_spec (n := n) hD hw) ?_
  rintro _ H4 ⟨b2, b3, rfl, hT, hF4⟩
  have hs4 := hF4.size
  replace hF := hF.trans hF4
  replace hM := hM.fr hF4 (fun _ _ _ => nw)
  refine ⟨trivial, ?_⟩
  refine O.call rfl rfl rfl Go.Proofs.Try.call106 rfl (Scan_spec (cbTk B b2 b3 B1.size n) Try.call152 hP hM hT (fun b hb hz => hz.elim (fun h => by have := hSb b (.inl hb); omega) (fun h => by have := hSlt b hb; omega)) (fun b hz hb => hz.elim (fun h => by have := hSb b (.inr hb); omega) (fun h => by omega)) (by omega)) ?_
  rintro _ H5 ⟨Z5, hT5, hF5, hZ5⟩
  obtain ⟨ov, hv, hov⟩ := TkT.out hT5
  rw [takes_first] at hov
  replace hF := hF.trans' hF5 (fun _ _ _ h => h) (fun b o hb hz => hz.elim (fun h => by omega) (fun h => by omega))
  refine ⟨trivial, ?_⟩
  refine Pl.fin [(6, _), (7, _)] ⟨rfl, rfl, trivial⟩ ?_
  refine Go'.seq ?_
  -- region 3 (treeg.go:202)
  refine Go'.region [(0, 1), (1, 0)] rfl ?_
  refine O.ld rfl rfl rfl (fun w => ⟨Go.Proofs.Try.isAgg25 w, Go.Proofs.Try.sizeOf25 w⟩) rfl hv ?_
  refine O.asg rfl rfl rfl rfl rfl ?_
  refine Pl.fin [(6, _)] ⟨rfl, trivial⟩ ?_
  refine Go'.ret (vs := [_]) Go.Proofs.Try.func57 Go.Proofs.Try.results57 ⟨rfl, trivial⟩ ?_
  rw [hOO]; exact ⟨hov, hF⟩

theorem fnGScans {B : World} {H : Mem} {z : Int} {nl : Bool} {v u : Value} {ord : List Int} {l : List (Int × Int)} (ho : InS EN H v ord) (hi : InS EJ H u l) :
    Fn Try.prog B 17 [.agg #[v, .int .i64 z, .bool nl], u] H (fun r H' => r = .bool true ∧ Fr nowhere H H') := by
  obtain ⟨a, c, hu⟩ := hi.len
  subst hu
  obtain ⟨av, mv, cv, hv⟩ := InS.form ho
  subst hv
  have hF : Fr nowhere H H := Fr.refl _ _
  refine fn_of Go.Proofs.Try.func17 rfl Go.Proofs.Try.ntmps17 ?_
  refine (show Go' _ _ _ _ 65 [(0, _), (1, _)] [.code _] _ from ?_)
  refine Go'.seq ?_
  -- region 0 (trees.go:202)
  refine Go'.region [(0, 2), (1, 0)] rfl ?_
  refine O.box rfl rfl rfl rfl ?_
  intro B1 MB1
  refine ⟨trivial, ?_⟩
  have hsB1 := MB1.size
  replace hF := hF.trans (MB1.fr nowhere)
  have mm : Rd B1 H.size 0 [.slice av mv cv, .int .i64 z, .bool nl] := MB1.rd _ [] (by simp [Value.cells])
  have mm0 : cl B1 H.size 0 = some (.slice av mv cv) := mm 0 _ rfl
  have mm1 : cl B1 H.size (0 + 1) = some (.int .i64 z) := mm 1 _ rfl
  refine O.asg rfl rfl rfl rfl rfl ?_
  refine Pl.fin [(1, _), (2, _), (4, _)] ⟨rfl, rfl, rfl, trivial⟩ ?_
  refine Go'.seq ?_
  refine Go'.seq ?_
  cases hoz : decide (ord.length ≤ 2147483647)
  · skip
    -- region 1 (trees.go:203)
    refine Go'.region [(0, 1), (1, 2), (2, 0), (3, 0), (4, 0), (5, 0), (6, 0), (7, 0)] rfl ?_
    refine O.lds rfl rfl rfl (fun w => ⟨Go.Proofs.Try.isAgg24 w, Go.Proofs.Try.sizeOf24 w⟩) rfl rfl mm ?_
    refine O.call rfl rfl rfl Go.Proofs.Try.call23 rfl (zzFits1_spec (ho.fr hF) hoz) ?_
    rintro _ Hz ⟨rfl, hFz⟩
    replace hF := hF.trans hFz
    replace mm := hFz.rd mm (fun _ _ => nw)
    replace mm0 := hFz.keep mm0 nw
    replace mm1 := hFz.keep mm1 nw
    refine ⟨trivial, ?_⟩
    refine O.not rfl rfl rfl rfl rfl ?_
    refine O.mv rfl rfl rfl rfl rfl ?_
    refine Pl.pass rfl rfl rfl rfl ?_
    refine Pl.pass rfl rfl rfl rfl ?_
    refine Pl.pass rfl rfl rfl rfl ?_
    refine O.pick rfl rfl rfl rfl rfl rfl ?_
    refine Pl.fin [(1, _), (2, _), (4, _), (13, _)] ⟨rfl, rfl, rfl, rfl, trivial⟩ ?_
    refine Go'.condT rfl ?_
    refine Go'.seq ?_
    -- region 2 (trees.go:204)
    refine Go'.region [(0, 0)] rfl ?_
    refine O.asg rfl rfl rfl rfl rfl ?_
    refine Pl.fin [(1, _), (2, _), (4, _)] ⟨rfl, rfl, rfl, trivial⟩ ?_
    refine Go'.ret (vs := [_]) Go.Proofs.Try.func17 Go.Proofs.Try.results17 ⟨rfl, trivial⟩ ?_
    exact ⟨rfl, hF⟩
  · skip
    have hoz2 := of_decide_eq_true hoz
    by_cases hb_lenl : (2147483647 : Int) < (l.length : Int)
    · skip
      -- region 1 (trees.go:203)
      refine Go'.region [(0, 1), (1, 2), (2, 0), (3, 0), (4, 0), (5, 0), (6, 0), (7, 0)] rfl ?_
      refine O.lds rfl rfl rfl (fun w => ⟨Go.Proofs.Try.isAgg24 w, Go.Proofs.Try.sizeOf24 w⟩) rfl rfl mm ?_
      refine O.call rfl rfl rfl Go.Proofs.Try.call23 rfl (zzFits1_spec (ho.fr hF) hoz) ?_
      rintro _ Hz ⟨rfl, hFz⟩
      replace hF := hF.trans hFz
      replace mm := hFz.rd mm (fun _ _ => nw)
      replace mm0 := hFz.keep mm0 nw
      replace mm1 := hFz.keep mm1 nw
      refine ⟨trivial, ?_⟩
      refine O.not rfl rfl rfl rfl rfl ?_
      refine O.mv rfl rfl rfl rfl rfl ?_
      refine O.mv rfl rfl rfl rfl rfl ?_
      refine O.len rfl rfl rfl rfl Go.Proofs.Try.underlying25 rfl ?_
      refine O.cmp rfl rfl rfl rfl rfl rfl (gtrT (by omega)) ?_
      refine O.pick rfl rfl rfl rfl rfl rfl ?_
      refine Pl.fin [(1, _), (2, _), (4, _), (13, _)] ⟨rfl, rfl, rfl, rfl, trivial⟩ ?_
      refine Go'.condT rfl ?_
      refine Go'.seq ?_
      -- region 2 (trees.go:204)
      refine Go'.region [(0, 0)] rfl ?_
      refine O.asg rfl rfl rfl rfl rfl ?_
      refine Pl.fin [(1, _), (2, _), (4, _)] ⟨rfl, rfl, rfl, trivial⟩ ?_
      refine Go'.ret (vs := [_]) Go.Proofs.Try.func17 Go.Proofs.Try.results17 ⟨rfl, trivial⟩ ?_
      exact ⟨rfl, hF⟩
    · skip
      -- region 1 (trees.go:203)
      refine Go'.region [(0, 1), (1, 2), (2, 0), (3, 0), (4, 0), (5, 0), (6, 0), (7, 0)] rfl ?_
      refine O.lds rfl rfl rfl (fun w => ⟨Go.Proofs.Try.isAgg24 w, Go.Proofs.Try.sizeOf24 w⟩) rfl rfl mm ?_
      refine O.call rfl rfl rfl Go.Proofs.Try.call23 rfl (zzFits1_spec (ho.fr hF) hoz) ?_
      rintro _ Hz ⟨rfl, hFz⟩
      replace hF := hF.trans hFz
      replace mm := hFz.rd mm (fun _ _ => nw)
      replace mm0 := hFz.keep mm0 nw
      replace mm1 := hFz.keep mm1 nw
      refine ⟨trivial, ?_⟩
      refine O.not rfl rfl rfl rfl rfl ?_
      refine O.mv rfl rfl rfl rfl rfl ?_
      refine O.mv rfl rfl rfl rfl rfl ?_
      refine O.len rfl rfl rfl rfl Go.Proofs.Try.underlying25 rfl ?_
      refine O.cmp rfl rfl rfl rfl rfl rfl (gtrF (by omega)) ?_
      refine O.pick rfl rfl rfl rfl rfl rfl ?_
      refine Pl.fin [(1, _), (2, _), (4, _), (13, _)] ⟨rfl, rfl, rfl, rfl, trivial⟩ ?_
      refine Go'.condF rfl ?_
      refine Go'.skip ?_
      refine Go'.seq ?_
      refine Go'.seq ?_
      have hpl := Pl.puts_length (OO ord) l
      have hsrt := Pl.puts_srt (OO ord) l
      cases hfz : fitsb z
      · skip
        -- region 3 (trees.go:206)
        refine Go'.region [(0, 1), (1, 2), (2, 0)] rfl ?_
        refine O.lds rfl rfl rfl (fun w => ⟨Go.Proofs.Try.isAgg24 w, Go.Proofs.Try.sizeOf24 w⟩) rfl rfl mm ?_
        refine O.call rfl rfl rfl Go.Proofs.Try.call24 rfl (lfits_spec ⟨_, _, _, rfl⟩ hfz) ?_
        rintro _ H6 ⟨rfl, hF6⟩
        replace hF := hF.trans hF6
        replace mm := hF6.rd mm (fun _ _ => nw)
        replace mm0 := hF6.keep mm0 nw
        replace mm1 := hF6.keep mm1 nw
        refine ⟨trivial, ?_⟩
        refine O.not rfl rfl rfl rfl rfl ?_
        refine Pl.fin [(1, _), (2, _), (4, _), (16, _)] ⟨rfl, rfl, rfl, rfl, trivial⟩ ?_
        refine Go'.condT rfl ?_
        refine Go'.seq ?_
        -- region 4 (trees.go:207)
        refine Go'.region [(0, 2), (1, 0)] rfl ?_
        refine O.call rfl rfl rfl Go.Proofs.Try.call25 rfl alive_spec ?_
        rintro _ Hv ⟨rfl, hFv⟩
        replace hF := hF.trans hFv
        replace mm := hFv.rd mm (fun _ _ => nw)
        replace mm0 := hFv.keep mm0 nw
        replace mm1 := hFv.keep mm1 nw
        refine ⟨trivial, ?_⟩
        refine O.asg rfl rfl rfl rfl rfl ?_
        refine Pl.fin [(1, _), (2, _), (4, _)] ⟨rfl, rfl, rfl, trivial⟩ ?_
        refine Go'.ret (vs := [_]) Go.Proofs.Try.func17 Go.Proofs.Try.results17 ⟨rfl, trivial⟩ ?_
        exact ⟨rfl, hF⟩
      · skip
        obtain ⟨d, rfl, hd⟩ := fitsb_nat hfz
        -- region 3 (trees.go:206)
        refine Go'.region [(0, 1), (1, 2), (2, 0)] rfl ?_
        refine O.lds rfl rfl rfl (fun w => ⟨Go.Proofs.Try.isAgg24 w, Go.Proofs.Try.sizeOf24 w⟩) rfl rfl mm ?_
        refine O.call rfl rfl rfl Go.Proofs.Try.call24 rfl (lfits_spec ⟨_, _, _, rfl⟩ hfz) ?_
        rintro _ H6 ⟨rfl, hF6⟩
        replace hF := hF.trans hF6
        replace mm := hF6.rd mm (fun _ _ => nw)
        replace mm0 := hF6.keep mm0 nw
        replace mm1 := hF6.keep mm1 nw
        refine ⟨trivial, ?_⟩
        refine O.not rfl rfl rfl rfl rfl ?_
        refine Pl.fin [(1, _), (2, _), (4, _), (16, _)] ⟨rfl, rfl, rfl, rfl, trivial⟩ ?_
        refine Go'.condF rfl ?_
        refine Go'.skip ?_
        refine Go'.seq ?_
        -- region 5 (trees.go:209)
        refine Go'.region [(0, 1), (1, 0), (2, 2), (3, 0)] rfl ?_
        refine O.lds rfl rfl rfl (fun w => ⟨Go.Proofs.Try.isAgg24 w, Go.Proofs.Try.sizeOf24 w⟩) rfl rfl mm ?_
        refine O.mv rfl rfl rfl rfl rfl ?_
        refine O.call rfl rfl rfl Go.Proofs.Try.call43 rfl (igitems_spec hd (ho.fr hF) (by omega) (hi.fr hF) (by omega)) ?_
        rintro g8 H8 ⟨hg8, hF8⟩
        replace hF := hF.trans hF8
        replace mm := hF8.rd mm (fun _ _ => nw)
        replace mm0 := hF8.keep mm0 nw
        replace mm1 := hF8.keep mm1 nw
        have hI := hg8.inS
        obtain ⟨ga, gc, hge⟩ := hI.len
        subst hge
        generalize hL : Pl.puts (OO ord) l = L at *
        refine ⟨trivial, ?_⟩
        refine O.asg rfl rfl rfl rfl rfl ?_
        refine Pl.fin [(1, _), (2, _), (4, _), (5, _)] ⟨rfl, rfl, rfl, rfl, trivial⟩ ?_
        refine Go'.seq ?_
        refine Go'.seq ?_
        have hrl : L.reverse.length = L.length := List.length_reverse
        -- region 6 (trees.go:210)
        refine Go'.region [(0, 1), (1, 0), (2, 2), (3, 0), (4, 2), (5, 0), (6, 0), (7, 1), (8, 0), (9, 2), (10, 0), (11, 2), (12, 2), (13, 0), (14, 0)] rfl ?_
        refine O.lds rfl rfl rfl (fun w => ⟨Go.Proofs.Try.isAgg24 w, Go.Proofs.Try.sizeOf24 w⟩) rfl rfl mm ?_
        refine O.mv rfl rfl rfl rfl rfl ?_
        refine O.call rfl rfl rfl Go.Proofs.Try.call57 rfl (igscan_spec hd (ho.fr hF) (by omega) (hi.fr hF) (by omega) (n := 0)) ?_
        rintro v9 H9 ⟨h9, hF9⟩
        replace hF := hF.trans hF9
        replace mm := hF9.rd mm (fun _ _ => nw)
        replace mm0 := hF9.keep mm0 nw
        replace mm1 := hF9.keep mm1 nw
        replace hI := hI.fr hF9
        rw [firstN_0, hL] at h9
        refine ⟨trivial, ?_⟩
        refine O.mv rfl rfl rfl rfl rfl ?_
        refine O.callQ rfl rfl rfl Go.Proofs.Try.call28 rfl (eqItems_spec h9.inS hI (by omega)) trivial ?_
        refine O.not rfl rfl rfl rfl rfl ?_
        refine O.mv rfl rfl rfl rfl rfl ?_
        refine O.lds rfl rfl rfl (fun w => ⟨Go.Proofs.Try.isAgg24 w, Go.Proofs.Try.sizeOf24 w⟩) rfl rfl mm ?_
        refine O.mv rfl rfl rfl rfl rfl ?_
        refine O.call rfl rfl rfl Go.Proofs.Try.call58 rfl (igreverse_spec hd (ho.fr hF) (by omega) (hi.fr hF) (by omega) (n := 0)) ?_
        rintro v10 H10 ⟨h10, hF10⟩
        replace hF := hF.trans hF10
        replace mm := hF10.rd mm (fun _ _ => nw)
        replace mm0 := hF10.keep mm0 nw
        replace mm1 := hF10.keep mm1 nw
        replace hI := hI.fr hF10
        rw [firstN_0, hL] at h10
        refine ⟨trivial, ?_⟩
        refine O.mv rfl rfl rfl rfl rfl ?_
        refine O.call rfl rfl rfl Go.Proofs.Try.call44 rfl (SI.turnedA_spec hI (by omega)) ?_
        rintro v11 H11 ⟨h11, hF11⟩
        replace hF := hF.trans hF11
        replace mm := hF11.rd mm (fun _ _ => nw)
        replace mm0 := hF11.keep mm0 nw
        replace mm1 := hF11.keep mm1 nw
        replace hI := hI.fr hF11
        refine ⟨trivial, ?_⟩
        refine O.callQ rfl rfl rfl Go.Proofs.Try.call28 rfl (eqItems_spec (h10.inS.fr hF11) h11.inS (by omega)) trivial ?_
        refine O.not rfl rfl rfl rfl rfl ?_
        refine O.pick rfl rfl rfl rfl rfl rfl ?_
        refine Pl.fin [(1, _), (2, _), (4, _), (5, _), (35, _)] ⟨rfl, rfl, rfl, rfl, rfl, trivial⟩ ?_
        refine Go'.condF rfl ?_
        refine Go'.skip ?_
        refine Go'.seq ?_
        refine Go'.seq ?_
        by_cases h0 : L.length = 0
        · skip
          -- region 8 (trees.go:213)
          refine Go'.region [(0, 0), (1, 0), (2, 0)] rfl ?_
          refine O.mv rfl rfl rfl rfl rfl ?_
          refine O.len rfl rfl rfl rfl Go.Proofs.Try.underlying25 rfl ?_
          refine O.cmp rfl rfl rfl rfl rfl rfl (eqlT (by omega)) ?_
          refine Pl.fin [(1, _), (2, _), (4, _), (5, _), (38, _)] ⟨rfl, rfl, rfl, rfl, rfl, trivial⟩ ?_
          refine Go'.condT rfl ?_
          refine Go'.seq ?_
          -- region 9 (trees.go:214)
          refine Go'.region [(0, 2), (1, 0)] rfl ?_
          refine O.call rfl rfl rfl Go.Proofs.Try.call25 rfl alive_spec ?_
          rintro _ Hv ⟨rfl, hFv⟩
          replace hF := hF.trans hFv
          replace mm := hFv.rd mm (fun _ _ => nw)
          replace mm0 := hFv.keep mm0 nw
          replace mm1 := hFv.keep mm1 nw
          refine ⟨trivial, ?_⟩
          refine O.asg rfl rfl rfl rfl rfl ?_
          refine Pl.fin [(1, _), (2, _), (4, _), (5, _)] ⟨rfl, rfl, rfl, rfl, trivial⟩ ?_
          refine Go'.ret (vs := [_]) Go.Proofs.Try.func17 Go.Proofs.Try.results17 ⟨rfl, trivial⟩ ?_
          exact ⟨rfl, hF⟩
        · skip
          -- region 8 (trees.go:213)
          refine Go'.region [(0, 0), (1, 0), (2, 0)] rfl ?_
          refine O.mv rfl rfl rfl rfl rfl ?_
          refine O.len rfl rfl rfl rfl Go.Proofs.Try.underlying25 rfl ?_
          refine O.cmp rfl rfl rfl rfl rfl rfl (eqlF (by omega)) ?_
          refine Pl.fin [(1, _), (2, _), (4, _), (5, _), (38, _)] ⟨rfl, rfl, rfl, rfl, rfl, trivial⟩ ?_
          refine Go'.condF rfl ?_
          refine Go'.skip ?_
          refine Go'.seq ?_
          obtain ⟨x0, hx0⟩ : ∃ x, L[0]? = some x := ⟨L[0]'(by omega), List.getElem?_eq_getElem (by omega)⟩
          obtain ⟨xn, hxn⟩ : ∃ x, L[L.length - 1]? = some x := ⟨L[L.length - 1]'(by omega), List.getElem?_eq_getElem (by omega)⟩
          obtain ⟨b, o, c', e, hr0⟩ := hI.at hx0
          cases e
          obtain ⟨b', o', c', e, hrn⟩ := hI.at hxn
          cases e
          have hu0 := up_first hsrt hx0
          have hdn := dn_last hsrt hxn
          -- region 10 (trees.go:216)
          refine Go'.draw (fun _ => True) [(0, 1), (1, 0), (2, 0), (3, 0), (4, 1), (6, 0), (5, 2), (7, 2), (8, 0), (9, 1), (10, 0), (11, 0), (12, 0), (13, 0), (14, 0), (15, 0), (16, 1), (18, 0), (17, 2), (19, 2), (20, 2), (21, 0), (22, 0), (23, 2), (24, 0), (25, 0)] (by kernel_rfl) (by kernel_rfl) (trivial) ?_
          refine O.lds rfl rfl rfl (fun w => ⟨Go.Proofs.Try.isAgg24 w, Go.Proofs.Try.sizeOf24 w⟩) rfl rfl mm ?_
          refine O.mv rfl rfl rfl rfl rfl ?_
          refine O.mv rfl rfl rfl rfl rfl ?_
          refine O.ix (j := 0) rfl rfl rfl rfl Go.Proofs.Try.underlying25 Go.Proofs.Try.sizeOf27 rfl rfl rfl (by omega) ?_
          refine O.lds rfl rfl rfl (fun w => ⟨Go.Proofs.Try.isAgg27 w, Go.Proofs.Try.sizeOf27 w⟩) rfl rfl hr0 ?_
          refine O.mv rfl rfl rfl rfl rfl ?_
          refine O.call rfl rfl rfl Go.Proofs.Try.call59 rfl (igascend_spec hd (ho.fr hF) (by omega) (hi.fr hF) (by omega) x0 (n := 0)) ?_
          rintro v12 H12 ⟨h12, hF12⟩
          replace hF := hF.trans hF12
          replace mm := hF12.rd mm (fun _ _ => nw)
          replace mm0 := hF12.keep mm0 nw
          replace mm1 := hF12.keep mm1 nw
          replace hI := hI.fr hF12
          replace hr0 := hF12.rd hr0 (fun _ _ => nw)
          replace hrn := hF12.rd hrn (fun _ _ => nw)
          rw [firstN_0, hL, hu0] at h12
          refine ⟨trivial, ?_⟩
          refine O.callQ rfl rfl rfl Go.Proofs.Try.call28 rfl (eqItems_spec h12.inS hI (by omega)) trivial ?_
          refine O.mv rfl rfl rfl rfl rfl ?_
          refine O.lds rfl rfl rfl (fun w => ⟨Go.Proofs.Try.isAgg24 w, Go.Proofs.Try.sizeOf24 w⟩) rfl rfl mm ?_
          refine O.mv rfl rfl rfl rfl rfl ?_
          refine O.mv rfl rfl rfl rfl rfl ?_
          refine O.mv rfl rfl rfl rfl rfl ?_
          refine O.len rfl rfl rfl rfl Go.Proofs.Try.underlying25 rfl ?_
          refine O.sub (((L.length - 1 : Nat) : Int)) rfl rfl rfl rfl rfl rfl (by omega) (by omega) ?_
          refine O.ix (j := L.length - 1) rfl rfl rfl rfl Go.Proofs.Try.underlying25 Go.Proofs.Try.sizeOf27 rfl rfl (by omega) (by omega) ?_
          refine O.lds rfl rfl rfl (fun w => ⟨Go.Proofs.Try.isAgg27 w, Go.Proofs.Try.sizeOf27 w⟩) rfl rfl hrn ?_
          refine O.mv rfl rfl rfl rfl rfl ?_
          refine O.call rfl rfl rfl Go.Proofs.Try.call60 rfl (igdescend_spec hd (ho.fr hF) (by omega) (hi.fr hF) (by omega) xn (n := 0)) ?_
          rintro v13 H13 ⟨h13, hF13⟩
          replace hF := hF.trans hF13
          replace mm := hF13.rd mm (fun _ _ => nw)
          replace mm0 := hF13.keep mm0 nw
          replace mm1 := hF13.keep mm1 nw
          replace hI := hI.fr hF13
          replace hr0 := hF13.rd hr0 (fun _ _ => nw)
          replace hrn := hF13.rd hrn (fun _ _ => nw)
          rw [firstN_0, hL, hdn] at h13
          refine ⟨trivial, ?_⟩
          refine O.call rfl rfl rfl Go.Proofs.Try.call44 rfl (SI.turnedA_spec hI (by omega)) ?_
          rintro v14 H14 ⟨h14, hF14⟩
          replace hF := hF.trans hF14
          replace mm := hF14.rd mm (fun _ _ => nw)
          replace mm0 := hF14.keep mm0 nw
          replace mm1 := hF14.keep mm1 nw
          replace hI := hI.fr hF14
          replace hr0 := hF14.rd hr0 (fun _ _ => nw)
          replace hrn := hF14.rd hrn (fun _ _ => nw)
          refine ⟨trivial, ?_⟩
          refine O.callQ rfl rfl rfl Go.Proofs.Try.call28 rfl (eqItems_spec (h13.inS.fr hF14) h14.inS (by omega)) trivial ?_
          refine O.pick rfl rfl rfl rfl rfl rfl ?_
          refine O.mv rfl rfl rfl rfl rfl ?_
          refine O.call rfl rfl rfl Go.Proofs.Try.call25 rfl alive_spec ?_
          rintro _ Hv ⟨rfl, hFv⟩
          replace hF := hF.trans hFv
          replace mm := hFv.rd mm (fun _ _ => nw)
          replace mm0 := hFv.keep mm0 nw
          replace mm1 := hFv.keep mm1 nw
          replace hI := hI.fr hFv
          replace hr0 := hFv.rd hr0 (fun _ _ => nw)
          replace hrn := hFv.rd hrn (fun _ _ => nw)
          refine ⟨trivial, ?_⟩
          refine O.pick rfl rfl rfl rfl rfl rfl ?_
          refine O.asg rfl rfl rfl rfl rfl ?_
          refine Pl.fin [(4, _)] ⟨rfl, trivial⟩ ?_
          refine Go'.ret (vs := [_]) Go.Proofs.Try.func17 Go.Proofs.Try.results17 ⟨rfl, trivial⟩ ?_
          exact ⟨rfl, hF⟩

end Go.Bt.FG
