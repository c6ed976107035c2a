/- Contracts of functions of the program, proved by walking through their code. Conditions: those that each theorem names. -/
import Derived.Test.YtmboghgpakhceaaToiC
namespace Go.Bt.FG
open Go Go.Proofs
set_option maxRecDepth 20000
set_option maxHeartbeats 4000000
set_option linter.unusedVariables false
set_option linter.unusedSectionVars false

namespace SI
/-- Slices of the lists ls. -/
def InSS {α : Type} (E : Elt α) (H : Mem) : List (Option Addr × Nat × Nat) → List (List α) → Prop
  | [], [] => True
  | u :: us, l :: ls => InS E H (.slice u.1 u.2.1 u.2.2) l ∧ InSS E H us ls
  | _, _ => False
theorem InSS.fr {α : Type} {E : Elt α} {H H' : Mem} (hf : Fr nowhere H H') : ∀ {us : List (Option Addr × Nat × Nat)} {ls : List (List α)}, InSS E H us ls → InSS E H' us ls
  | [], [], _ => trivial
  | u :: us, l :: ls, h => ⟨h.1.fr hf, InSS.fr hf h.2⟩
  | [], _ :: _, h => h.elim
  | _ :: _, [], h => h.elim
theorem InSS.len {α : Type} {E : Elt α} {H : Mem} : ∀ {us : List (Option Addr × Nat × Nat)} {ls : List (List α)}, InSS E H us ls → us.length = ls.length
  | [], [], _ => rfl
  | u :: us, l :: ls, h => by rw [List.length_cons, List.length_cons, InSS.len h.2]
  | [], _ :: _, h => h.elim
  | _ :: _, [], h => h.elim
theorem InSS.at {α : Type} {E : Elt α} {H : Mem} : ∀ {us : List (Option Addr × Nat × Nat)} {ls : List (List α)} (_ : InSS E H us ls) {i : Nat} {u : Option Addr × Nat × Nat}, us[i]? = some u → ∃ l, ls[i]? = some l ∧ InS E H (.slice u.1 u.2.1 u.2.2) l
  | [], [], _, i, u, hu => by simp at hu
  | u :: us, l :: ls, h, 0, v, hv => by
    simp only [List.getElem?_cons_zero, Option.some.injEq] at hv
    subst hv
    exact ⟨l, rfl, h.1⟩
  | u :: us, l :: ls, h, i + 1, v, hv => by
    simp only [List.getElem?_cons_succ] at hv ⊢
    exact InSS.at h.2 hv
  | [], _ :: _, h, _, _, _ => h.elim
  | _ :: _, [], h, _, _, _ => h.elim
theorem grow_spec {B : World} {H : Mem} {n : Nat} (hn : 0 < n) (hll : n ≤ 4294967296) :
    Fn Try.prog B 93 [.slice none 0 0, .int .i64 (n : Int)] H (fun r H' => AccN EJ (fun b => H.size ≤ b) H' r [] ∧ Fr nowhere H H') := by
  refine fn_of Try.func93 rfl Try.ntmps93 ?_
  refine (show Go' _ _ _ _ 27 [(0, _), (1, _)] [.code _] _ from ?_)
  refine Go'.seq ?_
  -- region 0 (slices.go:422)
  refine Go'.region [(0, 0)] rfl ?_
  refine O.asg rfl rfl rfl rfl rfl ?_
  refine Pl.fin [(0, _), (1, _), (4, _)] ⟨rfl, rfl, rfl, trivial⟩ ?_
  refine Go'.seq ?_
  refine Go'.seq ?_
  -- region 1 (slices.go:423)
  refine Go'.region [(0, 0), (1, 0)] rfl ?_
  refine O.mv rfl rfl rfl rfl rfl ?_
  refine O.cmp rfl rfl rfl rfl rfl rfl (lssF (by omega)) ?_
  refine Pl.fin [(0, _), (1, _), (4, _), (6, _)] ⟨rfl, rfl, rfl, rfl, trivial⟩ ?_
  refine Go'.condF rfl ?_
  refine Go'.skip ?_
  refine Go'.seq ?_
  refine Go'.seq ?_
  -- region 3 (slices.go:426)
  refine Go'.region [(0, 0), (1, 0), (2, 0), (3, 0), (4, 0), (5, 0), (6, 0), (7, 0)] rfl ?_
  refine O.mv rfl rfl rfl rfl rfl ?_
  refine O.mv rfl rfl rfl rfl rfl ?_
  refine O.cap rfl rfl rfl rfl Try.underlying25 rfl ?_
  refine O.mv rfl rfl rfl rfl rfl ?_
  refine O.len rfl rfl rfl rfl Try.underlying25 rfl ?_
  refine O.sub ((0 : Int)) rfl rfl rfl rfl rfl rfl (by omega) (by omega) ?_
  refine O.sub ((n : Int)) rfl rfl rfl rfl rfl rfl (by omega) (by omega) ?_
  refine O.asg rfl rfl rfl rfl rfl ?_
  refine Pl.fin [(0, _), (1, _), (4, _)] ⟨rfl, rfl, rfl, trivial⟩ ?_
  refine Go'.seq ?_
  -- region 4 (slices.go:426)
  refine Go'.region [(0, 0), (1, 0)] rfl ?_
  refine O.mv rfl rfl rfl rfl rfl ?_
  refine O.cmp rfl rfl rfl rfl rfl rfl (gtrT (by omega)) ?_
  refine Pl.fin [(0, _), (1, _), (4, _), (16, _)] ⟨rfl, rfl, rfl, rfl, trivial⟩ ?_
  refine Go'.condT rfl ?_
  -- region 5 (slices.go:428)
  refine Go'.region [(0, 0), (1, 0), (2, 0), (3, 0), (4, 0), (5, 2), (6, 0), (7, 0), (8, 0), (9, 0)] rfl ?_
  refine O.mv rfl rfl rfl rfl rfl ?_
  refine O.mv rfl rfl rfl rfl rfl ?_
  refine O.cap rfl rfl rfl rfl Try.underlying25 rfl ?_
  refine O.slc0 rfl rfl rfl rfl Try.underlying25 Try.sizeOf27 rfl ⟨_, by rfl⟩ rfl ?_
  intro a0
  refine O.mv rfl rfl rfl rfl rfl ?_
  refine O.appZ (m := n) rfl rfl rfl ⟨Try.underlying25, Try.sizeOf27, Try.zeroValue27, ⟨_, Try.typeInfo27, rfl⟩, rfl, by decide, by decide⟩ Try.underlying3 rfl rfl (Nat.le_trans (Nat.mul_le_mul_left _ (Nat.le_of_ble_eq_true (n := _) (m := 4096) rfl)) (by omega)) (by omega) hn ?_
  intro cap' H1 hc hW hF hs
  refine ⟨trivial, ?_⟩
  refine O.mv rfl rfl rfl rfl rfl ?_
  refine O.len rfl rfl rfl rfl Try.underlying25 rfl ?_
  refine O.slc (jl := 0) (jh := 0) (jm := cap') rfl rfl rfl rfl Try.underlying25 Try.sizeOf27 rfl rfl ⟨_, by rfl⟩ rfl (by omega) (by omega) (by omega) (by simp) ?_
  intro o2 ho2
  refine O.asg rfl rfl rfl rfl rfl ?_
  refine Pl.fin [(0, _), (4, _)] ⟨rfl, rfl, trivial⟩ ?_
  refine Go'.seq ?_
  -- region 6 (slices.go:430)
  refine Go'.region [(0, 0), (1, 0)] rfl ?_
  refine O.mv rfl rfl rfl rfl rfl ?_
  refine O.asg rfl rfl rfl rfl rfl ?_
  refine Pl.fin [(4, _)] ⟨rfl, trivial⟩ ?_
  refine Go'.ret (vs := [_]) Try.func93 Try.results93 ⟨rfl, trivial⟩ ?_
  refine ⟨⟨H.size, o2, cap' - 0, rfl, Nat.le_refl _, by omega, ?_⟩, hF⟩
  obtain rfl : o2 = 0 := by have := ho2 (by omega); omega
  rw [Nat.sub_zero]
  exact ⟨rfl, Nat.zero_le _, Rd.nil _ _ _, hW⟩

end SI
end Go.Bt.FG
namespace Go.Bt.FG
open Go Go.Proofs
set_option maxRecDepth 20000
set_option maxHeartbeats 4000000
set_option linter.unusedVariables false
set_option linter.unusedSectionVars false

theorem Pl.dn_step {α : Type} (O : Pl.Swo α) {x : α} {l : List α} (hs : Pl.Srt O l) {i : Nat} {y : α} (hy : l[i]? = some y) : O.lt x y = false ↔ i < Pl.pos O x l + (Pl.fnd O x l).toNat := by
  obtain ⟨hil, hy2⟩ := List.getElem?_eq_some_iff.1 hy
  have hp := Pl.pos_split O x l
  have hd := hs.drop_pos O (x := x)
  cases hf : Pl.fnd O x l with
  | false =>
    have ha := Pl.after_pos O hs hf
    simp only [Bool.toNat_false, Nat.add_zero]
    constructor
    · intro h
      rcases Nat.lt_or_ge i (Pl.pos O x l) with h1 | h1
      · exact h1
      · have := ha y (List.mem_iff_getElem?.2 ⟨i - Pl.pos O x l, by rw [List.getElem?_drop, Nat.add_sub_cancel' h1]; exact hy⟩)
        rw [h] at this; cases this
    · intro h
      have := hp.1 y (List.mem_iff_getElem?.2 ⟨i, by rw [List.getElem?_take_of_lt h]; exact hy⟩)
      exact O.asy this
  | true =>
    obtain ⟨z, hz, h1, h2⟩ := Pl.fnd_at O hs hf
    simp only [Bool.toNat_true]
    constructor
    · intro h
      rcases Nat.lt_or_ge i (Pl.pos O x l + 1) with h3 | h3
      · exact h3
      · have h4 := List.pairwise_iff_getElem.1 hs (Pl.pos O x l) i (List.getElem?_eq_some_iff.1 hz).1 hil (by omega)
        rw [(List.getElem?_eq_some_iff.1 hz).2, hy2] at h4
        rw [O.lt_of_le_of_lt h1 h4] at h; cases h
    · intro h
      rcases Nat.lt_or_ge i (Pl.pos O x l) with h3 | h3
      · have := hp.1 y (List.mem_iff_getElem?.2 ⟨i, by rw [List.getElem?_take_of_lt h3]; exact hy⟩)
        exact O.asy this
      · obtain rfl : i = Pl.pos O x l := by omega
        rw [hy] at hz; cases hz; exact h2

theorem down_spec {B : World} {H : Mem} {v u : Value} {ord : List Int} {l : List (Int × Int)} {x : Int × Int} (ho : InS EN H v ord) (hl : ord.length < 4611686018427387904) (hi : InS EJ H u l) (hs : Pl.Srt (OO ord) l) (hll : l.length ≤ 4294967296) :
    Fn Try.prog B 146 [v, u, .agg (EJ.enc x).toArray] H (fun r H' => OutS EJ H' r (Pl.dn (OO ord) x l).reverse ∧ Fr nowhere H H') := by
  obtain ⟨a, c, hu⟩ := hi.len
  subst hu
  have hle : Pl.pos (OO ord) x l + (Pl.fnd (OO ord) x l).toNat ≤ l.length := by
    have := Pl.pos_le (OO ord) x l
    cases h : Pl.fnd (OO ord) x l with
    | false => simpa using this
    | true => have := Pl.fnd_pos_lt (OO ord) h; simp; omega
  refine fn_of Try.func146 rfl Try.ntmps146 ?_
  refine (show Go' _ _ _ _ 28 [(0, _), (1, _), (2, _)] [.code _] _ from ?_)
  refine Go'.seq ?_
  -- region 0 (list.go:114)
  refine Go'.region [(0, 2), (1, 0)] rfl ?_
  refine O.box rfl rfl rfl rfl ?_
  intro H1 M1
  refine ⟨trivial, ?_⟩
  have hF1 := M1.fr nowhere
  replace ho := ho.fr hF1
  replace hi := hi.fr hF1
  have mi : Rd H1 H.size 0 (EJ.enc x) := M1.rd _ [] (by simp [Value.cells])
  refine O.asg rfl rfl rfl rfl rfl ?_
  refine Pl.fin [(0, _), (1, _), (5, _), (6, _)] ⟨rfl, rfl, rfl, rfl, trivial⟩ ?_
  refine Go'.seq ?_
  -- region 1 (list.go:115)
  refine Go'.region [(0, 0)] rfl ?_
  refine O.asg rfl rfl rfl rfl rfl ?_
  refine Pl.fin [(0, _), (1, _), (5, _), (6, _), (7, _)] ⟨rfl, rfl, rfl, rfl, rfl, trivial⟩ ?_
  refine Go'.seq ?_
  refine Go'.block ?_
  refine Go'.loop ?_
  refine Go'.keep [(0, _), (1, _), (5, _), (7, _)] ⟨rfl, rfl, rfl, rfl, trivial⟩ ?_
  refine Go'.ind (σ := Nat) (fun j => l.length - j) (fun j H' => Fr nowhere H1 H' ∧ j ≤ Pl.pos (OO ord) x l + (Pl.fnd (OO ord) x l).toNat)
    (fun j => [(0, v), (1, .slice a l.length c), (5, .pointer (some ⟨H.size, 0, none⟩)), (7, .int .i64 (j : Int))]) 0 ⟨Fr.refl _ _, Nat.zero_le _⟩ rfl ?_
  rintro j H2 ⟨hF2, hjl⟩ ih
  have ho2 := ho.fr hF2
  have hi2 := hi.fr hF2
  have mi2 : Rd H2 H.size 0 (EJ.enc x) := hF2.rd mi (fun _ _ => nw)
  refine Go'.seq ?_
  refine Go'.seq ?_
  by_cases hlt : j < l.length
  · skip
    obtain ⟨y, hy⟩ : ∃ y, l[j]? = some y := ⟨l[j], List.getElem?_eq_getElem hlt⟩
    obtain ⟨b, o, c', e, hr⟩ := hi2.at hy
    cases e
    have hst := Pl.dn_step (OO ord) hs (x := x) hy
    cases hlx : (OO ord).lt x y
    · skip
      -- region 2 (list.go:116)
      refine Go'.draw (fun H' => Rd H' H.size 0 (EJ.enc x) ∧ Rd H' b (o + j * 2) (EJ.enc y)) [(0, 0), (1, 0), (2, 0), (3, 0), (4, 0), (5, 0), (6, 1), (7, 0), (8, 0), (9, 0), (10, 1), (11, 2), (12, 0), (13, 0)] (by kernel_rfl) (by kernel_rfl) (⟨mi2, hr⟩) ?_
      refine O.mv rfl rfl rfl rfl rfl ?_
      refine O.mv rfl rfl rfl rfl rfl ?_
      refine O.len rfl rfl rfl rfl Try.underlying25 rfl ?_
      refine O.cmp rfl rfl rfl rfl rfl rfl (lssT (by omega)) ?_
      refine O.mv rfl rfl rfl rfl rfl ?_
      refine O.mv rfl rfl rfl rfl rfl ?_
      refine O.lds rfl rfl rfl (fun w => ⟨Try.isAgg27 w, Try.sizeOf27 w⟩) rfl rfl mi2 ?_
      refine O.mv rfl rfl rfl rfl rfl ?_
      refine O.mv rfl rfl rfl rfl rfl ?_
      refine O.ix (j := j) rfl rfl rfl rfl Try.underlying25 Try.sizeOf27 rfl rfl (by omega) hlt ?_
      refine O.lds rfl rfl rfl (fun w => ⟨Try.isAgg27 w, Try.sizeOf27 w⟩) rfl rfl hr ?_
      refine O.call rfl rfl rfl Try.call186 rfl (before_spec ho2 hl) ?_
      rintro _ H3 ⟨rfl, hF3⟩
      rw [hlx]
      refine ⟨⟨hF3.rd mi2 (fun _ _ => nw), hF3.rd hr (fun _ _ => nw)⟩, ?_⟩
      refine O.not rfl rfl rfl rfl rfl ?_
      refine O.pick rfl rfl rfl rfl rfl rfl ?_
      refine Pl.fin [(0, _), (1, _), (5, _), (7, _), (21, _)] ⟨rfl, rfl, rfl, rfl, rfl, trivial⟩ ?_
      refine Go'.condT rfl ?_
      refine Go'.skip ?_
      refine Go'.block ?_
      -- region 3 (list.go:117)
      refine Go'.region [(0, 0), (1, 0), (2, 0)] rfl ?_
      refine O.mv rfl rfl rfl rfl rfl ?_
      refine O.add (((j + 1 : Nat) : Int)) rfl rfl rfl rfl rfl rfl (by omega) (by omega) ?_
      refine O.asg rfl rfl rfl rfl rfl ?_
      refine Pl.fin [(0, _), (1, _), (5, _), (7, _), (21, _)] ⟨rfl, rfl, rfl, rfl, rfl, trivial⟩ ?_
      refine Go'.inBlock ?_
      refine Go'.keep [(0, _), (1, _), (5, _), (7, _)] ⟨rfl, rfl, rfl, rfl, trivial⟩ ?_
      refine Go'.inLoop ?_
      exact ih (j + 1) H3 ⟨hF2.trans hF3, hst.1 hlx⟩ (by omega)
    · skip
      -- region 2 (list.go:116)
      refine Go'.draw (fun H' => Rd H' H.size 0 (EJ.enc x) ∧ Rd H' b (o + j * 2) (EJ.enc y)) [(0, 0), (1, 0), (2, 0), (3, 0), (4, 0), (5, 0), (6, 1), (7, 0), (8, 0), (9, 0), (10, 1), (11, 2), (12, 0), (13, 0)] (by kernel_rfl) (by kernel_rfl) (⟨mi2, hr⟩) ?_
      refine O.mv rfl rfl rfl rfl rfl ?_
      refine O.mv rfl rfl rfl rfl rfl ?_
      refine O.len rfl rfl rfl rfl Try.underlying25 rfl ?_
      refine O.cmp rfl rfl rfl rfl rfl rfl (lssT (by omega)) ?_
      refine O.mv rfl rfl rfl rfl rfl ?_
      refine O.mv rfl rfl rfl rfl rfl ?_
      refine O.lds rfl rfl rfl (fun w => ⟨Try.isAgg27 w, Try.sizeOf27 w⟩) rfl rfl mi2 ?_
      refine O.mv rfl rfl rfl rfl rfl ?_
      refine O.mv rfl rfl rfl rfl rfl ?_
      refine O.ix (j := j) rfl rfl rfl rfl Try.underlying25 Try.sizeOf27 rfl rfl (by omega) hlt ?_
      refine O.lds rfl rfl rfl (fun w => ⟨Try.isAgg27 w, Try.sizeOf27 w⟩) rfl rfl hr ?_
      refine O.call rfl rfl rfl Try.call186 rfl (before_spec ho2 hl) ?_
      rintro _ H3 ⟨rfl, hF3⟩
      rw [hlx]
      refine ⟨⟨hF3.rd mi2 (fun _ _ => nw), hF3.rd hr (fun _ _ => nw)⟩, ?_⟩
      refine O.not rfl rfl rfl rfl rfl ?_
      refine O.pick rfl rfl rfl rfl rfl rfl ?_
      refine Pl.fin [(0, _), (1, _), (5, _), (7, _), (21, _)] ⟨rfl, rfl, rfl, rfl, rfl, trivial⟩ ?_
      have hj : j = Pl.pos (OO ord) x l + (Pl.fnd (OO ord) x l).toNat := by
        rcases Nat.lt_or_ge j (Pl.pos (OO ord) x l + (Pl.fnd (OO ord) x l).toNat) with h | h
        · rw [hst.2 h] at hlx; cases hlx
        · omega
      replace hi2 := hi2.fr hF3
      refine Go'.condF rfl ?_
      refine Go'.exit rfl ?_
      refine Go'.seq ?_
      -- region 4 (list.go:119)
      refine Go'.region [(0, 0), (1, 0), (2, 0), (3, 2), (4, 0)] rfl ?_
      refine O.mv rfl rfl rfl rfl rfl ?_
      refine O.mv rfl rfl rfl rfl rfl ?_
      refine O.slcIn (E := EJ) (jl := 0) (jh := j) rfl rfl rfl rfl Try.underlying25 Try.sizeOf27 rfl hi2 ⟨_, by rfl⟩ rfl (by omega) (by omega) ?_
      intro v1 hv1
      rw [List.drop_zero, Nat.sub_zero] at hv1
      rw [hj] at hv1
      refine O.call rfl rfl rfl Try.call145 rfl (turned_spec (l := Pl.dn (OO ord) x l) hv1 (by have := Pl.dn_le (OO ord) x l; omega)) ?_
      rintro tv H4 ⟨htv, hF4⟩
      refine ⟨trivial, ?_⟩
      refine O.asg rfl rfl rfl rfl rfl ?_
      refine Pl.fin [(6, _)] ⟨rfl, trivial⟩ ?_
      refine Go'.ret (vs := [_]) Try.func146 Try.results146 ⟨rfl, trivial⟩ ?_
      exact ⟨htv, ((hF1.trans hF2).trans hF3).trans hF4⟩
  · skip
    have hj : j = Pl.pos (OO ord) x l + (Pl.fnd (OO ord) x l).toNat := by omega
    -- region 2 (list.go:116)
    refine Go'.draw (fun _ => True) [(0, 0), (1, 0), (2, 0), (3, 0), (4, 0), (5, 0), (6, 1), (7, 0), (8, 0), (9, 0), (10, 1), (11, 2), (12, 0), (13, 0)] (by kernel_rfl) (by kernel_rfl) (trivial) ?_
    refine O.mv rfl rfl rfl rfl rfl ?_
    refine O.mv rfl rfl rfl rfl rfl ?_
    refine O.len rfl rfl rfl rfl Try.underlying25 rfl ?_
    refine O.cmp rfl rfl rfl rfl rfl rfl (lssF (by omega)) ?_
    refine O.mv rfl rfl rfl rfl rfl ?_
    refine Pl.pass rfl rfl rfl rfl ?_
    refine Pl.pass rfl rfl rfl rfl ?_
    refine Pl.pass rfl rfl rfl rfl ?_
    refine Pl.pass rfl rfl rfl rfl ?_
    refine Pl.pass rfl rfl rfl rfl ?_
    refine Pl.pass rfl rfl rfl rfl ?_
    refine Pl.pass2 rfl rfl rfl rfl trivial ?_
    refine Pl.pass rfl rfl rfl rfl ?_
    refine O.pick rfl rfl rfl rfl rfl rfl ?_
    refine Pl.fin [(0, _), (1, _), (5, _), (7, _), (21, _)] ⟨rfl, rfl, rfl, rfl, rfl, trivial⟩ ?_
    refine Go'.condF rfl ?_
    refine Go'.exit rfl ?_
    refine Go'.seq ?_
    -- region 4 (list.go:119)
    refine Go'.region [(0, 0), (1, 0), (2, 0), (3, 2), (4, 0)] rfl ?_
    refine O.mv rfl rfl rfl rfl rfl ?_
    refine O.mv rfl rfl rfl rfl rfl ?_
    refine O.slcIn (E := EJ) (jl := 0) (jh := j) rfl rfl rfl rfl Try.underlying25 Try.sizeOf27 rfl hi2 ⟨_, by rfl⟩ rfl (by omega) (by omega) ?_
    intro v1 hv1
    rw [List.drop_zero, Nat.sub_zero] at hv1
    rw [hj] at hv1
    refine O.call rfl rfl rfl Try.call145 rfl (turned_spec (l := Pl.dn (OO ord) x l) hv1 (by have := Pl.dn_le (OO ord) x l; omega)) ?_
    rintro tv H4 ⟨htv, hF4⟩
    refine ⟨trivial, ?_⟩
    refine O.asg rfl rfl rfl rfl rfl ?_
    refine Pl.fin [(6, _)] ⟨rfl, trivial⟩ ?_
    refine Go'.ret (vs := [_]) Try.func146 Try.results146 ⟨rfl, trivial⟩ ?_
    exact ⟨htv, (hF1.trans hF2).trans hF4⟩

theorem gdescend_spec {B : World} {H : Mem} {v u dg nl : Value} {ord : List Int} {l : List (Int × Int)} {x : Int × Int} {n : Int} (ho : InS EN H v ord) (hl : ord.length < 4611686018427387904) (hi : InS EJ H u l) (hll : l.length ≤ 4294967296) :
    Fn Try.prog B 94 [.agg #[v, dg, nl], u, .agg (EJ.enc x).toArray, .int .i64 n] H (fun r H' => InS EJ H' r (firstN (Pl.dn (OO ord) x (Pl.puts (OO ord) l)).reverse n) ∧ Fr nowhere H H') := by
  have hpl := Pl.puts_length (OO ord) l
  refine fn_of Try.func94 rfl Try.ntmps94 ?_
  refine (show Go' _ _ _ _ 19 [(0, _), (1, _), (2, _), (3, _)] [.code _] _ from ?_)
  refine Go'.seq ?_
  -- region 0 (tree.go:100)
  refine Go'.region [(0, 2), (1, 2), (2, 0)] rfl ?_
  refine O.box rfl rfl rfl rfl ?_
  intro H1 M1
  refine ⟨trivial, ?_⟩
  replace ho := ho.fr (M1.fr nowhere)
  replace hi := hi.fr (M1.fr nowhere)
  have mi : cl H1 H.size 0 = some v := (M1.cl 0).trans rfl
  refine O.box rfl rfl rfl rfl ?_
  intro H2 M2
  refine ⟨trivial, ?_⟩
  replace ho := ho.fr (M2.fr nowhere)
  replace hi := hi.fr (M2.fr nowhere)
  replace mi := M2.keep mi
  have mx : Rd H2 H1.size 0 (EJ.enc x) := M2.rd _ [] (by simp [Value.cells])
  refine O.asg rfl rfl rfl rfl rfl ?_
  refine Pl.fin [(1, _), (3, _), (4, _), (6, _), (8, _)] ⟨rfl, rfl, rfl, rfl, rfl, trivial⟩ ?_
  refine Go'.seq ?_
  -- region 1 (tree.go:101)
  refine Go'.draw (fun H' => cl H' H.size 0 = some v ∧ Rd H' H1.size 0 (EJ.enc x)) [(0, 0), (1, 0), (2, 0), (3, 1), (4, 0), (6, 0), (8, 0), (5, 2), (7, 2), (9, 2), (10, 0)] (by kernel_rfl) (by kernel_rfl) (⟨mi, mx⟩) ?_
  refine O.faz rfl rfl rfl rfl ⟨_, _, _, Try.underlying24, rfl, rfl, Try.sizeOf22⟩ rfl ?_
  refine O.ldC rfl rfl rfl (fun w => ⟨Try.isAgg22 w, Try.sizeOf22 w⟩) rfl (fun _ h => h.1) ?_
  refine O.faz rfl rfl rfl rfl ⟨_, _, _, Try.underlying24, rfl, rfl, Try.sizeOf22⟩ rfl ?_
  refine O.ld rfl rfl rfl (fun w => ⟨Try.isAgg22 w, Try.sizeOf22 w⟩) rfl mi ?_
  refine O.mv rfl rfl rfl rfl rfl ?_
  refine O.ldsC rfl rfl rfl (fun w => ⟨Try.isAgg27 w, Try.sizeOf27 w⟩) rfl rfl (fun _ h => h.2) ?_
  refine O.mv rfl rfl rfl rfl rfl ?_
  refine O.call rfl rfl rfl Try.call42 rfl (tree_spec ho hl hi hll) ?_
  rintro sv H3 ⟨hsv, hF3⟩
  replace mi := hF3.keep mi nw
  replace mx := hF3.rd mx (fun _ _ => nw)
  refine ⟨⟨mi, mx⟩, ?_⟩
  refine O.call rfl rfl rfl Try.call146 rfl (down_spec (x := x) (ho.fr hF3) hl hsv.inS (Pl.puts_srt _ _) (by omega)) ?_
  rintro tv H4 ⟨htv, hF4⟩
  replace mi := hF4.keep mi nw
  replace mx := hF4.rd mx (fun _ _ => nw)
  refine ⟨⟨mi, mx⟩, ?_⟩
  refine O.call rfl rfl rfl Try.call144 rfl (first_spec (n := n) htv.inS) ?_
  rintro fv H5 ⟨hfv, rfl⟩
  refine ⟨⟨mi, mx⟩, ?_⟩
  refine O.asg rfl rfl rfl rfl rfl ?_
  refine Pl.fin [(8, _)] ⟨rfl, trivial⟩ ?_
  refine Go'.ret (vs := [_]) Try.func94 Try.results94 ⟨rfl, trivial⟩ ?_
  exact ⟨hfv, (((M1.fr nowhere).trans (M2.fr nowhere)).trans hF3).trans hF4⟩

end Go.Bt.FG
