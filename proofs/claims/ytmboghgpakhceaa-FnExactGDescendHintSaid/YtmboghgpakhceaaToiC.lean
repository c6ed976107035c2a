/- Contracts of functions of the program, proved by walking through their code. Conditions: those that each theorem names. -/
import Derived.Test.YtmboghgpakhceaaToiG
import Derived.Test.YtmboghgpakhceaaToiB
namespace Go.Bt.FG
open Go Go.Proofs
set_option maxRecDepth 20000
set_option maxHeartbeats 4000000
set_option linter.unusedVariables false
set_option linter.unusedSectionVars false

section
variable [Inhabited Cx]
end
end Go.Bt.FG
namespace Go.Bt.FG
open Go Go.Proofs
set_option maxRecDepth 20000
set_option maxHeartbeats 4000000
set_option linter.unusedVariables false
set_option linter.unusedSectionVars false

section
variable [Inhabited Cx]
theorem descend_spec {B : World} {g : FuncId} {us cs : List Value} {go : List (Int × Int) → Bool} {M : Nat} (cb : Cb Try.prog B encIt g us cs go M) (hcall : ∀ (args : Array Value) (w : World), (callFunc g args).run Try.prog w = .ok (.enter g args) w) {tr : Nat} {P : Ps} (hP : PsOk P) (mt : Bool) (x : Int × Int) {H : Mem} {S : Nat → Prop} {l : List (Int × Int)} {Z : Nat → Prop} (hM : MapM H tr P S l) (hT : cb.T [] Z H) (hd : ∀ b, S b → ¬ Z b) (hnb : ∀ b, Z b → ¬ (b < cx.base ∧ cx.own b)) (hl : l.length ≤ M) (hM6 : M ≤ 4294967296) {hv : Value} {hz : Nat → Prop} (hk : HintOk H hv hz) (hzS : ∀ b, hz b → ¬ S b) (hzZ : ∀ b, Z b → ¬ hz b) :
    Fn Try.prog B 155 [.pointer (some ⟨tr, 0, none⟩), .agg (EJ.enc x).toArray, .func (.func g) us.toArray cs.toArray, .bool mt, hv] H (fun _ H' => ∃ Z', cb.T (takes go [] ((Pl.dn OI x (l)).reverse)).1 Z' H' ∧ Fr (fun b _ => Z b ∨ hz b) H H' ∧ ∀ b, Z' b → Z b ∨ H.size ≤ b) := by
  have hzb := hk.base
  have hTl : ∀ b, Z b → b < H.size := fun b hb => cb.lt hT hb
  refine fn_of Try.func155 rfl Try.ntmps155 ?_
  refine (show Go' _ _ _ _ 29 [(0, _), (1, _), (2, _), (3, _), (4, _)] [.code _] _ from ?_)
  refine Go'.seq ?_
  -- region 0 (btreeg.go:1134)
  refine Go'.region [(0, 2)] rfl ?_
  refine O.box rfl rfl rfl rfl ?_
  intro H0 M0
  refine ⟨trivial, ?_⟩
  have hs0 := M0.size
  have hf0 := M0.fr nowhere
  have mi : Rd H0 H.size 0 (EJ.enc x) := M0.rd _ [] (by simp [Value.cells])
  replace hM := hM.fr hf0 (fun _ _ _ => nw)
  replace hT := cb.fr hT hf0 (fun _ _ _ => nw)
  replace hk := hk.fr hf0 (fun _ _ _ => nw)
  obtain ⟨tc, srt, cnt, own, lt, bs, hr⟩ := hM
  refine Pl.fin [(0, _), (2, _), (3, _), (4, _), (6, _)] ⟨rfl, rfl, rfl, rfl, rfl, trivial⟩ ?_
  refine Go'.seq ?_
  refine Go'.seq ?_
  -- region 1 (btreeg.go:1137)
  refine Go'.region [(0, 0), (1, 0), (2, 2)] rfl ?_
  refine O.mv rfl rfl rfl rfl rfl ?_
  refine O.mv rfl rfl rfl rfl rfl ?_
  refine O.callQ rfl rfl rfl Try.call128 rfl lock_spec trivial ?_
  refine Pl.fin [(0, _), (2, _), (3, _), (4, _), (6, _), (12, _)] ⟨rfl, rfl, rfl, rfl, rfl, rfl, trivial⟩ ?_
  refine Go'.condF rfl ?_
  refine Go'.skip ?_
  refine Go'.seq ?_
  refine Go'.seq ?_
  rcases hr with ⟨rfl, hptr⟩ | ⟨h, t, hg, hx1, e, hc, hnt, hown⟩
  · skip
    -- region 3 (btreeg.go:1140)
    refine Go'.region [(0, 0), (1, 0), (2, 0), (3, 1), (4, 0)] rfl ?_
    refine O.mv rfl rfl rfl rfl rfl ?_
    refine O.nc rfl rfl rfl rfl rfl ?_
    refine O.fa0 (off := 2) rfl rfl rfl rfl ⟨_, _, _, Try.underlying158, rfl, rfl, Try.sizeOf129⟩ rfl ?_
    refine O.ld rfl rfl rfl (fun w => ⟨Try.isAgg129 w, Try.sizeOf129 w⟩) rfl hptr ?_
    refine O.isNil rfl rfl rfl rfl Try.underlying129 rfl rfl ?_
    refine Pl.fin [(0, _), (2, _), (3, _), (4, _), (6, _), (19, _)] ⟨rfl, rfl, rfl, rfl, rfl, rfl, trivial⟩ ?_
    refine Go'.condT rfl ?_
    refine Go'.ret Try.func155 Try.results155 (vs := []) trivial ?_
    exact ⟨Z, hT, hf0.mono (fun _ _ _ h => h.elim), fun b hb => .inl hb⟩
  · skip
    have hptr : cl H0 tr 2 = some (.pointer (some ⟨Gt.p h t, 0, none⟩)) := hc
    have hht := Gt.Good.tall hP hg hx1
    -- region 3 (btreeg.go:1140)
    refine Go'.region [(0, 0), (1, 0), (2, 0), (3, 1), (4, 0)] rfl ?_
    refine O.mv rfl rfl rfl rfl rfl ?_
    refine O.nc rfl rfl rfl rfl rfl ?_
    refine O.fa0 (off := 2) rfl rfl rfl rfl ⟨_, _, _, Try.underlying158, rfl, rfl, Try.sizeOf129⟩ rfl ?_
    refine O.ld rfl rfl rfl (fun w => ⟨Try.isAgg129 w, Try.sizeOf129 w⟩) rfl hptr ?_
    refine O.isNil rfl rfl rfl rfl Try.underlying129 rfl rfl ?_
    refine Pl.fin [(0, _), (2, _), (3, _), (4, _), (6, _), (19, _)] ⟨rfl, rfl, rfl, rfl, rfl, rfl, trivial⟩ ?_
    refine Go'.condF rfl ?_
    refine Go'.skip ?_
    -- region 4 (btreeg.go:1143)
    refine Go'.draw (fun _ => True) [(0, 0), (1, 0), (2, 0), (3, 0), (4, 1), (5, 0), (6, 0), (7, 0), (8, 2)] (by kernel_rfl) (by kernel_rfl) (trivial) ?_
    refine O.mv rfl rfl rfl rfl rfl ?_
    refine O.mv rfl rfl rfl rfl rfl ?_
    refine O.nc rfl rfl rfl rfl rfl ?_
    refine O.fa0 (off := 2) rfl rfl rfl rfl ⟨_, _, _, Try.underlying158, rfl, rfl, Try.sizeOf129⟩ rfl ?_
    refine O.lds rfl rfl rfl (fun w => ⟨Try.isAgg27 w, Try.sizeOf27 w⟩) rfl rfl mi ?_
    refine O.mv rfl rfl rfl rfl rfl ?_
    refine O.mv rfl rfl rfl rfl rfl ?_
    refine O.mv rfl rfl rfl rfl rfl ?_
    refine O.call rfl rfl rfl Try.call191 rfl (ndesc cb hcall hP mt x hv hz h (dp := 0) (Z := fun b => Z b ∨ hz b) ⟨tc, hg, hc, fun b o hb hz2 => hz2.elim (hd b (hown b o hb)) (fun h => hzS b h (hown b o hb)), fun b hb => hb.elim (hnb b) (fun h => (hzb b h).1), ⟨Z, hT, hk, fun _ => Iff.rfl, hzZ⟩, by rw [e]; simpa using hl⟩ (by rw [e]; exact srt) hx1 (fun h => h.elim (hd _ own) (fun h => hzS _ h own)) (by rw [e] at hht; omega)) ?_
    rintro _ H2 ⟨rfl, Z2, ⟨Z3, hT3, hk3, hZ3, hZd3⟩, hF2, hZ2⟩
    refine ⟨trivial, ?_⟩
    refine Pl.fin [] trivial ?_
    refine Go'.fall Try.func155 Try.results155 (vs := []) trivial ?_
    rw [e] at hT3
    exact ⟨Z3, hT3, hf0.trans' hF2 (fun _ _ _ h => h.elim) (fun _ _ _ h => h), fun b hb => (hZ2 b ((hZ3 b).2 (.inl hb))).elim (fun h => h.elim .inl (fun h => absurd h (hZd3 b hb))) (fun h => .inr (by omega))⟩

theorem DescendHint_spec {B : World} {g : FuncId} {us cs : List Value} {go : List (Int × Int) → Bool} {M : Nat} (cb : Cb Try.prog B encIt g us cs go M) (hcall : ∀ (args : Array Value) (w : World), (callFunc g args).run Try.prog w = .ok (.enter g args) w) {tr : Nat} {P : Ps} (hP : PsOk P) (x : Int × Int) {H : Mem} {S : Nat → Prop} {l : List (Int × Int)} {Z : Nat → Prop} (hM : MapM H tr P S l) (hT : cb.T [] Z H) (hd : ∀ b, S b → ¬ Z b) (hnb : ∀ b, Z b → ¬ (b < cx.base ∧ cx.own b)) (hl : l.length ≤ M) (hM6 : M ≤ 4294967296) {hv : Value} {hz : Nat → Prop} (hk : HintOk H hv hz) (hzS : ∀ b, hz b → ¬ S b) (hzZ : ∀ b, Z b → ¬ hz b) :
    Fn Try.prog B 147 [.pointer (some ⟨tr, 0, none⟩), .agg (EJ.enc x).toArray, .func (.func g) us.toArray cs.toArray, hv] H (fun _ H' => ∃ Z', cb.T (takes go [] ((Pl.dn OI x (l)).reverse)).1 Z' H' ∧ Fr (fun b _ => Z b ∨ hz b) H H' ∧ ∀ b, Z' b → Z b ∨ H.size ≤ b) := by
  refine fn_of Try.func147 rfl Try.ntmps147 ?_
  refine (show Go' _ _ _ _ 13 [(0, _), (1, _), (2, _), (3, _)] [.code _] _ from ?_)
  refine Go'.seq ?_
  -- region 0 (btreeg.go:1146)
  refine Go'.region [(0, 2)] rfl ?_
  refine O.box rfl rfl rfl rfl ?_
  intro H0 M0
  refine ⟨trivial, ?_⟩
  have hs0 := M0.size
  have hf0 := M0.fr nowhere
  have mi : Rd H0 H.size 0 (EJ.enc x) := M0.rd _ [] (by simp [Value.cells])
  replace hM := hM.fr hf0 (fun _ _ _ => nw)
  replace hT := cb.fr hT hf0 (fun _ _ _ => nw)
  replace hk := hk.fr hf0 (fun _ _ _ => nw)
  refine Pl.fin [(0, _), (2, _), (3, _), (5, _)] ⟨rfl, rfl, rfl, rfl, trivial⟩ ?_
  -- region 1 (btreeg.go:1149)
  refine Go'.region [(0, 0), (1, 1), (2, 0), (3, 0), (4, 2)] rfl ?_
  refine O.mv rfl rfl rfl rfl rfl ?_
  refine O.lds rfl rfl rfl (fun w => ⟨Try.isAgg27 w, Try.sizeOf27 w⟩) rfl rfl mi ?_
  refine O.mv rfl rfl rfl rfl rfl ?_
  refine O.mv rfl rfl rfl rfl rfl ?_
  refine O.call rfl rfl rfl Try.call155 rfl (descend_spec cb hcall hP false x hM hT hd hnb hl hM6 hk hzS hzZ) ?_
  rintro _ H2 ⟨Z2, hT2, hF2, hZ2⟩
  refine ⟨trivial, ?_⟩
  refine Pl.fin [] trivial ?_
  refine Go'.fall Try.func147 Try.results147 (vs := []) trivial ?_
  exact ⟨Z2, hT2, hf0.trans' hF2 (fun _ _ _ h => h.elim) (fun _ _ _ h => h), fun b hb => (hZ2 b hb).imp id (fun h => by omega)⟩

end
end Go.Bt.FG
namespace Go.Bt.FG
open Go Go.Proofs
set_option maxRecDepth 20000
set_option maxHeartbeats 4000000
set_option linter.unusedVariables false
set_option linter.unusedSectionVars false

theorem firstN_len {α : Type} (l : List α) (n : Int) : (firstN l n).length ≤ l.length := by
  unfold firstN; split
  · exact Nat.le_refl _
  · rw [List.length_take]; omega

theorem turned_spec {B : World} {H : Mem} {u : Value} {l : List (Int × Int)} (hi : InS EJ H u l) (hll : l.length ≤ 4294967296) :
    Fn Try.prog B 145 [u] H (fun r H' => OutS EJ H' r l.reverse ∧ Fr nowhere H H') := by
  obtain ⟨a, c, hu⟩ := hi.len
  subst hu
  refine fn_of Try.func145 rfl Try.ntmps145 ?_
  refine (show Go' _ _ _ _ 20 [(0, _)] [.code _] _ from ?_)
  refine Go'.seq ?_
  -- region 0 (list.go:91)
  refine Go'.region [(0, 0)] rfl ?_
  refine O.asg rfl rfl rfl rfl rfl ?_
  refine Pl.fin [(0, _), (2, _)] ⟨rfl, rfl, trivial⟩ ?_
  refine Go'.seq ?_
  -- region 1 (list.go:92)
  refine Go'.region [(0, 0)] rfl ?_
  refine O.asg rfl rfl rfl rfl rfl ?_
  refine Pl.fin [(0, _), (2, _), (3, _)] ⟨rfl, rfl, rfl, trivial⟩ ?_
  refine Go'.seq ?_
  refine Go'.seq ?_
  -- region 2 (list.go:93)
  refine Go'.region [(0, 0), (1, 0), (2, 0), (3, 0)] rfl ?_
  refine O.mv rfl rfl rfl rfl rfl ?_
  refine O.len rfl rfl rfl rfl Try.underlying25 rfl ?_
  refine O.sub (((l.length : Nat) : Int) - 1) rfl rfl rfl rfl rfl rfl (by omega) (by omega) ?_
  refine O.asg rfl rfl rfl rfl rfl ?_
  refine Pl.fin [(0, _), (2, _), (3, _), (4, _)] ⟨rfl, rfl, rfl, rfl, trivial⟩ ?_
  refine Go'.block ?_
  refine Go'.loop ?_
  refine Go'.keep [(0, _), (3, _), (4, _)] ⟨rfl, rfl, rfl, trivial⟩ ?_
  refine Go'.ind (σ := Nat × Value) (fun s => s.1) (fun s H' => Fr nowhere H H' ∧ s.1 ≤ l.length ∧ OutS EJ H' s.2 (l.drop s.1).reverse ∧ (s.2 = .slice none 0 0 ∧ s.1 = l.length ∨ ∃ b o c, s.2 = .slice (some ⟨b, o, none⟩) (l.length - s.1) c ∧ H.size ≤ b ∧ Sl H' b o (l.length - s.1) c 2 (row EJ (l.drop s.1).reverse)))
    (fun s => [(0, .slice a l.length c), (3, s.2), (4, .int .i64 ((s.1 : Int) - 1))]) (l.length, .slice none 0 0) ⟨Fr.refl _ _, Nat.le_refl _, .inl ⟨rfl, by simp⟩, .inl ⟨rfl, rfl⟩⟩ rfl ?_
  rintro ⟨j, sv⟩ H2 ⟨hF, hjl, hsv, hcase⟩ ih
  simp only at hjl hsv hcase
  have hi2 := hi.fr hF
  refine Go'.seq ?_
  refine Go'.seq ?_
  rcases j with _ | j
  · skip
    -- region 3 (list.go:93)
    refine Go'.region [(0, 0), (1, 0)] rfl ?_
    refine O.mv rfl rfl rfl rfl rfl ?_
    refine O.cmp rfl rfl rfl rfl rfl rfl (geqF (by show ((0 : Nat) : Int) - 1 < 0; omega)) ?_
    refine Pl.fin [(0, _), (3, _), (4, _), (9, _)] ⟨rfl, rfl, rfl, rfl, trivial⟩ ?_
    refine Go'.condF rfl ?_
    refine Go'.exit rfl ?_
    refine Go'.seq ?_
    -- region 6 (list.go:96)
    refine Go'.region [(0, 0), (1, 0)] rfl ?_
    refine O.mv rfl rfl rfl rfl rfl ?_
    refine O.asg rfl rfl rfl rfl rfl ?_
    refine Pl.fin [(2, _)] ⟨rfl, trivial⟩ ?_
    refine Go'.ret (vs := [_]) Try.func145 Try.results145 ⟨rfl, trivial⟩ ?_
    rw [List.drop_zero] at hsv
    exact ⟨hsv, hF⟩
  · skip
    obtain ⟨y, hy⟩ : ∃ y, l[j]? = some y := ⟨l[j], List.getElem?_eq_getElem (by omega)⟩
    obtain ⟨b, o, c', e, hr⟩ := hi2.at hy
    cases e
    have ej : (((j + 1 : Nat) : Int) - 1) = (j : Int) := by omega
    have hx : (l.drop j).reverse = (l.drop (j + 1)).reverse ++ [y] := by
      obtain ⟨h1, h2⟩ := List.getElem?_eq_some_iff.1 hy
      rw [← List.getElem_cons_drop (h := h1), h2, List.reverse_cons]
    have hl1 : (l.drop j).reverse.length = l.length - j := by rw [List.length_reverse, List.length_drop]
    rw [ej]
    -- region 3 (list.go:93)
    refine Go'.region [(0, 0), (1, 0)] rfl ?_
    refine O.mv rfl rfl rfl rfl rfl ?_
    refine O.cmp rfl rfl rfl rfl rfl rfl (geqT (by omega)) ?_
    refine Pl.fin [(0, _), (3, _), (4, _), (9, _)] ⟨rfl, rfl, rfl, rfl, trivial⟩ ?_
    refine Go'.condT rfl ?_
    refine Go'.skip ?_
    refine Go'.seq ?_
    refine Go'.block ?_
    rcases hcase with ⟨rfl, hj0⟩ | ⟨b1, o1, c1, rfl, hb1, hs1⟩
    · skip
      -- region 5 (list.go:94)
      refine Go'.region [(0, 0), (1, 0), (2, 0), (3, 0), (4, 1), (5, 2), (6, 2), (7, 0)] rfl ?_
      refine O.mv rfl rfl rfl rfl rfl ?_
      refine O.mv rfl rfl rfl rfl rfl ?_
      refine O.mv rfl rfl rfl rfl rfl ?_
      refine O.ix (j := j) rfl rfl rfl rfl Try.underlying25 Try.sizeOf27 rfl rfl (by omega) (by omega) ?_
      refine O.lds rfl rfl rfl (fun w => ⟨Try.isAgg27 w, Try.sizeOf27 w⟩) rfl rfl hr ?_
      refine O.bsl (cs := (EJ.enc y)) rfl rfl rfl ⟨Try.underlying25, Try.sizeOf27, Try.zeroValue27, ⟨_, Try.typeInfo27, rfl⟩, rfl, by decide, by decide⟩ rfl (by decide) (by kernel_rfl) ?_
      intro H5 M5
      have hs5 := M5.size
      have hsz := hF.size
      have m5 : Rd H5 H2.size 0 (EJ.enc y) := M5.rd _ [] (by simp)
      refine ⟨trivial, ?_⟩
      refine O.appN (m := 1) (news := (EJ.enc y)) rfl rfl rfl ⟨Try.underlying25, Try.sizeOf27, Try.zeroValue27, ⟨_, Try.typeInfo27, rfl⟩, rfl, by decide, by decide⟩ rfl rfl ⟨_, _, _, rfl, m5⟩ rfl (Nat.le_trans (Nat.mul_le_mul_left _ (Nat.le_of_ble_eq_true (n := _) (m := 4096) rfl)) (by omega)) (by omega) (by omega) ?_
      intro c2 H6 hsl6 fa hs6
      have hF6 : Fr nowhere H H6 := (hF.trans (M5.fr nowhere)).trans fa
      have hlj : l.length - j = 1 := by omega
      have hrow : row EJ (l.drop j).reverse = EJ.enc y := by rw [hx, show l.drop (j + 1) = [] from List.drop_of_length_le (by omega)]; simp [row]
      refine ⟨trivial, ?_⟩
      refine O.asg rfl rfl rfl rfl rfl ?_
      refine Pl.fin [(0, _), (3, _), (4, _), (9, _)] ⟨rfl, rfl, rfl, rfl, trivial⟩ ?_
      refine Go'.inBlock ?_
      -- region 4 (list.go:93)
      refine Go'.region [(0, 0), (1, 0), (2, 0)] rfl ?_
      refine O.mv rfl rfl rfl rfl rfl ?_
      refine O.sub (((j : Nat) : Int) - 1) rfl rfl rfl rfl rfl rfl (by omega) (by omega) ?_
      refine O.asg rfl rfl rfl rfl rfl ?_
      refine Pl.fin [(0, _), (3, _), (4, _), (9, _)] ⟨rfl, rfl, rfl, rfl, trivial⟩ ?_
      refine Go'.keep [(0, _), (3, _), (4, _)] ⟨rfl, rfl, rfl, trivial⟩ ?_
      refine Go'.inLoop ?_
      refine ih (j, .slice (some ⟨H5.size, 0, none⟩) 1 c2) H6 ⟨hF6, by simp only; omega, .inr ⟨H5.size, 0, c2, by rw [hl1, hlj], SlE.of (hrow ▸ hsl6) rfl (by rw [hl1, hlj])⟩, .inr ⟨H5.size, 0, c2, by rw [hlj], by omega, by rw [hlj]; exact hrow ▸ hsl6⟩⟩ (by simp only; omega)
    · skip
      -- region 5 (list.go:94)
      refine Go'.region [(0, 0), (1, 0), (2, 0), (3, 0), (4, 1), (5, 2), (6, 2), (7, 0)] rfl ?_
      refine O.mv rfl rfl rfl rfl rfl ?_
      refine O.mv rfl rfl rfl rfl rfl ?_
      refine O.mv rfl rfl rfl rfl rfl ?_
      refine O.ix (j := j) rfl rfl rfl rfl Try.underlying25 Try.sizeOf27 rfl rfl (by omega) (by omega) ?_
      refine O.lds rfl rfl rfl (fun w => ⟨Try.isAgg27 w, Try.sizeOf27 w⟩) rfl rfl hr ?_
      refine O.bsl (cs := (EJ.enc y)) rfl rfl rfl ⟨Try.underlying25, Try.sizeOf27, Try.zeroValue27, ⟨_, Try.typeInfo27, rfl⟩, rfl, by decide, by decide⟩ rfl (by decide) (by kernel_rfl) ?_
      intro H5 M5
      have hs5 := M5.size
      have hsz := hF.size
      have m5 : Rd H5 H2.size 0 (EJ.enc y) := M5.rd _ [] (by simp)
      replace hs1 := hs1.fr (M5.fr nowhere) (fun _ _ => nw)
      refine ⟨trivial, ?_⟩
      refine O.app (m := 1) (news := (EJ.enc y)) rfl rfl rfl ⟨Try.underlying25, Try.sizeOf27, Try.zeroValue27, ⟨_, Try.typeInfo27, rfl⟩, rfl, by decide, by decide⟩ rfl hs1 rfl (.inl ⟨_, _, _, rfl, m5⟩) rfl rfl (Nat.le_trans (Nat.mul_le_mul_left _ (Nat.le_of_ble_eq_true (n := _) (m := 4096) rfl)) (by omega)) (by omega) ?_
      intro b2 o2 c2 H6 ha
      obtain ⟨fa, pa⟩ : Fr (fun x _ => x = b1) H5 H6 ∧ (b2 = b1 ∨ H5.size ≤ b2) := (App.rp ha)
      have hF6 : Fr nowhere H H6 := (hF.trans (M5.fr nowhere)).trans' fa (fun _ _ _ h => h) (fun x o hx hz => by have hz' : x = b1 := hz; omega)
      have ejj : l.length - (j + 1) + 1 = l.length - j := by omega
      have hsl6 : Sl H6 b2 o2 (l.length - j) c2 2 (row EJ (l.drop j).reverse) := by rw [hx, row_append, row_one, ← ejj]; exact ha.sl
      rw [ejj]
      refine ⟨trivial, ?_⟩
      refine O.asg rfl rfl rfl rfl rfl ?_
      refine Pl.fin [(0, _), (3, _), (4, _), (9, _)] ⟨rfl, rfl, rfl, rfl, trivial⟩ ?_
      refine Go'.inBlock ?_
      -- region 4 (list.go:93)
      refine Go'.region [(0, 0), (1, 0), (2, 0)] rfl ?_
      refine O.mv rfl rfl rfl rfl rfl ?_
      refine O.sub (((j : Nat) : Int) - 1) rfl rfl rfl rfl rfl rfl (by omega) (by omega) ?_
      refine O.asg rfl rfl rfl rfl rfl ?_
      refine Pl.fin [(0, _), (3, _), (4, _), (9, _)] ⟨rfl, rfl, rfl, rfl, trivial⟩ ?_
      refine Go'.keep [(0, _), (3, _), (4, _)] ⟨rfl, rfl, rfl, trivial⟩ ?_
      refine Go'.inLoop ?_
      refine ih (j, .slice (some ⟨b2, o2, none⟩) (l.length - j) c2) H6 ⟨hF6, by simp only; omega, .inr ⟨b2, o2, c2, by rw [hl1], SlE.of hsl6 rfl hl1.symm⟩, .inr ⟨b2, o2, c2, rfl, by omega, hsl6⟩⟩ (by simp only; omega)

theorem first_spec {B : World} {H : Mem} {u : Value} {l : List (Int × Int)} {n : Int} (hi : InS EJ H u l) :
    Fn Try.prog B 144 [u, .int .i64 n] H (fun r H' => InS EJ H' r (firstN l n) ∧ H' = H) := by
  obtain ⟨a, c, hu⟩ := hi.len
  subst hu
  refine fn_of Try.func144 rfl Try.ntmps144 ?_
  refine (show Go' _ _ _ _ 17 [(0, _), (1, _)] [.code _] _ from ?_)
  refine Go'.seq ?_
  -- region 0 (list.go:100)
  refine Go'.region [(0, 0)] rfl ?_
  refine O.asg rfl rfl rfl rfl rfl ?_
  refine Pl.fin [(0, _), (1, _), (4, _)] ⟨rfl, rfl, rfl, trivial⟩ ?_
  refine Go'.seq ?_
  refine Go'.seq ?_
  by_cases h1 : n < 1
  · skip
    -- region 1 (list.go:101)
    refine Go'.region [(0, 0), (1, 0), (2, 0), (3, 0), (4, 0), (5, 0), (6, 0), (7, 0)] rfl ?_
    refine O.mv rfl rfl rfl rfl rfl ?_
    refine O.cmp rfl rfl rfl rfl rfl rfl (lssT (by omega)) ?_
    refine O.mv rfl rfl rfl rfl rfl ?_
    refine Pl.pass rfl rfl rfl rfl ?_
    refine Pl.pass rfl rfl rfl rfl ?_
    refine Pl.pass rfl rfl rfl rfl ?_
    refine Pl.pass rfl rfl rfl rfl ?_
    refine O.pick rfl rfl rfl rfl rfl rfl ?_
    refine Pl.fin [(0, _), (1, _), (4, _), (12, _)] ⟨rfl, rfl, rfl, rfl, trivial⟩ ?_
    refine Go'.condT rfl ?_
    refine Go'.seq ?_
    -- region 2 (list.go:102)
    refine Go'.region [(0, 0), (1, 0)] rfl ?_
    refine O.mv rfl rfl rfl rfl rfl ?_
    refine O.asg rfl rfl rfl rfl rfl ?_
    refine Pl.fin [(0, _), (1, _), (4, _)] ⟨rfl, rfl, rfl, trivial⟩ ?_
    refine Go'.ret (vs := [_]) Try.func144 Try.results144 ⟨rfl, trivial⟩ ?_
    exact ⟨by unfold firstN; rw [if_pos (.inl h1)]; exact hi, rfl⟩
  · skip
    by_cases h2 : (l.length : Int) < n
    · skip
      -- region 1 (list.go:101)
      refine Go'.region [(0, 0), (1, 0), (2, 0), (3, 0), (4, 0), (5, 0), (6, 0), (7, 0)] rfl ?_
      refine O.mv rfl rfl rfl rfl rfl ?_
      refine O.cmp rfl rfl rfl rfl rfl rfl (lssF (by omega)) ?_
      refine O.mv rfl rfl rfl rfl rfl ?_
      refine O.mv rfl rfl rfl rfl rfl ?_
      refine O.mv rfl rfl rfl rfl rfl ?_
      refine O.len rfl rfl rfl rfl Try.underlying25 rfl ?_
      refine O.cmp rfl rfl rfl rfl rfl rfl (gtrT (by omega)) ?_
      refine O.pick rfl rfl rfl rfl rfl rfl ?_
      refine Pl.fin [(0, _), (1, _), (4, _), (12, _)] ⟨rfl, rfl, rfl, rfl, trivial⟩ ?_
      refine Go'.condT rfl ?_
      refine Go'.seq ?_
      -- region 2 (list.go:102)
      refine Go'.region [(0, 0), (1, 0)] rfl ?_
      refine O.mv rfl rfl rfl rfl rfl ?_
      refine O.asg rfl rfl rfl rfl rfl ?_
      refine Pl.fin [(0, _), (1, _), (4, _)] ⟨rfl, rfl, rfl, trivial⟩ ?_
      refine Go'.ret (vs := [_]) Try.func144 Try.results144 ⟨rfl, trivial⟩ ?_
      exact ⟨by unfold firstN; rw [if_pos (.inr h2)]; exact hi, rfl⟩
    · skip
      obtain ⟨m, rfl⟩ := Int.eq_ofNat_of_zero_le (by omega : 0 ≤ n)
      -- region 1 (list.go:101)
      refine Go'.region [(0, 0), (1, 0), (2, 0), (3, 0), (4, 0), (5, 0), (6, 0), (7, 0)] rfl ?_
      refine O.mv rfl rfl rfl rfl rfl ?_
      refine O.cmp rfl rfl rfl rfl rfl rfl (lssF (by omega)) ?_
      refine O.mv rfl rfl rfl rfl rfl ?_
      refine O.mv rfl rfl rfl rfl rfl ?_
      refine O.mv rfl rfl rfl rfl rfl ?_
      refine O.len rfl rfl rfl rfl Try.underlying25 rfl ?_
      refine O.cmp rfl rfl rfl rfl rfl rfl (gtrF (by omega)) ?_
      refine O.pick rfl rfl rfl rfl rfl rfl ?_
      refine Pl.fin [(0, _), (1, _), (4, _), (12, _)] ⟨rfl, rfl, rfl, rfl, trivial⟩ ?_
      refine Go'.condF rfl ?_
      refine Go'.skip ?_
      refine Go'.seq ?_
      -- region 3 (list.go:104)
      refine Go'.region [(0, 0), (1, 0), (2, 0), (3, 0)] rfl ?_
      refine O.mv rfl rfl rfl rfl rfl ?_
      refine O.mv rfl rfl rfl rfl rfl ?_
      refine O.slcIn (E := EJ) (jl := 0) (jh := m) rfl rfl rfl rfl Try.underlying25 Try.sizeOf27 rfl hi ⟨_, by rfl⟩ rfl (by omega) (by omega) ?_
      intro v1 hv1
      rw [List.drop_zero, Nat.sub_zero] at hv1
      refine O.asg rfl rfl rfl rfl rfl ?_
      refine Pl.fin [(4, _)] ⟨rfl, trivial⟩ ?_
      refine Go'.ret (vs := [_]) Try.func144 Try.results144 ⟨rfl, trivial⟩ ?_
      exact ⟨by unfold firstN; rw [if_neg (by omega)]; exact hv1, rfl⟩

end Go.Bt.FG
