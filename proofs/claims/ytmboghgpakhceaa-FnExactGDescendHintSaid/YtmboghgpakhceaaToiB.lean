/- Contracts of functions of the program, proved by walking through their code. Conditions: those that each theorem names. -/
import Derived.Test.YtmboghgpakhceaaTogR
import Derived.Test.YtmboghgpakhceaaToHi
namespace Go.Bt.FG
open Go Go.Proofs
set_option maxRecDepth 20000
set_option maxHeartbeats 4000000
set_option linter.unusedVariables false
set_option linter.unusedSectionVars false

end Go.Bt.FG
namespace Go.Bt.Pl
theorem inter_last {α : Type} {X : List α} {K : List (List α)} {k : List α} (hl : K.length = X.length + 1) (hk : K[X.length]? = some k) : inter X K = pre X (K.take X.length) ++ k := by
  have hsp : K = K.take X.length ++ [k] := by
    have h1 := (List.getElem?_eq_some_iff.1 hk)
    obtain ⟨h1, h2⟩ := h1
    conv => lhs; rw [← List.take_append_drop X.length K]
    rw [← List.getElem_cons_drop (h := h1), h2, List.drop_of_length_le (by omega)]
  have := inter_focus X [] (K.take X.length) k [] (by rw [List.length_take]; omega) rfl
  rw [List.append_nil] at this
  rw [hsp] at this ⊢
  simp only [post, List.append_nil] at this
  rw [show (List.take X.length K ++ [k]).take X.length = K.take X.length by rw [List.take_append_of_le_length (by rw [List.length_take]; omega), List.take_take, Nat.min_self]]
  rw [show (List.take X.length K ++ [k]).take X.length = K.take X.length by rw [List.take_append_of_le_length (by rw [List.length_take]; omega), List.take_take, Nat.min_self]] at this
  exact this
theorem inter_drop1 {α : Type} {X : List α} {K : List (List α)} {x : α} {k : List α} {j : Nat} (hx : X[j]? = some x) (hk : K[j]? = some k) : inter (X.drop j) (K.drop j) = k ++ x :: inter (X.drop (j + 1)) (K.drop (j + 1)) := by
  obtain ⟨h1, h2⟩ := List.getElem?_eq_some_iff.1 hx
  obtain ⟨h3, h4⟩ := List.getElem?_eq_some_iff.1 hk
  rw [← List.getElem_cons_drop (h := h1), ← List.getElem_cons_drop (h := h3), h2, h4]
  rfl
theorem inter_dropn {α : Type} {X : List α} {K : List (List α)} (hl : K.length = X.length + 1) : ∀ j, j ≤ X.length → ∃ A, inter X K = A ++ inter (X.drop j) (K.drop j)
  | 0, _ => ⟨[], by simp⟩
  | j + 1, h => by
    obtain ⟨A, hA⟩ := inter_dropn hl j (by omega)
    exact ⟨A ++ K[j]'(by omega) ++ [X[j]'(by omega)], by rw [hA, inter_drop1 (List.getElem?_eq_getElem (by omega)) (List.getElem?_eq_getElem (by omega))]; simp⟩
end Go.Bt.Pl
namespace Go.Bt.FG
open Go Go.Proofs
set_option maxRecDepth 20000
set_option maxHeartbeats 4000000
set_option linter.unusedVariables false
set_option linter.unusedSectionVars false

def encIt (x : Int × Int) : List Value := [.agg (EJ.enc x).toArray]
theorem takes_stop {go : List (Int × Int) → Bool} {acc l r : List (Int × Int)} (h : (takes go acc l).2 = false) : takes go acc (l ++ r) = takes go acc l := by rw [takes_append, h]; rfl
theorem takes_on {go : List (Int × Int) → Bool} {acc l r : List (Int × Int)} (h : (takes go acc l).2 = true) : takes go acc (l ++ r) = takes go (takes go acc l).1 r := by rw [takes_append, h]; rfl

end Go.Bt.FG
namespace Go.Bt.Pl
end Go.Bt.Pl
namespace Go.Bt.FG
open Go Go.Proofs
set_option maxRecDepth 20000
set_option maxHeartbeats 4000000
set_option linter.unusedVariables false
set_option linter.unusedSectionVars false



section
variable [Inhabited Cx]
/-- What a reader with a function is called with. -/
structure VPre {P' : Program} {B : World} {g : FuncId} {us cs : List Value} {go : List (Int × Int) → Bool} {M : Nat} (cb : Cb P' B encIt g us cs go M) (H : Mem) (tr : Nat) (P : Ps) (h : Nat) (t : Gt EJ h) (bp op : Nat) (acc : List (Int × Int)) (Z : Nat → Prop) : Prop where
  tc : TrC H tr P.iso P.mx P.mn
  g : Gt.Good H P h t
  cel : cl H bp op = some (ptr (Gt.p h t))
  nz : ∀ b o, Gt.af h t b o → ¬ Z b
  nb : ∀ b, Z b → ¬ (b < cx.base ∧ cx.own b)
  st : cb.T acc Z H
  len : acc.length + (Gt.L h t).length ≤ M
theorem nrev0 {B : World} {g : FuncId} {us cs : List Value} {go : List (Int × Int) → Bool} {M : Nat} (cb : Cb Try.prog B encIt g us cs go M) (hcall : ∀ (args : Array Value) (w : World), (callFunc g args).run Try.prog w = .ok (.enter g args) w) {tr : Nat} {P : Ps} (hP : PsOk P) (mt : Bool) {H : Mem} {bp op : Nat} {acc : List (Int × Int)} {Z : Nat → Prop} {t : Gt EJ 0} (hp : VPre cb H tr P 0 t bp op acc Z) :
    Fn Try.prog B 189 [.pointer (some ⟨tr, 0, none⟩), .pointer (some ⟨bp, op, none⟩), .func (.func g) us.toArray cs.toArray, .bool mt] H (fun r H' => r = .bool (takes go acc (Gt.L 0 t).reverse).2 ∧ CbPost cb acc Z H (Gt.L 0 t).reverse H') := by
  obtain ⟨gg, X⟩ := t
  obtain ⟨tc, hg, hc, hnz, hntr, hst, hlen⟩ := hp
  have hN : NodeM EJ H gg X (.pointer none) := hg.1
  have hiso : gg.iso = P.iso := hg.2.1
  have hxm : X.length ≤ P.mx := hg.2.2.2
  have hx255 := hP.hx
  replace hlen : acc.length + X.length ≤ M := hlen
  have hc0 := hN.c0
  rw [hiso] at hc0
  have hltN : ∀ b o, ncl EJ gg b o → b < H.size := fun b o hb => NodeM.lt hN hb
  show Fn _ _ _ _ _ (fun r H' => r = .bool (takes go acc X.reverse).2 ∧ CbPost cb acc Z H X.reverse H')
  refine fn_of Try.func189 rfl Try.ntmps189 ?_
  refine (show Go' _ _ _ _ 91 [(0, _), (1, _), (2, _), (3, _)] [.code _] _ from ?_)
  refine Go'.seq ?_
  -- region 0 (btreeg.go:1100)
  refine Go'.region [(0, 0)] rfl ?_
  refine O.asg rfl rfl rfl rfl rfl ?_
  refine Pl.fin [(0, _), (1, _), (2, _), (3, _), (8, _)] ⟨rfl, rfl, rfl, rfl, rfl, trivial⟩ ?_
  refine Go'.seq ?_
  -- region 1 (btreeg.go:1102)
  refine Go'.region [(0, 0), (1, 0), (2, 0), (3, 2), (4, 0)] rfl ?_
  refine O.mv rfl rfl rfl rfl rfl ?_
  refine O.mv rfl rfl rfl rfl rfl ?_
  refine O.mv rfl rfl rfl rfl rfl ?_
  refine O.callQ rfl rfl rfl Try.call130 rfl (isoLoad_spec mt hc hc0 tc.iso) trivial ?_
  refine O.asg rfl rfl rfl rfl rfl ?_
  refine Pl.fin [(0, _), (2, _), (3, _), (8, _), (9, _)] ⟨rfl, rfl, rfl, rfl, rfl, trivial⟩ ?_
  refine Go'.seq ?_
  refine Go'.seq ?_
  unfold ptr
  -- region 2 (btreeg.go:1103)
  refine Go'.region [(0, 0), (1, 2)] rfl ?_
  refine O.mv rfl rfl rfl rfl rfl ?_
  refine O.callQ rfl rfl rfl Try.call133 rfl (leaf_spec hN.c3) trivial ?_
  refine Pl.fin [(0, _), (2, _), (3, _), (8, _), (9, _), (17, _)] ⟨rfl, rfl, rfl, rfl, rfl, rfl, trivial⟩ ?_
  refine Go'.condT rfl ?_
  refine Go'.seq ?_
  refine Go'.seq ?_
  -- region 3 (btreeg.go:1104)
  refine Go'.region [(0, 0), (1, 0), (2, 0), (3, 1), (4, 0), (5, 0), (6, 0)] rfl ?_
  refine O.mv rfl rfl rfl rfl rfl ?_
  refine O.nc rfl rfl rfl rfl rfl ?_
  refine O.fa0 (off := 2) rfl rfl rfl rfl ⟨_, _, _, Try.underlying168, rfl, rfl, Try.sizeOf25⟩ rfl ?_
  refine O.ld rfl rfl rfl (fun w => ⟨Try.isAgg25 w, Try.sizeOf25 w⟩) rfl hN.c2 ?_
  refine O.len rfl rfl rfl rfl Try.underlying25 rfl ?_
  refine O.sub (((X.length : Nat) : Int) - 1) rfl rfl rfl rfl rfl rfl (by omega) (by omega) ?_
  refine O.asg rfl rfl rfl rfl rfl ?_
  refine Pl.fin [(0, _), (2, _), (3, _), (8, _), (9, _), (10, _)] ⟨rfl, rfl, rfl, rfl, rfl, rfl, trivial⟩ ?_
  refine Go'.block ?_
  refine Go'.loop ?_
  refine Go'.keep [(2, _), (9, _), (10, _)] ⟨rfl, rfl, rfl, trivial⟩ ?_
  refine Go'.ind (σ := Nat × (Nat → Prop)) (fun s => s.1) (fun s H' => s.1 ≤ X.length ∧ (takes go acc (X.drop s.1).reverse).2 = true ∧ cb.T (takes go acc (X.drop s.1).reverse).1 s.2 H' ∧ Fr (fun b _ => Z b) H H' ∧ ∀ b, s.2 b → Z b ∨ H.size ≤ b)
    (fun s => [(2, .func (.func g) us.toArray cs.toArray), (9, .pointer (some ⟨gg.p, 0, none⟩)), (10, .int .i64 ((s.1 : Int) - 1))]) (X.length, Z) ⟨Nat.le_refl _, by simp [takes], by simpa [takes] using hst, Fr.refl _ _, fun b hb => .inl hb⟩ rfl ?_
  rintro ⟨j, Z1⟩ H2 ⟨hj, htk, hT, hF, hZ1⟩ ih
  simp only at hj htk hT hZ1
  replace hN := NodeM.fr EJ hN hF (fun x y hxy hz => hnz x y hxy hz)
  refine Go'.seq ?_
  refine Go'.seq ?_
  rcases j with _ | j
  · skip
    -- region 4 (btreeg.go:1104)
    refine Go'.region [(0, 0), (1, 0)] rfl ?_
    refine O.mv rfl rfl rfl rfl rfl ?_
    refine O.cmp rfl rfl rfl rfl rfl rfl (geqF (by show ((0 : Nat) : Int) - 1 < 0; omega)) ?_
    refine Pl.fin [(2, _), (9, _), (10, _), (25, _)] ⟨rfl, rfl, rfl, rfl, trivial⟩ ?_
    refine Go'.condF rfl ?_
    refine Go'.exit rfl ?_
    refine Go'.seq ?_
    -- region 8 (btreeg.go:1109)
    refine Go'.region [(0, 0)] rfl ?_
    refine O.asg rfl rfl rfl rfl rfl ?_
    refine Pl.fin [(2, _), (8, _), (9, _)] ⟨rfl, rfl, rfl, trivial⟩ ?_
    refine Go'.ret (vs := [_]) Try.func189 Try.results189 ⟨rfl, trivial⟩ ?_
    rw [List.drop_zero] at htk hT
    exact ⟨by rw [htk]; rfl, Z1, hT, hF, hZ1⟩
  · skip
    obtain ⟨y, hy⟩ : ∃ y, X[j]? = some y := ⟨X[j], List.getElem?_eq_getElem (by omega)⟩
    have hd : (X.drop j).reverse = (X.drop (j + 1)).reverse ++ [y] := by
      obtain ⟨h1, h2⟩ := List.getElem?_eq_some_iff.1 hy
      rw [← List.getElem_cons_drop (h := h1), h2, List.reverse_cons]
    have hall : X.reverse = (X.drop j).reverse ++ (X.take j).reverse := by rw [← List.reverse_append, List.take_append_drop]
    have htl := takes_length go (X.drop (j + 1)).reverse acc
    rw [List.length_reverse, List.length_drop] at htl
    have e1 : takes go acc (X.drop j).reverse = takes go (takes go acc (X.drop (j + 1)).reverse).1 [y] := by rw [hd, takes_on htk]
    generalize hA : (takes go acc (X.drop (j + 1)).reverse).1 = A at *
    have ej : (((j + 1 : Nat) : Int) - 1) = (j : Int) := by omega
    rw [ej]
    -- region 4 (btreeg.go:1104)
    refine Go'.region [(0, 0), (1, 0)] rfl ?_
    refine O.mv rfl rfl rfl rfl rfl ?_
    refine O.cmp rfl rfl rfl rfl rfl rfl (geqT (by omega)) ?_
    refine Pl.fin [(2, _), (9, _), (10, _), (25, _)] ⟨rfl, rfl, rfl, rfl, trivial⟩ ?_
    refine Go'.condT rfl ?_
    refine Go'.skip ?_
    refine Go'.seq ?_
    refine Go'.block ?_
    refine Go'.seq ?_
    cases hgo : go (A ++ [y])
    · skip
      -- region 6 (btreeg.go:1105)
      refine Go'.region [(0, 0), (1, 0), (2, 0), (3, 0), (4, 1), (5, 0), (6, 0), (7, 1), (8, 2), (9, 0)] rfl ?_
      refine O.mv rfl rfl rfl rfl rfl ?_
      refine O.mv rfl rfl rfl rfl rfl ?_
      refine O.nc rfl rfl rfl rfl rfl ?_
      refine O.fa0 (off := 2) rfl rfl rfl rfl ⟨_, _, _, Try.underlying168, rfl, rfl, Try.sizeOf25⟩ rfl ?_
      refine O.ld rfl rfl rfl (fun w => ⟨Try.isAgg25 w, Try.sizeOf25 w⟩) rfl hN.c2 ?_
      refine O.mv rfl rfl rfl rfl rfl ?_
      refine O.ix (j := j) rfl rfl rfl rfl Try.underlying25 Try.sizeOf27 rfl rfl (by omega) (by omega) ?_
      refine O.lds rfl rfl rfl (fun w => ⟨Try.isAgg27 w, Try.sizeOf27 w⟩) rfl rfl (hN.sl.item hy) ?_
      refine O.callC rfl rfl rfl rfl hcall rfl (cb.call y hT (by omega)) ?_
      rintro _ H3 ⟨rfl, Z2, hT2, hF2, hZ2⟩
      rw [hgo]
      have hsz := hF.size
      refine ⟨trivial, ?_⟩
      refine O.not rfl rfl rfl rfl rfl ?_
      refine Pl.fin [(2, _), (9, _), (10, _), (25, _), (37, _)] ⟨rfl, rfl, rfl, rfl, rfl, trivial⟩ ?_
      refine Go'.condT rfl ?_
      refine Go'.seq ?_
      -- region 7 (btreeg.go:1106)
      refine Go'.region [(0, 0)] rfl ?_
      refine O.asg rfl rfl rfl rfl rfl ?_
      refine Pl.fin [(2, _), (8, _), (9, _), (10, _), (25, _), (37, _)] ⟨rfl, rfl, rfl, rfl, rfl, rfl, trivial⟩ ?_
      refine Go'.ret (vs := [_]) Try.func189 Try.results189 ⟨rfl, trivial⟩ ?_
      have e2 : takes go acc (X.drop j).reverse = (A ++ [y], false) := by rw [e1]; simp [takes, hgo]
      have e3 : takes go acc X.reverse = (A ++ [y], false) := by rw [hall, takes_stop (by rw [e2]), e2]
      refine ⟨by rw [e3]; rfl, Z2, by rw [e3]; exact hT2, hF.trans' hF2 (fun _ _ _ h => h) (fun b o hb hz => (hZ1 b hz).elim id (fun h => by omega)), fun b hb => (hZ2 b hb).elim (hZ1 b) (fun h => .inr (by omega))⟩
    · skip
      -- region 6 (btreeg.go:1105)
      refine Go'.region [(0, 0), (1, 0), (2, 0), (3, 0), (4, 1), (5, 0), (6, 0), (7, 1), (8, 2), (9, 0)] rfl ?_
      refine O.mv rfl rfl rfl rfl rfl ?_
      refine O.mv rfl rfl rfl rfl rfl ?_
      refine O.nc rfl rfl rfl rfl rfl ?_
      refine O.fa0 (off := 2) rfl rfl rfl rfl ⟨_, _, _, Try.underlying168, rfl, rfl, Try.sizeOf25⟩ rfl ?_
      refine O.ld rfl rfl rfl (fun w => ⟨Try.isAgg25 w, Try.sizeOf25 w⟩) rfl hN.c2 ?_
      refine O.mv rfl rfl rfl rfl rfl ?_
      refine O.ix (j := j) rfl rfl rfl rfl Try.underlying25 Try.sizeOf27 rfl rfl (by omega) (by omega) ?_
      refine O.lds rfl rfl rfl (fun w => ⟨Try.isAgg27 w, Try.sizeOf27 w⟩) rfl rfl (hN.sl.item hy) ?_
      refine O.callC rfl rfl rfl rfl hcall rfl (cb.call y hT (by omega)) ?_
      rintro _ H3 ⟨rfl, Z2, hT2, hF2, hZ2⟩
      rw [hgo]
      have hsz := hF.size
      refine ⟨trivial, ?_⟩
      refine O.not rfl rfl rfl rfl rfl ?_
      refine Pl.fin [(2, _), (9, _), (10, _), (25, _), (37, _)] ⟨rfl, rfl, rfl, rfl, rfl, trivial⟩ ?_
      refine Go'.condF rfl ?_
      refine Go'.skip ?_
      refine Go'.inBlock ?_
      -- region 5 (btreeg.go:1104)
      refine Go'.region [(0, 0), (1, 0), (2, 0)] rfl ?_
      refine O.mv rfl rfl rfl rfl rfl ?_
      refine O.sub (((j : Nat) : Int) - 1) rfl rfl rfl rfl rfl rfl (by omega) (by omega) ?_
      refine O.asg rfl rfl rfl rfl rfl ?_
      refine Pl.fin [(2, _), (9, _), (10, _), (25, _), (37, _)] ⟨rfl, rfl, rfl, rfl, rfl, trivial⟩ ?_
      refine Go'.keep [(2, _), (9, _), (10, _)] ⟨rfl, rfl, rfl, trivial⟩ ?_
      refine Go'.inLoop ?_
      have e2 : takes go acc (X.drop j).reverse = (A ++ [y], true) := by rw [e1]; simp [takes, hgo]
      exact ih (j, Z2) H3 ⟨by simp only; omega, by rw [e2], by rw [e2]; exact hT2, hF.trans' hF2 (fun _ _ _ h => h) (fun b o hb hz => (hZ1 b hz).elim id (fun h => by omega)), fun b hb => (hZ2 b hb).elim (hZ1 b) (fun h => .inr (by omega))⟩ (by simp only; omega)

theorem nrev {B : World} {g : FuncId} {us cs : List Value} {go : List (Int × Int) → Bool} {M : Nat} (cb : Cb Try.prog B encIt g us cs go M) (hcall : ∀ (args : Array Value) (w : World), (callFunc g args).run Try.prog w = .ok (.enter g args) w) {tr : Nat} {P : Ps} (hP : PsOk P) (mt : Bool) : ∀ (h : Nat) {H : Mem} {bp op : Nat} {acc : List (Int × Int)} {Z : Nat → Prop} {t : Gt EJ h}, VPre cb H tr P h t bp op acc Z →
    Fn Try.prog B 189 [.pointer (some ⟨tr, 0, none⟩), .pointer (some ⟨bp, op, none⟩), .func (.func g) us.toArray cs.toArray, .bool mt] H (fun r H' => r = .bool (takes go acc (Gt.L h t).reverse).2 ∧ CbPost cb acc Z H (Gt.L h t).reverse H')
  | 0, _, _, _, _, _, _, hp => nrev0 cb hcall hP mt hp
  | h + 1, H, bp, op, acc, Z, (gg, X, K), hp => by
    have ih := @nrev B g us cs go M cb hcall tr P hP mt h
    obtain ⟨tc, hg, hc, hnz, hntr, hst, hlen⟩ := hp
    have hI : Inn H P h gg X ((Gt.ps h K).map some) K := hg.inn
    have hKl : K.length = X.length + 1 := hg.2.2.2.2.2.1
    have hxm : X.length ≤ P.mx := hg.2.2.2.2.1
    have hx255 := hP.hx
    have hKL : (K.map (Gt.L h)).length = X.length + 1 := by rw [List.length_map]; exact hKl
    have hol : ((Gt.ps h K).map some).length = X.length + 1 := by rw [List.length_map, Gt.ps, List.length_map]; exact hKl
    replace hlen : acc.length + (Pl.inter X (K.map (Gt.L h))).length ≤ M := hlen
    have hlt : ∀ x y, innc h gg K x y → x < H.size := fun x y hb => hI.lt hb
    obtain ⟨_, _, _, hkb⟩ := hI.cells
    have hkz : ¬ Z gg.kb := fun e => hnz gg.kb gg.ko (.inr (.inl (show kcl gg gg.kb gg.ko from .inr ⟨rfl, Nat.le_refl _, by have := hI.k.kc; omega⟩))) e
    have htl : tr < H.size := cl_lt tc.iso
    have hc0 := hI.n.c0
    rw [hI.iso] at hc0
    have hin : ∀ H', Fr (fun x _ => Z x) H H' → Inn H' P h gg X ((Gt.ps h K).map some) K := fun H' hf => hI.fr hf (fun x y hxy hz => hnz x y hxy hz)
    have htc : ∀ H', Fr (fun x _ => Z x) H H' → TrC H' tr P.iso P.mx P.mn := fun H' hf => tc.fr hf fun b o hb _ hz => hntr b hz hb
    -- a child at any time
    have hkid : ∀ {H2 : Mem} {Z1 : Nat → Prop} {A : List (Int × Int)} {j : Nat} {k : Gt EJ h}, K[j]? = some k → Fr (fun x _ => Z x) H H2 → cb.T A Z1 H2 → (∀ b, Z1 b → Z b ∨ H.size ≤ b) → A.length + (Gt.L h k).length ≤ M → VPre cb H2 tr P h k gg.kb (gg.ko + j * 1) A Z1 := by
      intro H2 Z1 A j k hkk hF hT hZ1 hA
      have hkK : k ∈ K := List.mem_of_getElem? hkk
      have hI2 := hin H2 hF
      have hok : ((Gt.ps h K).map some)[j]? = some (some (Gt.p h k)) := by rw [Gt.ps, List.map_map, List.getElem?_map, hkk]; rfl
      exact ⟨htc H2 hF, (hI2.c.1 k hkK).1, hI2.k.at hok, fun b o hb hz => (hZ1 b hz).elim (fun hz => hnz b o (.inr (.inr ⟨k, hkK, hb⟩)) hz) (fun hz => by have := hlt b o (.inr (.inr ⟨k, hkK, hb⟩)); omega),
        fun b hz hb => (hZ1 b hz).elim (fun h => hntr b h hb) (fun h => by have := tc.hb; omega), hT, hA⟩
    have hkz1 : ∀ Z1 : Nat → Prop, (∀ b, Z1 b → Z b ∨ H.size ≤ b) → ¬ Z1 gg.kb := fun Z1 hZ1 hz => (hZ1 _ hz).elim hkz (fun h => by omega)
    have hcat : ∀ {Z1 Z2 : Nat → Prop} {H2 H3 : Mem}, Fr (fun x _ => Z x) H H2 → (∀ b, Z1 b → Z b ∨ H.size ≤ b) → Fr (fun x _ => Z1 x) H2 H3 → (∀ b, Z2 b → Z1 b ∨ H2.size ≤ b) → Fr (fun x _ => Z x) H H3 ∧ ∀ b, Z2 b → Z b ∨ H.size ≤ b := by
      intro Z1 Z2 H2 H3 hF hZ1 hF2 hZ2
      have := hF.size
      exact ⟨hF.trans' hF2 (fun _ _ _ h => h) (fun b o hb hz => (hZ1 b hz).elim id (fun h => by omega)), fun b hb => (hZ2 b hb).elim (hZ1 b) (fun h => .inr (by omega))⟩
    obtain ⟨kn, hkn⟩ : ∃ k, K[X.length]? = some k := ⟨K[X.length], List.getElem?_eq_getElem (by omega)⟩
    have hknL : (K.map (Gt.L h))[X.length]? = some (Gt.L h kn) := by rw [List.getElem?_map, hkn]; rfl
    have hLn : Pl.inter X (K.map (Gt.L h)) = Pl.pre X ((K.map (Gt.L h)).take X.length) ++ Gt.L h kn := Pl.inter_last hKL hknL
    have hlast : Pl.inter (X.drop X.length) ((K.map (Gt.L h)).drop X.length) = Gt.L h kn := by
      obtain ⟨h1, h2⟩ := List.getElem?_eq_some_iff.1 hknL
      rw [List.drop_length, ← List.getElem_cons_drop (h := h1), h2, List.drop_of_length_le (by omega)]; rfl
    show Fn _ _ _ _ _ (fun r H' => r = .bool (takes go acc (Pl.inter X (K.map (Gt.L h))).reverse).2 ∧ CbPost cb acc Z H (Pl.inter X (K.map (Gt.L h))).reverse H')
    have hlenn : acc.length + (Gt.L h kn).length ≤ M := by rw [hLn, List.length_append] at hlen; omega
    refine fn_of Try.func189 rfl Try.ntmps189 ?_
    refine (show Go' _ _ _ _ 91 [(0, _), (1, _), (2, _), (3, _)] [.code _] _ from ?_)
    refine Go'.seq ?_
    -- region 0 (btreeg.go:1100)
    refine Go'.region [(0, 0)] rfl ?_
    refine O.asg rfl rfl rfl rfl rfl ?_
    refine Pl.fin [(0, _), (1, _), (2, _), (3, _), (8, _)] ⟨rfl, rfl, rfl, rfl, rfl, trivial⟩ ?_
    refine Go'.seq ?_
    -- region 1 (btreeg.go:1102)
    refine Go'.region [(0, 0), (1, 0), (2, 0), (3, 2), (4, 0)] rfl ?_
    refine O.mv rfl rfl rfl rfl rfl ?_
    refine O.mv rfl rfl rfl rfl rfl ?_
    refine O.mv rfl rfl rfl rfl rfl ?_
    refine O.callQ rfl rfl rfl Try.call130 rfl (isoLoad_spec mt hc hc0 tc.iso) trivial ?_
    refine O.asg rfl rfl rfl rfl rfl ?_
    refine Pl.fin [(0, _), (2, _), (3, _), (8, _), (9, _)] ⟨rfl, rfl, rfl, rfl, rfl, trivial⟩ ?_
    refine Go'.seq ?_
    refine Go'.seq ?_
    unfold ptr
    -- region 2 (btreeg.go:1103)
    refine Go'.region [(0, 0), (1, 2)] rfl ?_
    refine O.mv rfl rfl rfl rfl rfl ?_
    refine O.callQ rfl rfl rfl Try.call133 rfl (leaf_spec hI.n.c3) trivial ?_
    refine Pl.fin [(0, _), (2, _), (3, _), (8, _), (9, _), (17, _)] ⟨rfl, rfl, rfl, rfl, rfl, rfl, trivial⟩ ?_
    refine Go'.condF rfl ?_
    refine Go'.skip ?_
    refine Go'.seq ?_
    refine Go'.seq ?_
    -- region 9 (btreeg.go:1111)
    refine Go'.draw (fun _ => True) [(0, 0), (1, 0), (2, 0), (3, 0), (4, 1), (5, 0), (6, 1), (7, 0), (8, 0), (9, 0), (10, 1), (11, 0), (12, 1), (13, 0), (14, 0), (15, 0), (16, 0), (17, 0), (18, 2), (19, 0)] (by kernel_rfl) (by kernel_rfl) (trivial) ?_
    refine O.mv rfl rfl rfl rfl rfl ?_
    refine O.mv rfl rfl rfl rfl rfl ?_
    refine O.nc rfl rfl rfl rfl rfl ?_
    refine O.fa0 (off := 3) rfl rfl rfl rfl ⟨_, _, _, Try.underlying168, rfl, rfl, Try.sizeOf166⟩ rfl ?_
    refine O.ld rfl rfl rfl (fun w => ⟨Try.isAgg166 w, Try.sizeOf166 w⟩) rfl hI.n.c3 ?_
    refine O.nc rfl rfl rfl rfl rfl ?_
    refine O.ld rfl rfl rfl (fun w => ⟨Try.isAgg170 w, Try.sizeOf170 w⟩) rfl hI.k.c ?_
    refine O.mv rfl rfl rfl rfl rfl ?_
    refine O.nc rfl rfl rfl rfl rfl ?_
    refine O.fa0 (off := 3) rfl rfl rfl rfl ⟨_, _, _, Try.underlying168, rfl, rfl, Try.sizeOf166⟩ rfl ?_
    refine O.ld rfl rfl rfl (fun w => ⟨Try.isAgg166 w, Try.sizeOf166 w⟩) rfl hI.n.c3 ?_
    refine O.nc rfl rfl rfl rfl rfl ?_
    refine O.ld rfl rfl rfl (fun w => ⟨Try.isAgg170 w, Try.sizeOf170 w⟩) rfl hI.k.c ?_
    refine O.len rfl rfl rfl rfl Try.underlying170 rfl ?_
    refine O.sub (((X.length : Nat) : Int)) rfl rfl rfl rfl rfl rfl (by omega) (by omega) ?_
    refine O.ix (j := X.length) rfl rfl rfl rfl Try.underlying170 Try.sizeOf129 rfl rfl (by omega) (by omega) ?_
    refine O.mv rfl rfl rfl rfl rfl ?_
    refine O.mv rfl rfl rfl rfl rfl ?_
    refine O.call rfl rfl rfl Try.call189 rfl (ih (hkid hkn (Fr.refl _ _) hst (fun b hb => .inl hb) hlenn)) ?_
    rintro _ H2 ⟨rfl, Z2, hT2, hF2, hZ2⟩
    refine ⟨trivial, ?_⟩
    refine O.not rfl rfl rfl rfl rfl ?_
    refine Pl.fin [(0, _), (2, _), (3, _), (8, _), (9, _), (57, _)] ⟨rfl, rfl, rfl, rfl, rfl, rfl, trivial⟩ ?_
    cases htk0 : (takes go acc (Gt.L h kn).reverse).2
    · -- stopped
      refine Go'.condT rfl ?_
      refine Go'.seq ?_
      -- region 10 (btreeg.go:1112)
      refine Go'.region [(0, 0)] rfl ?_
      refine O.asg rfl rfl rfl rfl rfl ?_
      refine Pl.fin [(0, _), (2, _), (3, _), (8, _), (9, _)] ⟨rfl, rfl, rfl, rfl, rfl, trivial⟩ ?_
      refine Go'.ret (vs := [_]) Try.func189 Try.results189 ⟨rfl, trivial⟩ ?_
      have e : (Pl.inter X (K.map (Gt.L h))).reverse = (Gt.L h kn).reverse ++ (Pl.pre X ((K.map (Gt.L h)).take X.length)).reverse := by rw [hLn, List.reverse_append]
      have e2 := takes_stop (r := (Pl.pre X ((K.map (Gt.L h)).take X.length)).reverse) htk0
      rw [← e] at e2
      unfold CbPost
      rw [e2]
      exact ⟨by rw [htk0]; rfl, Z2, hT2, hF2, hZ2⟩
    · -- on
      refine Go'.condF rfl ?_
      refine Go'.skip ?_
      refine Go'.seq ?_
      refine Go'.seq ?_
      have hI2 := hin H2 hF2
      -- region 11 (btreeg.go:1114)
      refine Go'.region [(0, 0), (1, 0), (2, 0), (3, 1), (4, 0), (5, 0), (6, 0)] rfl ?_
      refine O.mv rfl rfl rfl rfl rfl ?_
      refine O.nc rfl rfl rfl rfl rfl ?_
      refine O.fa0 (off := 2) rfl rfl rfl rfl ⟨_, _, _, Try.underlying168, rfl, rfl, Try.sizeOf25⟩ rfl ?_
      refine O.ld rfl rfl rfl (fun w => ⟨Try.isAgg25 w, Try.sizeOf25 w⟩) rfl hI2.n.c2 ?_
      refine O.len rfl rfl rfl rfl Try.underlying25 rfl ?_
      refine O.sub (((X.length : Nat) : Int) - 1) rfl rfl rfl rfl rfl rfl (by omega) (by omega) ?_
      refine O.asg rfl rfl rfl rfl rfl ?_
      refine Pl.fin [(0, _), (2, _), (3, _), (8, _), (9, _), (11, _)] ⟨rfl, rfl, rfl, rfl, rfl, rfl, trivial⟩ ?_
      refine Go'.block ?_
      refine Go'.loop ?_
      refine Go'.keep [(0, _), (2, _), (3, _), (9, _), (11, _)] ⟨rfl, rfl, rfl, rfl, rfl, trivial⟩ ?_
      refine Go'.ind (σ := Nat × (Nat → Prop)) (fun s => s.1) (fun s H' => s.1 ≤ X.length ∧ (takes go acc (Pl.inter (X.drop s.1) ((K.map (Gt.L h)).drop s.1)).reverse).2 = true ∧ cb.T (takes go acc (Pl.inter (X.drop s.1) ((K.map (Gt.L h)).drop s.1)).reverse).1 s.2 H' ∧ Fr (fun b _ => Z b) H H' ∧ ∀ b, s.2 b → Z b ∨ H.size ≤ b)
        (fun s => [(0, .pointer (some ⟨tr, 0, none⟩)), (2, .func (.func g) us.toArray cs.toArray), (3, .bool mt), (9, .pointer (some ⟨gg.p, 0, none⟩)), (11, .int .i64 ((s.1 : Int) - 1))]) (X.length, Z2) ⟨Nat.le_refl _, by rw [hlast]; exact htk0, by rw [hlast]; exact hT2, hF2, hZ2⟩ rfl ?_
      clear hI2 hT2 hF2 hZ2 htk0
      rintro ⟨j, Z1⟩ H3 ⟨hj, htk, hT, hF, hZ1⟩ ih2
      simp only at hj htk hT hZ1
      have hI3 := hin H3 hF
      refine Go'.seq ?_
      refine Go'.seq ?_
      rcases j with _ | j
      · skip
        -- region 12 (btreeg.go:1114)
        refine Go'.region [(0, 0), (1, 0)] rfl ?_
        refine O.mv rfl rfl rfl rfl rfl ?_
        refine O.cmp rfl rfl rfl rfl rfl rfl (geqF (by show ((0 : Nat) : Int) - 1 < 0; omega)) ?_
        refine Pl.fin [(0, _), (2, _), (3, _), (9, _), (11, _), (65, _)] ⟨rfl, rfl, rfl, rfl, rfl, rfl, trivial⟩ ?_
        refine Go'.condF rfl ?_
        refine Go'.exit rfl ?_
        refine Go'.seq ?_
        -- region 18 (btreeg.go:1122)
        refine Go'.region [(0, 0)] rfl ?_
        refine O.asg rfl rfl rfl rfl rfl ?_
        refine Pl.fin [(8, _)] ⟨rfl, trivial⟩ ?_
        refine Go'.ret (vs := [_]) Try.func189 Try.results189 ⟨rfl, trivial⟩ ?_
        rw [List.drop_zero, List.drop_zero] at htk hT
        exact ⟨by rw [htk]; rfl, Z1, hT, hF, hZ1⟩
      · skip
        obtain ⟨y, hy⟩ : ∃ y, X[j]? = some y := ⟨X[j], List.getElem?_eq_getElem (by omega)⟩
        obtain ⟨k, hkk⟩ : ∃ k, K[j]? = some k := ⟨K[j], List.getElem?_eq_getElem (by omega)⟩
        have hkL : (K.map (Gt.L h))[j]? = some (Gt.L h k) := by rw [List.getElem?_map, hkk]; rfl
        have hd := Pl.inter_drop1 hy hkL
        obtain ⟨pfx, hall⟩ := Pl.inter_dropn hKL j (by omega)
        have hal2 : (Pl.inter X (K.map (Gt.L h))).reverse = (Pl.inter (X.drop (j + 1)) ((K.map (Gt.L h)).drop (j + 1))).reverse ++ ([y] ++ ((Gt.L h k).reverse ++ pfx.reverse)) := by
          rw [hall, hd]; simp
        have hal3 : (Pl.inter (X.drop j) ((K.map (Gt.L h)).drop j)).reverse = (Pl.inter (X.drop (j + 1)) ((K.map (Gt.L h)).drop (j + 1))).reverse ++ ([y] ++ (Gt.L h k).reverse) := by
          rw [hd]; simp
        have hlen2 : (Pl.inter X (K.map (Gt.L h))).length = pfx.length + ((Gt.L h k).length + (1 + (Pl.inter (X.drop (j + 1)) ((K.map (Gt.L h)).drop (j + 1))).length)) := by
          rw [hall, hd]; simp; omega
        have htl := takes_length go (Pl.inter (X.drop (j + 1)) ((K.map (Gt.L h)).drop (j + 1))).reverse acc
        rw [List.length_reverse] at htl
        have t1 := takes_on (r := [y] ++ ((Gt.L h k).reverse ++ pfx.reverse)) htk
        have t2 := takes_on (r := [y] ++ (Gt.L h k).reverse) htk
        rw [← hal2] at t1
        rw [← hal3] at t2
        generalize hA : (takes go acc (Pl.inter (X.drop (j + 1)) ((K.map (Gt.L h)).drop (j + 1))).reverse).1 = A at *
        have ej : (((j + 1 : Nat) : Int) - 1) = (j : Int) := by omega
        have hall4 : (A ++ [y]).length = A.length + 1 := by simp
        rw [ej]
        -- region 12 (btreeg.go:1114)
        refine Go'.region [(0, 0), (1, 0)] rfl ?_
        refine O.mv rfl rfl rfl rfl rfl ?_
        refine O.cmp rfl rfl rfl rfl rfl rfl (geqT (by omega)) ?_
        refine Pl.fin [(0, _), (2, _), (3, _), (9, _), (11, _), (65, _)] ⟨rfl, rfl, rfl, rfl, rfl, rfl, trivial⟩ ?_
        refine Go'.condT rfl ?_
        refine Go'.skip ?_
        refine Go'.seq ?_
        refine Go'.block ?_
        refine Go'.seq ?_
        refine Go'.seq ?_
        cases hgo : go (A ++ [y])
        · skip
          -- region 14 (btreeg.go:1115)
          refine Go'.region [(0, 0), (1, 0), (2, 0), (3, 0), (4, 1), (5, 0), (6, 0), (7, 1), (8, 2), (9, 0)] rfl ?_
          refine O.mv rfl rfl rfl rfl rfl ?_
          refine O.mv rfl rfl rfl rfl rfl ?_
          refine O.nc rfl rfl rfl rfl rfl ?_
          refine O.fa0 (off := 2) rfl rfl rfl rfl ⟨_, _, _, Try.underlying168, rfl, rfl, Try.sizeOf25⟩ rfl ?_
          refine O.ld rfl rfl rfl (fun w => ⟨Try.isAgg25 w, Try.sizeOf25 w⟩) rfl hI3.n.c2 ?_
          refine O.mv rfl rfl rfl rfl rfl ?_
          refine O.ix (j := j) rfl rfl rfl rfl Try.underlying25 Try.sizeOf27 rfl rfl (by omega) (by omega) ?_
          refine O.lds rfl rfl rfl (fun w => ⟨Try.isAgg27 w, Try.sizeOf27 w⟩) rfl rfl (hI3.n.sl.item hy) ?_
          refine O.callC rfl rfl rfl rfl hcall rfl (cb.call y hT (by omega)) ?_
          rintro _ H4 ⟨rfl, Z4, hT4, hF4, hZ4⟩
          rw [hgo]
          obtain ⟨hF5, hZ5⟩ := hcat hF hZ1 hF4 hZ4
          refine ⟨trivial, ?_⟩
          refine O.not rfl rfl rfl rfl rfl ?_
          refine Pl.fin [(0, _), (2, _), (3, _), (9, _), (11, _), (65, _), (77, _)] ⟨rfl, rfl, rfl, rfl, rfl, rfl, rfl, trivial⟩ ?_
          refine Go'.condT rfl ?_
          refine Go'.seq ?_
          -- region 15 (btreeg.go:1116)
          refine Go'.region [(0, 0)] rfl ?_
          refine O.asg rfl rfl rfl rfl rfl ?_
          refine Pl.fin [(0, _), (2, _), (3, _), (8, _), (9, _), (11, _), (65, _), (77, _)] ⟨rfl, rfl, rfl, rfl, rfl, rfl, rfl, rfl, trivial⟩ ?_
          refine Go'.ret (vs := [_]) Try.func189 Try.results189 ⟨rfl, trivial⟩ ?_
          have e3 : takes go acc (Pl.inter X (K.map (Gt.L h))).reverse = (A ++ [y], false) := by rw [t1, takes_stop (by simp [takes, hgo])]; simp [takes, hgo]
          unfold CbPost
          rw [e3]
          exact ⟨rfl, Z4, hT4, hF5, hZ5⟩
        · skip
          -- region 14 (btreeg.go:1115)
          refine Go'.region [(0, 0), (1, 0), (2, 0), (3, 0), (4, 1), (5, 0), (6, 0), (7, 1), (8, 2), (9, 0)] rfl ?_
          refine O.mv rfl rfl rfl rfl rfl ?_
          refine O.mv rfl rfl rfl rfl rfl ?_
          refine O.nc rfl rfl rfl rfl rfl ?_
          refine O.fa0 (off := 2) rfl rfl rfl rfl ⟨_, _, _, Try.underlying168, rfl, rfl, Try.sizeOf25⟩ rfl ?_
          refine O.ld rfl rfl rfl (fun w => ⟨Try.isAgg25 w, Try.sizeOf25 w⟩) rfl hI3.n.c2 ?_
          refine O.mv rfl rfl rfl rfl rfl ?_
          refine O.ix (j := j) rfl rfl rfl rfl Try.underlying25 Try.sizeOf27 rfl rfl (by omega) (by omega) ?_
          refine O.lds rfl rfl rfl (fun w => ⟨Try.isAgg27 w, Try.sizeOf27 w⟩) rfl rfl (hI3.n.sl.item hy) ?_
          refine O.callC rfl rfl rfl rfl hcall rfl (cb.call y hT (by omega)) ?_
          rintro _ H4 ⟨rfl, Z4, hT4, hF4, hZ4⟩
          rw [hgo]
          obtain ⟨hF5, hZ5⟩ := hcat hF hZ1 hF4 hZ4
          refine ⟨trivial, ?_⟩
          refine O.not rfl rfl rfl rfl rfl ?_
          refine Pl.fin [(0, _), (2, _), (3, _), (9, _), (11, _), (65, _), (77, _)] ⟨rfl, rfl, rfl, rfl, rfl, rfl, rfl, trivial⟩ ?_
          refine Go'.condF rfl ?_
          refine Go'.skip ?_
          refine Go'.seq ?_
          have u1 : takes go A ([y] ++ ((Gt.L h k).reverse ++ pfx.reverse)) = takes go (A ++ [y]) ((Gt.L h k).reverse ++ pfx.reverse) := by rw [takes_on (by simp [takes, hgo])]; simp [takes, hgo]
          have u2 : takes go A ([y] ++ (Gt.L h k).reverse) = takes go (A ++ [y]) (Gt.L h k).reverse := by rw [takes_on (by simp [takes, hgo])]; simp [takes, hgo]
          rw [u1] at t1
          rw [u2] at t2
          have hI4 := hin H4 hF5
          -- region 16 (btreeg.go:1118)
          refine Go'.region [(0, 0), (1, 0), (2, 0), (3, 0), (4, 1), (5, 0), (6, 1), (7, 0), (8, 0), (9, 0), (10, 0), (11, 2), (12, 0)] rfl ?_
          refine O.mv rfl rfl rfl rfl rfl ?_
          refine O.mv rfl rfl rfl rfl rfl ?_
          refine O.nc rfl rfl rfl rfl rfl ?_
          refine O.fa0 (off := 3) rfl rfl rfl rfl ⟨_, _, _, Try.underlying168, rfl, rfl, Try.sizeOf166⟩ rfl ?_
          refine O.ld rfl rfl rfl (fun w => ⟨Try.isAgg166 w, Try.sizeOf166 w⟩) rfl hI4.n.c3 ?_
          refine O.nc rfl rfl rfl rfl rfl ?_
          refine O.ld rfl rfl rfl (fun w => ⟨Try.isAgg170 w, Try.sizeOf170 w⟩) rfl hI4.k.c ?_
          refine O.mv rfl rfl rfl rfl rfl ?_
          refine O.ix (j := j) rfl rfl rfl rfl Try.underlying170 Try.sizeOf129 rfl rfl (by omega) (by omega) ?_
          refine O.mv rfl rfl rfl rfl rfl ?_
          refine O.mv rfl rfl rfl rfl rfl ?_
          refine O.call rfl rfl rfl Try.call189 rfl (ih (hkid hkk hF5 hT4 hZ5 (by omega))) ?_
          rintro _ H6 ⟨rfl, Z6, hT6, hF6, hZ6⟩
          obtain ⟨hF7, hZ7⟩ := hcat hF5 hZ5 hF6 hZ6
          refine ⟨trivial, ?_⟩
          refine O.not rfl rfl rfl rfl rfl ?_
          refine Pl.fin [(0, _), (2, _), (3, _), (9, _), (11, _), (65, _), (77, _), (90, _)] ⟨rfl, rfl, rfl, rfl, rfl, rfl, rfl, rfl, trivial⟩ ?_
          cases htk2 : (takes go (A ++ [y]) (Gt.L h k).reverse).2
          · skip
            refine Go'.condT rfl ?_
            refine Go'.seq ?_
            -- region 17 (btreeg.go:1119)
            refine Go'.region [(0, 0)] rfl ?_
            refine O.asg rfl rfl rfl rfl rfl ?_
            refine Pl.fin [(0, _), (2, _), (3, _), (8, _), (9, _), (11, _), (65, _), (77, _), (90, _)] ⟨rfl, rfl, rfl, rfl, rfl, rfl, rfl, rfl, rfl, trivial⟩ ?_
            refine Go'.ret (vs := [_]) Try.func189 Try.results189 ⟨rfl, trivial⟩ ?_
            rw [takes_stop htk2] at t1
            unfold CbPost
            rw [t1]
            exact ⟨by rw [htk2]; rfl, Z6, hT6, hF7, hZ7⟩
          · skip
            refine Go'.condF rfl ?_
            refine Go'.skip ?_
            refine Go'.inBlock ?_
            -- region 13 (btreeg.go:1114)
            refine Go'.region [(0, 0), (1, 0), (2, 0)] rfl ?_
            refine O.mv rfl rfl rfl rfl rfl ?_
            refine O.sub (((j : Nat) : Int) - 1) rfl rfl rfl rfl rfl rfl (by omega) (by omega) ?_
            refine O.asg rfl rfl rfl rfl rfl ?_
            refine Pl.fin [(0, _), (2, _), (3, _), (9, _), (11, _), (65, _), (77, _), (90, _)] ⟨rfl, rfl, rfl, rfl, rfl, rfl, rfl, rfl, trivial⟩ ?_
            refine Go'.keep [(0, _), (2, _), (3, _), (9, _), (11, _)] ⟨rfl, rfl, rfl, rfl, rfl, trivial⟩ ?_
            refine Go'.inLoop ?_
            exact ih2 (j, Z6) H6 ⟨by simp only; omega, by rw [t2]; exact htk2, by rw [t2]; exact hT6, hF7, hZ7⟩ (by simp only; omega)

end
end Go.Bt.FG
namespace Go.Bt.FG
open Go Go.Proofs
set_option maxRecDepth 20000
set_option maxHeartbeats 4000000
set_option linter.unusedVariables false
set_option linter.unusedSectionVars false

theorem App.rp {H H' : Mem} {b o len c m s : Nat} {xs news : List Value} {b' o' c' : Nat} (ha : App H H' b o len c m s xs news b' o' c') : Fr (fun b1 _ => b1 = b) H H' ∧ (b' = b ∨ H.size ≤ b') :=
  ⟨ha.fr.mono fun b1 o1 _ hz => hz.1, by rcases ha.place with ⟨h, _⟩ | ⟨h, _⟩ <;> omega⟩

/-- What the taker keeps: how many at most, and the list so far. -/
structure TkT (b2 b3 D : Nat) (n : Int) (acc : List (Int × Int)) (Z : Nat → Prop) (H : Mem) : Prop where
  c2 : cl H b2 0 = some (ptr D)
  c3 : cl H b3 0 = some (.int .i64 n)
  wr : Wr H D 0 1
  z2 : Z b2
  z3 : Z b3
  zD : Z D
  n2 : b2 ≠ D
  n3 : b3 ≠ D
  lt : ∀ b, Z b → b < H.size
  sl : (acc = [] ∧ cl H D 0 = some (.slice none 0 0)) ∨ ∃ b o c, cl H D 0 = some (.slice (some ⟨b, o, none⟩) acc.length c) ∧ SlE EJ H b o c acc ∧ Z b ∧ b ≠ D ∧ b ≠ b2 ∧ b ≠ b3
theorem TkT.fr {b2 b3 D : Nat} {n : Int} {acc : List (Int × Int)} {Z : Nat → Prop} {H H' : Mem} {Y : Nat → Nat → Prop} (h : TkT b2 b3 D n acc Z H) (hf : Fr Y H H') (hy : ∀ b o, Z b → ¬ Y b o) : TkT b2 b3 D n acc Z H' where
  c2 := hf.keep h.c2 (hy _ _ h.z2)
  c3 := hf.keep h.c3 (hy _ _ h.z3)
  wr := hf.wr h.wr
  z2 := h.z2
  z3 := h.z3
  zD := h.zD
  n2 := h.n2
  n3 := h.n3
  lt := fun b hb => Nat.lt_of_lt_of_le (h.lt b hb) hf.size
  sl := h.sl.elim (fun ⟨e, k⟩ => .inl ⟨e, hf.keep k (hy _ _ h.zD)⟩) fun ⟨b, o, c, k, hs, hz, r⟩ => .inr ⟨b, o, c, hf.keep k (hy _ _ h.zD), hs.fr hf (fun i _ _ => hy _ _ hz), hz, r⟩

theorem taker1_spec {B : World} {H : Mem} {b2 b3 D : Nat} {n : Int} {acc : List (Int × Int)} {Z : Nat → Prop} {x : Int × Int} (hT : TkT b2 b3 D n acc Z H) (hl : acc.length < 4294967296) :
    Fn Try.prog B 152 [.agg (EJ.enc x).toArray, ptr b2, ptr b3] H (fun r H' => r = .bool (goN n (acc ++ [x])) ∧ ∃ Z', TkT b2 b3 D n (acc ++ [x]) Z' H' ∧ Fr (fun b _ => Z b) H H' ∧ ∀ b, Z' b → Z b ∨ H.size ≤ b) := by
  unfold ptr
  refine fn_of Try.func152 rfl Try.ntmps152 ?_
  refine (show Go' _ _ _ _ 23 [(0, _), (1, _), (2, _)] [.code _] _ from ?_)
  refine Go'.seq ?_
  -- region 0 (impl.go:207)
  refine Go'.region [(0, 2), (1, 0)] rfl ?_
  refine O.box rfl rfl rfl rfl ?_
  intro H1 M1
  refine ⟨trivial, ?_⟩
  have hs1 := M1.size
  have mi : Rd H1 H.size 0 (EJ.enc x) := M1.rd _ [] (by simp [Value.cells])
  have hlt := hT.lt
  replace hT := hT.fr (M1.fr nowhere) (fun _ _ _ => nw)
  obtain ⟨c2, c3, hw, z2, z3, zD, n2, n3, lt, hsl⟩ := hT
  unfold ptr at c2
  have l2 := hlt _ z2
  have l3 := hlt _ z3
  have lD := hlt _ zD
  refine O.asg rfl rfl rfl rfl rfl ?_
  refine Pl.fin [(1, _), (2, _), (3, _), (4, _)] ⟨rfl, rfl, rfl, rfl, trivial⟩ ?_
  refine Go'.seq ?_
  have hacc1 : (acc ++ [x]).length = acc.length + 1 := by simp
  rcases hsl with ⟨rfl, cD⟩ | ⟨b, o, c, cD, hs, zb, nb, nb2, nb3⟩
  · skip
    -- region 1 (impl.go:208)
    refine Go'.draw (fun H' => cl H' b2 0 = some (.pointer (some ⟨D, 0, none⟩)) ∧ cl H' D 0 = some (.slice none 0 0) ∧ Rd H' H.size 0 (EJ.enc x)) [(0, 0), (1, 0), (2, 0), (3, 0), (4, 1), (5, 2), (6, 2), (7, 0), (8, 3)] (by kernel_rfl) (by kernel_rfl) (⟨c2, cD, mi⟩) ?_
    refine O.ldC rfl rfl rfl (fun w => ⟨Try.isAgg123 w, Try.sizeOf123 w⟩) rfl (fun _ h => h.1) ?_
    refine O.ldC rfl rfl rfl (fun w => ⟨Try.isAgg123 w, Try.sizeOf123 w⟩) rfl (fun _ h => h.1) ?_
    refine O.nc rfl rfl rfl rfl rfl ?_
    refine O.ldC rfl rfl rfl (fun w => ⟨Try.isAgg25 w, Try.sizeOf25 w⟩) rfl (fun _ h => h.2.1) ?_
    refine O.lds rfl rfl rfl (fun w => ⟨Try.isAgg27 w, Try.sizeOf27 w⟩) rfl rfl mi ?_
    refine O.bsl (cs := (EJ.enc x)) rfl rfl rfl ⟨Try.underlying25, Try.sizeOf27, Try.zeroValue27, ⟨_, Try.typeInfo27, rfl⟩, rfl, by decide, by decide⟩ rfl (by decide) (by kernel_rfl) ?_
    intro H2 M2
    have hs2 := M2.size
    replace c2 := M2.keep c2
    replace c3 := M2.keep c3
    replace cD := M2.keep cD
    replace mi := (M2.fr nowhere).rd mi (fun _ _ => nw)
    replace hw := (M2.fr nowhere).wr hw
    have m2 : Rd H2 H1.size 0 (EJ.enc x) := M2.rd _ [] (by simp)
    refine ⟨⟨c2, cD, mi⟩, ?_⟩
    refine O.appN (m := 1) (news := (EJ.enc x)) rfl rfl rfl ⟨Try.underlying25, Try.sizeOf27, Try.zeroValue27, ⟨_, Try.typeInfo27, rfl⟩, rfl, by decide, by decide⟩ rfl rfl ⟨_, _, _, rfl, m2⟩ rfl (Nat.le_trans (Nat.mul_le_mul_left _ (Nat.le_of_ble_eq_true (n := _) (m := 4096) rfl)) (by omega)) (by omega) (by omega) ?_
    intro cc H3 hsl3 fa hs3
    replace c2 := fa.keep c2 nw
    replace c3 := fa.keep c3 nw
    replace cD := fa.keep cD nw
    replace mi := fa.rd mi (fun _ _ => nw)
    replace hw := fa.wr hw
    refine ⟨⟨c2, cD, mi⟩, ?_⟩
    refine O.nc rfl rfl rfl rfl rfl ?_
    refine O.st3 rfl rfl Try.sizeOf25 rfl rfl rfl rfl rfl hw ?_
    intro H4 W4
    have hs4 := W4.size
    replace c2 := W4.fr.keep c2 (nr (.inl n2))
    replace c3 := W4.fr.keep c3 (nr (.inl n3))
    replace hw := W4.fr.wr hw
    clear cD
    have cD := W4.at
    refine Pl.fin [(1, _), (2, _), (4, _)] ⟨rfl, rfl, rfl, trivial⟩ ?_
    refine Go'.seq ?_
    by_cases hn : n < 1
    · skip
      -- region 2 (impl.go:209)
      refine Go'.draw (fun _ => True) [(0, 1), (1, 0), (2, 0), (3, 1), (4, 0), (5, 1), (6, 0), (7, 1), (8, 0), (9, 0), (10, 0)] (by kernel_rfl) (by kernel_rfl) (trivial) ?_
      refine O.ld rfl rfl rfl (fun w => ⟨Try.isAgg3 w, Try.sizeOf3 w⟩) rfl c3 ?_
      refine O.cmp rfl rfl rfl rfl rfl rfl (lssT (by omega)) ?_
      refine O.mv rfl rfl rfl rfl rfl ?_
      refine Pl.pass rfl rfl rfl rfl ?_
      refine Pl.pass rfl rfl rfl rfl ?_
      refine Pl.pass rfl rfl rfl rfl ?_
      refine Pl.pass rfl rfl rfl rfl ?_
      refine Pl.pass rfl rfl rfl rfl ?_
      refine Pl.pass rfl rfl rfl rfl ?_
      refine O.pick rfl rfl rfl rfl rfl rfl ?_
      refine O.asg rfl rfl rfl rfl rfl ?_
      refine Pl.fin [(4, _)] ⟨rfl, trivial⟩ ?_
      refine Go'.ret (vs := [_]) Try.func152 Try.results152 ⟨rfl, trivial⟩ ?_
      exact ⟨by unfold goN; rw [decide_eq_true hn]; rfl, fun b => Z b ∨ (H.size ≤ b ∧ b < H4.size), ⟨c2, c3, hw, .inl z2, .inl z3, .inl zD, n2, n3, fun b hb => hb.elim (fun h => by have := hlt b h; omega) (fun h => h.2), .inr ⟨H2.size, 0, cc, cD, (SlE.of (l := [x]) hsl3 (by rw [row_one]) rfl).fr W4.fr (fun _ _ _ => nr (.inl (by omega))), .inr (by omega), by omega, by omega, by omega⟩⟩, (((M1.fr nowhere).trans (M2.fr nowhere)).trans fa).trans' W4.fr (fun _ _ _ h => h.elim) (fun b o _ hz => by rw [hz.1]; exact zD), fun b hb => hb.imp id (fun h => h.1)⟩
    · skip
      by_cases hn2 : (1 : Int) < n
      · skip
        -- region 2 (impl.go:209)
        refine Go'.draw (fun _ => True) [(0, 1), (1, 0), (2, 0), (3, 1), (4, 0), (5, 1), (6, 0), (7, 1), (8, 0), (9, 0), (10, 0)] (by kernel_rfl) (by kernel_rfl) (trivial) ?_
        refine O.ld rfl rfl rfl (fun w => ⟨Try.isAgg3 w, Try.sizeOf3 w⟩) rfl c3 ?_
        refine O.cmp rfl rfl rfl rfl rfl rfl (lssF (by omega)) ?_
        refine O.mv rfl rfl rfl rfl rfl ?_
        refine O.ld rfl rfl rfl (fun w => ⟨Try.isAgg123 w, Try.sizeOf123 w⟩) rfl c2 ?_
        refine O.nc rfl rfl rfl rfl rfl ?_
        refine O.ld rfl rfl rfl (fun w => ⟨Try.isAgg25 w, Try.sizeOf25 w⟩) rfl cD ?_
        refine O.len rfl rfl rfl rfl Try.underlying25 rfl ?_
        refine O.ld rfl rfl rfl (fun w => ⟨Try.isAgg3 w, Try.sizeOf3 w⟩) rfl c3 ?_
        refine O.cmp rfl rfl rfl rfl rfl rfl (lssT (by omega)) ?_
        refine O.pick rfl rfl rfl rfl rfl rfl ?_
        refine O.asg rfl rfl rfl rfl rfl ?_
        refine Pl.fin [(4, _)] ⟨rfl, trivial⟩ ?_
        refine Go'.ret (vs := [_]) Try.func152 Try.results152 ⟨rfl, trivial⟩ ?_
        exact ⟨by unfold goN; rw [decide_eq_false hn, hacc1]; rw [decide_eq_true (by simpa using hn2)]; rfl, fun b => Z b ∨ (H.size ≤ b ∧ b < H4.size), ⟨c2, c3, hw, .inl z2, .inl z3, .inl zD, n2, n3, fun b hb => hb.elim (fun h => by have := hlt b h; omega) (fun h => h.2), .inr ⟨H2.size, 0, cc, cD, (SlE.of (l := [x]) hsl3 (by rw [row_one]) rfl).fr W4.fr (fun _ _ _ => nr (.inl (by omega))), .inr (by omega), by omega, by omega, by omega⟩⟩, (((M1.fr nowhere).trans (M2.fr nowhere)).trans fa).trans' W4.fr (fun _ _ _ h => h.elim) (fun b o _ hz => by rw [hz.1]; exact zD), fun b hb => hb.imp id (fun h => h.1)⟩
      · skip
        -- region 2 (impl.go:209)
        refine Go'.draw (fun _ => True) [(0, 1), (1, 0), (2, 0), (3, 1), (4, 0), (5, 1), (6, 0), (7, 1), (8, 0), (9, 0), (10, 0)] (by kernel_rfl) (by kernel_rfl) (trivial) ?_
        refine O.ld rfl rfl rfl (fun w => ⟨Try.isAgg3 w, Try.sizeOf3 w⟩) rfl c3 ?_
        refine O.cmp rfl rfl rfl rfl rfl rfl (lssF (by omega)) ?_
        refine O.mv rfl rfl rfl rfl rfl ?_
        refine O.ld rfl rfl rfl (fun w => ⟨Try.isAgg123 w, Try.sizeOf123 w⟩) rfl c2 ?_
        refine O.nc rfl rfl rfl rfl rfl ?_
        refine O.ld rfl rfl rfl (fun w => ⟨Try.isAgg25 w, Try.sizeOf25 w⟩) rfl cD ?_
        refine O.len rfl rfl rfl rfl Try.underlying25 rfl ?_
        refine O.ld rfl rfl rfl (fun w => ⟨Try.isAgg3 w, Try.sizeOf3 w⟩) rfl c3 ?_
        refine O.cmp rfl rfl rfl rfl rfl rfl (lssF (by omega)) ?_
        refine O.pick rfl rfl rfl rfl rfl rfl ?_
        refine O.asg rfl rfl rfl rfl rfl ?_
        refine Pl.fin [(4, _)] ⟨rfl, trivial⟩ ?_
        refine Go'.ret (vs := [_]) Try.func152 Try.results152 ⟨rfl, trivial⟩ ?_
        exact ⟨by unfold goN; rw [decide_eq_false hn, hacc1]; rw [decide_eq_false (by simpa using hn2)]; rfl, fun b => Z b ∨ (H.size ≤ b ∧ b < H4.size), ⟨c2, c3, hw, .inl z2, .inl z3, .inl zD, n2, n3, fun b hb => hb.elim (fun h => by have := hlt b h; omega) (fun h => h.2), .inr ⟨H2.size, 0, cc, cD, (SlE.of (l := [x]) hsl3 (by rw [row_one]) rfl).fr W4.fr (fun _ _ _ => nr (.inl (by omega))), .inr (by omega), by omega, by omega, by omega⟩⟩, (((M1.fr nowhere).trans (M2.fr nowhere)).trans fa).trans' W4.fr (fun _ _ _ h => h.elim) (fun b o _ hz => by rw [hz.1]; exact zD), fun b hb => hb.imp id (fun h => h.1)⟩
  · skip
    have lb := hlt _ zb
    -- region 1 (impl.go:208)
    refine Go'.draw (fun H' => cl H' b2 0 = some (.pointer (some ⟨D, 0, none⟩)) ∧ cl H' D 0 = some (.slice (some ⟨b, o, none⟩) acc.length c) ∧ Rd H' H.size 0 (EJ.enc x)) [(0, 0), (1, 0), (2, 0), (3, 0), (4, 1), (5, 2), (6, 2), (7, 0), (8, 3)] (by kernel_rfl) (by kernel_rfl) (⟨c2, cD, mi⟩) ?_
    refine O.ldC rfl rfl rfl (fun w => ⟨Try.isAgg123 w, Try.sizeOf123 w⟩) rfl (fun _ h => h.1) ?_
    refine O.ldC rfl rfl rfl (fun w => ⟨Try.isAgg123 w, Try.sizeOf123 w⟩) rfl (fun _ h => h.1) ?_
    refine O.nc rfl rfl rfl rfl rfl ?_
    refine O.ldC rfl rfl rfl (fun w => ⟨Try.isAgg25 w, Try.sizeOf25 w⟩) rfl (fun _ h => h.2.1) ?_
    refine O.lds rfl rfl rfl (fun w => ⟨Try.isAgg27 w, Try.sizeOf27 w⟩) rfl rfl mi ?_
    refine O.bsl (cs := (EJ.enc x)) rfl rfl rfl ⟨Try.underlying25, Try.sizeOf27, Try.zeroValue27, ⟨_, Try.typeInfo27, rfl⟩, rfl, by decide, by decide⟩ rfl (by decide) (by kernel_rfl) ?_
    intro H2 M2
    have hs2 := M2.size
    replace c2 := M2.keep c2
    replace c3 := M2.keep c3
    replace cD := M2.keep cD
    replace mi := (M2.fr nowhere).rd mi (fun _ _ => nw)
    replace hw := (M2.fr nowhere).wr hw
    have m2 : Rd H2 H1.size 0 (EJ.enc x) := M2.rd _ [] (by simp)
    replace hs := hs.fr (M2.fr nowhere) (fun _ _ _ => nw)
    refine ⟨⟨c2, cD, mi⟩, ?_⟩
    refine O.app (m := 1) (news := (EJ.enc x)) rfl rfl rfl ⟨Try.underlying25, Try.sizeOf27, Try.zeroValue27, ⟨_, Try.typeInfo27, rfl⟩, rfl, by decide, by decide⟩ rfl hs rfl (.inl ⟨_, _, _, rfl, m2⟩) rfl rfl (Nat.le_trans (Nat.mul_le_mul_left _ (Nat.le_of_ble_eq_true (n := _) (m := 4096) rfl)) (by omega)) (by omega) ?_
    intro bb oo cc H3 ha
    obtain ⟨fa, pa⟩ := (App.rp ha)
    have hs3 := fa.size
    have hsl3 := SlE.app (E := EJ) ha
    have hbb : bb < H3.size := Sl.lt hsl3 (by have := hsl3.hle; rw [hacc1] at this; exact Nat.mul_pos (by omega) EJ.pos)
    replace c2 := fa.keep c2 (fun e => nb2 e.symm)
    replace c3 := fa.keep c3 (fun e => nb3 e.symm)
    replace cD := fa.keep cD (fun e => nb e.symm)
    replace mi := fa.rd mi (fun _ _ e => by have e' : H.size = b := e; omega)
    replace hw := fa.wr hw
    refine ⟨⟨c2, cD, mi⟩, ?_⟩
    refine O.nc rfl rfl rfl rfl rfl ?_
    refine O.st3 rfl rfl Try.sizeOf25 rfl rfl rfl rfl rfl hw ?_
    intro H4 W4
    have hs4 := W4.size
    replace c2 := W4.fr.keep c2 (nr (.inl n2))
    replace c3 := W4.fr.keep c3 (nr (.inl n3))
    replace hw := W4.fr.wr hw
    clear cD
    have cD := W4.at
    refine Pl.fin [(1, _), (2, _), (4, _)] ⟨rfl, rfl, rfl, trivial⟩ ?_
    refine Go'.seq ?_
    by_cases hn : n < 1
    · skip
      -- region 2 (impl.go:209)
      refine Go'.draw (fun _ => True) [(0, 1), (1, 0), (2, 0), (3, 1), (4, 0), (5, 1), (6, 0), (7, 1), (8, 0), (9, 0), (10, 0)] (by kernel_rfl) (by kernel_rfl) (trivial) ?_
      refine O.ld rfl rfl rfl (fun w => ⟨Try.isAgg3 w, Try.sizeOf3 w⟩) rfl c3 ?_
      refine O.cmp rfl rfl rfl rfl rfl rfl (lssT (by omega)) ?_
      refine O.mv rfl rfl rfl rfl rfl ?_
      refine Pl.pass rfl rfl rfl rfl ?_
      refine Pl.pass rfl rfl rfl rfl ?_
      refine Pl.pass rfl rfl rfl rfl ?_
      refine Pl.pass rfl rfl rfl rfl ?_
      refine Pl.pass rfl rfl rfl rfl ?_
      refine Pl.pass rfl rfl rfl rfl ?_
      refine O.pick rfl rfl rfl rfl rfl rfl ?_
      refine O.asg rfl rfl rfl rfl rfl ?_
      refine Pl.fin [(4, _)] ⟨rfl, trivial⟩ ?_
      refine Go'.ret (vs := [_]) Try.func152 Try.results152 ⟨rfl, trivial⟩ ?_
      exact ⟨by unfold goN; rw [decide_eq_true hn]; rfl, fun b => Z b ∨ (H.size ≤ b ∧ b < H4.size), ⟨c2, c3, hw, .inl z2, .inl z3, .inl zD, n2, n3, fun b hb => hb.elim (fun h => by have := hlt b h; omega) (fun h => h.2), .inr ⟨bb, oo, cc, by rw [hacc1]; exact cD, hsl3.fr W4.fr (fun _ _ _ => nr (.inl (by omega))), (by rcases pa with h | h; exact .inl (h ▸ zb); exact .inr (by omega)), by omega, by omega, by omega⟩⟩, (((M1.fr nowhere).trans (M2.fr nowhere)).trans' fa (Z := fun b _ => Z b) (fun _ _ _ h => h.elim) (fun y o _ hz => by have hz' : y = b := hz; rw [hz']; exact zb)).trans' W4.fr (fun _ _ _ h => h) (fun b o _ hz => by rw [hz.1]; exact zD), fun b hb => hb.imp id (fun h => h.1)⟩
    · skip
      by_cases hn2 : ((acc.length + 1 : Nat) : Int) < n
      · skip
        -- region 2 (impl.go:209)
        refine Go'.draw (fun _ => True) [(0, 1), (1, 0), (2, 0), (3, 1), (4, 0), (5, 1), (6, 0), (7, 1), (8, 0), (9, 0), (10, 0)] (by kernel_rfl) (by kernel_rfl) (trivial) ?_
        refine O.ld rfl rfl rfl (fun w => ⟨Try.isAgg3 w, Try.sizeOf3 w⟩) rfl c3 ?_
        refine O.cmp rfl rfl rfl rfl rfl rfl (lssF (by omega)) ?_
        refine O.mv rfl rfl rfl rfl rfl ?_
        refine O.ld rfl rfl rfl (fun w => ⟨Try.isAgg123 w, Try.sizeOf123 w⟩) rfl c2 ?_
        refine O.nc rfl rfl rfl rfl rfl ?_
        refine O.ld rfl rfl rfl (fun w => ⟨Try.isAgg25 w, Try.sizeOf25 w⟩) rfl cD ?_
        refine O.len rfl rfl rfl rfl Try.underlying25 rfl ?_
        refine O.ld rfl rfl rfl (fun w => ⟨Try.isAgg3 w, Try.sizeOf3 w⟩) rfl c3 ?_
        refine O.cmp rfl rfl rfl rfl rfl rfl (lssT (by omega)) ?_
        refine O.pick rfl rfl rfl rfl rfl rfl ?_
        refine O.asg rfl rfl rfl rfl rfl ?_
        refine Pl.fin [(4, _)] ⟨rfl, trivial⟩ ?_
        refine Go'.ret (vs := [_]) Try.func152 Try.results152 ⟨rfl, trivial⟩ ?_
        exact ⟨by unfold goN; rw [decide_eq_false hn, hacc1]; rw [decide_eq_true (by simpa using hn2)]; rfl, fun b => Z b ∨ (H.size ≤ b ∧ b < H4.size), ⟨c2, c3, hw, .inl z2, .inl z3, .inl zD, n2, n3, fun b hb => hb.elim (fun h => by have := hlt b h; omega) (fun h => h.2), .inr ⟨bb, oo, cc, by rw [hacc1]; exact cD, hsl3.fr W4.fr (fun _ _ _ => nr (.inl (by omega))), (by rcases pa with h | h; exact .inl (h ▸ zb); exact .inr (by omega)), by omega, by omega, by omega⟩⟩, (((M1.fr nowhere).trans (M2.fr nowhere)).trans' fa (Z := fun b _ => Z b) (fun _ _ _ h => h.elim) (fun y o _ hz => by have hz' : y = b := hz; rw [hz']; exact zb)).trans' W4.fr (fun _ _ _ h => h) (fun b o _ hz => by rw [hz.1]; exact zD), fun b hb => hb.imp id (fun h => h.1)⟩
      · skip
        -- region 2 (impl.go:209)
        refine Go'.draw (fun _ => True) [(0, 1), (1, 0), (2, 0), (3, 1), (4, 0), (5, 1), (6, 0), (7, 1), (8, 0), (9, 0), (10, 0)] (by kernel_rfl) (by kernel_rfl) (trivial) ?_
        refine O.ld rfl rfl rfl (fun w => ⟨Try.isAgg3 w, Try.sizeOf3 w⟩) rfl c3 ?_
        refine O.cmp rfl rfl rfl rfl rfl rfl (lssF (by omega)) ?_
        refine O.mv rfl rfl rfl rfl rfl ?_
        refine O.ld rfl rfl rfl (fun w => ⟨Try.isAgg123 w, Try.sizeOf123 w⟩) rfl c2 ?_
        refine O.nc rfl rfl rfl rfl rfl ?_
        refine O.ld rfl rfl rfl (fun w => ⟨Try.isAgg25 w, Try.sizeOf25 w⟩) rfl cD ?_
        refine O.len rfl rfl rfl rfl Try.underlying25 rfl ?_
        refine O.ld rfl rfl rfl (fun w => ⟨Try.isAgg3 w, Try.sizeOf3 w⟩) rfl c3 ?_
        refine O.cmp rfl rfl rfl rfl rfl rfl (lssF (by omega)) ?_
        refine O.pick rfl rfl rfl rfl rfl rfl ?_
        refine O.asg rfl rfl rfl rfl rfl ?_
        refine Pl.fin [(4, _)] ⟨rfl, trivial⟩ ?_
        refine Go'.ret (vs := [_]) Try.func152 Try.results152 ⟨rfl, trivial⟩ ?_
        exact ⟨by unfold goN; rw [decide_eq_false hn, hacc1]; rw [decide_eq_false (by simpa using hn2)]; rfl, fun b => Z b ∨ (H.size ≤ b ∧ b < H4.size), ⟨c2, c3, hw, .inl z2, .inl z3, .inl zD, n2, n3, fun b hb => hb.elim (fun h => by have := hlt b h; omega) (fun h => h.2), .inr ⟨bb, oo, cc, by rw [hacc1]; exact cD, hsl3.fr W4.fr (fun _ _ _ => nr (.inl (by omega))), (by rcases pa with h | h; exact .inl (h ▸ zb); exact .inr (by omega)), by omega, by omega, by omega⟩⟩, (((M1.fr nowhere).trans (M2.fr nowhere)).trans' fa (Z := fun b _ => Z b) (fun _ _ _ h => h.elim) (fun y o _ hz => by have hz' : y = b := hz; rw [hz']; exact zb)).trans' W4.fr (fun _ _ _ h => h) (fun b o _ hz => by rw [hz.1]; exact zD), fun b hb => hb.imp id (fun h => h.1)⟩


theorem TkT.out {b2 b3 D : Nat} {n : Int} {acc : List (Int × Int)} {Z : Nat → Prop} {H : Mem} (h : TkT b2 b3 D n acc Z H) : ∃ v, cl H D 0 = some v ∧ OutS EJ H v acc := by
  rcases h.sl with ⟨e, k⟩ | ⟨b, o, c, k, hs, _⟩
  · exact ⟨_, k, .inl ⟨rfl, e⟩⟩
  · exact ⟨_, k, .inr ⟨b, o, c, rfl, hs⟩⟩
/-- The taker, as the readers call it. -/
def cbTk (B : World) (b2 b3 D : Nat) (n : Int) : Cb Try.prog B encIt 152 [] [ptr b2, ptr b3] (goN n) 4294967296 where
  T := TkT b2 b3 D n
  fr := fun h hf hz => h.fr hf hz
  lt := fun h hb => h.lt _ hb
  call := fun x hT hl => taker1_spec hT hl
theorem taker_spec {B : World} {H : Mem} {D : Nat} {n : Int} (hD : cl H D 0 = some (.slice none 0 0)) (hw : Wr H D 0 1) :
    Fn Try.prog B 107 [ptr D, .int .i64 n] H (fun r H' => ∃ b2 b3, r = .func (.func 152) #[] #[ptr b2, ptr b3] ∧ TkT b2 b3 D n [] (fun b => b = D ∨ (H.size ≤ b ∧ b < H'.size)) H' ∧ Fr nowhere H H') := by
  have hDl := cl_lt hD
  unfold ptr
  refine fn_of Try.func107 rfl Try.ntmps107 ?_
  refine (show Go' _ _ _ _ 6 [(0, _), (1, _)] [.code _] _ from ?_)
  refine Go'.seq ?_
  -- region 0 (impl.go:206)
  refine Go'.region [(0, 2), (1, 2), (2, 0)] rfl ?_
  refine O.box rfl rfl rfl rfl ?_
  intro H1 M1
  refine ⟨trivial, ?_⟩
  have hs1 := M1.size
  replace hD := M1.keep hD
  replace hw := (M1.fr nowhere).wr hw
  have c2 : cl H1 H.size 0 = some (ptr D) := (M1.cl 0).trans rfl
  refine O.box rfl rfl rfl rfl ?_
  intro H2 M2
  refine ⟨trivial, ?_⟩
  have hs2 := M2.size
  replace hD := M2.keep hD
  replace hw := (M2.fr nowhere).wr hw
  replace c2 := M2.keep c2
  have c3 : cl H2 H1.size 0 = some (.int .i64 n) := (M2.cl 0).trans rfl
  refine O.asg rfl rfl rfl rfl rfl ?_
  refine Pl.fin [(2, _), (3, _), (4, _)] ⟨rfl, rfl, rfl, trivial⟩ ?_
  refine Go'.seq ?_
  -- region 1 (impl.go:207)
  refine Go'.region [(0, 0), (1, 0)] rfl ?_
  refine O.mkf rfl rfl rfl rfl rfl rfl ?_
  refine O.asg rfl rfl rfl rfl rfl ?_
  refine Pl.fin [(4, _)] ⟨rfl, trivial⟩ ?_
  refine Go'.ret (vs := [_]) Try.func107 Try.results107 ⟨rfl, trivial⟩ ?_
  exact ⟨H.size, H1.size, rfl, ⟨c2, c3, hw, .inr (by omega), .inr (by omega), .inl rfl, by omega, by omega, fun b hb => hb.elim (fun h => by omega) (fun h => h.2), .inl ⟨rfl, hD⟩⟩, (M1.fr nowhere).trans (M2.fr nowhere)⟩

section
variable [Inhabited Cx]
end
end Go.Bt.FG
