/- Contracts of functions of the program, proved by walking through their code. Conditions: those that each theorem names. -/
import Derived.Test.YtknkmaigdgfhlaazI
import Derived.Test.YtknkmaigdgfhlaaCb
namespace Go.Bt.FZ
open Go Go.Proofs
set_option maxRecDepth 20000
set_option maxHeartbeats 4000000
set_option linter.unusedVariables false

namespace Pl
open Go.Bt.Pl
theorem pre_snoc {α : Type} : ∀ (X : List α) (K : List (List α)) (x : α) (k : List α), X.length = K.length → pre (X ++ [x]) (K ++ [k]) = pre X K ++ (k ++ [x])
  | [], [], x, k, _ => by simp [pre]
  | y :: X, l :: K, x, k, h => by
    simp only [List.cons_append, pre]
    rw [pre_snoc X K x k (by simpa using h)]
    simp
  | [], _ :: _, _, _, h => by simp at h
  | _ :: _, [], _, _, h => by simp at h
theorem inter_last {α : Type} {X : List α} {K : List (List α)} {k : List α} (hl : K.length = X.length + 1) (hk : K[X.length]? = some k) : inter X K = pre X (K.take X.length) ++ k := by
  have hsp : K = K.take X.length ++ k :: [] := by
    obtain ⟨h1, h2⟩ := List.getElem?_eq_some_iff.1 hk
    rw [← h2]
    have := List.take_append_drop X.length K
    rw [← List.getElem_cons_drop (h := h1), List.drop_of_length_le (show K.length ≤ X.length + 1 by omega)] at this
    exact this.symm
  have := inter_focus X [] (K.take X.length) k [] (by rw [List.length_take]; omega) rfl
  rw [List.append_nil, ← hsp] at this
  rw [this]; simp [post]
end Pl
namespace Pl
open Go.Bt.Pl
theorem inter_drop1 {α : Type} {X : List α} {K : List (List α)} {x : α} {k : List α} {j : Nat} (hx : X[j]? = some x) (hk : K[j]? = some k) : inter (X.drop j) (K.drop j) = k ++ x :: inter (X.drop (j + 1)) (K.drop (j + 1)) := by
  obtain ⟨h1, h2⟩ := List.getElem?_eq_some_iff.1 hx
  obtain ⟨h3, h4⟩ := List.getElem?_eq_some_iff.1 hk
  rw [← List.getElem_cons_drop (h := h1), ← List.getElem_cons_drop (h := h3), h2, h4]
  rfl
theorem inter_dropn {α : Type} {X : List α} {K : List (List α)} (hl : K.length = X.length + 1) : ∀ j, j ≤ X.length → ∃ A, inter X K = A ++ inter (X.drop j) (K.drop j)
  | 0, _ => ⟨[], by simp⟩
  | j + 1, h => by
    obtain ⟨A, hA⟩ := inter_dropn hl j (by omega)
    exact ⟨A ++ K[j]'(by omega) ++ [X[j]'(by omega)], by rw [hA, inter_drop1 (List.getElem?_eq_getElem (by omega)) (List.getElem?_eq_getElem (by omega))]; simp⟩
end Pl
def encKV (x : Int) : List Value := [.int .i64 x, .agg #[]]
theorem takes_stop {go : List Int → Bool} {acc l r : List Int} (h : (takes go acc l).2 = false) : takes go acc (l ++ r) = takes go acc l := by rw [takes_append, h]; rfl
theorem takes_on {go : List Int → Bool} {acc l r : List Int} (h : (takes go acc l).2 = true) : takes go acc (l ++ r) = takes go (takes go acc l).1 r := by rw [takes_append, h]; rfl
/-- What a reader with a function is called with. -/
structure VPre {P' : Program} {B : World} {g : FuncId} {us cs : List Value} {go : List Int → Bool} {M : Nat} (cb : Cb P' B encKV g us cs go M) (H : Mem) (tr : Nat) (P : Ps) (h : Nat) (t : Gt EI h) (bp op : Nat) (acc : List Int) (Z : Nat → Prop) : Prop where
  tc : TrC H tr P.iso P.mx P.mn
  g : Gt.Good H P h t
  cel : cl H bp op = some (ptr (Gt.p h t))
  nz : ∀ b o, Gt.af h t b o → ¬ Z b
  ntr : ¬ Z tr
  st : cb.T acc Z H
  len : acc.length + (Gt.L h t).length ≤ M
namespace Pl
open Go.Bt.Pl
theorem inter_pre {α : Type} : ∀ (j : Nat) (X : List α) (K : List (List α)), K.length = X.length + 1 → j ≤ X.length → inter X K = pre (X.take j) (K.take j) ++ inter (X.drop j) (K.drop j)
  | 0, X, K, _, _ => by simp [pre]
  | j + 1, [], _, _, h => by simp at h
  | j + 1, _ :: _, [], h, _ => by simp at h
  | j + 1, x :: X, k :: K, hl, h => by
    simp only [List.take_succ_cons, List.drop_succ_cons, pre, inter]
    rw [inter_pre j X K (by simpa using hl) (by simpa using h)]
    simp
end Pl

theorem nscan0 {B : World} {g : FuncId} {us cs : List Value} {go : List Int → Bool} {M : Nat} (cb : Cb Try.prog B encKV g us cs go M) (hcall : ∀ (args : Array Value) (w : World), (callFunc g args).run Try.prog w = .ok (.enter g args) w) {tr : Nat} {P : Ps} (hP : PsOk P) (mt : Bool) {H : Mem} {bp op : Nat} {acc : List Int} {Z : Nat → Prop} {t : Gt EI 0} (hp : VPre cb H tr P 0 t bp op acc Z) :
    Fn Try.prog B 170 [.pointer (some ⟨tr, 0, none⟩), .pointer (some ⟨bp, op, none⟩), .func (.func g) us.toArray cs.toArray, .bool mt] H (fun r H' => r = .bool (takes go acc (Gt.L 0 t)).2 ∧ CbPost cb acc Z H (Gt.L 0 t) H') := by
  obtain ⟨gg, X⟩ := t
  obtain ⟨tc, hg, hc, hnz, hntr, hst, hlen⟩ := hp
  have hN : NodeM EI H gg X (.pointer none) := hg.1
  have hiso : gg.iso = P.iso := hg.2.1
  have hxm : X.length ≤ P.mx := hg.2.2.2
  have hx255 := hP.hx
  replace hlen : acc.length + X.length ≤ M := hlen
  have hc0 := hN.c0
  rw [hiso] at hc0
  show Fn _ _ _ _ _ (fun r H' => r = .bool (takes go acc X).2 ∧ CbPost cb acc Z H X H')
  refine fn_of Go.Proofs.Try.func170 rfl Go.Proofs.Try.ntmps170 ?_
  refine (show Go' _ _ _ _ 106 [(0, _), (1, _), (2, _), (3, _)] [.code _] _ from ?_)
  refine Go'.seq ?_
  -- region 0 (map.go:274)
  refine Go'.region [(0, 0)] rfl ?_
  refine O.asg rfl rfl rfl rfl rfl ?_
  refine Pl.fin [(0, _), (1, _), (2, _), (3, _), (8, _)] ⟨rfl, rfl, rfl, rfl, rfl, trivial⟩ ?_
  refine Go'.seq ?_
  -- region 1 (map.go:277)
  refine Go'.region [(0, 0), (1, 0), (2, 0), (3, 2), (4, 0)] rfl ?_
  refine O.mv rfl rfl rfl rfl rfl ?_
  refine O.mv rfl rfl rfl rfl rfl ?_
  refine O.mv rfl rfl rfl rfl rfl ?_
  refine O.callQ rfl rfl rfl Go.Proofs.Try.call151 rfl (isoLoad_spec mt hc hc0 tc.iso) trivial ?_
  refine O.asg rfl rfl rfl rfl rfl ?_
  refine Pl.fin [(0, _), (2, _), (3, _), (8, _), (9, _)] ⟨rfl, rfl, rfl, rfl, rfl, trivial⟩ ?_
  refine Go'.seq ?_
  refine Go'.seq ?_
  unfold ptr
  -- region 2 (map.go:278)
  refine Go'.region [(0, 0), (1, 2)] rfl ?_
  refine O.mv rfl rfl rfl rfl rfl ?_
  refine O.callQ rfl rfl rfl Go.Proofs.Try.call152 rfl (leaf_spec hN.c3) trivial ?_
  refine Pl.fin [(0, _), (2, _), (3, _), (8, _), (9, _), (17, _)] ⟨rfl, rfl, rfl, rfl, rfl, rfl, trivial⟩ ?_
  refine Go'.condT rfl ?_
  refine Go'.seq ?_
  refine Go'.seq ?_
  -- region 3 (map.go:279)
  refine Go'.region [(0, 0)] rfl ?_
  refine O.asg rfl rfl rfl rfl rfl ?_
  refine Pl.fin [(0, _), (2, _), (3, _), (8, _), (9, _), (10, _)] ⟨rfl, rfl, rfl, rfl, rfl, rfl, trivial⟩ ?_
  refine Go'.block ?_
  refine Go'.loop ?_
  refine Go'.keep [(2, _), (9, _), (10, _)] ⟨rfl, rfl, rfl, trivial⟩ ?_
  refine Go'.ind (σ := Nat × (Nat → Prop)) (fun s => X.length - s.1) (fun s H' => s.1 ≤ X.length ∧ (takes go acc (X.take s.1)).2 = true ∧ cb.T (takes go acc (X.take s.1)).1 s.2 H' ∧ Fr (fun b _ => Z b) H H' ∧ ∀ b, s.2 b → Z b ∨ H.size ≤ b)
    (fun s => [(2, .func (.func g) us.toArray cs.toArray), (9, .pointer (some ⟨gg.p, 0, none⟩)), (10, .int .i64 (s.1 : Int))]) (0, Z) ⟨Nat.zero_le _, by simp [takes], by simpa [takes] using hst, Fr.refl _ _, fun b hb => .inl hb⟩ rfl ?_
  rintro ⟨j, Z1⟩ H2 ⟨hj, htk, hT, hF, hZ1⟩ ih
  simp only at hj htk hT hZ1
  replace hN := NodeM.fr EI hN hF (fun x y hxy hz => hnz x y hxy hz)
  refine Go'.seq ?_
  refine Go'.seq ?_
  by_cases hlt : j < X.length
  · skip
    obtain ⟨y, hy⟩ : ∃ y, X[j]? = some y := ⟨X[j], List.getElem?_eq_getElem hlt⟩
    have hd : X.take (j + 1) = X.take j ++ [y] := by rw [List.take_add_one, hy]; rfl
    have hall : X = X.take (j + 1) ++ X.drop (j + 1) := (List.take_append_drop _ _).symm
    have htl := takes_length go (X.take j) acc
    rw [List.length_take] at htl
    have e1 : takes go acc (X.take (j + 1)) = takes go (takes go acc (X.take j)).1 [y] := by rw [hd, takes_on htk]
    generalize hA : (takes go acc (X.take j)).1 = A at *
    -- region 4 (map.go:279)
    refine Go'.region [(0, 0), (1, 0), (2, 0), (3, 0), (4, 1), (5, 0), (6, 0)] rfl ?_
    refine O.mv rfl rfl rfl rfl rfl ?_
    refine O.mv rfl rfl rfl rfl rfl ?_
    refine O.nc rfl rfl rfl rfl rfl ?_
    refine O.fa0 (off := 2) rfl rfl rfl rfl ⟨_, _, _, Go.Proofs.Try.underlying205, rfl, rfl, Go.Proofs.Try.sizeOf202⟩ rfl ?_
    refine O.ld rfl rfl rfl (fun w => ⟨Go.Proofs.Try.isAgg202 w, Go.Proofs.Try.sizeOf202 w⟩) rfl hN.c2 ?_
    refine O.len rfl rfl rfl rfl Go.Proofs.Try.underlying202 rfl ?_
    refine O.cmp rfl rfl rfl rfl rfl rfl (lssT (by omega)) ?_
    refine Pl.fin [(2, _), (9, _), (10, _), (24, _)] ⟨rfl, rfl, rfl, rfl, trivial⟩ ?_
    refine Go'.condT rfl ?_
    refine Go'.skip ?_
    refine Go'.seq ?_
    refine Go'.block ?_
    refine Go'.seq ?_
    cases hgo : go (A ++ [y])
    · skip
      -- region 6 (map.go:280)
      refine Go'.draw (fun _ => True) [(0, 0), (1, 0), (2, 0), (3, 0), (4, 1), (5, 0), (6, 0), (7, 0), (8, 1), (9, 0), (10, 0), (11, 0), (12, 1), (13, 0), (14, 0), (15, 1), (16, 1), (17, 2), (18, 0)] (by kernel_rfl) (by kernel_rfl) (trivial) ?_
      refine O.mv rfl rfl rfl rfl rfl ?_
      refine O.mv rfl rfl rfl rfl rfl ?_
      refine O.nc rfl rfl rfl rfl rfl ?_
      refine O.fa0 (off := 2) rfl rfl rfl rfl ⟨_, _, _, Go.Proofs.Try.underlying205, rfl, rfl, Go.Proofs.Try.sizeOf202⟩ rfl ?_
      refine O.ld rfl rfl rfl (fun w => ⟨Go.Proofs.Try.isAgg202 w, Go.Proofs.Try.sizeOf202 w⟩) rfl hN.c2 ?_
      refine O.mv rfl rfl rfl rfl rfl ?_
      refine O.ix (j := j) rfl rfl rfl rfl Go.Proofs.Try.underlying202 Go.Proofs.Try.sizeOf138 rfl rfl (by omega) (by omega) ?_
      refine O.faz rfl rfl rfl rfl ⟨_, _, _, Go.Proofs.Try.underlying138, rfl, rfl, Go.Proofs.Try.sizeOf3⟩ rfl ?_
      refine O.ld rfl rfl rfl (fun w => ⟨Go.Proofs.Try.isAgg3 w, Go.Proofs.Try.sizeOf3 w⟩) rfl (hN.sl.cell hy (j := 0) rfl) ?_
      refine O.mv rfl rfl rfl rfl rfl ?_
      refine O.nc rfl rfl rfl rfl rfl ?_
      refine O.fa0 (off := 2) rfl rfl rfl rfl ⟨_, _, _, Go.Proofs.Try.underlying205, rfl, rfl, Go.Proofs.Try.sizeOf202⟩ rfl ?_
      refine O.ld rfl rfl rfl (fun w => ⟨Go.Proofs.Try.isAgg202 w, Go.Proofs.Try.sizeOf202 w⟩) rfl hN.c2 ?_
      refine O.mv rfl rfl rfl rfl rfl ?_
      refine O.ix (j := j) rfl rfl rfl rfl Go.Proofs.Try.underlying202 Go.Proofs.Try.sizeOf138 rfl rfl (by omega) (by omega) ?_
      refine O.fz1 rfl rfl rfl ty ⟨_, _, Go.Proofs.Try.underlying138, rfl, rfl, rfl, Go.Proofs.Try.sizeOf136⟩ rfl (hN.sl.wri hlt) ?_
      refine O.lds rfl rfl rfl (fun w => ⟨Go.Proofs.Try.isAgg136 w, Go.Proofs.Try.sizeOf136 w⟩) rfl rfl (Rd.nil _ _ _) ?_
      refine O.callC rfl rfl rfl rfl hcall rfl (cb.call y hT (by omega)) ?_
      rintro _ H3 ⟨rfl, Z2, hT2, hF2, hZ2⟩
      rw [hgo]
      have hsz := hF.size
      refine ⟨trivial, ?_⟩
      refine O.not rfl rfl rfl rfl rfl ?_
      refine Pl.fin [(2, _), (9, _), (10, _), (24, _), (45, _)] ⟨rfl, rfl, rfl, rfl, rfl, trivial⟩ ?_
      refine Go'.condT rfl ?_
      refine Go'.seq ?_
      -- region 7 (map.go:281)
      refine Go'.region [(0, 0)] rfl ?_
      refine O.asg rfl rfl rfl rfl rfl ?_
      refine Pl.fin [(2, _), (8, _), (9, _), (10, _), (24, _), (45, _)] ⟨rfl, rfl, rfl, rfl, rfl, rfl, trivial⟩ ?_
      refine Go'.ret (vs := [_]) Go.Proofs.Try.func170 Go.Proofs.Try.results170 ⟨rfl, trivial⟩ ?_
      have e2 : takes go acc (X.take (j + 1)) = (A ++ [y], false) := by rw [e1]; simp [takes, hgo]
      have e3 : takes go acc X = (A ++ [y], false) := by rw [hall, takes_stop (by rw [e2]), e2]
      refine ⟨by rw [e3]; rfl, Z2, by rw [e3]; exact hT2, hF.trans' hF2 (fun _ _ _ h => h) (fun b o hb hz => (hZ1 b hz).elim id (fun h => by omega)), fun b hb => (hZ2 b hb).elim (hZ1 b) (fun h => .inr (by omega))⟩
    · skip
      -- region 6 (map.go:280)
      refine Go'.draw (fun _ => True) [(0, 0), (1, 0), (2, 0), (3, 0), (4, 1), (5, 0), (6, 0), (7, 0), (8, 1), (9, 0), (10, 0), (11, 0), (12, 1), (13, 0), (14, 0), (15, 1), (16, 1), (17, 2), (18, 0)] (by kernel_rfl) (by kernel_rfl) (trivial) ?_
      refine O.mv rfl rfl rfl rfl rfl ?_
      refine O.mv rfl rfl rfl rfl rfl ?_
      refine O.nc rfl rfl rfl rfl rfl ?_
      refine O.fa0 (off := 2) rfl rfl rfl rfl ⟨_, _, _, Go.Proofs.Try.underlying205, rfl, rfl, Go.Proofs.Try.sizeOf202⟩ rfl ?_
      refine O.ld rfl rfl rfl (fun w => ⟨Go.Proofs.Try.isAgg202 w, Go.Proofs.Try.sizeOf202 w⟩) rfl hN.c2 ?_
      refine O.mv rfl rfl rfl rfl rfl ?_
      refine O.ix (j := j) rfl rfl rfl rfl Go.Proofs.Try.underlying202 Go.Proofs.Try.sizeOf138 rfl rfl (by omega) (by omega) ?_
      refine O.faz rfl rfl rfl rfl ⟨_, _, _, Go.Proofs.Try.underlying138, rfl, rfl, Go.Proofs.Try.sizeOf3⟩ rfl ?_
      refine O.ld rfl rfl rfl (fun w => ⟨Go.Proofs.Try.isAgg3 w, Go.Proofs.Try.sizeOf3 w⟩) rfl (hN.sl.cell hy (j := 0) rfl) ?_
      refine O.mv rfl rfl rfl rfl rfl ?_
      refine O.nc rfl rfl rfl rfl rfl ?_
      refine O.fa0 (off := 2) rfl rfl rfl rfl ⟨_, _, _, Go.Proofs.Try.underlying205, rfl, rfl, Go.Proofs.Try.sizeOf202⟩ rfl ?_
      refine O.ld rfl rfl rfl (fun w => ⟨Go.Proofs.Try.isAgg202 w, Go.Proofs.Try.sizeOf202 w⟩) rfl hN.c2 ?_
      refine O.mv rfl rfl rfl rfl rfl ?_
      refine O.ix (j := j) rfl rfl rfl rfl Go.Proofs.Try.underlying202 Go.Proofs.Try.sizeOf138 rfl rfl (by omega) (by omega) ?_
      refine O.fz1 rfl rfl rfl ty ⟨_, _, Go.Proofs.Try.underlying138, rfl, rfl, rfl, Go.Proofs.Try.sizeOf136⟩ rfl (hN.sl.wri hlt) ?_
      refine O.lds rfl rfl rfl (fun w => ⟨Go.Proofs.Try.isAgg136 w, Go.Proofs.Try.sizeOf136 w⟩) rfl rfl (Rd.nil _ _ _) ?_
      refine O.callC rfl rfl rfl rfl hcall rfl (cb.call y hT (by omega)) ?_
      rintro _ H3 ⟨rfl, Z2, hT2, hF2, hZ2⟩
      rw [hgo]
      have hsz := hF.size
      refine ⟨trivial, ?_⟩
      refine O.not rfl rfl rfl rfl rfl ?_
      refine Pl.fin [(2, _), (9, _), (10, _), (24, _), (45, _)] ⟨rfl, rfl, rfl, rfl, rfl, trivial⟩ ?_
      refine Go'.condF rfl ?_
      refine Go'.skip ?_
      refine Go'.inBlock ?_
      -- region 5 (map.go:279)
      refine Go'.region [(0, 0), (1, 0), (2, 0)] rfl ?_
      refine O.mv rfl rfl rfl rfl rfl ?_
      refine O.add (((j + 1 : Nat) : Int)) rfl rfl rfl rfl rfl rfl (by omega) (by omega) ?_
      refine O.asg rfl rfl rfl rfl rfl ?_
      refine Pl.fin [(2, _), (9, _), (10, _), (24, _), (45, _)] ⟨rfl, rfl, rfl, rfl, rfl, trivial⟩ ?_
      refine Go'.keep [(2, _), (9, _), (10, _)] ⟨rfl, rfl, rfl, trivial⟩ ?_
      refine Go'.inLoop ?_
      have e2 : takes go acc (X.take (j + 1)) = (A ++ [y], true) := by rw [e1]; simp [takes, hgo]
      exact ih (j + 1, Z2) H3 ⟨by simp only; omega, by rw [e2], by rw [e2]; exact hT2, hF.trans' hF2 (fun _ _ _ h => h) (fun b o hb hz => (hZ1 b hz).elim id (fun h => by omega)), fun b hb => (hZ2 b hb).elim (hZ1 b) (fun h => .inr (by omega))⟩ (by simp only; omega)
  · skip
    obtain rfl : j = X.length := by omega
    -- region 4 (map.go:279)
    refine Go'.region [(0, 0), (1, 0), (2, 0), (3, 0), (4, 1), (5, 0), (6, 0)] rfl ?_
    refine O.mv rfl rfl rfl rfl rfl ?_
    refine O.mv rfl rfl rfl rfl rfl ?_
    refine O.nc rfl rfl rfl rfl rfl ?_
    refine O.fa0 (off := 2) rfl rfl rfl rfl ⟨_, _, _, Go.Proofs.Try.underlying205, rfl, rfl, Go.Proofs.Try.sizeOf202⟩ rfl ?_
    refine O.ld rfl rfl rfl (fun w => ⟨Go.Proofs.Try.isAgg202 w, Go.Proofs.Try.sizeOf202 w⟩) rfl hN.c2 ?_
    refine O.len rfl rfl rfl rfl Go.Proofs.Try.underlying202 rfl ?_
    refine O.cmp rfl rfl rfl rfl rfl rfl (lssF (by omega)) ?_
    refine Pl.fin [(2, _), (9, _), (10, _), (24, _)] ⟨rfl, rfl, rfl, rfl, trivial⟩ ?_
    refine Go'.condF rfl ?_
    refine Go'.exit rfl ?_
    refine Go'.seq ?_
    -- region 8 (map.go:284)
    refine Go'.region [(0, 0)] rfl ?_
    refine O.asg rfl rfl rfl rfl rfl ?_
    refine Pl.fin [(2, _), (8, _), (9, _)] ⟨rfl, rfl, rfl, trivial⟩ ?_
    refine Go'.ret (vs := [_]) Go.Proofs.Try.func170 Go.Proofs.Try.results170 ⟨rfl, trivial⟩ ?_
    rw [List.take_length] at htk hT
    exact ⟨by rw [htk]; rfl, Z1, hT, hF, hZ1⟩

theorem nscan {B : World} {g : FuncId} {us cs : List Value} {go : List Int → Bool} {M : Nat} (cb : Cb Try.prog B encKV g us cs go M) (hcall : ∀ (args : Array Value) (w : World), (callFunc g args).run Try.prog w = .ok (.enter g args) w) {tr : Nat} {P : Ps} (hP : PsOk P) (mt : Bool) : ∀ (h : Nat) {H : Mem} {bp op : Nat} {acc : List Int} {Z : Nat → Prop} {t : Gt EI h}, VPre cb H tr P h t bp op acc Z →
    Fn Try.prog B 170 [.pointer (some ⟨tr, 0, none⟩), .pointer (some ⟨bp, op, none⟩), .func (.func g) us.toArray cs.toArray, .bool mt] H (fun r H' => r = .bool (takes go acc (Gt.L h t)).2 ∧ CbPost cb acc Z H (Gt.L h t) H')
  | 0, _, _, _, _, _, _, hp => nscan0 cb hcall hP mt hp
  | h + 1, H, bp, op, acc, Z, (gg, X, K), hp => by
    have ih := @nscan B g us cs go M cb hcall tr P hP mt h
    obtain ⟨tc, hg, hc, hnz, hntr, hst, hlen⟩ := hp
    have hI : Inn H P h gg X ((Gt.ps h K).map some) K := hg.inn
    have hKl : K.length = X.length + 1 := hg.2.2.2.2.2.1
    have hxm : X.length ≤ P.mx := hg.2.2.2.2.1
    have hx255 := hP.hx
    have hKL : (K.map (Gt.L h)).length = X.length + 1 := by rw [List.length_map]; exact hKl
    have hol : ((Gt.ps h K).map some).length = X.length + 1 := by rw [List.length_map, Gt.ps, List.length_map]; exact hKl
    replace hlen : acc.length + (Pl.inter X (K.map (Gt.L h))).length ≤ M := hlen
    have hlt : ∀ x y, innc h gg K x y → x < H.size := fun x y hb => hI.lt hb
    obtain ⟨_, _, _, hkb⟩ := hI.cells
    have hkz : ¬ Z gg.kb := fun e => hnz gg.kb gg.ko (.inr (.inl (show kcl gg gg.kb gg.ko from .inr ⟨rfl, Nat.le_refl _, by have := hI.k.kc; omega⟩))) e
    have htl : tr < H.size := cl_lt tc.iso
    have hc0 := hI.n.c0
    rw [hI.iso] at hc0
    have hin : ∀ H', Fr (fun x _ => Z x) H H' → Inn H' P h gg X ((Gt.ps h K).map some) K := fun H' hf => hI.fr hf (fun x y hxy hz => hnz x y hxy hz)
    have htc : ∀ H', Fr (fun x _ => Z x) H H' → TrC H' tr P.iso P.mx P.mn := fun H' hf => tc.fr hf fun _ _ _ hz => hntr hz
    -- a child at any time
    have hkid : ∀ {H2 : Mem} {Z1 : Nat → Prop} {A : List Int} {j : Nat} {k : Gt EI h}, K[j]? = some k → Fr (fun x _ => Z x) H H2 → cb.T A Z1 H2 → (∀ b, Z1 b → Z b ∨ H.size ≤ b) → A.length + (Gt.L h k).length ≤ M → VPre cb H2 tr P h k gg.kb (gg.ko + j * 1) A Z1 := by
      intro H2 Z1 A j k hkk hF hT hZ1 hA
      have hkK : k ∈ K := List.mem_of_getElem? hkk
      have hI2 := hin H2 hF
      have hok : ((Gt.ps h K).map some)[j]? = some (some (Gt.p h k)) := by rw [Gt.ps, List.map_map, List.getElem?_map, hkk]; rfl
      exact ⟨htc H2 hF, (hI2.c.1 k hkK).1, hI2.k.at hok, fun b o hb hz => (hZ1 b hz).elim (fun hz => hnz b o (.inr (.inr ⟨k, hkK, hb⟩)) hz) (fun hz => by have := hlt b o (.inr (.inr ⟨k, hkK, hb⟩)); omega),
        fun hz => (hZ1 _ hz).elim hntr (fun h => by omega), hT, hA⟩
    have hkz1 : ∀ Z1 : Nat → Prop, (∀ b, Z1 b → Z b ∨ H.size ≤ b) → ¬ Z1 gg.kb := fun Z1 hZ1 hz => (hZ1 _ hz).elim hkz (fun h => by omega)
    have hcat : ∀ {Z1 Z2 : Nat → Prop} {H2 H3 : Mem}, Fr (fun x _ => Z x) H H2 → (∀ b, Z1 b → Z b ∨ H.size ≤ b) → Fr (fun x _ => Z1 x) H2 H3 → (∀ b, Z2 b → Z1 b ∨ H2.size ≤ b) → Fr (fun x _ => Z x) H H3 ∧ ∀ b, Z2 b → Z b ∨ H.size ≤ b := by
      intro Z1 Z2 H2 H3 hF hZ1 hF2 hZ2
      have := hF.size
      exact ⟨hF.trans' hF2 (fun _ _ _ h => h) (fun b o hb hz => (hZ1 b hz).elim id (fun h => by omega)), fun b hb => (hZ2 b hb).elim (hZ1 b) (fun h => .inr (by omega))⟩
    obtain ⟨kn, hkn⟩ : ∃ k, K[X.length]? = some k := ⟨K[X.length], List.getElem?_eq_getElem (by omega)⟩
    have hknL : (K.map (Gt.L h))[X.length]? = some (Gt.L h kn) := by rw [List.getElem?_map, hkn]; rfl
    have hLn : Pl.inter X (K.map (Gt.L h)) = Pl.pre X ((K.map (Gt.L h)).take X.length) ++ Gt.L h kn := Pl.inter_last hKL hknL
    have hlast : Pl.inter (X.drop X.length) ((K.map (Gt.L h)).drop X.length) = Gt.L h kn := by
      obtain ⟨h1, h2⟩ := List.getElem?_eq_some_iff.1 hknL
      rw [List.drop_length, ← List.getElem_cons_drop (h := h1), h2, List.drop_of_length_le (by omega)]; rfl
    show Fn _ _ _ _ _ (fun r H' => r = .bool (takes go acc (Pl.inter X (K.map (Gt.L h)))).2 ∧ CbPost cb acc Z H (Pl.inter X (K.map (Gt.L h))) H')
    have hlenn : acc.length + (Gt.L h kn).length ≤ M := by rw [hLn, List.length_append] at hlen; omega
    refine fn_of Go.Proofs.Try.func170 rfl Go.Proofs.Try.ntmps170 ?_
    refine (show Go' _ _ _ _ 106 [(0, _), (1, _), (2, _), (3, _)] [.code _] _ from ?_)
    refine Go'.seq ?_
    -- region 0 (map.go:274)
    refine Go'.region [(0, 0)] rfl ?_
    refine O.asg rfl rfl rfl rfl rfl ?_
    refine Pl.fin [(0, _), (1, _), (2, _), (3, _), (8, _)] ⟨rfl, rfl, rfl, rfl, rfl, trivial⟩ ?_
    refine Go'.seq ?_
    -- region 1 (map.go:277)
    refine Go'.region [(0, 0), (1, 0), (2, 0), (3, 2), (4, 0)] rfl ?_
    refine O.mv rfl rfl rfl rfl rfl ?_
    refine O.mv rfl rfl rfl rfl rfl ?_
    refine O.mv rfl rfl rfl rfl rfl ?_
    refine O.callQ rfl rfl rfl Go.Proofs.Try.call151 rfl (isoLoad_spec mt hc hc0 tc.iso) trivial ?_
    refine O.asg rfl rfl rfl rfl rfl ?_
    refine Pl.fin [(0, _), (2, _), (3, _), (8, _), (9, _)] ⟨rfl, rfl, rfl, rfl, rfl, trivial⟩ ?_
    refine Go'.seq ?_
    refine Go'.seq ?_
    unfold ptr
    -- region 2 (map.go:278)
    refine Go'.region [(0, 0), (1, 2)] rfl ?_
    refine O.mv rfl rfl rfl rfl rfl ?_
    refine O.callQ rfl rfl rfl Go.Proofs.Try.call152 rfl (leaf_spec hI.n.c3) trivial ?_
    refine Pl.fin [(0, _), (2, _), (3, _), (8, _), (9, _), (17, _)] ⟨rfl, rfl, rfl, rfl, rfl, rfl, trivial⟩ ?_
    refine Go'.condF rfl ?_
    refine Go'.skip ?_
    refine Go'.seq ?_
    refine Go'.seq ?_
    -- region 9 (map.go:286)
    refine Go'.region [(0, 0)] rfl ?_
    refine O.asg rfl rfl rfl rfl rfl ?_
    refine Pl.fin [(0, _), (2, _), (3, _), (8, _), (9, _), (11, _)] ⟨rfl, rfl, rfl, rfl, rfl, rfl, trivial⟩ ?_
    refine Go'.block ?_
    refine Go'.loop ?_
    refine Go'.keep [(0, _), (2, _), (3, _), (9, _), (11, _)] ⟨rfl, rfl, rfl, rfl, rfl, trivial⟩ ?_
    refine Go'.ind (σ := Nat × (Nat → Prop)) (fun s => X.length - s.1) (fun s H' => s.1 ≤ X.length ∧ (takes go acc (Pl.pre (X.take s.1) ((K.map (Gt.L h)).take s.1))).2 = true ∧ cb.T (takes go acc (Pl.pre (X.take s.1) ((K.map (Gt.L h)).take s.1))).1 s.2 H' ∧ Fr (fun b _ => Z b) H H' ∧ ∀ b, s.2 b → Z b ∨ H.size ≤ b)
      (fun s => [(0, .pointer (some ⟨tr, 0, none⟩)), (2, .func (.func g) us.toArray cs.toArray), (3, .bool mt), (9, .pointer (some ⟨gg.p, 0, none⟩)), (11, .int .i64 (s.1 : Int))]) (0, Z) ⟨Nat.zero_le _, by simp [takes, Pl.pre], by simpa [takes, Pl.pre] using hst, Fr.refl _ _, fun b hb => .inl hb⟩ rfl ?_
    rintro ⟨j, Z1⟩ H3 ⟨hj, htk, hT, hF, hZ1⟩ ih2
    simp only at hj htk hT hZ1
    have hI3 := hin H3 hF
    obtain ⟨k, hkk⟩ : ∃ k, K[j]? = some k := ⟨K[j], List.getElem?_eq_getElem (by omega)⟩
    have hkL : (K.map (Gt.L h))[j]? = some (Gt.L h k) := by rw [List.getElem?_map, hkk]; rfl
    have hall := Pl.inter_pre j X (K.map (Gt.L h)) hKL hj
    have htl := takes_length go (Pl.pre (X.take j) ((K.map (Gt.L h)).take j)) acc
    refine Go'.seq ?_
    refine Go'.seq ?_
    by_cases hlt2 : j < X.length
    · skip
      obtain ⟨y, hy⟩ : ∃ y, X[j]? = some y := ⟨X[j], List.getElem?_eq_getElem hlt2⟩
      rw [Pl.inter_drop1 hy hkL] at hall
      have e1 : X.take (j + 1) = X.take j ++ [y] := by rw [List.take_add_one, hy]; rfl
      have e2 : (K.map (Gt.L h)).take (j + 1) = (K.map (Gt.L h)).take j ++ [Gt.L h k] := by rw [List.take_add_one, hkL]; rfl
      have hsn : Pl.pre (X.take (j + 1)) ((K.map (Gt.L h)).take (j + 1)) = Pl.pre (X.take j) ((K.map (Gt.L h)).take j) ++ (Gt.L h k ++ [y]) := by rw [e1, e2, Pl.pre_snoc _ _ _ _ (by rw [List.length_take, List.length_take]; omega)]
      have hlen2 := congrArg List.length hall
      simp only [List.length_append, List.length_cons] at hlen2
      have t1 := takes_on (r := Gt.L h k ++ y :: Pl.inter (X.drop (j + 1)) ((K.map (Gt.L h)).drop (j + 1))) htk
      have t2 := takes_on (r := Gt.L h k ++ [y]) htk
      rw [← hall] at t1
      rw [← hsn] at t2
      generalize hA : (takes go acc (Pl.pre (X.take j) ((K.map (Gt.L h)).take j))).1 = A at *
      -- region 10 (map.go:286)
      refine Go'.region [(0, 0), (1, 0), (2, 0), (3, 0), (4, 1), (5, 0), (6, 0)] rfl ?_
      refine O.mv rfl rfl rfl rfl rfl ?_
      refine O.mv rfl rfl rfl rfl rfl ?_
      refine O.nc rfl rfl rfl rfl rfl ?_
      refine O.fa0 (off := 2) rfl rfl rfl rfl ⟨_, _, _, Go.Proofs.Try.underlying205, rfl, rfl, Go.Proofs.Try.sizeOf202⟩ rfl ?_
      refine O.ld rfl rfl rfl (fun w => ⟨Go.Proofs.Try.isAgg202 w, Go.Proofs.Try.sizeOf202 w⟩) rfl hI3.n.c2 ?_
      refine O.len rfl rfl rfl rfl Go.Proofs.Try.underlying202 rfl ?_
      refine O.cmp rfl rfl rfl rfl rfl rfl (lssT (by omega)) ?_
      refine Pl.fin [(0, _), (2, _), (3, _), (9, _), (11, _), (52, _)] ⟨rfl, rfl, rfl, rfl, rfl, rfl, trivial⟩ ?_
      refine Go'.condT rfl ?_
      refine Go'.skip ?_
      refine Go'.seq ?_
      refine Go'.block ?_
      refine Go'.seq ?_
      refine Go'.seq ?_
      -- region 12 (map.go:287)
      refine Go'.region [(0, 0), (1, 0), (2, 0), (3, 0), (4, 1), (5, 0), (6, 1), (7, 0), (8, 0), (9, 0), (10, 0), (11, 2), (12, 0)] rfl ?_
      refine O.mv rfl rfl rfl rfl rfl ?_
      refine O.mv rfl rfl rfl rfl rfl ?_
      refine O.nc rfl rfl rfl rfl rfl ?_
      refine O.fa0 (off := 3) rfl rfl rfl rfl ⟨_, _, _, Go.Proofs.Try.underlying205, rfl, rfl, Go.Proofs.Try.sizeOf203⟩ rfl ?_
      refine O.ld rfl rfl rfl (fun w => ⟨Go.Proofs.Try.isAgg203 w, Go.Proofs.Try.sizeOf203 w⟩) rfl hI3.n.c3 ?_
      refine O.nc rfl rfl rfl rfl rfl ?_
      refine O.ld rfl rfl rfl (fun w => ⟨Go.Proofs.Try.isAgg206 w, Go.Proofs.Try.sizeOf206 w⟩) rfl hI3.k.c ?_
      refine O.mv rfl rfl rfl rfl rfl ?_
      refine O.ix (j := j) rfl rfl rfl rfl Go.Proofs.Try.underlying206 Go.Proofs.Try.sizeOf135 rfl rfl (by omega) (by omega) ?_
      refine O.mv rfl rfl rfl rfl rfl ?_
      refine O.mv rfl rfl rfl rfl rfl ?_
      refine O.call rfl rfl rfl Go.Proofs.Try.call170 rfl (ih (hkid hkk hF hT hZ1 (by omega))) ?_
      rintro _ H4 ⟨rfl, Z4, hT4, hF4, hZ4⟩
      obtain ⟨hF5, hZ5⟩ := hcat hF hZ1 hF4 hZ4
      refine ⟨trivial, ?_⟩
      refine O.not rfl rfl rfl rfl rfl ?_
      refine Pl.fin [(0, _), (2, _), (3, _), (9, _), (11, _), (52, _), (67, _)] ⟨rfl, rfl, rfl, rfl, rfl, rfl, rfl, trivial⟩ ?_
      cases htk2 : (takes go A (Gt.L h k)).2
      · skip
        refine Go'.condT rfl ?_
        refine Go'.seq ?_
        -- region 13 (map.go:288)
        refine Go'.region [(0, 0)] rfl ?_
        refine O.asg rfl rfl rfl rfl rfl ?_
        refine Pl.fin [(0, _), (2, _), (3, _), (8, _), (9, _), (11, _), (52, _), (67, _)] ⟨rfl, rfl, rfl, rfl, rfl, rfl, rfl, rfl, trivial⟩ ?_
        refine Go'.ret (vs := [_]) Go.Proofs.Try.func170 Go.Proofs.Try.results170 ⟨rfl, trivial⟩ ?_
        rw [takes_stop htk2] at t1
        unfold CbPost
        rw [t1]
        exact ⟨by rw [htk2]; rfl, Z4, hT4, hF5, hZ5⟩
      · skip
        refine Go'.condF rfl ?_
        refine Go'.skip ?_
        refine Go'.seq ?_
        rw [takes_on htk2] at t1 t2
        have htl2 := takes_length go (Gt.L h k) A
        have hI4 := hin H4 hF5
        generalize hA2 : (takes go A (Gt.L h k)).1 = A2 at *
        cases hgo : go (A2 ++ [y])
        · skip
          -- region 14 (map.go:290)
          refine Go'.draw (fun _ => True) [(0, 0), (1, 0), (2, 0), (3, 0), (4, 1), (5, 0), (6, 0), (7, 0), (8, 1), (9, 0), (10, 0), (11, 0), (12, 1), (13, 0), (14, 0), (15, 1), (16, 1), (17, 2), (18, 0)] (by kernel_rfl) (by kernel_rfl) (trivial) ?_
          refine O.mv rfl rfl rfl rfl rfl ?_
          refine O.mv rfl rfl rfl rfl rfl ?_
          refine O.nc rfl rfl rfl rfl rfl ?_
          refine O.fa0 (off := 2) rfl rfl rfl rfl ⟨_, _, _, Go.Proofs.Try.underlying205, rfl, rfl, Go.Proofs.Try.sizeOf202⟩ rfl ?_
          refine O.ld rfl rfl rfl (fun w => ⟨Go.Proofs.Try.isAgg202 w, Go.Proofs.Try.sizeOf202 w⟩) rfl hI4.n.c2 ?_
          refine O.mv rfl rfl rfl rfl rfl ?_
          refine O.ix (j := j) rfl rfl rfl rfl Go.Proofs.Try.underlying202 Go.Proofs.Try.sizeOf138 rfl rfl (by omega) (by omega) ?_
          refine O.faz rfl rfl rfl rfl ⟨_, _, _, Go.Proofs.Try.underlying138, rfl, rfl, Go.Proofs.Try.sizeOf3⟩ rfl ?_
          refine O.ld rfl rfl rfl (fun w => ⟨Go.Proofs.Try.isAgg3 w, Go.Proofs.Try.sizeOf3 w⟩) rfl (hI4.n.sl.cell hy (j := 0) rfl) ?_
          refine O.mv rfl rfl rfl rfl rfl ?_
          refine O.nc rfl rfl rfl rfl rfl ?_
          refine O.fa0 (off := 2) rfl rfl rfl rfl ⟨_, _, _, Go.Proofs.Try.underlying205, rfl, rfl, Go.Proofs.Try.sizeOf202⟩ rfl ?_
          refine O.ld rfl rfl rfl (fun w => ⟨Go.Proofs.Try.isAgg202 w, Go.Proofs.Try.sizeOf202 w⟩) rfl hI4.n.c2 ?_
          refine O.mv rfl rfl rfl rfl rfl ?_
          refine O.ix (j := j) rfl rfl rfl rfl Go.Proofs.Try.underlying202 Go.Proofs.Try.sizeOf138 rfl rfl (by omega) (by omega) ?_
          refine O.fz1 rfl rfl rfl ty ⟨_, _, Go.Proofs.Try.underlying138, rfl, rfl, rfl, Go.Proofs.Try.sizeOf136⟩ rfl (hI4.n.sl.wri (i := j) (by omega)) ?_
          refine O.lds rfl rfl rfl (fun w => ⟨Go.Proofs.Try.isAgg136 w, Go.Proofs.Try.sizeOf136 w⟩) rfl rfl (Rd.nil _ _ _) ?_
          refine O.callC rfl rfl rfl rfl hcall rfl (cb.call y hT4 (by omega)) ?_
          rintro _ H6 ⟨rfl, Z6, hT6, hF6, hZ6⟩
          rw [hgo]
          obtain ⟨hF7, hZ7⟩ := hcat hF5 hZ5 hF6 hZ6
          refine ⟨trivial, ?_⟩
          refine O.not rfl rfl rfl rfl rfl ?_
          refine Pl.fin [(0, _), (2, _), (3, _), (9, _), (11, _), (52, _), (67, _), (86, _)] ⟨rfl, rfl, rfl, rfl, rfl, rfl, rfl, rfl, trivial⟩ ?_
          refine Go'.condT rfl ?_
          refine Go'.seq ?_
          -- region 15 (map.go:291)
          refine Go'.region [(0, 0)] rfl ?_
          refine O.asg rfl rfl rfl rfl rfl ?_
          refine Pl.fin [(0, _), (2, _), (3, _), (8, _), (9, _), (11, _), (52, _), (67, _), (86, _)] ⟨rfl, rfl, rfl, rfl, rfl, rfl, rfl, rfl, rfl, trivial⟩ ?_
          refine Go'.ret (vs := [_]) Go.Proofs.Try.func170 Go.Proofs.Try.results170 ⟨rfl, trivial⟩ ?_
          have e3 : takes go acc (Pl.inter X (K.map (Gt.L h))) = (A2 ++ [y], false) := by rw [t1]; simp [takes, hgo]
          unfold CbPost
          rw [e3]
          exact ⟨rfl, Z6, hT6, hF7, hZ7⟩
        · skip
          -- region 14 (map.go:290)
          refine Go'.draw (fun _ => True) [(0, 0), (1, 0), (2, 0), (3, 0), (4, 1), (5, 0), (6, 0), (7, 0), (8, 1), (9, 0), (10, 0), (11, 0), (12, 1), (13, 0), (14, 0), (15, 1), (16, 1), (17, 2), (18, 0)] (by kernel_rfl) (by kernel_rfl) (trivial) ?_
          refine O.mv rfl rfl rfl rfl rfl ?_
          refine O.mv rfl rfl rfl rfl rfl ?_
          refine O.nc rfl rfl rfl rfl rfl ?_
          refine O.fa0 (off := 2) rfl rfl rfl rfl ⟨_, _, _, Go.Proofs.Try.underlying205, rfl, rfl, Go.Proofs.Try.sizeOf202⟩ rfl ?_
          refine O.ld rfl rfl rfl (fun w => ⟨Go.Proofs.Try.isAgg202 w, Go.Proofs.Try.sizeOf202 w⟩) rfl hI4.n.c2 ?_
          refine O.mv rfl rfl rfl rfl rfl ?_
          refine O.ix (j := j) rfl rfl rfl rfl Go.Proofs.Try.underlying202 Go.Proofs.Try.sizeOf138 rfl rfl (by omega) (by omega) ?_
          refine O.faz rfl rfl rfl rfl ⟨_, _, _, Go.Proofs.Try.underlying138, rfl, rfl, Go.Proofs.Try.sizeOf3⟩ rfl ?_
          refine O.ld rfl rfl rfl (fun w => ⟨Go.Proofs.Try.isAgg3 w, Go.Proofs.Try.sizeOf3 w⟩) rfl (hI4.n.sl.cell hy (j := 0) rfl) ?_
          refine O.mv rfl rfl rfl rfl rfl ?_
          refine O.nc rfl rfl rfl rfl rfl ?_
          refine O.fa0 (off := 2) rfl rfl rfl rfl ⟨_, _, _, Go.Proofs.Try.underlying205, rfl, rfl, Go.Proofs.Try.sizeOf202⟩ rfl ?_
          refine O.ld rfl rfl rfl (fun w => ⟨Go.Proofs.Try.isAgg202 w, Go.Proofs.Try.sizeOf202 w⟩) rfl hI4.n.c2 ?_
          refine O.mv rfl rfl rfl rfl rfl ?_
          refine O.ix (j := j) rfl rfl rfl rfl Go.Proofs.Try.underlying202 Go.Proofs.Try.sizeOf138 rfl rfl (by omega) (by omega) ?_
          refine O.fz1 rfl rfl rfl ty ⟨_, _, Go.Proofs.Try.underlying138, rfl, rfl, rfl, Go.Proofs.Try.sizeOf136⟩ rfl (hI4.n.sl.wri (i := j) (by omega)) ?_
          refine O.lds rfl rfl rfl (fun w => ⟨Go.Proofs.Try.isAgg136 w, Go.Proofs.Try.sizeOf136 w⟩) rfl rfl (Rd.nil _ _ _) ?_
          refine O.callC rfl rfl rfl rfl hcall rfl (cb.call y hT4 (by omega)) ?_
          rintro _ H6 ⟨rfl, Z6, hT6, hF6, hZ6⟩
          rw [hgo]
          obtain ⟨hF7, hZ7⟩ := hcat hF5 hZ5 hF6 hZ6
          refine ⟨trivial, ?_⟩
          refine O.not rfl rfl rfl rfl rfl ?_
          refine Pl.fin [(0, _), (2, _), (3, _), (9, _), (11, _), (52, _), (67, _), (86, _)] ⟨rfl, rfl, rfl, rfl, rfl, rfl, rfl, rfl, trivial⟩ ?_
          refine Go'.condF rfl ?_
          refine Go'.skip ?_
          refine Go'.inBlock ?_
          -- region 11 (map.go:286)
          refine Go'.region [(0, 0), (1, 0), (2, 0)] rfl ?_
          refine O.mv rfl rfl rfl rfl rfl ?_
          refine O.add (((j + 1 : Nat) : Int)) rfl rfl rfl rfl rfl rfl (by omega) (by omega) ?_
          refine O.asg rfl rfl rfl rfl rfl ?_
          refine Pl.fin [(0, _), (2, _), (3, _), (9, _), (11, _), (52, _), (67, _), (86, _)] ⟨rfl, rfl, rfl, rfl, rfl, rfl, rfl, rfl, trivial⟩ ?_
          refine Go'.keep [(0, _), (2, _), (3, _), (9, _), (11, _)] ⟨rfl, rfl, rfl, rfl, rfl, trivial⟩ ?_
          refine Go'.inLoop ?_
          have e3 : takes go acc (Pl.pre (X.take (j + 1)) ((K.map (Gt.L h)).take (j + 1))) = (A2 ++ [y], true) := by rw [t2]; simp [takes, hgo]
          exact ih2 (j + 1, Z6) H6 ⟨hlt2, by rw [e3], by rw [e3]; exact hT6, hF7, hZ7⟩ (by simp only; omega)
    · skip
      obtain rfl : j = X.length := by omega
      rw [hlast] at hall
      have hlen2 := congrArg List.length hall
      simp only [List.length_append] at hlen2
      have t1 := takes_on (r := Gt.L h k) htk
      obtain rfl : kn = k := Option.some.inj (hkn.symm.trans hkk)
      rw [← hall] at t1
      -- region 10 (map.go:286)
      refine Go'.region [(0, 0), (1, 0), (2, 0), (3, 0), (4, 1), (5, 0), (6, 0)] rfl ?_
      refine O.mv rfl rfl rfl rfl rfl ?_
      refine O.mv rfl rfl rfl rfl rfl ?_
      refine O.nc rfl rfl rfl rfl rfl ?_
      refine O.fa0 (off := 2) rfl rfl rfl rfl ⟨_, _, _, Go.Proofs.Try.underlying205, rfl, rfl, Go.Proofs.Try.sizeOf202⟩ rfl ?_
      refine O.ld rfl rfl rfl (fun w => ⟨Go.Proofs.Try.isAgg202 w, Go.Proofs.Try.sizeOf202 w⟩) rfl hI3.n.c2 ?_
      refine O.len rfl rfl rfl rfl Go.Proofs.Try.underlying202 rfl ?_
      refine O.cmp rfl rfl rfl rfl rfl rfl (lssF (by omega)) ?_
      refine Pl.fin [(0, _), (2, _), (3, _), (9, _), (11, _), (52, _)] ⟨rfl, rfl, rfl, rfl, rfl, rfl, trivial⟩ ?_
      refine Go'.condF rfl ?_
      refine Go'.exit rfl ?_
      refine Go'.seq ?_
      -- region 16 (map.go:294)
      refine Go'.draw (fun _ => True) [(0, 0), (1, 0), (2, 0), (3, 0), (4, 1), (5, 0), (6, 1), (7, 0), (8, 0), (9, 0), (10, 1), (11, 0), (12, 1), (13, 0), (14, 0), (15, 0), (16, 0), (17, 0), (18, 2), (19, 0)] (by kernel_rfl) (by kernel_rfl) (trivial) ?_
      refine O.mv rfl rfl rfl rfl rfl ?_
      refine O.mv rfl rfl rfl rfl rfl ?_
      refine O.nc rfl rfl rfl rfl rfl ?_
      refine O.fa0 (off := 3) rfl rfl rfl rfl ⟨_, _, _, Go.Proofs.Try.underlying205, rfl, rfl, Go.Proofs.Try.sizeOf203⟩ rfl ?_
      refine O.ld rfl rfl rfl (fun w => ⟨Go.Proofs.Try.isAgg203 w, Go.Proofs.Try.sizeOf203 w⟩) rfl hI3.n.c3 ?_
      refine O.nc rfl rfl rfl rfl rfl ?_
      refine O.ld rfl rfl rfl (fun w => ⟨Go.Proofs.Try.isAgg206 w, Go.Proofs.Try.sizeOf206 w⟩) rfl hI3.k.c ?_
      refine O.mv rfl rfl rfl rfl rfl ?_
      refine O.nc rfl rfl rfl rfl rfl ?_
      refine O.fa0 (off := 3) rfl rfl rfl rfl ⟨_, _, _, Go.Proofs.Try.underlying205, rfl, rfl, Go.Proofs.Try.sizeOf203⟩ rfl ?_
      refine O.ld rfl rfl rfl (fun w => ⟨Go.Proofs.Try.isAgg203 w, Go.Proofs.Try.sizeOf203 w⟩) rfl hI3.n.c3 ?_
      refine O.nc rfl rfl rfl rfl rfl ?_
      refine O.ld rfl rfl rfl (fun w => ⟨Go.Proofs.Try.isAgg206 w, Go.Proofs.Try.sizeOf206 w⟩) rfl hI3.k.c ?_
      refine O.len rfl rfl rfl rfl Go.Proofs.Try.underlying206 rfl ?_
      refine O.sub (((X.length : Nat) : Int)) rfl rfl rfl rfl rfl rfl (by omega) (by omega) ?_
      refine O.ix (j := X.length) rfl rfl rfl rfl Go.Proofs.Try.underlying206 Go.Proofs.Try.sizeOf135 rfl rfl (by omega) (by omega) ?_
      refine O.mv rfl rfl rfl rfl rfl ?_
      refine O.mv rfl rfl rfl rfl rfl ?_
      refine O.call rfl rfl rfl Go.Proofs.Try.call170 rfl (ih (hkid hkk hF hT hZ1 (by omega))) ?_
      rintro _ H4 ⟨rfl, Z4, hT4, hF4, hZ4⟩
      obtain ⟨hF5, hZ5⟩ := hcat hF hZ1 hF4 hZ4
      refine ⟨trivial, ?_⟩
      refine O.asg rfl rfl rfl rfl rfl ?_
      refine Pl.fin [(8, _)] ⟨rfl, trivial⟩ ?_
      refine Go'.ret (vs := [_]) Go.Proofs.Try.func170 Go.Proofs.Try.results170 ⟨rfl, trivial⟩ ?_
      unfold CbPost
      rw [t1]
      exact ⟨rfl, Z4, hT4, hF5, hZ5⟩

end Go.Bt.FZ