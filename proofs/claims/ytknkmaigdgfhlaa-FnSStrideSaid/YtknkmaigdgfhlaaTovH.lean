/- Contracts of functions of the program, proved by walking through their code. Conditions: those that each theorem names. -/
import Derived.Test.YtknkmaigdgfhlaaTovE
import Derived.Test.YtknkmaigdgfhlaaToSo
import Derived.Test.YtknkmaigdgfhlaaTozU
import Derived.Test.YtknkmaigdgfhlaaTozV
import Derived.Test.YtknkmaigdgfhlaaTozJ
import Derived.Test.YtknkmaigdgfhlaaToKb
namespace Go.Bt.FZ
open Go Go.Proofs
set_option maxRecDepth 20000
set_option maxHeartbeats 4000000
set_option linter.unusedVariables false

end Go.Bt.FZ
namespace Go.Bt.FZ
open Go Go.Proofs
set_option maxRecDepth 20000
set_option maxHeartbeats 4000000
set_option linter.unusedVariables false

theorem nkeys0 {B : World} {H : Mem} {P : Ps} (hP : PsOk P) {v : Value} {acc : List Int} {Z : Nat → Prop} {h : Nat} {t : Gt EI 0} (hg : Gt.Good H P 0 t) (hA : AccN EN Z H v acc) (hnz : ∀ b o, Gt.af 0 t b o → ¬ Z b) (hlen : acc.length + (Gt.L 0 t).length ≤ 4294967296) :
    Fn Try.prog B 137 [.pointer (some ⟨Gt.p 0 t, 0, none⟩), v] H (fun r H' => ∃ Z', AccN EN Z' H' r (acc ++ Gt.L 0 t) ∧ Fr (fun b _ => Z b) H H' ∧ ∀ b, Z' b → Z b ∨ H.size ≤ b) := by
  obtain ⟨gg, X⟩ := t
  have hN : NodeM EI H gg X (.pointer none) := hg.1
  have hxm : X.length ≤ P.mx := hg.2.2.2
  have hx255 := hP.hx
  have hltN : ∀ b o, ncl EI gg b o → b < H.size := fun b o hb => NodeM.lt hN hb
  replace hlen : acc.length + X.length ≤ 4294967296 := hlen
  show Fn _ _ _ _ _ (fun r H' => ∃ Z', AccN EN Z' H' r (acc ++ X) ∧ Fr (fun b _ => Z b) H H' ∧ ∀ b, Z' b → Z b ∨ H.size ≤ b)
  refine fn_of Go.Proofs.Try.func137 rfl Go.Proofs.Try.ntmps137 ?_
  refine (show Go' _ _ _ _ 79 [(0, _), (1, _)] [.code _] _ from ?_)
  refine Go'.seq ?_
  -- region 0 (map.go:1157)
  refine Go'.region [(0, 0)] rfl ?_
  refine O.asg rfl rfl rfl rfl rfl ?_
  refine Pl.fin [(0, _), (1, _), (4, _)] ⟨rfl, rfl, rfl, trivial⟩ ?_
  refine Go'.seq ?_
  refine Go'.seq ?_
  -- region 1 (map.go:1158)
  refine Go'.region [(0, 0), (1, 2)] rfl ?_
  refine O.mv rfl rfl rfl rfl rfl ?_
  refine O.callQ rfl rfl rfl Go.Proofs.Try.call152 rfl (leaf_spec hN.c3) trivial ?_
  refine Pl.fin [(0, _), (1, _), (4, _), (8, _)] ⟨rfl, rfl, rfl, rfl, trivial⟩ ?_
  refine Go'.condT rfl ?_
  refine Go'.seq ?_
  refine Go'.seq ?_
  -- region 2 (map.go:1159)
  refine Go'.region [(0, 0)] rfl ?_
  refine O.asg rfl rfl rfl rfl rfl ?_
  refine Pl.fin [(0, _), (1, _), (4, _), (5, _)] ⟨rfl, rfl, rfl, rfl, trivial⟩ ?_
  refine Go'.block ?_
  refine Go'.loop ?_
  refine Go'.keep [(0, _), (1, _), (5, _)] ⟨rfl, rfl, rfl, trivial⟩ ?_
  refine Go'.ind (σ := Nat × Value × (Nat → Prop)) (fun s => X.length - s.1) (fun s H' => s.1 ≤ X.length ∧ AccN EN s.2.2 H' s.2.1 (acc ++ X.take s.1) ∧ Fr (fun b _ => Z b) H H' ∧ ∀ b, s.2.2 b → Z b ∨ H.size ≤ b)
    (fun s => [(0, .pointer (some ⟨gg.p, 0, none⟩)), (1, s.2.1), (5, .int .i64 (s.1 : Int))]) (0, v, Z) ⟨Nat.zero_le _, by rw [List.take_zero, List.append_nil]; exact hA, Fr.refl _ _, fun b hb => .inl hb⟩ rfl ?_
  clear hA
  rintro ⟨j, sv, Z1⟩ H2 ⟨hj, hA, hF, hZ1⟩ ih
  simp only at hj hA hZ1
  have hsz := hF.size
  replace hN := NodeM.fr EI hN hF (fun x y hxy hz => hnz x y hxy hz)
  refine Go'.seq ?_
  refine Go'.seq ?_
  by_cases hlt : j < X.length
  · skip
    obtain ⟨y, hy⟩ : ∃ y, X[j]? = some y := ⟨X[j], List.getElem?_eq_getElem hlt⟩
    have hd : acc ++ X.take (j + 1) = acc ++ X.take j ++ [y] := by rw [List.take_add_one, hy, List.append_assoc]; rfl
    have hal : (acc ++ X.take j).length = acc.length + j := by rw [List.length_append, List.length_take]; omega
    -- region 3 (map.go:1159)
    refine Go'.region [(0, 0), (1, 0), (2, 0), (3, 0), (4, 1), (5, 0), (6, 0)] rfl ?_
    refine O.mv rfl rfl rfl rfl rfl ?_
    refine O.mv rfl rfl rfl rfl rfl ?_
    refine O.nc rfl rfl rfl rfl rfl ?_
    refine O.fa0 (off := 2) rfl rfl rfl rfl ⟨_, _, _, Go.Proofs.Try.underlying205, rfl, rfl, Go.Proofs.Try.sizeOf202⟩ rfl ?_
    refine O.ld rfl rfl rfl (fun w => ⟨Go.Proofs.Try.isAgg202 w, Go.Proofs.Try.sizeOf202 w⟩) rfl hN.c2 ?_
    refine O.len rfl rfl rfl rfl Go.Proofs.Try.underlying202 rfl ?_
    refine O.cmp rfl rfl rfl rfl rfl rfl (lssT (by omega)) ?_
    refine Pl.fin [(0, _), (1, _), (5, _), (15, _)] ⟨rfl, rfl, rfl, rfl, trivial⟩ ?_
    refine Go'.condT rfl ?_
    refine Go'.skip ?_
    refine Go'.seq ?_
    refine Go'.block ?_
    -- region 5 (map.go:1160)
    refine Go'.region [(0, 0), (1, 0), (2, 0), (3, 0), (4, 1), (5, 0), (6, 0), (7, 0), (8, 1), (9, 2), (10, 2), (11, 0)] rfl ?_
    refine O.mv rfl rfl rfl rfl rfl ?_
    refine O.mv rfl rfl rfl rfl rfl ?_
    refine O.nc rfl rfl rfl rfl rfl ?_
    refine O.fa0 (off := 2) rfl rfl rfl rfl ⟨_, _, _, Go.Proofs.Try.underlying205, rfl, rfl, Go.Proofs.Try.sizeOf202⟩ rfl ?_
    refine O.ld rfl rfl rfl (fun w => ⟨Go.Proofs.Try.isAgg202 w, Go.Proofs.Try.sizeOf202 w⟩) rfl hN.c2 ?_
    refine O.mv rfl rfl rfl rfl rfl ?_
    refine O.ix (j := j) rfl rfl rfl rfl Go.Proofs.Try.underlying202 Go.Proofs.Try.sizeOf138 rfl rfl (by omega) (by omega) ?_
    refine O.faz rfl rfl rfl rfl ⟨_, _, _, Go.Proofs.Try.underlying138, rfl, rfl, Go.Proofs.Try.sizeOf3⟩ rfl ?_
    refine O.ld rfl rfl rfl (fun w => ⟨Go.Proofs.Try.isAgg3 w, Go.Proofs.Try.sizeOf3 w⟩) rfl (hN.sl.cell hy (j := 0) rfl) ?_
    refine O.bsl (cs := (EN.enc y)) rfl rfl rfl ⟨Go.Proofs.Try.underlying22, Go.Proofs.Try.sizeOf3, Go.Proofs.Try.zeroValue3, ⟨_, Go.Proofs.Try.typeInfo3, rfl⟩, rfl, by decide, by decide⟩ rfl (by decide) (by kernel_rfl) ?_
    intro H3 M3
    have hs3 := M3.size
    have hA3 := hA.fr (M3.fr nowhere) (fun _ _ _ _ => nw)
    have hv3 : InS EN H3 (.slice (some ⟨H2.size, 0, none⟩) 1 1) [y] := .inl ⟨_, _, _, rfl, Nat.le_refl _, M3.rd _ [] (by simp [row, EN])⟩
    refine ⟨trivial, ?_⟩
    refine O.appI (E := EN) rfl rfl rfl ⟨Go.Proofs.Try.underlying22, Go.Proofs.Try.sizeOf3, Go.Proofs.Try.zeroValue3, ⟨_, Go.Proofs.Try.typeInfo3, rfl⟩, rfl, by decide, by decide⟩ rfl hA3 rfl hv3 (Nat.le_trans (Nat.mul_le_mul_left _ (Nat.le_of_ble_eq_true (n := _) (m := 4096) rfl)) (by rw [hal, List.length_singleton]; omega)) (by rw [hal, List.length_singleton]; omega) ?_
    intro v4 H4 hA4 hF4 hs4
    have hg4 := hF4.size
    rw [← hd] at hA4
    refine ⟨trivial, ?_⟩
    refine O.asg rfl rfl rfl rfl rfl ?_
    refine Pl.fin [(0, _), (1, _), (5, _), (15, _)] ⟨rfl, rfl, rfl, rfl, trivial⟩ ?_
    refine Go'.inBlock ?_
    -- region 4 (map.go:1159)
    refine Go'.region [(0, 0), (1, 0), (2, 0)] rfl ?_
    refine O.mv rfl rfl rfl rfl rfl ?_
    refine O.add (((j + 1 : Nat) : Int)) rfl rfl rfl rfl rfl rfl (by omega) (by omega) ?_
    refine O.asg rfl rfl rfl rfl rfl ?_
    refine Pl.fin [(0, _), (1, _), (5, _), (15, _)] ⟨rfl, rfl, rfl, rfl, trivial⟩ ?_
    refine Go'.keep [(0, _), (1, _), (5, _)] ⟨rfl, rfl, rfl, trivial⟩ ?_
    refine Go'.inLoop ?_
    exact ih (j + 1, v4, _) H4 ⟨hlt, hA4, (hF.trans' (M3.fr nowhere) (fun _ _ _ h => h) (fun _ _ _ h => h.elim)).trans' hF4 (fun _ _ _ h => h) (fun b o hb hz => (hZ1 b hz).elim id (fun h => by omega)), fun b hb => hb.elim (hZ1 b) (fun h => .inr (by omega))⟩ (by simp only; omega)
  · skip
    obtain rfl : j = X.length := by omega
    rw [List.take_length] at hA
    -- region 3 (map.go:1159)
    refine Go'.region [(0, 0), (1, 0), (2, 0), (3, 0), (4, 1), (5, 0), (6, 0)] rfl ?_
    refine O.mv rfl rfl rfl rfl rfl ?_
    refine O.mv rfl rfl rfl rfl rfl ?_
    refine O.nc rfl rfl rfl rfl rfl ?_
    refine O.fa0 (off := 2) rfl rfl rfl rfl ⟨_, _, _, Go.Proofs.Try.underlying205, rfl, rfl, Go.Proofs.Try.sizeOf202⟩ rfl ?_
    refine O.ld rfl rfl rfl (fun w => ⟨Go.Proofs.Try.isAgg202 w, Go.Proofs.Try.sizeOf202 w⟩) rfl hN.c2 ?_
    refine O.len rfl rfl rfl rfl Go.Proofs.Try.underlying202 rfl ?_
    refine O.cmp rfl rfl rfl rfl rfl rfl (lssF (by omega)) ?_
    refine Pl.fin [(0, _), (1, _), (5, _), (15, _)] ⟨rfl, rfl, rfl, rfl, trivial⟩ ?_
    refine Go'.condF rfl ?_
    refine Go'.exit rfl ?_
    refine Go'.seq ?_
    -- region 6 (map.go:1162)
    refine Go'.region [(0, 0), (1, 0)] rfl ?_
    refine O.mv rfl rfl rfl rfl rfl ?_
    refine O.asg rfl rfl rfl rfl rfl ?_
    refine Pl.fin [(0, _), (1, _), (4, _)] ⟨rfl, rfl, rfl, trivial⟩ ?_
    refine Go'.ret (vs := [_]) Go.Proofs.Try.func137 Go.Proofs.Try.results137 ⟨rfl, trivial⟩ ?_
    exact ⟨Z1, hA, hF, hZ1⟩

theorem nkeys {B : World} {P : Ps} (hP : PsOk P) : ∀ (h : Nat) {H : Mem} {v : Value} {acc : List Int} {Z : Nat → Prop} {t : Gt EI h}, Gt.Good H P h t → AccN EN Z H v acc → (∀ b o, Gt.af h t b o → ¬ Z b) → acc.length + (Gt.L h t).length ≤ 4294967296 →
    Fn Try.prog B 137 [.pointer (some ⟨Gt.p h t, 0, none⟩), v] H (fun r H' => ∃ Z', AccN EN Z' H' r (acc ++ Gt.L h t) ∧ Fr (fun b _ => Z b) H H' ∧ ∀ b, Z' b → Z b ∨ H.size ≤ b)
  | 0, _, _, _, _, _, hg, hA, hnz, hlen => nkeys0 (h := 0) hP hg hA hnz hlen
  | h + 1, H, v, acc, Z, (gg, X, K), hg, hA, hnz, hlen => by
    have ih := @nkeys B P hP h
    have hI : Inn H P h gg X ((Gt.ps h K).map some) K := hg.inn
    have hKl : K.length = X.length + 1 := hg.2.2.2.2.2.1
    have hxm : X.length ≤ P.mx := hg.2.2.2.2.1
    have hx255 := hP.hx
    have hKL : (K.map (Gt.L h)).length = X.length + 1 := by rw [List.length_map]; exact hKl
    have hol : ((Gt.ps h K).map some).length = X.length + 1 := by rw [List.length_map, Gt.ps, List.length_map]; exact hKl
    replace hlen : acc.length + (Pl.inter X (K.map (Gt.L h))).length ≤ 4294967296 := hlen
    have hlt : ∀ x y, innc h gg K x y → x < H.size := fun x y hb => hI.lt hb
    have hin : ∀ H', Fr (fun x _ => Z x) H H' → Inn H' P h gg X ((Gt.ps h K).map some) K := fun H' hf => hI.fr hf (fun x y hxy hz => hnz x y hxy hz)
    have hcat : ∀ {Z1 Z2 : Nat → Prop} {H2 H3 : Mem}, Fr (fun x _ => Z x) H H2 → (∀ b, Z1 b → Z b ∨ H.size ≤ b) → Fr (fun x _ => Z1 x) H2 H3 → (∀ b, Z2 b → Z1 b ∨ H2.size ≤ b) → Fr (fun x _ => Z x) H H3 ∧ ∀ b, Z2 b → Z b ∨ H.size ≤ b := by
      intro Z1 Z2 H2 H3 hF hZ1 hF2 hZ2
      have := hF.size
      exact ⟨hF.trans' hF2 (fun _ _ _ h => h) (fun b o hb hz => (hZ1 b hz).elim id (fun h => by omega)), fun b hb => (hZ2 b hb).elim (hZ1 b) (fun h => .inr (by omega))⟩
    have hkz : ∀ {Z1 : Nat → Prop} {k : Gt EI h}, k ∈ K → (∀ b, Z1 b → Z b ∨ H.size ≤ b) → ∀ b o, Gt.af h k b o → ¬ Z1 b := fun hk hZ1 b o hb hz => (hZ1 b hz).elim (hnz b o (.inr (.inr ⟨_, hk, hb⟩))) (fun hz => by have := hlt b o (.inr (.inr ⟨_, hk, hb⟩)); omega)
    show Fn _ _ _ _ _ (fun r H' => ∃ Z', AccN EN Z' H' r (acc ++ Pl.inter X (K.map (Gt.L h))) ∧ Fr (fun b _ => Z b) H H' ∧ ∀ b, Z' b → Z b ∨ H.size ≤ b)
    refine fn_of Go.Proofs.Try.func137 rfl Go.Proofs.Try.ntmps137 ?_
    refine (show Go' _ _ _ _ 79 [(0, _), (1, _)] [.code _] _ from ?_)
    refine Go'.seq ?_
    -- region 0 (map.go:1157)
    refine Go'.region [(0, 0)] rfl ?_
    refine O.asg rfl rfl rfl rfl rfl ?_
    refine Pl.fin [(0, _), (1, _), (4, _)] ⟨rfl, rfl, rfl, trivial⟩ ?_
    refine Go'.seq ?_
    refine Go'.seq ?_
    -- region 1 (map.go:1158)
    refine Go'.region [(0, 0), (1, 2)] rfl ?_
    refine O.mv rfl rfl rfl rfl rfl ?_
    refine O.callQ rfl rfl rfl Go.Proofs.Try.call152 rfl (leaf_spec hI.n.c3) trivial ?_
    refine Pl.fin [(0, _), (1, _), (4, _), (8, _)] ⟨rfl, rfl, rfl, rfl, trivial⟩ ?_
    refine Go'.condF rfl ?_
    refine Go'.skip ?_
    refine Go'.seq ?_
    refine Go'.seq ?_
    -- region 7 (map.go:1164)
    refine Go'.region [(0, 0)] rfl ?_
    refine O.asg rfl rfl rfl rfl rfl ?_
    refine Pl.fin [(0, _), (1, _), (4, _), (6, _)] ⟨rfl, rfl, rfl, rfl, trivial⟩ ?_
    refine Go'.block ?_
    refine Go'.loop ?_
    refine Go'.keep [(0, _), (1, _), (6, _)] ⟨rfl, rfl, rfl, trivial⟩ ?_
    refine Go'.ind (σ := Nat × Value × (Nat → Prop)) (fun s => X.length - s.1) (fun s H' => s.1 ≤ X.length ∧ AccN EN s.2.2 H' s.2.1 (acc ++ Pl.pre (X.take s.1) ((K.map (Gt.L h)).take s.1)) ∧ Fr (fun b _ => Z b) H H' ∧ ∀ b, s.2.2 b → Z b ∨ H.size ≤ b)
      (fun s => [(0, .pointer (some ⟨gg.p, 0, none⟩)), (1, s.2.1), (6, .int .i64 (s.1 : Int))]) (0, v, Z) ⟨Nat.zero_le _, by rw [List.take_zero]; show AccN EN Z H v (acc ++ []); rw [List.append_nil]; exact hA, Fr.refl _ _, fun b hb => .inl hb⟩ rfl ?_
    clear hA
    rintro ⟨j, sv, Z1⟩ H2 ⟨hj, hA, hF, hZ1⟩ ih2
    simp only at hj hA hZ1
    have hsz := hF.size
    have hI2 := hin H2 hF
    have hpl := Pl.pre_len X (K.map (Gt.L h)) hKL j hj
    have hal : (acc ++ Pl.pre (X.take j) ((K.map (Gt.L h)).take j)).length = acc.length + (Pl.pre (X.take j) ((K.map (Gt.L h)).take j)).length := List.length_append
    obtain ⟨k, hkk⟩ : ∃ k, K[j]? = some k := ⟨K[j], List.getElem?_eq_getElem (by omega)⟩
    have hkL : (K.map (Gt.L h))[j]? = some (Gt.L h k) := by rw [List.getElem?_map, hkk]; rfl
    have hkK : k ∈ K := List.mem_of_getElem? hkk
    have hok : ((Gt.ps h K).map some)[j]? = some (some (Gt.p h k)) := by rw [Gt.ps, List.map_map, List.getElem?_map, hkk]; rfl
    refine Go'.seq ?_
    refine Go'.seq ?_
    by_cases hlt2 : j < X.length
    · skip
      obtain ⟨y, hy⟩ : ∃ y, X[j]? = some y := ⟨X[j], List.getElem?_eq_getElem hlt2⟩
      have hps := Pl.pre_succ hy hkL
      have hpl2 := Pl.pre_len X (K.map (Gt.L h)) hKL (j + 1) hlt2
      rw [hps, List.length_append, List.length_append, List.length_singleton] at hpl2
      -- region 8 (map.go:1164)
      refine Go'.region [(0, 0), (1, 0), (2, 0), (3, 0), (4, 1), (5, 0), (6, 0)] rfl ?_
      refine O.mv rfl rfl rfl rfl rfl ?_
      refine O.mv rfl rfl rfl rfl rfl ?_
      refine O.nc rfl rfl rfl rfl rfl ?_
      refine O.fa0 (off := 2) rfl rfl rfl rfl ⟨_, _, _, Go.Proofs.Try.underlying205, rfl, rfl, Go.Proofs.Try.sizeOf202⟩ rfl ?_
      refine O.ld rfl rfl rfl (fun w => ⟨Go.Proofs.Try.isAgg202 w, Go.Proofs.Try.sizeOf202 w⟩) rfl hI2.n.c2 ?_
      refine O.len rfl rfl rfl rfl Go.Proofs.Try.underlying202 rfl ?_
      refine O.cmp rfl rfl rfl rfl rfl rfl (lssT (by omega)) ?_
      refine Pl.fin [(0, _), (1, _), (6, _), (36, _)] ⟨rfl, rfl, rfl, rfl, trivial⟩ ?_
      refine Go'.condT rfl ?_
      refine Go'.skip ?_
      refine Go'.seq ?_
      refine Go'.block ?_
      refine Go'.seq ?_
      -- region 10 (map.go:1165)
      refine Go'.region [(0, 0), (1, 0), (2, 0), (3, 1), (4, 0), (5, 1), (6, 0), (7, 0), (8, 1), (9, 0), (10, 2), (11, 0)] rfl ?_
      refine O.mv rfl rfl rfl rfl rfl ?_
      refine O.nc rfl rfl rfl rfl rfl ?_
      refine O.fa0 (off := 3) rfl rfl rfl rfl ⟨_, _, _, Go.Proofs.Try.underlying205, rfl, rfl, Go.Proofs.Try.sizeOf203⟩ rfl ?_
      refine O.ld rfl rfl rfl (fun w => ⟨Go.Proofs.Try.isAgg203 w, Go.Proofs.Try.sizeOf203 w⟩) rfl hI2.n.c3 ?_
      refine O.nc rfl rfl rfl rfl rfl ?_
      refine O.ld rfl rfl rfl (fun w => ⟨Go.Proofs.Try.isAgg206 w, Go.Proofs.Try.sizeOf206 w⟩) rfl hI2.k.c ?_
      refine O.mv rfl rfl rfl rfl rfl ?_
      refine O.ix (j := j) rfl rfl rfl rfl Go.Proofs.Try.underlying206 Go.Proofs.Try.sizeOf135 rfl rfl (by omega) (by omega) ?_
      refine O.ld rfl rfl rfl (fun w => ⟨Go.Proofs.Try.isAgg135 w, Go.Proofs.Try.sizeOf135 w⟩) rfl (hI2.k.at hok) ?_
      refine O.mv rfl rfl rfl rfl rfl ?_
      refine O.call rfl rfl rfl Go.Proofs.Try.call137 rfl (ih (hI2.c.1 k hkK).1 hA (hkz hkK hZ1) (by rw [hal]; omega)) ?_
      rintro _ H4 ⟨Z4, hA4, hF4, hZ4⟩
      obtain ⟨hF5, hZ5⟩ := hcat hF hZ1 hF4 hZ4
      have hsz5 := hF5.size
      refine ⟨trivial, ?_⟩
      refine O.asg rfl rfl rfl rfl rfl ?_
      refine Pl.fin [(0, _), (1, _), (6, _), (36, _)] ⟨rfl, rfl, rfl, rfl, trivial⟩ ?_
      have hI4 := hin H4 hF5
      have hal4 : (acc ++ Pl.pre (X.take j) ((K.map (Gt.L h)).take j) ++ Gt.L h k).length = acc.length + (Pl.pre (X.take j) ((K.map (Gt.L h)).take j)).length + (Gt.L h k).length := by rw [List.length_append, hal]
      -- region 11 (map.go:1166)
      refine Go'.region [(0, 0), (1, 0), (2, 0), (3, 0), (4, 1), (5, 0), (6, 0), (7, 0), (8, 1), (9, 2), (10, 2), (11, 0)] rfl ?_
      refine O.mv rfl rfl rfl rfl rfl ?_
      refine O.mv rfl rfl rfl rfl rfl ?_
      refine O.nc rfl rfl rfl rfl rfl ?_
      refine O.fa0 (off := 2) rfl rfl rfl rfl ⟨_, _, _, Go.Proofs.Try.underlying205, rfl, rfl, Go.Proofs.Try.sizeOf202⟩ rfl ?_
      refine O.ld rfl rfl rfl (fun w => ⟨Go.Proofs.Try.isAgg202 w, Go.Proofs.Try.sizeOf202 w⟩) rfl hI4.n.c2 ?_
      refine O.mv rfl rfl rfl rfl rfl ?_
      refine O.ix (j := j) rfl rfl rfl rfl Go.Proofs.Try.underlying202 Go.Proofs.Try.sizeOf138 rfl rfl (by omega) (by omega) ?_
      refine O.faz rfl rfl rfl rfl ⟨_, _, _, Go.Proofs.Try.underlying138, rfl, rfl, Go.Proofs.Try.sizeOf3⟩ rfl ?_
      refine O.ld rfl rfl rfl (fun w => ⟨Go.Proofs.Try.isAgg3 w, Go.Proofs.Try.sizeOf3 w⟩) rfl (hI4.n.sl.cell hy (j := 0) rfl) ?_
      refine O.bsl (cs := (EN.enc y)) rfl rfl rfl ⟨Go.Proofs.Try.underlying22, Go.Proofs.Try.sizeOf3, Go.Proofs.Try.zeroValue3, ⟨_, Go.Proofs.Try.typeInfo3, rfl⟩, rfl, by decide, by decide⟩ rfl (by decide) (by kernel_rfl) ?_
      intro H6 M6
      have hs6 := M6.size
      have hA6 := hA4.fr (M6.fr nowhere) (fun _ _ _ _ => nw)
      have hv6 : InS EN H6 (.slice (some ⟨H4.size, 0, none⟩) 1 1) [y] := .inl ⟨_, _, _, rfl, Nat.le_refl _, M6.rd _ [] (by simp [row, EN])⟩
      refine ⟨trivial, ?_⟩
      refine O.appI (E := EN) rfl rfl rfl ⟨Go.Proofs.Try.underlying22, Go.Proofs.Try.sizeOf3, Go.Proofs.Try.zeroValue3, ⟨_, Go.Proofs.Try.typeInfo3, rfl⟩, rfl, by decide, by decide⟩ rfl hA6 rfl hv6 (Nat.le_trans (Nat.mul_le_mul_left _ (Nat.le_of_ble_eq_true (n := _) (m := 4096) rfl)) (by rw [hal4, List.length_singleton]; omega)) (by rw [hal4, List.length_singleton]; omega) ?_
      intro v7 H7 hA7 hF7 hs7
      have hg7 := hF7.size
      refine ⟨trivial, ?_⟩
      refine O.asg rfl rfl rfl rfl rfl ?_
      refine Pl.fin [(0, _), (1, _), (6, _), (36, _)] ⟨rfl, rfl, rfl, rfl, trivial⟩ ?_
      refine Go'.inBlock ?_
      -- region 9 (map.go:1164)
      refine Go'.region [(0, 0), (1, 0), (2, 0)] rfl ?_
      refine O.mv rfl rfl rfl rfl rfl ?_
      refine O.add (((j + 1 : Nat) : Int)) rfl rfl rfl rfl rfl rfl (by omega) (by omega) ?_
      refine O.asg rfl rfl rfl rfl rfl ?_
      refine Pl.fin [(0, _), (1, _), (6, _), (36, _)] ⟨rfl, rfl, rfl, rfl, trivial⟩ ?_
      refine Go'.keep [(0, _), (1, _), (6, _)] ⟨rfl, rfl, rfl, trivial⟩ ?_
      refine Go'.inLoop ?_
      refine ih2 (j + 1, v7, fun b => Z4 b ∨ (b = H6.size ∧ b < H7.size)) H7 ⟨hlt2, ?_, (hF5.trans' (M6.fr nowhere) (fun _ _ _ h => h) (fun _ _ _ h => h.elim)).trans' hF7 (fun _ _ _ h => h) (fun b o hb hz => (hZ5 b hz).elim id (fun h => by omega)), fun b hb => hb.elim (hZ5 b) (fun h => .inr (by omega))⟩ (by simp only; omega)
      simp only
      rw [hps, ← List.append_assoc, ← List.append_assoc]
      exact hA7
    · skip
      obtain rfl : j = X.length := by omega
      have hil := Pl.inter_eq_pre (Nat.le_refl _) hkL
      rw [List.take_length, show (K.map (Gt.L h)).take (X.length + 1) = K.map (Gt.L h) from List.take_of_length_le (by omega)] at hil
      rw [List.take_length] at hA hal hpl
      have hll := congrArg List.length hil
      rw [List.length_append] at hll
      -- region 8 (map.go:1164)
      refine Go'.region [(0, 0), (1, 0), (2, 0), (3, 0), (4, 1), (5, 0), (6, 0)] rfl ?_
      refine O.mv rfl rfl rfl rfl rfl ?_
      refine O.mv rfl rfl rfl rfl rfl ?_
      refine O.nc rfl rfl rfl rfl rfl ?_
      refine O.fa0 (off := 2) rfl rfl rfl rfl ⟨_, _, _, Go.Proofs.Try.underlying205, rfl, rfl, Go.Proofs.Try.sizeOf202⟩ rfl ?_
      refine O.ld rfl rfl rfl (fun w => ⟨Go.Proofs.Try.isAgg202 w, Go.Proofs.Try.sizeOf202 w⟩) rfl hI2.n.c2 ?_
      refine O.len rfl rfl rfl rfl Go.Proofs.Try.underlying202 rfl ?_
      refine O.cmp rfl rfl rfl rfl rfl rfl (lssF (by omega)) ?_
      refine Pl.fin [(0, _), (1, _), (6, _), (36, _)] ⟨rfl, rfl, rfl, rfl, trivial⟩ ?_
      refine Go'.condF rfl ?_
      refine Go'.exit rfl ?_
      refine Go'.seq ?_
      -- region 12 (map.go:1168)
      refine Go'.draw (fun _ => True) [(0, 0), (1, 0), (2, 0), (3, 1), (4, 0), (5, 1), (6, 0), (7, 0), (8, 0), (9, 1), (10, 0), (11, 1), (12, 0), (13, 0), (14, 0), (15, 1), (16, 0), (17, 2), (18, 0)] (by kernel_rfl) (by kernel_rfl) (trivial) ?_
      refine O.mv rfl rfl rfl rfl rfl ?_
      refine O.nc rfl rfl rfl rfl rfl ?_
      refine O.fa0 (off := 3) rfl rfl rfl rfl ⟨_, _, _, Go.Proofs.Try.underlying205, rfl, rfl, Go.Proofs.Try.sizeOf203⟩ rfl ?_
      refine O.ld rfl rfl rfl (fun w => ⟨Go.Proofs.Try.isAgg203 w, Go.Proofs.Try.sizeOf203 w⟩) rfl hI2.n.c3 ?_
      refine O.nc rfl rfl rfl rfl rfl ?_
      refine O.ld rfl rfl rfl (fun w => ⟨Go.Proofs.Try.isAgg206 w, Go.Proofs.Try.sizeOf206 w⟩) rfl hI2.k.c ?_
      refine O.mv rfl rfl rfl rfl rfl ?_
      refine O.nc rfl rfl rfl rfl rfl ?_
      refine O.fa0 (off := 3) rfl rfl rfl rfl ⟨_, _, _, Go.Proofs.Try.underlying205, rfl, rfl, Go.Proofs.Try.sizeOf203⟩ rfl ?_
      refine O.ld rfl rfl rfl (fun w => ⟨Go.Proofs.Try.isAgg203 w, Go.Proofs.Try.sizeOf203 w⟩) rfl hI2.n.c3 ?_
      refine O.nc rfl rfl rfl rfl rfl ?_
      refine O.ld rfl rfl rfl (fun w => ⟨Go.Proofs.Try.isAgg206 w, Go.Proofs.Try.sizeOf206 w⟩) rfl hI2.k.c ?_
      refine O.len rfl rfl rfl rfl Go.Proofs.Try.underlying206 rfl ?_
      refine O.sub (((X.length : Nat) : Int)) rfl rfl rfl rfl rfl rfl (by omega) (by omega) ?_
      refine O.ix (j := X.length) rfl rfl rfl rfl Go.Proofs.Try.underlying206 Go.Proofs.Try.sizeOf135 rfl rfl (by omega) (by omega) ?_
      refine O.ld rfl rfl rfl (fun w => ⟨Go.Proofs.Try.isAgg135 w, Go.Proofs.Try.sizeOf135 w⟩) rfl (hI2.k.at hok) ?_
      refine O.mv rfl rfl rfl rfl rfl ?_
      refine O.call rfl rfl rfl Go.Proofs.Try.call137 rfl (ih (hI2.c.1 k hkK).1 hA (hkz hkK hZ1) (by rw [hal]; omega)) ?_
      rintro _ H4 ⟨Z4, hA4, hF4, hZ4⟩
      obtain ⟨hF5, hZ5⟩ := hcat hF hZ1 hF4 hZ4
      refine ⟨trivial, ?_⟩
      refine O.asg rfl rfl rfl rfl rfl ?_
      refine Pl.fin [(4, _)] ⟨rfl, trivial⟩ ?_
      refine Go'.ret (vs := [_]) Go.Proofs.Try.func137 Go.Proofs.Try.results137 ⟨rfl, trivial⟩ ?_
      refine ⟨Z4, ?_, hF5, hZ5⟩
      rw [hil, ← List.append_assoc]
      exact hA4

theorem len_spec {B : World} {H : Mem} {tr : Nat} {S : Nat → Prop} {l : List Int} (hU : MapU H tr S l) :
    Fn Try.prog B 136 [.pointer (some ⟨tr, 0, none⟩)] H (fun r H' => r = .int .i64 (l.length : Int) ∧ H' = H) := by
  refine fn_of Go.Proofs.Try.func136 rfl Go.Proofs.Try.ntmps136 ?_
  refine (show Go' _ _ _ _ 7 [(0, _)] [.code _] _ from ?_)
  refine Go'.seq ?_
  -- region 0 (map.go:335)
  refine Go'.region [(0, 0)] rfl ?_
  refine O.asg rfl rfl rfl rfl rfl ?_
  refine Pl.fin [(0, _), (2, _)] ⟨rfl, rfl, trivial⟩ ?_
  refine Go'.seq ?_
  -- region 1 (map.go:336)
  refine Go'.region [(0, 0), (1, 0), (2, 0), (3, 1), (4, 0)] rfl ?_
  refine O.mv rfl rfl rfl rfl rfl ?_
  refine O.nc rfl rfl rfl rfl rfl ?_
  refine O.fa0 (off := 3) rfl rfl rfl rfl ⟨_, _, _, Go.Proofs.Try.underlying140, rfl, rfl, Go.Proofs.Try.sizeOf3⟩ rfl ?_
  refine O.ld rfl rfl rfl (fun w => ⟨Go.Proofs.Try.isAgg3 w, Go.Proofs.Try.sizeOf3 w⟩) rfl hU.cnt ?_
  refine O.asg rfl rfl rfl rfl rfl ?_
  refine Pl.fin [(2, _)] ⟨rfl, trivial⟩ ?_
  refine Go'.ret (vs := [_]) Go.Proofs.Try.func136 Go.Proofs.Try.results136 ⟨rfl, trivial⟩ ?_
  exact ⟨rfl, rfl⟩

theorem keys_spec {B : World} {H : Mem} {tr : Nat} {S : Nat → Prop} {l : List Int} (hU : MapU H tr S l) (hll : l.length ≤ 4294967296) :
    Fn Try.prog B 97 [.pointer (some ⟨tr, 0, none⟩)] H (fun r H' => OutS EN H' r l ∧ Fr nowhere H H') := by
  have lt0 := hU.lt
  refine fn_of Go.Proofs.Try.func97 rfl Go.Proofs.Try.ntmps97 ?_
  refine (show Go' _ _ _ _ 19 [(0, _)] [.code _] _ from ?_)
  refine Go'.seq ?_
  -- region 0 (map.go:1149)
  refine Go'.region [(0, 0)] rfl ?_
  refine O.asg rfl rfl rfl rfl rfl ?_
  refine Pl.fin [(0, _), (2, _)] ⟨rfl, rfl, trivial⟩ ?_
  refine Go'.seq ?_
  -- region 1 (map.go:1150)
  refine Go'.region [(0, 0), (1, 2), (2, 2), (3, 0)] rfl ?_
  refine O.mv rfl rfl rfl rfl rfl ?_
  refine O.callQ rfl rfl rfl Go.Proofs.Try.call136 rfl (len_spec hU) trivial ?_
  refine O.mks (j := 0) (c := l.length) rfl rfl rfl ⟨Go.Proofs.Try.underlying22, Go.Proofs.Try.sizeOf3, Go.Proofs.Try.zeroValue3, ⟨_, Go.Proofs.Try.typeInfo3, rfl⟩, rfl, by decide, by decide⟩ rfl rfl rfl rfl (by omega) (Nat.le_trans (Nat.mul_le_mul_right _ (Nat.le_of_ble_eq_true (n := _) (m := 4096) rfl)) (by omega)) (by omega) ?_
  intro H1 M1
  have hs1 := M1.size
  have hA1 : AccN EN (fun b => H.size ≤ b) H1 (.slice (some ⟨H.size, 0, none⟩) 0 l.length) [] := ⟨H.size, 0, l.length, rfl, Nat.le_refl _, by omega, ⟨rfl, Nat.zero_le _, Rd.nil _ _ _, M1.wr _ (by rw [zeroRow_size]; exact Nat.le_refl _)⟩⟩
  replace hU := hU.fr (M1.fr nowhere) (fun _ _ _ => nw)
  refine ⟨trivial, ?_⟩
  refine O.asg rfl rfl rfl rfl rfl ?_
  refine Pl.fin [(0, _), (2, _), (3, _)] ⟨rfl, rfl, rfl, trivial⟩ ?_
  refine Go'.seq ?_
  refine Go'.seq ?_
  rcases hU.cases with ⟨rfl, hptr⟩ | ⟨tc, srt, h, t, hg, hx1, e, hc, hnt, hown⟩
  · skip
    -- region 2 (map.go:1151)
    refine Go'.region [(0, 0), (1, 0), (2, 0), (3, 1), (4, 0)] rfl ?_
    refine O.mv rfl rfl rfl rfl rfl ?_
    refine O.nc rfl rfl rfl rfl rfl ?_
    refine O.fa0 (off := 2) rfl rfl rfl rfl ⟨_, _, _, Go.Proofs.Try.underlying140, rfl, rfl, Go.Proofs.Try.sizeOf135⟩ rfl ?_
    refine O.ld rfl rfl rfl (fun w => ⟨Go.Proofs.Try.isAgg135 w, Go.Proofs.Try.sizeOf135 w⟩) rfl hptr ?_
    refine O.notNil rfl rfl rfl rfl Go.Proofs.Try.underlying135 rfl rfl ?_
    refine Pl.fin [(0, _), (2, _), (3, _), (11, _)] ⟨rfl, rfl, rfl, rfl, trivial⟩ ?_
    refine Go'.condF rfl ?_
    refine Go'.skip ?_
    refine Go'.seq ?_
    -- region 4 (map.go:1154)
    refine Go'.region [(0, 0), (1, 0)] rfl ?_
    refine O.mv rfl rfl rfl rfl rfl ?_
    refine O.asg rfl rfl rfl rfl rfl ?_
    refine Pl.fin [(2, _)] ⟨rfl, trivial⟩ ?_
    refine Go'.ret (vs := [_]) Go.Proofs.Try.func97 Go.Proofs.Try.results97 ⟨rfl, trivial⟩ ?_
    exact ⟨hA1.acc.out, M1.fr nowhere⟩
  · skip
    have hptr : cl H1 tr 2 = some (.pointer (some ⟨Gt.p h t, 0, none⟩)) := hc
    -- region 2 (map.go:1151)
    refine Go'.region [(0, 0), (1, 0), (2, 0), (3, 1), (4, 0)] rfl ?_
    refine O.mv rfl rfl rfl rfl rfl ?_
    refine O.nc rfl rfl rfl rfl rfl ?_
    refine O.fa0 (off := 2) rfl rfl rfl rfl ⟨_, _, _, Go.Proofs.Try.underlying140, rfl, rfl, Go.Proofs.Try.sizeOf135⟩ rfl ?_
    refine O.ld rfl rfl rfl (fun w => ⟨Go.Proofs.Try.isAgg135 w, Go.Proofs.Try.sizeOf135 w⟩) rfl hptr ?_
    refine O.notNil rfl rfl rfl rfl Go.Proofs.Try.underlying135 rfl rfl ?_
    refine Pl.fin [(0, _), (2, _), (3, _), (11, _)] ⟨rfl, rfl, rfl, rfl, trivial⟩ ?_
    refine Go'.condT rfl ?_
    -- region 3 (map.go:1152)
    refine Go'.region [(0, 0), (1, 0), (2, 0), (3, 1), (4, 0), (5, 2), (6, 0)] rfl ?_
    refine O.mv rfl rfl rfl rfl rfl ?_
    refine O.nc rfl rfl rfl rfl rfl ?_
    refine O.fa0 (off := 2) rfl rfl rfl rfl ⟨_, _, _, Go.Proofs.Try.underlying140, rfl, rfl, Go.Proofs.Try.sizeOf135⟩ rfl ?_
    refine O.ld rfl rfl rfl (fun w => ⟨Go.Proofs.Try.isAgg135 w, Go.Proofs.Try.sizeOf135 w⟩) rfl hptr ?_
    refine O.mv rfl rfl rfl rfl rfl ?_
    refine O.call rfl rfl rfl Go.Proofs.Try.call137 rfl (nkeys P0_ok h hg hA1 (fun b o hb hz => by have := lt0 b (hown b o hb); have hz' : H.size ≤ b := hz; omega) (by rw [e]; simpa using hll)) ?_
    rintro _ H2 ⟨Z2, hA2, hF2, hZ2⟩
    refine ⟨trivial, ?_⟩
    refine O.asg rfl rfl rfl rfl rfl ?_
    refine Pl.fin [(2, _), (3, _)] ⟨rfl, rfl, trivial⟩ ?_
    refine Go'.seq ?_
    -- region 4 (map.go:1154)
    refine Go'.region [(0, 0), (1, 0)] rfl ?_
    refine O.mv rfl rfl rfl rfl rfl ?_
    refine O.asg rfl rfl rfl rfl rfl ?_
    refine Pl.fin [(2, _)] ⟨rfl, trivial⟩ ?_
    refine Go'.ret (vs := [_]) Go.Proofs.Try.func97 Go.Proofs.Try.results97 ⟨rfl, trivial⟩ ?_
    rw [List.nil_append, e] at hA2
    exact ⟨hA2.acc.out, (M1.fr nowhere).trans' hF2 (fun _ _ _ h => h) (fun b o hb hz => by have hz' : H.size ≤ b := hz; omega)⟩

theorem sKeys_spec {B : World} {H : Mem} {tr : Nat} {S : Nat → Prop} {l : List Int} (hU : MapU H tr S l) (hll : l.length ≤ 4294967296) :
    Fn Try.prog B 56 [.pointer (some ⟨tr, 0, none⟩)] H (fun r H' => OutS EN H' r l ∧ Fr nowhere H H') := by
  refine fn_of Go.Proofs.Try.func56 rfl Go.Proofs.Try.ntmps56 ?_
  refine (show Go' _ _ _ _ 7 [(0, _)] [.code _] _ from ?_)
  refine Go'.seq ?_
  -- region 0 (set.go:172)
  refine Go'.region [(0, 0)] rfl ?_
  refine O.asg rfl rfl rfl rfl rfl ?_
  refine Pl.fin [(0, _), (2, _)] ⟨rfl, rfl, trivial⟩ ?_
  refine Go'.seq ?_
  -- region 1 (set.go:173)
  refine Go'.region [(0, 0), (1, 0), (2, 0), (3, 2), (4, 0)] rfl ?_
  refine O.mv rfl rfl rfl rfl rfl ?_
  refine O.nc rfl rfl rfl rfl rfl ?_
  refine O.faz rfl rfl rfl rfl ⟨_, _, _, Go.Proofs.Try.underlying142, rfl, rfl, Go.Proofs.Try.sizeOf140⟩ rfl ?_
  refine O.call rfl rfl rfl Go.Proofs.Try.call97 rfl (keys_spec hU hll) ?_
  rintro v2 H2 h2
  refine ⟨trivial, ?_⟩
  refine O.asg rfl rfl rfl rfl rfl ?_
  refine Pl.fin [(2, _)] ⟨rfl, trivial⟩ ?_
  refine Go'.ret (vs := [_]) Go.Proofs.Try.func56 Go.Proofs.Try.results56 ⟨rfl, trivial⟩ ?_
  exact h2

theorem sinsert_spec {B : World} {H : Mem} {u : Value} {l : List Int} (hi : InS EN H u l) (hll : l.length ≤ 4294967296) :
    Fn Try.prog B 23 [u] H (fun r H' => OutS EN H' r (Pl.puts OI l) ∧ Fr nowhere H H') := by
  have hpl := Pl.puts_length OI l
  refine fn_of Go.Proofs.Try.func23 rfl Go.Proofs.Try.ntmps23 ?_
  refine (show Go' _ _ _ _ 6 [(0, _)] [.code _] _ from ?_)
  refine Go'.seq ?_
  -- region 0 (set.go:109)
  refine Go'.region [(0, 0)] rfl ?_
  refine O.asg rfl rfl rfl rfl rfl ?_
  refine Pl.fin [(0, _), (2, _)] ⟨rfl, rfl, trivial⟩ ?_
  refine Go'.seq ?_
  -- region 1 (set.go:110)
  refine Go'.region [(0, 0), (1, 2), (2, 2), (3, 0)] rfl ?_
  refine O.mv rfl rfl rfl rfl rfl ?_
  refine O.call rfl rfl rfl Go.Proofs.Try.call55 rfl (growSet_spec hi hll) ?_
  rintro _ H2 ⟨tr, S, rfl, hU, hF2, _⟩
  unfold ptr
  refine ⟨trivial, ?_⟩
  refine O.call rfl rfl rfl Go.Proofs.Try.call56 rfl (sKeys_spec hU (by omega)) ?_
  rintro v3 H3 ⟨h3, hF3⟩
  refine ⟨trivial, ?_⟩
  refine O.asg rfl rfl rfl rfl rfl ?_
  refine Pl.fin [(2, _)] ⟨rfl, trivial⟩ ?_
  refine Go'.ret (vs := [_]) Go.Proofs.Try.func23 Go.Proofs.Try.results23 ⟨rfl, trivial⟩ ?_
  exact ⟨h3, hF2.trans hF3⟩

end Go.Bt.FZ
namespace Go.Bt.FZ
open Go Go.Proofs
set_option maxRecDepth 20000
set_option maxHeartbeats 4000000
set_option linter.unusedVariables false

def PopU (H : Mem) (tr : Nat) (S : Nat → Prop) (l : List Int) (d : Bool) (H' : Mem) : Prop :=
  ∃ S', MapU H' tr S' (Pl.popk l d).1 ∧ Fr (fun b _ => S b) H H' ∧ ∀ b, S' b → S b ∨ H.size ≤ b
theorem pv_ok (o : Option Int) : ∃ k b, pv? o = .tuple #[.int .i64 k, .agg #[], .bool b] ∧ ok1 k b = o := by
  cases o with
  | none => exact ⟨_, _, rfl, rfl⟩
  | some y => exact ⟨_, _, rfl, rfl⟩
theorem popMin_u {B : World} {H : Mem} {tr : Nat} {S : Nat → Prop} {l : List Int} (hU : MapU H tr S l) (hlen : l.length < 2305843009213693952) :
    Fn Try.prog B 121 [.pointer (some ⟨tr, 0, none⟩)] H (fun r H' => r = pv? (Pl.popk l false).2 ∧ PopU H tr S l false H') := by
  rcases hU with ⟨rfl, hZ, hS, hlt⟩ | hM
  rotate_left
  · exact (popMin_spec P0_ok hM hlen).mono fun _ _ ⟨e, S', h1, h2, h3⟩ => ⟨e, S', .inr h1, h2, h3⟩
  refine fn_of Go.Proofs.Try.func121 rfl Go.Proofs.Try.ntmps121 ?_
  refine (show Go' _ _ _ _ 164 [(0, _)] [.code _] _ from ?_)
  refine Go'.seq ?_
  -- region 0 (map.go:711)
  refine Go'.region [(0, 0), (1, 2), (2, 0)] rfl ?_
  refine O.asg rfl rfl rfl rfl rfl ?_
  refine O.alloc rfl rfl rfl Go.Proofs.Try.zeroValue136 ?_
  intro H1 M1
  refine ⟨trivial, ?_⟩
  have hF1 := M1.fr nowhere
  have hZ1 := hZ.fr hF1 (fun _ => nw)
  refine O.asg rfl rfl rfl rfl rfl ?_
  refine Pl.fin [(0, _), (2, _), (3, _), (4, _)] ⟨rfl, rfl, rfl, rfl, trivial⟩ ?_
  refine Go'.seq ?_
  refine Go'.seq ?_
  -- region 1 (map.go:712)
  refine Go'.region [(0, 0), (1, 0), (2, 0), (3, 1), (4, 0)] rfl ?_
  refine O.mv rfl rfl rfl rfl rfl ?_
  refine O.nc rfl rfl rfl rfl rfl ?_
  refine O.fa0 (off := 2) rfl rfl rfl rfl ⟨_, _, _, Go.Proofs.Try.underlying140, rfl, rfl, Go.Proofs.Try.sizeOf135⟩ rfl ?_
  refine O.ld rfl rfl rfl (fun w => ⟨Go.Proofs.Try.isAgg135 w, Go.Proofs.Try.sizeOf135 w⟩) rfl hZ1.h2 ?_
  refine O.isNil rfl rfl rfl rfl Go.Proofs.Try.underlying135 rfl rfl ?_
  refine Pl.fin [(0, _), (2, _), (3, _), (4, _), (13, _)] ⟨rfl, rfl, rfl, rfl, rfl, trivial⟩ ?_
  refine Go'.condT rfl ?_
  refine Go'.seq ?_
  -- region 2 (map.go:713)
  refine Go'.draw (fun _ => True) [(0, 0), (1, 0), (2, 0), (3, 0), (4, 1), (5, 0), (6, 0), (7, 0), (8, 1), (9, 1), (10, 0), (11, 2), (12, 0)] (by kernel_rfl) (by kernel_rfl) (trivial) ?_
  refine O.mv rfl rfl rfl rfl rfl ?_
  refine O.nc rfl rfl rfl rfl rfl ?_
  refine O.fa0 (off := 4) rfl rfl rfl rfl ⟨_, _, _, Go.Proofs.Try.underlying140, rfl, rfl, Go.Proofs.Try.sizeOf138⟩ rfl ?_
  refine O.faz rfl rfl rfl rfl ⟨_, _, _, Go.Proofs.Try.underlying138, rfl, rfl, Go.Proofs.Try.sizeOf3⟩ rfl ?_
  refine O.ld rfl rfl rfl (fun w => ⟨Go.Proofs.Try.isAgg3 w, Go.Proofs.Try.sizeOf3 w⟩) rfl (hZ1.he 0 _ rfl) ?_
  refine O.mv rfl rfl rfl rfl rfl ?_
  refine O.nc rfl rfl rfl rfl rfl ?_
  refine O.fa0 (off := 4) rfl rfl rfl rfl ⟨_, _, _, Go.Proofs.Try.underlying140, rfl, rfl, Go.Proofs.Try.sizeOf138⟩ rfl ?_
  refine O.fz1 rfl rfl rfl ty ⟨_, _, Go.Proofs.Try.underlying138, rfl, rfl, rfl, Go.Proofs.Try.sizeOf136⟩ rfl (hZ1.hw.at0 4 1 (by omega)) ?_
  refine O.lds rfl rfl rfl (fun w => ⟨Go.Proofs.Try.isAgg136 w, Go.Proofs.Try.sizeOf136 w⟩) rfl rfl (Rd.nil _ _ _) ?_
  refine O.asg rfl rfl rfl rfl rfl ?_
  refine O.st0 rfl rfl Go.Proofs.Try.sizeOf136 rfl rfl rfl trivial ?_
  refine O.asg rfl rfl rfl rfl rfl ?_
  refine Pl.fin [(0, _), (2, _), (3, _), (4, _)] ⟨rfl, rfl, rfl, rfl, trivial⟩ ?_
  refine Go'.ret (vs := [_, _, _]) Go.Proofs.Try.func121 Go.Proofs.Try.results121 ⟨rfl, ⟨_, _, rfl, fun _ _ => run_loadVar_agg (fun w => ⟨Go.Proofs.Try.isAgg136 w, Go.Proofs.Try.sizeOf136 w⟩) rfl (Rd.nil _ _ _)⟩, rfl, trivial⟩ ?_
  exact ⟨rfl, S, .inl ⟨rfl, hZ1, hS, fun b hb => Nat.lt_of_lt_of_le (hlt b hb) hF1.size⟩, hF1.mono (fun _ _ _ h => h.elim), fun b hb => .inl hb⟩

theorem sPopMin_spec {B : World} {H : Mem} {tr : Nat} {S : Nat → Prop} {l : List Int} (hU : MapU H tr S l) (hlen : l.length < 2305843009213693952) :
    Fn Try.prog B 85 [.pointer (some ⟨tr, 0, none⟩)] H (fun r H' => ∃ k b, r = .tuple #[.int .i64 k, .bool b] ∧ ok1 k b = (Pl.popk l false).2 ∧ PopU H tr S l false H') := by
  obtain ⟨pk, pb, hpe, hpo⟩ := pv_ok (Pl.popk l false).2
  refine fn_of Go.Proofs.Try.func85 rfl Go.Proofs.Try.ntmps85 ?_
  refine (show Go' _ _ _ _ 17 [(0, _)] [.code _] _ from ?_)
  refine Go'.seq ?_
  -- region 0 (set.go:92)
  refine Go'.region [(0, 0), (1, 0)] rfl ?_
  refine O.asg rfl rfl rfl rfl rfl ?_
  refine O.asg rfl rfl rfl rfl rfl ?_
  refine Pl.fin [(0, _), (2, _), (3, _)] ⟨rfl, rfl, rfl, trivial⟩ ?_
  refine Go'.seq ?_
  -- region 1 (set.go:93)
  refine Go'.region [(0, 0), (1, 0), (2, 0), (3, 2), (4, 0), (5, 0), (6, 0), (7, 0), (8, 2), (9, 0), (10, 2), (11, 0)] rfl ?_
  refine O.mv rfl rfl rfl rfl rfl ?_
  refine O.nc rfl rfl rfl rfl rfl ?_
  refine O.faz rfl rfl rfl rfl ⟨_, _, _, Go.Proofs.Try.underlying142, rfl, rfl, Go.Proofs.Try.sizeOf140⟩ rfl ?_
  refine O.call rfl rfl rfl Go.Proofs.Try.call121 rfl (popMin_u hU hlen) ?_
  rintro _ H2 ⟨hre, S', hU2, hF2, hS2⟩
  rw [hpe] at hre
  subst hre
  refine ⟨trivial, ?_⟩
  refine O.mv rfl rfl rfl rfl rfl ?_
  refine O.ext rfl rfl rfl rfl rfl rfl ?_
  refine O.ext rfl rfl rfl rfl rfl rfl ?_
  refine O.ext rfl rfl rfl rfl rfl rfl ?_
  refine O.alloc rfl rfl rfl Go.Proofs.Try.zeroValue136 ?_
  intro H3 M3
  refine ⟨trivial, ?_⟩
  have hF3 := M3.fr nowhere
  replace hU2 := hU2.fr hF3 (fun _ _ _ => nw)
  refine O.asg rfl rfl rfl rfl rfl ?_
  refine O.st0 rfl rfl Go.Proofs.Try.sizeOf136 rfl rfl rfl trivial ?_
  refine O.asg rfl rfl rfl rfl rfl ?_
  refine Pl.fin [(2, _), (3, _), (4, _), (6, _)] ⟨rfl, rfl, rfl, rfl, trivial⟩ ?_
  refine Go'.seq ?_
  -- region 2 (set.go:94)
  refine Go'.region [(0, 0), (1, 0), (2, 0), (3, 0)] rfl ?_
  refine O.mv rfl rfl rfl rfl rfl ?_
  refine O.mv rfl rfl rfl rfl rfl ?_
  refine O.asg rfl rfl rfl rfl rfl ?_
  refine O.asg rfl rfl rfl rfl rfl ?_
  refine Pl.fin [(2, _), (3, _)] ⟨rfl, rfl, trivial⟩ ?_
  refine Go'.ret (vs := [_, _]) Go.Proofs.Try.func85 Go.Proofs.Try.results85 ⟨rfl, rfl, trivial⟩ ?_
  exact ⟨pk, pb, rfl, hpo, S', hU2, hF2.trans' hF3 (fun _ _ _ h => h) (fun _ _ _ h => h.elim), hS2⟩

theorem popMax_u {B : World} {H : Mem} {tr : Nat} {S : Nat → Prop} {l : List Int} (hU : MapU H tr S l) (hlen : l.length < 2305843009213693952) :
    Fn Try.prog B 120 [.pointer (some ⟨tr, 0, none⟩)] H (fun r H' => r = pv? (Pl.popk l true).2 ∧ PopU H tr S l true H') := by
  rcases hU with ⟨rfl, hZ, hS, hlt⟩ | hM
  rotate_left
  · exact (popMax_spec P0_ok hM hlen).mono fun _ _ ⟨e, S', h1, h2, h3⟩ => ⟨e, S', .inr h1, h2, h3⟩
  refine fn_of Go.Proofs.Try.func120 rfl Go.Proofs.Try.ntmps120 ?_
  refine (show Go' _ _ _ _ 175 [(0, _)] [.code _] _ from ?_)
  refine Go'.seq ?_
  -- region 0 (map.go:753)
  refine Go'.region [(0, 0), (1, 2), (2, 0)] rfl ?_
  refine O.asg rfl rfl rfl rfl rfl ?_
  refine O.alloc rfl rfl rfl Go.Proofs.Try.zeroValue136 ?_
  intro H1 M1
  refine ⟨trivial, ?_⟩
  have hF1 := M1.fr nowhere
  have hZ1 := hZ.fr hF1 (fun _ => nw)
  refine O.asg rfl rfl rfl rfl rfl ?_
  refine Pl.fin [(0, _), (2, _), (3, _), (4, _)] ⟨rfl, rfl, rfl, rfl, trivial⟩ ?_
  refine Go'.seq ?_
  refine Go'.seq ?_
  -- region 1 (map.go:754)
  refine Go'.region [(0, 0), (1, 0), (2, 0), (3, 1), (4, 0)] rfl ?_
  refine O.mv rfl rfl rfl rfl rfl ?_
  refine O.nc rfl rfl rfl rfl rfl ?_
  refine O.fa0 (off := 2) rfl rfl rfl rfl ⟨_, _, _, Go.Proofs.Try.underlying140, rfl, rfl, Go.Proofs.Try.sizeOf135⟩ rfl ?_
  refine O.ld rfl rfl rfl (fun w => ⟨Go.Proofs.Try.isAgg135 w, Go.Proofs.Try.sizeOf135 w⟩) rfl hZ1.h2 ?_
  refine O.isNil rfl rfl rfl rfl Go.Proofs.Try.underlying135 rfl rfl ?_
  refine Pl.fin [(0, _), (2, _), (3, _), (4, _), (13, _)] ⟨rfl, rfl, rfl, rfl, rfl, trivial⟩ ?_
  refine Go'.condT rfl ?_
  refine Go'.seq ?_
  -- region 2 (map.go:755)
  refine Go'.draw (fun _ => True) [(0, 0), (1, 0), (2, 0), (3, 0), (4, 1), (5, 0), (6, 0), (7, 0), (8, 1), (9, 1), (10, 0), (11, 2), (12, 0)] (by kernel_rfl) (by kernel_rfl) (trivial) ?_
  refine O.mv rfl rfl rfl rfl rfl ?_
  refine O.nc rfl rfl rfl rfl rfl ?_
  refine O.fa0 (off := 4) rfl rfl rfl rfl ⟨_, _, _, Go.Proofs.Try.underlying140, rfl, rfl, Go.Proofs.Try.sizeOf138⟩ rfl ?_
  refine O.faz rfl rfl rfl rfl ⟨_, _, _, Go.Proofs.Try.underlying138, rfl, rfl, Go.Proofs.Try.sizeOf3⟩ rfl ?_
  refine O.ld rfl rfl rfl (fun w => ⟨Go.Proofs.Try.isAgg3 w, Go.Proofs.Try.sizeOf3 w⟩) rfl (hZ1.he 0 _ rfl) ?_
  refine O.mv rfl rfl rfl rfl rfl ?_
  refine O.nc rfl rfl rfl rfl rfl ?_
  refine O.fa0 (off := 4) rfl rfl rfl rfl ⟨_, _, _, Go.Proofs.Try.underlying140, rfl, rfl, Go.Proofs.Try.sizeOf138⟩ rfl ?_
  refine O.fz1 rfl rfl rfl ty ⟨_, _, Go.Proofs.Try.underlying138, rfl, rfl, rfl, Go.Proofs.Try.sizeOf136⟩ rfl (hZ1.hw.at0 4 1 (by omega)) ?_
  refine O.lds rfl rfl rfl (fun w => ⟨Go.Proofs.Try.isAgg136 w, Go.Proofs.Try.sizeOf136 w⟩) rfl rfl (Rd.nil _ _ _) ?_
  refine O.asg rfl rfl rfl rfl rfl ?_
  refine O.st0 rfl rfl Go.Proofs.Try.sizeOf136 rfl rfl rfl trivial ?_
  refine O.asg rfl rfl rfl rfl rfl ?_
  refine Pl.fin [(0, _), (2, _), (3, _), (4, _)] ⟨rfl, rfl, rfl, rfl, trivial⟩ ?_
  refine Go'.ret (vs := [_, _, _]) Go.Proofs.Try.func120 Go.Proofs.Try.results120 ⟨rfl, ⟨_, _, rfl, fun _ _ => run_loadVar_agg (fun w => ⟨Go.Proofs.Try.isAgg136 w, Go.Proofs.Try.sizeOf136 w⟩) rfl (Rd.nil _ _ _)⟩, rfl, trivial⟩ ?_
  exact ⟨rfl, S, .inl ⟨rfl, hZ1, hS, fun b hb => Nat.lt_of_lt_of_le (hlt b hb) hF1.size⟩, hF1.mono (fun _ _ _ h => h.elim), fun b hb => .inl hb⟩

theorem sPopMax_spec {B : World} {H : Mem} {tr : Nat} {S : Nat → Prop} {l : List Int} (hU : MapU H tr S l) (hlen : l.length < 2305843009213693952) :
    Fn Try.prog B 84 [.pointer (some ⟨tr, 0, none⟩)] H (fun r H' => ∃ k b, r = .tuple #[.int .i64 k, .bool b] ∧ ok1 k b = (Pl.popk l true).2 ∧ PopU H tr S l true H') := by
  obtain ⟨pk, pb, hpe, hpo⟩ := pv_ok (Pl.popk l true).2
  refine fn_of Go.Proofs.Try.func84 rfl Go.Proofs.Try.ntmps84 ?_
  refine (show Go' _ _ _ _ 17 [(0, _)] [.code _] _ from ?_)
  refine Go'.seq ?_
  -- region 0 (set.go:99)
  refine Go'.region [(0, 0), (1, 0)] rfl ?_
  refine O.asg rfl rfl rfl rfl rfl ?_
  refine O.asg rfl rfl rfl rfl rfl ?_
  refine Pl.fin [(0, _), (2, _), (3, _)] ⟨rfl, rfl, rfl, trivial⟩ ?_
  refine Go'.seq ?_
  -- region 1 (set.go:100)
  refine Go'.region [(0, 0), (1, 0), (2, 0), (3, 2), (4, 0), (5, 0), (6, 0), (7, 0), (8, 2), (9, 0), (10, 2), (11, 0)] rfl ?_
  refine O.mv rfl rfl rfl rfl rfl ?_
  refine O.nc rfl rfl rfl rfl rfl ?_
  refine O.faz rfl rfl rfl rfl ⟨_, _, _, Go.Proofs.Try.underlying142, rfl, rfl, Go.Proofs.Try.sizeOf140⟩ rfl ?_
  refine O.call rfl rfl rfl Go.Proofs.Try.call120 rfl (popMax_u hU hlen) ?_
  rintro _ H2 ⟨hre, S', hU2, hF2, hS2⟩
  rw [hpe] at hre
  subst hre
  refine ⟨trivial, ?_⟩
  refine O.mv rfl rfl rfl rfl rfl ?_
  refine O.ext rfl rfl rfl rfl rfl rfl ?_
  refine O.ext rfl rfl rfl rfl rfl rfl ?_
  refine O.ext rfl rfl rfl rfl rfl rfl ?_
  refine O.alloc rfl rfl rfl Go.Proofs.Try.zeroValue136 ?_
  intro H3 M3
  refine ⟨trivial, ?_⟩
  have hF3 := M3.fr nowhere
  replace hU2 := hU2.fr hF3 (fun _ _ _ => nw)
  refine O.asg rfl rfl rfl rfl rfl ?_
  refine O.st0 rfl rfl Go.Proofs.Try.sizeOf136 rfl rfl rfl trivial ?_
  refine O.asg rfl rfl rfl rfl rfl ?_
  refine Pl.fin [(2, _), (3, _), (4, _), (6, _)] ⟨rfl, rfl, rfl, rfl, trivial⟩ ?_
  refine Go'.seq ?_
  -- region 2 (set.go:101)
  refine Go'.region [(0, 0), (1, 0), (2, 0), (3, 0)] rfl ?_
  refine O.mv rfl rfl rfl rfl rfl ?_
  refine O.mv rfl rfl rfl rfl rfl ?_
  refine O.asg rfl rfl rfl rfl rfl ?_
  refine O.asg rfl rfl rfl rfl rfl ?_
  refine Pl.fin [(2, _), (3, _)] ⟨rfl, rfl, trivial⟩ ?_
  refine Go'.ret (vs := [_, _]) Go.Proofs.Try.func84 Go.Proofs.Try.results84 ⟨rfl, rfl, trivial⟩ ?_
  exact ⟨pk, pb, rfl, hpo, S', hU2, hF2.trans' hF3 (fun _ _ _ h => h) (fun _ _ _ h => h.elim), hS2⟩

theorem spops_spec {B : World} {H : Mem} {u v : Value} {l : List Int} {ks : List Bool} (hi : InS EN H u l) (hll : l.length ≤ 4294967296) (hk : InS EB H v ks) (hkl : ks.length ≤ 4294967296) :
    Fn Try.prog B 39 [u, v] H (fun r H' => ∃ v1 v2, r = .tuple #[v1, v2] ∧ OutS EKy H' v1 (Pl.runs Pl.popk (Pl.puts OI l) ks).2 ∧ OutS EN H' v2 (Pl.runs Pl.popk (Pl.puts OI l) ks).1 ∧ Fr nowhere H H') := by
  have hpl0 := Pl.puts_length OI l
  obtain ⟨a, c, hu⟩ := hk.len
  subst hu
  refine fn_of Go.Proofs.Try.func39 rfl Go.Proofs.Try.ntmps39 ?_
  refine (show Go' _ _ _ _ 39 [(0, _), (1, _)] [.code _] _ from ?_)
  refine Go'.seq ?_
  -- region 0 (set.go:172)
  refine Go'.region [(0, 0), (1, 0)] rfl ?_
  refine O.asg rfl rfl rfl rfl rfl ?_
  refine O.asg rfl rfl rfl rfl rfl ?_
  refine Pl.fin [(0, _), (1, _), (4, _), (5, _)] ⟨rfl, rfl, rfl, rfl, trivial⟩ ?_
  refine Go'.seq ?_
  -- region 1 (set.go:173)
  refine Go'.region [(0, 0), (1, 2), (2, 0)] rfl ?_
  refine O.mv rfl rfl rfl rfl rfl ?_
  refine O.call rfl rfl rfl Go.Proofs.Try.call55 rfl (growSet_spec hi hll) ?_
  rintro _ H1 ⟨tr, S0, rfl, hM1, hF1, hS0⟩
  unfold ptr
  refine ⟨trivial, ?_⟩
  refine O.asg rfl rfl rfl rfl rfl ?_
  refine Pl.fin [(1, _), (4, _), (5, _), (6, _)] ⟨rfl, rfl, rfl, rfl, trivial⟩ ?_
  refine Go'.seq ?_
  -- region 2 (set.go:174)
  refine Go'.region [(0, 0)] rfl ?_
  refine O.asg rfl rfl rfl rfl rfl ?_
  refine Pl.fin [(1, _), (4, _), (5, _), (6, _), (7, _)] ⟨rfl, rfl, rfl, rfl, rfl, trivial⟩ ?_
  refine Go'.seq ?_
  refine Go'.seq ?_
  -- region 3 (set.go:175)
  refine Go'.region [(0, 0), (1, 0), (2, 0)] rfl ?_
  refine O.mv rfl rfl rfl rfl rfl ?_
  refine O.len rfl rfl rfl rfl Go.Proofs.Try.underlying50 rfl ?_
  refine O.mv rfl rfl rfl rfl rfl ?_
  refine Pl.fin [(4, _), (5, _), (6, _), (7, _), (12, _), (13, _), (14, _)] ⟨rfl, rfl, rfl, rfl, rfl, rfl, rfl, trivial⟩ ?_
  refine Go'.block ?_
  refine Go'.loop ?_
  refine Go'.keep [(6, _), (7, _), (12, _), (13, _), (14, _)] ⟨rfl, rfl, rfl, rfl, rfl, trivial⟩ ?_
  refine Go'.ind (σ := Nat × Value) (fun s => ks.length - s.1) (fun s H' => Fr nowhere H H' ∧ s.1 ≤ ks.length ∧ ∃ S Zo, MapU H' tr S (Pl.runs Pl.popk (Pl.puts OI l) (ks.take s.1)).1 ∧ (∀ b, S b → H.size ≤ b) ∧ Acc EKy Zo H' s.2 (Pl.runs Pl.popk (Pl.puts OI l) (ks.take s.1)).2 ∧ ∀ b, Zo b → H.size ≤ b ∧ b < H'.size ∧ ¬ S b)
    (fun s => [(6, .pointer (some ⟨tr, 0, none⟩)), (7, s.2), (12, .slice a ks.length c), (13, .int .i64 (ks.length : Int)), (14, .int .i64 (s.1 : Int))]) (0, .slice none 0 0) ⟨hF1, Nat.zero_le _, S0, fun _ => False, hM1, hS0, Acc.nil _ _ _, fun _ h => h.elim⟩ rfl ?_
  rintro ⟨j, sv⟩ H2 ⟨hF, hjl, S, Zo, hM, hS, hA, hZ⟩ ih
  simp only at hjl hM hA
  have hi2 := hk.fr hF
  have hsz := hF.size
  have hpl := Pl.runs_le Pl.popk_le (Pl.puts OI l) (ks.take j)
  have hlout := Pl.runs_len Pl.popk (Pl.puts OI l) (ks.take j)
  rw [List.length_take] at hlout
  refine Go'.seq ?_
  by_cases hlt : j < ks.length
  · skip
    obtain ⟨y, hy⟩ : ∃ y, ks[j]? = some y := ⟨ks[j], List.getElem?_eq_getElem hlt⟩
    obtain ⟨b, o, c', e, hr⟩ := hi2.at hy
    cases e
    have erun := Pl.runs_take Pl.popk (Pl.puts OI l) hy
    generalize hL : (Pl.runs Pl.popk (Pl.puts OI l) (ks.take j)).1 = L at *
    generalize hG : (Pl.runs Pl.popk (Pl.puts OI l) (ks.take j)).2 = G at *
    -- region 4 (set.go:175)
    refine Go'.region [(0, 0)] rfl ?_
    refine O.cmp rfl rfl rfl rfl rfl rfl (lssT (by omega)) ?_
    refine Pl.fin [(6, _), (7, _), (12, _), (13, _), (14, _), (15, _)] ⟨rfl, rfl, rfl, rfl, rfl, rfl, trivial⟩ ?_
    refine Go'.seq ?_
    refine Go'.condT rfl ?_
    refine Go'.skip ?_
    refine Go'.seq ?_
    refine Go'.block ?_
    refine Go'.seq ?_
    -- region 5 (set.go:175)
    refine Go'.region [(0, 0), (1, 1), (2, 0)] rfl ?_
    refine O.ix (j := j) rfl rfl rfl rfl Go.Proofs.Try.underlying50 Go.Proofs.Try.sizeOf4 rfl rfl (by omega) hlt ?_
    refine O.ld rfl rfl rfl (fun w => ⟨Go.Proofs.Try.isAgg4 w, Go.Proofs.Try.sizeOf4 w⟩) rfl (hr 0 _ rfl) ?_
    refine O.asg rfl rfl rfl rfl rfl ?_
    refine Pl.fin [(6, _), (7, _), (9, _), (12, _), (13, _), (14, _), (15, _)] ⟨rfl, rfl, rfl, rfl, rfl, rfl, rfl, trivial⟩ ?_
    refine Go'.seq ?_
    -- region 6 (set.go:176)
    refine Go'.region [(0, 0)] rfl ?_
    refine O.mv rfl rfl rfl rfl rfl ?_
    refine Pl.fin [(6, _), (7, _), (9, _), (12, _), (13, _), (14, _), (15, _), (18, _)] ⟨rfl, rfl, rfl, rfl, rfl, rfl, rfl, rfl, trivial⟩ ?_
    cases y
    · skip
      refine Go'.condF rfl ?_
      -- region 8 (set.go:179)
      refine Go'.region [(0, 0), (1, 0), (2, 2), (3, 0), (4, 0), (5, 2), (6, 2), (7, 2), (8, 0)] rfl ?_
      refine O.mv rfl rfl rfl rfl rfl ?_
      refine O.mv rfl rfl rfl rfl rfl ?_
      refine O.call rfl rfl rfl Go.Proofs.Try.call85 rfl (sPopMin_spec hM (by omega)) ?_
      rintro _ H5 ⟨pk, pb, rfl, hpo, S', hM', hF', hS'⟩
      generalize hfo : (Pl.popk L false).2 = fo at *
      have hs5 := hF'.size
      replace hA := hA.fr hF' (fun b o hb hb2 hz => (hZ b hb2).2.2 hz)
      refine ⟨trivial, ?_⟩
      refine O.ext rfl rfl rfl rfl rfl rfl ?_
      refine O.ext rfl rfl rfl rfl rfl rfl ?_
      refine O.call rfl rfl rfl Go.Proofs.Try.call83 rfl (key_spec (x := pk) (ok := pb)) ?_
      rintro _ H6 ⟨rfl, hF6⟩
      rw [hpo]
      unfold KV
      have hs6 := hF6.size
      replace hM' := hM'.fr hF6 (fun _ _ _ => nw)
      replace hA := hA.fr hF6 (fun _ _ _ _ => nw)
      refine ⟨trivial, ?_⟩
      refine O.bsl (cs := (kvs fo)) rfl rfl rfl ⟨Go.Proofs.Try.underlying59, Go.Proofs.Try.sizeOf63, Go.Proofs.Try.zeroValue63, ⟨_, Go.Proofs.Try.typeInfo63, rfl⟩, rfl, by decide, by decide⟩ rfl (by decide) (by clear hpo hfo erun; cases fo <;> kernel_rfl) ?_
      intro H7 M7
      have hs7 := M7.size
      replace hM' := hM'.fr (M7.fr nowhere) (fun _ _ _ => nw)
      replace hA := hA.fr (M7.fr nowhere) (fun _ _ _ _ => nw)
      have m5 : Rd H7 H6.size 0 (row EKy [fo]) := M7.rd _ [] (by simp [row, EKy])
      refine ⟨trivial, ?_⟩
      refine O.appA (E := EKy) (Y := [fo]) rfl rfl rfl ⟨Go.Proofs.Try.underlying59, Go.Proofs.Try.sizeOf63, Go.Proofs.Try.zeroValue63, ⟨_, Go.Proofs.Try.typeInfo63, rfl⟩, rfl, by decide, by decide⟩ rfl hA rfl ⟨_, _, _, rfl, m5⟩ (Nat.succ_pos _) (Nat.le_trans (Nat.mul_le_mul_left _ (Nat.le_of_ble_eq_true (n := _) (m := 4096) rfl)) (by rw [hlout]; simp only [List.length_cons, List.length_nil]; omega)) (by rw [hlout]; simp only [List.length_cons, List.length_nil]; omega) ?_
      intro v8 H8 hA8 hF8 hs8
      have hS2 : ∀ b, S' b → ¬ Zo b := fun b hb hz => (hS' b hb).elim (hZ b hz).2.2 (fun h => by have := (hZ b hz).2.1; omega)
      have hlt5 : ∀ b, S' b → b < H7.size := hM'.lt
      have hM8 := hM'.fr hF8 (fun b _ hb => hS2 b hb)
      have hg8 := hF8.size
      refine ⟨trivial, ?_⟩
      refine O.asg rfl rfl rfl rfl rfl ?_
      refine Pl.fin [(6, _), (7, _), (9, _), (12, _), (13, _), (14, _), (15, _), (18, _)] ⟨rfl, rfl, rfl, rfl, rfl, rfl, rfl, rfl, trivial⟩ ?_
      refine Go'.inBlock ?_
      -- region 9 (set.go:175)
      refine Go'.region [(0, 0), (1, 0)] rfl ?_
      refine O.add (((j + 1 : Nat) : Int)) rfl rfl rfl rfl rfl rfl (by omega) (by omega) ?_
      refine O.mv rfl rfl rfl rfl rfl ?_
      refine Pl.fin [(6, _), (7, _), (9, _), (12, _), (13, _), (14, _), (15, _), (18, _)] ⟨rfl, rfl, rfl, rfl, rfl, rfl, rfl, rfl, trivial⟩ ?_
      refine Go'.keep [(6, _), (7, _), (12, _), (13, _), (14, _)] ⟨rfl, rfl, rfl, rfl, rfl, trivial⟩ ?_
      refine Go'.inLoop ?_
      exact ih (j + 1, v8) H8 ⟨(((hF.trans' hF' (fun _ _ _ h => h) (fun b o hb hz => by have h1 := hS b hz; omega)).trans hF6).trans (M7.fr nowhere)).trans' hF8 (fun _ _ _ h => h) (fun b o hb hz => by have h1 := (hZ b hz).1; omega), hlt, S', (fun b => Zo b ∨ (b = H7.size ∧ b < H8.size)), by
        simp only
        rw [erun]
        exact hM8, fun b hb => (hS' b hb).elim (hS b) (fun h => by omega), by
        simp only
        rw [erun]
        exact hfo ▸ hA8, fun b hb => hb.elim (fun h => ⟨(hZ b h).1, by have := (hZ b h).2.1; omega, fun hs => hS2 b hs h⟩) (fun h => ⟨by omega, h.2, fun hs => by have := hlt5 b hs; omega⟩)⟩ (by simp only; omega)
    · skip
      refine Go'.condT rfl ?_
      -- region 7 (set.go:177)
      refine Go'.region [(0, 0), (1, 0), (2, 2), (3, 0), (4, 0), (5, 2), (6, 2), (7, 2), (8, 0)] rfl ?_
      refine O.mv rfl rfl rfl rfl rfl ?_
      refine O.mv rfl rfl rfl rfl rfl ?_
      refine O.call rfl rfl rfl Go.Proofs.Try.call84 rfl (sPopMax_spec hM (by omega)) ?_
      rintro _ H5 ⟨pk, pb, rfl, hpo, S', hM', hF', hS'⟩
      generalize hfo : (Pl.popk L true).2 = fo at *
      have hs5 := hF'.size
      replace hA := hA.fr hF' (fun b o hb hb2 hz => (hZ b hb2).2.2 hz)
      refine ⟨trivial, ?_⟩
      refine O.ext rfl rfl rfl rfl rfl rfl ?_
      refine O.ext rfl rfl rfl rfl rfl rfl ?_
      refine O.call rfl rfl rfl Go.Proofs.Try.call83 rfl (key_spec (x := pk) (ok := pb)) ?_
      rintro _ H6 ⟨rfl, hF6⟩
      rw [hpo]
      unfold KV
      have hs6 := hF6.size
      replace hM' := hM'.fr hF6 (fun _ _ _ => nw)
      replace hA := hA.fr hF6 (fun _ _ _ _ => nw)
      refine ⟨trivial, ?_⟩
      refine O.bsl (cs := (kvs fo)) rfl rfl rfl ⟨Go.Proofs.Try.underlying59, Go.Proofs.Try.sizeOf63, Go.Proofs.Try.zeroValue63, ⟨_, Go.Proofs.Try.typeInfo63, rfl⟩, rfl, by decide, by decide⟩ rfl (by decide) (by clear hpo hfo erun; cases fo <;> kernel_rfl) ?_
      intro H7 M7
      have hs7 := M7.size
      replace hM' := hM'.fr (M7.fr nowhere) (fun _ _ _ => nw)
      replace hA := hA.fr (M7.fr nowhere) (fun _ _ _ _ => nw)
      have m5 : Rd H7 H6.size 0 (row EKy [fo]) := M7.rd _ [] (by simp [row, EKy])
      refine ⟨trivial, ?_⟩
      refine O.appA (E := EKy) (Y := [fo]) rfl rfl rfl ⟨Go.Proofs.Try.underlying59, Go.Proofs.Try.sizeOf63, Go.Proofs.Try.zeroValue63, ⟨_, Go.Proofs.Try.typeInfo63, rfl⟩, rfl, by decide, by decide⟩ rfl hA rfl ⟨_, _, _, rfl, m5⟩ (Nat.succ_pos _) (Nat.le_trans (Nat.mul_le_mul_left _ (Nat.le_of_ble_eq_true (n := _) (m := 4096) rfl)) (by rw [hlout]; simp only [List.length_cons, List.length_nil]; omega)) (by rw [hlout]; simp only [List.length_cons, List.length_nil]; omega) ?_
      intro v8 H8 hA8 hF8 hs8
      have hS2 : ∀ b, S' b → ¬ Zo b := fun b hb hz => (hS' b hb).elim (hZ b hz).2.2 (fun h => by have := (hZ b hz).2.1; omega)
      have hlt5 : ∀ b, S' b → b < H7.size := hM'.lt
      have hM8 := hM'.fr hF8 (fun b _ hb => hS2 b hb)
      have hg8 := hF8.size
      refine ⟨trivial, ?_⟩
      refine O.asg rfl rfl rfl rfl rfl ?_
      refine Pl.fin [(6, _), (7, _), (9, _), (12, _), (13, _), (14, _), (15, _), (18, _)] ⟨rfl, rfl, rfl, rfl, rfl, rfl, rfl, rfl, trivial⟩ ?_
      refine Go'.inBlock ?_
      -- region 9 (set.go:175)
      refine Go'.region [(0, 0), (1, 0)] rfl ?_
      refine O.add (((j + 1 : Nat) : Int)) rfl rfl rfl rfl rfl rfl (by omega) (by omega) ?_
      refine O.mv rfl rfl rfl rfl rfl ?_
      refine Pl.fin [(6, _), (7, _), (9, _), (12, _), (13, _), (14, _), (15, _), (18, _)] ⟨rfl, rfl, rfl, rfl, rfl, rfl, rfl, rfl, trivial⟩ ?_
      refine Go'.keep [(6, _), (7, _), (12, _), (13, _), (14, _)] ⟨rfl, rfl, rfl, rfl, rfl, trivial⟩ ?_
      refine Go'.inLoop ?_
      exact ih (j + 1, v8) H8 ⟨(((hF.trans' hF' (fun _ _ _ h => h) (fun b o hb hz => by have h1 := hS b hz; omega)).trans hF6).trans (M7.fr nowhere)).trans' hF8 (fun _ _ _ h => h) (fun b o hb hz => by have h1 := (hZ b hz).1; omega), hlt, S', (fun b => Zo b ∨ (b = H7.size ∧ b < H8.size)), by
        simp only
        rw [erun]
        exact hM8, fun b hb => (hS' b hb).elim (hS b) (fun h => by omega), by
        simp only
        rw [erun]
        exact hfo ▸ hA8, fun b hb => hb.elim (fun h => ⟨(hZ b h).1, by have := (hZ b h).2.1; omega, fun hs => hS2 b hs h⟩) (fun h => ⟨by omega, h.2, fun hs => by have := hlt5 b hs; omega⟩)⟩ (by simp only; omega)
  · skip
    obtain rfl : j = ks.length := by omega
    rw [List.take_length] at hM hA hpl
    -- region 4 (set.go:175)
    refine Go'.region [(0, 0)] rfl ?_
    refine O.cmp rfl rfl rfl rfl rfl rfl (lssF (by omega)) ?_
    refine Pl.fin [(6, _), (7, _), (12, _), (13, _), (14, _), (15, _)] ⟨rfl, rfl, rfl, rfl, rfl, rfl, trivial⟩ ?_
    refine Go'.seq ?_
    refine Go'.condF rfl ?_
    refine Go'.exit rfl ?_
    refine Go'.seq ?_
    -- region 10 (set.go:182)
    refine Go'.region [(0, 0), (1, 0), (2, 2), (3, 0), (4, 0)] rfl ?_
    refine O.mv rfl rfl rfl rfl rfl ?_
    refine O.mv rfl rfl rfl rfl rfl ?_
    refine O.call rfl rfl rfl Go.Proofs.Try.call56 rfl (sKeys_spec hM (by omega)) ?_
    rintro v9 H9 ⟨hv9, hF9⟩
    refine ⟨trivial, ?_⟩
    refine O.asg rfl rfl rfl rfl rfl ?_
    refine O.asg rfl rfl rfl rfl rfl ?_
    refine Pl.fin [(4, _), (5, _)] ⟨rfl, rfl, trivial⟩ ?_
    refine Go'.ret (vs := [_, _]) Go.Proofs.Try.func39 Go.Proofs.Try.results39 ⟨rfl, rfl, trivial⟩ ?_
    exact ⟨_, _, rfl, (hA.fr hF9 (fun _ _ _ _ => nw)).out, hv9, hF.trans hF9⟩

end Go.Bt.FZ
namespace Go.Bt.FZ
open Go Go.Proofs
set_option maxRecDepth 20000
set_option maxHeartbeats 4000000
set_option linter.unusedVariables false

/-- Slices of the lists ls. -/
def InSS {α : Type} (E : Elt α) (H : Mem) : List (Option Addr × Nat × Nat) → List (List α) → Prop
  | [], [] => True
  | u :: us, l :: ls => InS E H (.slice u.1 u.2.1 u.2.2) l ∧ InSS E H us ls
  | _, _ => False
theorem InSS.fr {α : Type} {E : Elt α} {H H' : Mem} (hf : Fr nowhere H H') : ∀ {us : List (Option Addr × Nat × Nat)} {ls : List (List α)}, InSS E H us ls → InSS E H' us ls
  | [], [], _ => trivial
  | u :: us, l :: ls, h => ⟨h.1.fr hf, InSS.fr hf h.2⟩
  | [], _ :: _, h => h.elim
  | _ :: _, [], h => h.elim
theorem InSS.len {α : Type} {E : Elt α} {H : Mem} : ∀ {us : List (Option Addr × Nat × Nat)} {ls : List (List α)}, InSS E H us ls → us.length = ls.length
  | [], [], _ => rfl
  | u :: us, l :: ls, h => by rw [List.length_cons, List.length_cons, InSS.len h.2]
  | [], _ :: _, h => h.elim
  | _ :: _, [], h => h.elim
theorem InSS.at {α : Type} {E : Elt α} {H : Mem} : ∀ {us : List (Option Addr × Nat × Nat)} {ls : List (List α)} (_ : InSS E H us ls) {i : Nat} {u : Option Addr × Nat × Nat}, us[i]? = some u → ∃ l, ls[i]? = some l ∧ InS E H (.slice u.1 u.2.1 u.2.2) l
  | [], [], _, i, u, hu => by simp at hu
  | u :: us, l :: ls, h, 0, v, hv => by
    simp only [List.getElem?_cons_zero, Option.some.injEq] at hv
    subst hv
    exact ⟨l, rfl, h.1⟩
  | u :: us, l :: ls, h, i + 1, v, hv => by
    simp only [List.getElem?_cons_succ] at hv ⊢
    exact InSS.at h.2 hv
  | [], _ :: _, h, _, _, _ => h.elim
  | _ :: _, [], h, _, _, _ => h.elim
end Go.Bt.FZ
