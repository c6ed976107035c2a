/- Contracts of functions of the program, proved by walking through their code. Conditions: those that each theorem names. -/
import Derived.Test.YtgmmhpmchibakaaTonC
import Derived.Test.YtgmmhpmchibakaaToZr
namespace Go.Bt
open Go Go.Proofs
set_option maxRecDepth 20000
set_option maxHeartbeats 4000000
set_option linter.unusedVariables false

theorem len_spec {B : World} {H : Mem} {tr : Nat} {P : Ps} {S : Nat → Prop} {l : List (Int × Int)} (hM : MapM H tr P S l) :
    Fn Try.prog B 97 [.pointer (some ⟨tr, 0, none⟩)] H (fun r H' => r = .int .i64 (l.length : Int) ∧ H' = H) := by
  refine fn_of Go.Proofs.Try.func97 rfl Go.Proofs.Try.ntmps97 ?_
  refine (show Go' _ _ _ _ 7 [(0, _)] [.code _] _ from ?_)
  refine Go'.seq ?_
  -- region 0 (map.go:335)
  refine Go'.region [(0, 0)] rfl ?_
  refine O.asg rfl rfl rfl rfl rfl ?_
  refine Pl.fin [(0, _), (2, _)] ⟨rfl, rfl, trivial⟩ ?_
  refine Go'.seq ?_
  -- region 1 (map.go:336)
  refine Go'.region [(0, 0), (1, 0), (2, 0), (3, 1), (4, 0)] rfl ?_
  refine O.mv rfl rfl rfl rfl rfl ?_
  refine O.nc rfl rfl rfl rfl rfl ?_
  refine O.fa0 (off := 3) rfl rfl rfl rfl ⟨_, _, _, Go.Proofs.Try.underlying105, rfl, rfl, Go.Proofs.Try.sizeOf3⟩ rfl ?_
  refine O.ld rfl rfl rfl (fun w => ⟨Go.Proofs.Try.isAgg3 w, Go.Proofs.Try.sizeOf3 w⟩) rfl hM.cnt ?_
  refine O.asg rfl rfl rfl rfl rfl ?_
  refine Pl.fin [(2, _)] ⟨rfl, trivial⟩ ?_
  refine Go'.ret (vs := [_]) Go.Proofs.Try.func97 Go.Proofs.Try.results97 ⟨rfl, trivial⟩ ?_
  exact ⟨rfl, rfl⟩

end Go.Bt
namespace Go.Bt
open Go Go.Proofs
set_option maxRecDepth 20000
set_option maxHeartbeats 4000000
set_option linter.unusedVariables false

def k1 (x : Int × Int) : Int := x.1
theorem nkeys0 {B : World} {H : Mem} {P : Ps} (hP : PsOk P) {v : Value} {acc : List Int} {Z : Nat → Prop} {h : Nat} {t : Gt EI 0} (hg : Gt.Good H P 0 t) (hA : AccN EN Z H v acc) (hnz : ∀ b o, Gt.af 0 t b o → ¬ Z b) (hlen : acc.length + (Gt.L 0 t).length ≤ 4294967296) :
    Fn Try.prog B 98 [.pointer (some ⟨Gt.p 0 t, 0, none⟩), v] H (fun r H' => ∃ Z', AccN EN Z' H' r (acc ++ (Gt.L 0 t).map k1) ∧ Fr (fun b _ => Z b) H H' ∧ ∀ b, Z' b → Z b ∨ H.size ≤ b) := by
  obtain ⟨gg, X⟩ := t
  have hN : NodeM EI H gg X (.pointer none) := hg.1
  have hxm : X.length ≤ P.mx := hg.2.2.2
  have hx255 := hP.hx
  have hltN : ∀ b o, ncl EI gg b o → b < H.size := fun b o hb => NodeM.lt hN hb
  replace hlen : acc.length + X.length ≤ 4294967296 := hlen
  show Fn _ _ _ _ _ (fun r H' => ∃ Z', AccN EN Z' H' r (acc ++ X.map k1) ∧ Fr (fun b _ => Z b) H H' ∧ ∀ b, Z' b → Z b ∨ H.size ≤ b)
  refine fn_of Go.Proofs.Try.func98 rfl Go.Proofs.Try.ntmps98 ?_
  refine (show Go' _ _ _ _ 79 [(0, _), (1, _)] [.code _] _ from ?_)
  refine Go'.seq ?_
  -- region 0 (map.go:1157)
  refine Go'.region [(0, 0)] rfl ?_
  refine O.asg rfl rfl rfl rfl rfl ?_
  refine Pl.fin [(0, _), (1, _), (4, _)] ⟨rfl, rfl, rfl, trivial⟩ ?_
  refine Go'.seq ?_
  refine Go'.seq ?_
  -- region 1 (map.go:1158)
  refine Go'.region [(0, 0), (1, 2)] rfl ?_
  refine O.mv rfl rfl rfl rfl rfl ?_
  refine O.callQ rfl rfl rfl Go.Proofs.Try.call86 rfl (leaf_spec hN.c3) trivial ?_
  refine Pl.fin [(0, _), (1, _), (4, _), (8, _)] ⟨rfl, rfl, rfl, rfl, trivial⟩ ?_
  refine Go'.condT rfl ?_
  refine Go'.seq ?_
  refine Go'.seq ?_
  -- region 2 (map.go:1159)
  refine Go'.region [(0, 0)] rfl ?_
  refine O.asg rfl rfl rfl rfl rfl ?_
  refine Pl.fin [(0, _), (1, _), (4, _), (5, _)] ⟨rfl, rfl, rfl, rfl, trivial⟩ ?_
  refine Go'.block ?_
  refine Go'.loop ?_
  refine Go'.keep [(0, _), (1, _), (5, _)] ⟨rfl, rfl, rfl, trivial⟩ ?_
  refine Go'.ind (σ := Nat × Value × (Nat → Prop)) (fun s => X.length - s.1) (fun s H' => s.1 ≤ X.length ∧ AccN EN s.2.2 H' s.2.1 (acc ++ (X.take s.1).map k1) ∧ Fr (fun b _ => Z b) H H' ∧ ∀ b, s.2.2 b → Z b ∨ H.size ≤ b)
    (fun s => [(0, .pointer (some ⟨gg.p, 0, none⟩)), (1, s.2.1), (5, .int .i64 (s.1 : Int))]) (0, v, Z) ⟨Nat.zero_le _, by rw [List.take_zero, List.map_nil, List.append_nil]; exact hA, Fr.refl _ _, fun b hb => .inl hb⟩ rfl ?_
  clear hA
  rintro ⟨j, sv, Z1⟩ H2 ⟨hj, hA, hF, hZ1⟩ ih
  simp only at hj hA hZ1
  have hsz := hF.size
  replace hN := NodeM.fr EI hN hF (fun x y hxy hz => hnz x y hxy hz)
  refine Go'.seq ?_
  refine Go'.seq ?_
  by_cases hlt : j < X.length
  · skip
    obtain ⟨y, hy⟩ : ∃ y, X[j]? = some y := ⟨X[j], List.getElem?_eq_getElem hlt⟩
    have hd : acc ++ (X.take (j + 1)).map k1 = acc ++ (X.take j).map k1 ++ [y.1] := by rw [List.take_add_one, hy, List.map_append, List.append_assoc]; rfl
    have hal : (acc ++ (X.take j).map k1).length = acc.length + j := by rw [List.length_append, List.length_map, List.length_take]; omega
    -- region 3 (map.go:1159)
    refine Go'.region [(0, 0), (1, 0), (2, 0), (3, 0), (4, 1), (5, 0), (6, 0)] rfl ?_
    refine O.mv rfl rfl rfl rfl rfl ?_
    refine O.mv rfl rfl rfl rfl rfl ?_
    refine O.nc rfl rfl rfl rfl rfl ?_
    refine O.fa0 (off := 2) rfl rfl rfl rfl ⟨_, _, _, Go.Proofs.Try.underlying111, rfl, rfl, Go.Proofs.Try.sizeOf108⟩ rfl ?_
    refine O.ld rfl rfl rfl (fun w => ⟨Go.Proofs.Try.isAgg108 w, Go.Proofs.Try.sizeOf108 w⟩) rfl hN.c2 ?_
    refine O.len rfl rfl rfl rfl Go.Proofs.Try.underlying108 rfl ?_
    refine O.cmp rfl rfl rfl rfl rfl rfl (lssT (by omega)) ?_
    refine Pl.fin [(0, _), (1, _), (5, _), (15, _)] ⟨rfl, rfl, rfl, rfl, trivial⟩ ?_
    refine Go'.condT rfl ?_
    refine Go'.skip ?_
    refine Go'.seq ?_
    refine Go'.block ?_
    -- region 5 (map.go:1160)
    refine Go'.region [(0, 0), (1, 0), (2, 0), (3, 0), (4, 1), (5, 0), (6, 0), (7, 0), (8, 1), (9, 2), (10, 2), (11, 0)] rfl ?_
    refine O.mv rfl rfl rfl rfl rfl ?_
    refine O.mv rfl rfl rfl rfl rfl ?_
    refine O.nc rfl rfl rfl rfl rfl ?_
    refine O.fa0 (off := 2) rfl rfl rfl rfl ⟨_, _, _, Go.Proofs.Try.underlying111, rfl, rfl, Go.Proofs.Try.sizeOf108⟩ rfl ?_
    refine O.ld rfl rfl rfl (fun w => ⟨Go.Proofs.Try.isAgg108 w, Go.Proofs.Try.sizeOf108 w⟩) rfl hN.c2 ?_
    refine O.mv rfl rfl rfl rfl rfl ?_
    refine O.ix (j := j) rfl rfl rfl rfl Go.Proofs.Try.underlying108 Go.Proofs.Try.sizeOf100 rfl rfl (by omega) (by omega) ?_
    refine O.fa (off := 1) rfl rfl rfl rfl ⟨_, _, _, Go.Proofs.Try.underlying100, rfl, rfl, Go.Proofs.Try.sizeOf3⟩ rfl ?_
    refine O.ld rfl rfl rfl (fun w => ⟨Go.Proofs.Try.isAgg3 w, Go.Proofs.Try.sizeOf3 w⟩) rfl (hN.sl.cell hy (j := 1) rfl) ?_
    refine O.bsl (cs := (EN.enc y.1)) rfl rfl rfl ⟨Go.Proofs.Try.underlying39, Go.Proofs.Try.sizeOf3, Go.Proofs.Try.zeroValue3, ⟨_, Go.Proofs.Try.typeInfo3, rfl⟩, rfl, by decide, by decide⟩ rfl (by decide) (by kernel_rfl) ?_
    intro H3 M3
    have hs3 := M3.size
    have hA3 := hA.fr (M3.fr nowhere) (fun _ _ _ _ => nw)
    have hv3 : InS EN H3 (.slice (some ⟨H2.size, 0, none⟩) 1 1) [y.1] := .inl ⟨_, _, _, rfl, Nat.le_refl _, M3.rd _ [] (by simp [row, EN])⟩
    refine ⟨trivial, ?_⟩
    refine O.appI (E := EN) rfl rfl rfl ⟨Go.Proofs.Try.underlying39, Go.Proofs.Try.sizeOf3, Go.Proofs.Try.zeroValue3, ⟨_, Go.Proofs.Try.typeInfo3, rfl⟩, rfl, by decide, by decide⟩ rfl hA3 rfl hv3 (Nat.le_trans (Nat.mul_le_mul_left _ (Nat.le_of_ble_eq_true (n := _) (m := 4096) rfl)) (by rw [hal, List.length_singleton]; omega)) (by rw [hal, List.length_singleton]; omega) ?_
    intro v4 H4 hA4 hF4 hs4
    have hg4 := hF4.size
    rw [← hd] at hA4
    refine ⟨trivial, ?_⟩
    refine O.asg rfl rfl rfl rfl rfl ?_
    refine Pl.fin [(0, _), (1, _), (5, _), (15, _)] ⟨rfl, rfl, rfl, rfl, trivial⟩ ?_
    refine Go'.inBlock ?_
    -- region 4 (map.go:1159)
    refine Go'.region [(0, 0), (1, 0), (2, 0)] rfl ?_
    refine O.mv rfl rfl rfl rfl rfl ?_
    refine O.add (((j + 1 : Nat) : Int)) rfl rfl rfl rfl rfl rfl (by omega) (by omega) ?_
    refine O.asg rfl rfl rfl rfl rfl ?_
    refine Pl.fin [(0, _), (1, _), (5, _), (15, _)] ⟨rfl, rfl, rfl, rfl, trivial⟩ ?_
    refine Go'.keep [(0, _), (1, _), (5, _)] ⟨rfl, rfl, rfl, trivial⟩ ?_
    refine Go'.inLoop ?_
    exact ih (j + 1, v4, _) H4 ⟨hlt, hA4, (hF.trans' (M3.fr nowhere) (fun _ _ _ h => h) (fun _ _ _ h => h.elim)).trans' hF4 (fun _ _ _ h => h) (fun b o hb hz => (hZ1 b hz).elim id (fun h => by omega)), fun b hb => hb.elim (hZ1 b) (fun h => .inr (by omega))⟩ (by simp only; omega)
  · skip
    obtain rfl : j = X.length := by omega
    rw [List.take_length] at hA
    -- region 3 (map.go:1159)
    refine Go'.region [(0, 0), (1, 0), (2, 0), (3, 0), (4, 1), (5, 0), (6, 0)] rfl ?_
    refine O.mv rfl rfl rfl rfl rfl ?_
    refine O.mv rfl rfl rfl rfl rfl ?_
    refine O.nc rfl rfl rfl rfl rfl ?_
    refine O.fa0 (off := 2) rfl rfl rfl rfl ⟨_, _, _, Go.Proofs.Try.underlying111, rfl, rfl, Go.Proofs.Try.sizeOf108⟩ rfl ?_
    refine O.ld rfl rfl rfl (fun w => ⟨Go.Proofs.Try.isAgg108 w, Go.Proofs.Try.sizeOf108 w⟩) rfl hN.c2 ?_
    refine O.len rfl rfl rfl rfl Go.Proofs.Try.underlying108 rfl ?_
    refine O.cmp rfl rfl rfl rfl rfl rfl (lssF (by omega)) ?_
    refine Pl.fin [(0, _), (1, _), (5, _), (15, _)] ⟨rfl, rfl, rfl, rfl, trivial⟩ ?_
    refine Go'.condF rfl ?_
    refine Go'.exit rfl ?_
    refine Go'.seq ?_
    -- region 6 (map.go:1162)
    refine Go'.region [(0, 0), (1, 0)] rfl ?_
    refine O.mv rfl rfl rfl rfl rfl ?_
    refine O.asg rfl rfl rfl rfl rfl ?_
    refine Pl.fin [(0, _), (1, _), (4, _)] ⟨rfl, rfl, rfl, trivial⟩ ?_
    refine Go'.ret (vs := [_]) Go.Proofs.Try.func98 Go.Proofs.Try.results98 ⟨rfl, trivial⟩ ?_
    exact ⟨Z1, hA, hF, hZ1⟩

theorem nkeys {B : World} {P : Ps} (hP : PsOk P) : ∀ (h : Nat) {H : Mem} {v : Value} {acc : List Int} {Z : Nat → Prop} {t : Gt EI h}, Gt.Good H P h t → AccN EN Z H v acc → (∀ b o, Gt.af h t b o → ¬ Z b) → acc.length + (Gt.L h t).length ≤ 4294967296 →
    Fn Try.prog B 98 [.pointer (some ⟨Gt.p h t, 0, none⟩), v] H (fun r H' => ∃ Z', AccN EN Z' H' r (acc ++ (Gt.L h t).map k1) ∧ Fr (fun b _ => Z b) H H' ∧ ∀ b, Z' b → Z b ∨ H.size ≤ b)
  | 0, _, _, _, _, _, hg, hA, hnz, hlen => nkeys0 (h := 0) hP hg hA hnz hlen
  | h + 1, H, v, acc, Z, (gg, X, K), hg, hA, hnz, hlen => by
    have ih := @nkeys B P hP h
    have hI : Inn H P h gg X ((Gt.ps h K).map some) K := hg.inn
    have hKl : K.length = X.length + 1 := hg.2.2.2.2.2.1
    have hxm : X.length ≤ P.mx := hg.2.2.2.2.1
    have hx255 := hP.hx
    have hKL : (K.map (Gt.L h)).length = X.length + 1 := by rw [List.length_map]; exact hKl
    have hol : ((Gt.ps h K).map some).length = X.length + 1 := by rw [List.length_map, Gt.ps, List.length_map]; exact hKl
    replace hlen : acc.length + (Pl.inter X (K.map (Gt.L h))).length ≤ 4294967296 := hlen
    have hlt : ∀ x y, innc h gg K x y → x < H.size := fun x y hb => hI.lt hb
    have hin : ∀ H', Fr (fun x _ => Z x) H H' → Inn H' P h gg X ((Gt.ps h K).map some) K := fun H' hf => hI.fr hf (fun x y hxy hz => hnz x y hxy hz)
    have hcat : ∀ {Z1 Z2 : Nat → Prop} {H2 H3 : Mem}, Fr (fun x _ => Z x) H H2 → (∀ b, Z1 b → Z b ∨ H.size ≤ b) → Fr (fun x _ => Z1 x) H2 H3 → (∀ b, Z2 b → Z1 b ∨ H2.size ≤ b) → Fr (fun x _ => Z x) H H3 ∧ ∀ b, Z2 b → Z b ∨ H.size ≤ b := by
      intro Z1 Z2 H2 H3 hF hZ1 hF2 hZ2
      have := hF.size
      exact ⟨hF.trans' hF2 (fun _ _ _ h => h) (fun b o hb hz => (hZ1 b hz).elim id (fun h => by omega)), fun b hb => (hZ2 b hb).elim (hZ1 b) (fun h => .inr (by omega))⟩
    have hkz : ∀ {Z1 : Nat → Prop} {k : Gt EI h}, k ∈ K → (∀ b, Z1 b → Z b ∨ H.size ≤ b) → ∀ b o, Gt.af h k b o → ¬ Z1 b := fun hk hZ1 b o hb hz => (hZ1 b hz).elim (hnz b o (.inr (.inr ⟨_, hk, hb⟩))) (fun hz => by have := hlt b o (.inr (.inr ⟨_, hk, hb⟩)); omega)
    show Fn _ _ _ _ _ (fun r H' => ∃ Z', AccN EN Z' H' r (acc ++ (Pl.inter X (K.map (Gt.L h))).map k1) ∧ Fr (fun b _ => Z b) H H' ∧ ∀ b, Z' b → Z b ∨ H.size ≤ b)
    refine fn_of Go.Proofs.Try.func98 rfl Go.Proofs.Try.ntmps98 ?_
    refine (show Go' _ _ _ _ 79 [(0, _), (1, _)] [.code _] _ from ?_)
    refine Go'.seq ?_
    -- region 0 (map.go:1157)
    refine Go'.region [(0, 0)] rfl ?_
    refine O.asg rfl rfl rfl rfl rfl ?_
    refine Pl.fin [(0, _), (1, _), (4, _)] ⟨rfl, rfl, rfl, trivial⟩ ?_
    refine Go'.seq ?_
    refine Go'.seq ?_
    -- region 1 (map.go:1158)
    refine Go'.region [(0, 0), (1, 2)] rfl ?_
    refine O.mv rfl rfl rfl rfl rfl ?_
    refine O.callQ rfl rfl rfl Go.Proofs.Try.call86 rfl (leaf_spec hI.n.c3) trivial ?_
    refine Pl.fin [(0, _), (1, _), (4, _), (8, _)] ⟨rfl, rfl, rfl, rfl, trivial⟩ ?_
    refine Go'.condF rfl ?_
    refine Go'.skip ?_
    refine Go'.seq ?_
    refine Go'.seq ?_
    -- region 7 (map.go:1164)
    refine Go'.region [(0, 0)] rfl ?_
    refine O.asg rfl rfl rfl rfl rfl ?_
    refine Pl.fin [(0, _), (1, _), (4, _), (6, _)] ⟨rfl, rfl, rfl, rfl, trivial⟩ ?_
    refine Go'.block ?_
    refine Go'.loop ?_
    refine Go'.keep [(0, _), (1, _), (6, _)] ⟨rfl, rfl, rfl, trivial⟩ ?_
    refine Go'.ind (σ := Nat × Value × (Nat → Prop)) (fun s => X.length - s.1) (fun s H' => s.1 ≤ X.length ∧ AccN EN s.2.2 H' s.2.1 (acc ++ (Pl.pre (X.take s.1) ((K.map (Gt.L h)).take s.1)).map k1) ∧ Fr (fun b _ => Z b) H H' ∧ ∀ b, s.2.2 b → Z b ∨ H.size ≤ b)
      (fun s => [(0, .pointer (some ⟨gg.p, 0, none⟩)), (1, s.2.1), (6, .int .i64 (s.1 : Int))]) (0, v, Z) ⟨Nat.zero_le _, by rw [List.take_zero]; show AccN EN Z H v (acc ++ List.map k1 []); rw [List.map_nil, List.append_nil]; exact hA, Fr.refl _ _, fun b hb => .inl hb⟩ rfl ?_
    clear hA
    rintro ⟨j, sv, Z1⟩ H2 ⟨hj, hA, hF, hZ1⟩ ih2
    simp only at hj hA hZ1
    have hsz := hF.size
    have hI2 := hin H2 hF
    have hpl := Pl.pre_len X (K.map (Gt.L h)) hKL j hj
    have hal : (acc ++ (Pl.pre (X.take j) ((K.map (Gt.L h)).take j)).map k1).length = acc.length + (Pl.pre (X.take j) ((K.map (Gt.L h)).take j)).length := by rw [List.length_append, List.length_map]
    obtain ⟨k, hkk⟩ : ∃ k, K[j]? = some k := ⟨K[j], List.getElem?_eq_getElem (by omega)⟩
    have hkL : (K.map (Gt.L h))[j]? = some (Gt.L h k) := by rw [List.getElem?_map, hkk]; rfl
    have hkK : k ∈ K := List.mem_of_getElem? hkk
    have hok : ((Gt.ps h K).map some)[j]? = some (some (Gt.p h k)) := by rw [Gt.ps, List.map_map, List.getElem?_map, hkk]; rfl
    refine Go'.seq ?_
    refine Go'.seq ?_
    by_cases hlt2 : j < X.length
    · skip
      obtain ⟨y, hy⟩ : ∃ y, X[j]? = some y := ⟨X[j], List.getElem?_eq_getElem hlt2⟩
      have hps := Pl.pre_succ hy hkL
      have hpl2 := Pl.pre_len X (K.map (Gt.L h)) hKL (j + 1) hlt2
      rw [hps, List.length_append, List.length_append, List.length_singleton] at hpl2
      -- region 8 (map.go:1164)
      refine Go'.region [(0, 0), (1, 0), (2, 0), (3, 0), (4, 1), (5, 0), (6, 0)] rfl ?_
      refine O.mv rfl rfl rfl rfl rfl ?_
      refine O.mv rfl rfl rfl rfl rfl ?_
      refine O.nc rfl rfl rfl rfl rfl ?_
      refine O.fa0 (off := 2) rfl rfl rfl rfl ⟨_, _, _, Go.Proofs.Try.underlying111, rfl, rfl, Go.Proofs.Try.sizeOf108⟩ rfl ?_
      refine O.ld rfl rfl rfl (fun w => ⟨Go.Proofs.Try.isAgg108 w, Go.Proofs.Try.sizeOf108 w⟩) rfl hI2.n.c2 ?_
      refine O.len rfl rfl rfl rfl Go.Proofs.Try.underlying108 rfl ?_
      refine O.cmp rfl rfl rfl rfl rfl rfl (lssT (by omega)) ?_
      refine Pl.fin [(0, _), (1, _), (6, _), (36, _)] ⟨rfl, rfl, rfl, rfl, trivial⟩ ?_
      refine Go'.condT rfl ?_
      refine Go'.skip ?_
      refine Go'.seq ?_
      refine Go'.block ?_
      refine Go'.seq ?_
      -- region 10 (map.go:1165)
      refine Go'.region [(0, 0), (1, 0), (2, 0), (3, 1), (4, 0), (5, 1), (6, 0), (7, 0), (8, 1), (9, 0), (10, 2), (11, 0)] rfl ?_
      refine O.mv rfl rfl rfl rfl rfl ?_
      refine O.nc rfl rfl rfl rfl rfl ?_
      refine O.fa0 (off := 3) rfl rfl rfl rfl ⟨_, _, _, Go.Proofs.Try.underlying111, rfl, rfl, Go.Proofs.Try.sizeOf109⟩ rfl ?_
      refine O.ld rfl rfl rfl (fun w => ⟨Go.Proofs.Try.isAgg109 w, Go.Proofs.Try.sizeOf109 w⟩) rfl hI2.n.c3 ?_
      refine O.nc rfl rfl rfl rfl rfl ?_
      refine O.ld rfl rfl rfl (fun w => ⟨Go.Proofs.Try.isAgg112 w, Go.Proofs.Try.sizeOf112 w⟩) rfl hI2.k.c ?_
      refine O.mv rfl rfl rfl rfl rfl ?_
      refine O.ix (j := j) rfl rfl rfl rfl Go.Proofs.Try.underlying112 Go.Proofs.Try.sizeOf103 rfl rfl (by omega) (by omega) ?_
      refine O.ld rfl rfl rfl (fun w => ⟨Go.Proofs.Try.isAgg103 w, Go.Proofs.Try.sizeOf103 w⟩) rfl (hI2.k.at hok) ?_
      refine O.mv rfl rfl rfl rfl rfl ?_
      refine O.call rfl rfl rfl Go.Proofs.Try.call98 rfl (ih (hI2.c.1 k hkK).1 hA (hkz hkK hZ1) (by rw [hal]; omega)) ?_
      rintro _ H4 ⟨Z4, hA4, hF4, hZ4⟩
      obtain ⟨hF5, hZ5⟩ := hcat hF hZ1 hF4 hZ4
      have hsz5 := hF5.size
      refine ⟨trivial, ?_⟩
      refine O.asg rfl rfl rfl rfl rfl ?_
      refine Pl.fin [(0, _), (1, _), (6, _), (36, _)] ⟨rfl, rfl, rfl, rfl, trivial⟩ ?_
      have hI4 := hin H4 hF5
      have hal4 : (acc ++ (Pl.pre (X.take j) ((K.map (Gt.L h)).take j)).map k1 ++ (Gt.L h k).map k1).length = acc.length + (Pl.pre (X.take j) ((K.map (Gt.L h)).take j)).length + (Gt.L h k).length := by rw [List.length_append, hal, List.length_map]
      -- region 11 (map.go:1166)
      refine Go'.region [(0, 0), (1, 0), (2, 0), (3, 0), (4, 1), (5, 0), (6, 0), (7, 0), (8, 1), (9, 2), (10, 2), (11, 0)] rfl ?_
      refine O.mv rfl rfl rfl rfl rfl ?_
      refine O.mv rfl rfl rfl rfl rfl ?_
      refine O.nc rfl rfl rfl rfl rfl ?_
      refine O.fa0 (off := 2) rfl rfl rfl rfl ⟨_, _, _, Go.Proofs.Try.underlying111, rfl, rfl, Go.Proofs.Try.sizeOf108⟩ rfl ?_
      refine O.ld rfl rfl rfl (fun w => ⟨Go.Proofs.Try.isAgg108 w, Go.Proofs.Try.sizeOf108 w⟩) rfl hI4.n.c2 ?_
      refine O.mv rfl rfl rfl rfl rfl ?_
      refine O.ix (j := j) rfl rfl rfl rfl Go.Proofs.Try.underlying108 Go.Proofs.Try.sizeOf100 rfl rfl (by omega) (by omega) ?_
      refine O.fa (off := 1) rfl rfl rfl rfl ⟨_, _, _, Go.Proofs.Try.underlying100, rfl, rfl, Go.Proofs.Try.sizeOf3⟩ rfl ?_
      refine O.ld rfl rfl rfl (fun w => ⟨Go.Proofs.Try.isAgg3 w, Go.Proofs.Try.sizeOf3 w⟩) rfl (hI4.n.sl.cell hy (j := 1) rfl) ?_
      refine O.bsl (cs := (EN.enc y.1)) rfl rfl rfl ⟨Go.Proofs.Try.underlying39, Go.Proofs.Try.sizeOf3, Go.Proofs.Try.zeroValue3, ⟨_, Go.Proofs.Try.typeInfo3, rfl⟩, rfl, by decide, by decide⟩ rfl (by decide) (by kernel_rfl) ?_
      intro H6 M6
      have hs6 := M6.size
      have hA6 := hA4.fr (M6.fr nowhere) (fun _ _ _ _ => nw)
      have hv6 : InS EN H6 (.slice (some ⟨H4.size, 0, none⟩) 1 1) [y.1] := .inl ⟨_, _, _, rfl, Nat.le_refl _, M6.rd _ [] (by simp [row, EN])⟩
      refine ⟨trivial, ?_⟩
      refine O.appI (E := EN) rfl rfl rfl ⟨Go.Proofs.Try.underlying39, Go.Proofs.Try.sizeOf3, Go.Proofs.Try.zeroValue3, ⟨_, Go.Proofs.Try.typeInfo3, rfl⟩, rfl, by decide, by decide⟩ rfl hA6 rfl hv6 (Nat.le_trans (Nat.mul_le_mul_left _ (Nat.le_of_ble_eq_true (n := _) (m := 4096) rfl)) (by rw [hal4, List.length_singleton]; omega)) (by rw [hal4, List.length_singleton]; omega) ?_
      intro v7 H7 hA7 hF7 hs7
      have hg7 := hF7.size
      refine ⟨trivial, ?_⟩
      refine O.asg rfl rfl rfl rfl rfl ?_
      refine Pl.fin [(0, _), (1, _), (6, _), (36, _)] ⟨rfl, rfl, rfl, rfl, trivial⟩ ?_
      refine Go'.inBlock ?_
      -- region 9 (map.go:1164)
      refine Go'.region [(0, 0), (1, 0), (2, 0)] rfl ?_
      refine O.mv rfl rfl rfl rfl rfl ?_
      refine O.add (((j + 1 : Nat) : Int)) rfl rfl rfl rfl rfl rfl (by omega) (by omega) ?_
      refine O.asg rfl rfl rfl rfl rfl ?_
      refine Pl.fin [(0, _), (1, _), (6, _), (36, _)] ⟨rfl, rfl, rfl, rfl, trivial⟩ ?_
      refine Go'.keep [(0, _), (1, _), (6, _)] ⟨rfl, rfl, rfl, trivial⟩ ?_
      refine Go'.inLoop ?_
      refine ih2 (j + 1, v7, fun b => Z4 b ∨ (b = H6.size ∧ b < H7.size)) H7 ⟨hlt2, ?_, (hF5.trans' (M6.fr nowhere) (fun _ _ _ h => h) (fun _ _ _ h => h.elim)).trans' hF7 (fun _ _ _ h => h) (fun b o hb hz => (hZ5 b hz).elim id (fun h => by omega)), fun b hb => hb.elim (hZ5 b) (fun h => .inr (by omega))⟩ (by simp only; omega)
      simp only
      rw [hps, List.map_append, List.map_append, ← List.append_assoc, ← List.append_assoc]
      exact hA7
    · skip
      obtain rfl : j = X.length := by omega
      have hil := Pl.inter_eq_pre (Nat.le_refl _) hkL
      rw [List.take_length, show (K.map (Gt.L h)).take (X.length + 1) = K.map (Gt.L h) from List.take_of_length_le (by omega)] at hil
      rw [List.take_length] at hA hal hpl
      have hll := congrArg List.length hil
      rw [List.length_append] at hll
      -- region 8 (map.go:1164)
      refine Go'.region [(0, 0), (1, 0), (2, 0), (3, 0), (4, 1), (5, 0), (6, 0)] rfl ?_
      refine O.mv rfl rfl rfl rfl rfl ?_
      refine O.mv rfl rfl rfl rfl rfl ?_
      refine O.nc rfl rfl rfl rfl rfl ?_
      refine O.fa0 (off := 2) rfl rfl rfl rfl ⟨_, _, _, Go.Proofs.Try.underlying111, rfl, rfl, Go.Proofs.Try.sizeOf108⟩ rfl ?_
      refine O.ld rfl rfl rfl (fun w => ⟨Go.Proofs.Try.isAgg108 w, Go.Proofs.Try.sizeOf108 w⟩) rfl hI2.n.c2 ?_
      refine O.len rfl rfl rfl rfl Go.Proofs.Try.underlying108 rfl ?_
      refine O.cmp rfl rfl rfl rfl rfl rfl (lssF (by omega)) ?_
      refine Pl.fin [(0, _), (1, _), (6, _), (36, _)] ⟨rfl, rfl, rfl, rfl, trivial⟩ ?_
      refine Go'.condF rfl ?_
      refine Go'.exit rfl ?_
      refine Go'.seq ?_
      -- region 12 (map.go:1168)
      refine Go'.draw (fun _ => True) [(0, 0), (1, 0), (2, 0), (3, 1), (4, 0), (5, 1), (6, 0), (7, 0), (8, 0), (9, 1), (10, 0), (11, 1), (12, 0), (13, 0), (14, 0), (15, 1), (16, 0), (17, 2), (18, 0)] (by kernel_rfl) (by kernel_rfl) (trivial) ?_
      refine O.mv rfl rfl rfl rfl rfl ?_
      refine O.nc rfl rfl rfl rfl rfl ?_
      refine O.fa0 (off := 3) rfl rfl rfl rfl ⟨_, _, _, Go.Proofs.Try.underlying111, rfl, rfl, Go.Proofs.Try.sizeOf109⟩ rfl ?_
      refine O.ld rfl rfl rfl (fun w => ⟨Go.Proofs.Try.isAgg109 w, Go.Proofs.Try.sizeOf109 w⟩) rfl hI2.n.c3 ?_
      refine O.nc rfl rfl rfl rfl rfl ?_
      refine O.ld rfl rfl rfl (fun w => ⟨Go.Proofs.Try.isAgg112 w, Go.Proofs.Try.sizeOf112 w⟩) rfl hI2.k.c ?_
      refine O.mv rfl rfl rfl rfl rfl ?_
      refine O.nc rfl rfl rfl rfl rfl ?_
      refine O.fa0 (off := 3) rfl rfl rfl rfl ⟨_, _, _, Go.Proofs.Try.underlying111, rfl, rfl, Go.Proofs.Try.sizeOf109⟩ rfl ?_
      refine O.ld rfl rfl rfl (fun w => ⟨Go.Proofs.Try.isAgg109 w, Go.Proofs.Try.sizeOf109 w⟩) rfl hI2.n.c3 ?_
      refine O.nc rfl rfl rfl rfl rfl ?_
      refine O.ld rfl rfl rfl (fun w => ⟨Go.Proofs.Try.isAgg112 w, Go.Proofs.Try.sizeOf112 w⟩) rfl hI2.k.c ?_
      refine O.len rfl rfl rfl rfl Go.Proofs.Try.underlying112 rfl ?_
      refine O.sub (((X.length : Nat) : Int)) rfl rfl rfl rfl rfl rfl (by omega) (by omega) ?_
      refine O.ix (j := X.length) rfl rfl rfl rfl Go.Proofs.Try.underlying112 Go.Proofs.Try.sizeOf103 rfl rfl (by omega) (by omega) ?_
      refine O.ld rfl rfl rfl (fun w => ⟨Go.Proofs.Try.isAgg103 w, Go.Proofs.Try.sizeOf103 w⟩) rfl (hI2.k.at hok) ?_
      refine O.mv rfl rfl rfl rfl rfl ?_
      refine O.call rfl rfl rfl Go.Proofs.Try.call98 rfl (ih (hI2.c.1 k hkK).1 hA (hkz hkK hZ1) (by rw [hal]; omega)) ?_
      rintro _ H4 ⟨Z4, hA4, hF4, hZ4⟩
      obtain ⟨hF5, hZ5⟩ := hcat hF hZ1 hF4 hZ4
      refine ⟨trivial, ?_⟩
      refine O.asg rfl rfl rfl rfl rfl ?_
      refine Pl.fin [(4, _)] ⟨rfl, trivial⟩ ?_
      refine Go'.ret (vs := [_]) Go.Proofs.Try.func98 Go.Proofs.Try.results98 ⟨rfl, trivial⟩ ?_
      refine ⟨Z4, ?_, hF5, hZ5⟩
      rw [hil, List.map_append, ← List.append_assoc]
      exact hA4

theorem keys_spec {B : World} {H : Mem} {tr : Nat} {P : Ps} (hP : PsOk P) {S : Nat → Prop} {l : List (Int × Int)} (hU : MapM H tr P S l) (hll : l.length ≤ 4294967296) :
    Fn Try.prog B 60 [.pointer (some ⟨tr, 0, none⟩)] H (fun r H' => OutS EN H' r (l.map k1) ∧ Fr nowhere H H') := by
  have lt0 := hU.lt
  refine fn_of Go.Proofs.Try.func60 rfl Go.Proofs.Try.ntmps60 ?_
  refine (show Go' _ _ _ _ 19 [(0, _)] [.code _] _ from ?_)
  refine Go'.seq ?_
  -- region 0 (map.go:1149)
  refine Go'.region [(0, 0)] rfl ?_
  refine O.asg rfl rfl rfl rfl rfl ?_
  refine Pl.fin [(0, _), (2, _)] ⟨rfl, rfl, trivial⟩ ?_
  refine Go'.seq ?_
  -- region 1 (map.go:1150)
  refine Go'.region [(0, 0), (1, 2), (2, 2), (3, 0)] rfl ?_
  refine O.mv rfl rfl rfl rfl rfl ?_
  refine O.callQ rfl rfl rfl Go.Proofs.Try.call97 rfl (len_spec hU) trivial ?_
  refine O.mks (j := 0) (c := l.length) rfl rfl rfl ⟨Go.Proofs.Try.underlying39, Go.Proofs.Try.sizeOf3, Go.Proofs.Try.zeroValue3, ⟨_, Go.Proofs.Try.typeInfo3, rfl⟩, rfl, by decide, by decide⟩ rfl rfl rfl rfl (by omega) (Nat.le_trans (Nat.mul_le_mul_right _ (Nat.le_of_ble_eq_true (n := _) (m := 4096) rfl)) (by omega)) (by omega) ?_
  intro H1 M1
  have hs1 := M1.size
  have hA1 : AccN EN (fun b => H.size ≤ b) H1 (.slice (some ⟨H.size, 0, none⟩) 0 l.length) [] := ⟨H.size, 0, l.length, rfl, Nat.le_refl _, by omega, ⟨rfl, Nat.zero_le _, Rd.nil _ _ _, M1.wr _ (by rw [zeroRow_size]; exact Nat.le_refl _)⟩⟩
  replace hU := hU.fr (M1.fr nowhere) (fun _ _ _ => nw)
  refine ⟨trivial, ?_⟩
  refine O.asg rfl rfl rfl rfl rfl ?_
  refine Pl.fin [(0, _), (2, _), (3, _)] ⟨rfl, rfl, rfl, trivial⟩ ?_
  refine Go'.seq ?_
  refine Go'.seq ?_
  rcases hU.rt with ⟨rfl, hptr⟩ | ⟨h, t, hg, hx1, e, hc, hnt, hown⟩
  · skip
    -- region 2 (map.go:1151)
    refine Go'.region [(0, 0), (1, 0), (2, 0), (3, 1), (4, 0)] rfl ?_
    refine O.mv rfl rfl rfl rfl rfl ?_
    refine O.nc rfl rfl rfl rfl rfl ?_
    refine O.fa0 (off := 2) rfl rfl rfl rfl ⟨_, _, _, Go.Proofs.Try.underlying105, rfl, rfl, Go.Proofs.Try.sizeOf103⟩ rfl ?_
    refine O.ld rfl rfl rfl (fun w => ⟨Go.Proofs.Try.isAgg103 w, Go.Proofs.Try.sizeOf103 w⟩) rfl hptr ?_
    refine O.notNil rfl rfl rfl rfl Go.Proofs.Try.underlying103 rfl rfl ?_
    refine Pl.fin [(0, _), (2, _), (3, _), (11, _)] ⟨rfl, rfl, rfl, rfl, trivial⟩ ?_
    refine Go'.condF rfl ?_
    refine Go'.skip ?_
    refine Go'.seq ?_
    -- region 4 (map.go:1154)
    refine Go'.region [(0, 0), (1, 0)] rfl ?_
    refine O.mv rfl rfl rfl rfl rfl ?_
    refine O.asg rfl rfl rfl rfl rfl ?_
    refine Pl.fin [(2, _)] ⟨rfl, trivial⟩ ?_
    refine Go'.ret (vs := [_]) Go.Proofs.Try.func60 Go.Proofs.Try.results60 ⟨rfl, trivial⟩ ?_
    exact ⟨hA1.acc.out, M1.fr nowhere⟩
  · skip
    have hptr : cl H1 tr 2 = some (.pointer (some ⟨Gt.p h t, 0, none⟩)) := hc
    -- region 2 (map.go:1151)
    refine Go'.region [(0, 0), (1, 0), (2, 0), (3, 1), (4, 0)] rfl ?_
    refine O.mv rfl rfl rfl rfl rfl ?_
    refine O.nc rfl rfl rfl rfl rfl ?_
    refine O.fa0 (off := 2) rfl rfl rfl rfl ⟨_, _, _, Go.Proofs.Try.underlying105, rfl, rfl, Go.Proofs.Try.sizeOf103⟩ rfl ?_
    refine O.ld rfl rfl rfl (fun w => ⟨Go.Proofs.Try.isAgg103 w, Go.Proofs.Try.sizeOf103 w⟩) rfl hptr ?_
    refine O.notNil rfl rfl rfl rfl Go.Proofs.Try.underlying103 rfl rfl ?_
    refine Pl.fin [(0, _), (2, _), (3, _), (11, _)] ⟨rfl, rfl, rfl, rfl, trivial⟩ ?_
    refine Go'.condT rfl ?_
    -- region 3 (map.go:1152)
    refine Go'.region [(0, 0), (1, 0), (2, 0), (3, 1), (4, 0), (5, 2), (6, 0)] rfl ?_
    refine O.mv rfl rfl rfl rfl rfl ?_
    refine O.nc rfl rfl rfl rfl rfl ?_
    refine O.fa0 (off := 2) rfl rfl rfl rfl ⟨_, _, _, Go.Proofs.Try.underlying105, rfl, rfl, Go.Proofs.Try.sizeOf103⟩ rfl ?_
    refine O.ld rfl rfl rfl (fun w => ⟨Go.Proofs.Try.isAgg103 w, Go.Proofs.Try.sizeOf103 w⟩) rfl hptr ?_
    refine O.mv rfl rfl rfl rfl rfl ?_
    refine O.call rfl rfl rfl Go.Proofs.Try.call98 rfl (nkeys hP h hg hA1 (fun b o hb hz => by have := lt0 b (hown b o hb); have hz' : H.size ≤ b := hz; omega) (by rw [e]; simpa using hll)) ?_
    rintro _ H2 ⟨Z2, hA2, hF2, hZ2⟩
    refine ⟨trivial, ?_⟩
    refine O.asg rfl rfl rfl rfl rfl ?_
    refine Pl.fin [(2, _), (3, _)] ⟨rfl, rfl, trivial⟩ ?_
    refine Go'.seq ?_
    -- region 4 (map.go:1154)
    refine Go'.region [(0, 0), (1, 0)] rfl ?_
    refine O.mv rfl rfl rfl rfl rfl ?_
    refine O.asg rfl rfl rfl rfl rfl ?_
    refine Pl.fin [(2, _)] ⟨rfl, trivial⟩ ?_
    refine Go'.ret (vs := [_]) Go.Proofs.Try.func60 Go.Proofs.Try.results60 ⟨rfl, trivial⟩ ?_
    rw [List.nil_append, e] at hA2
    exact ⟨hA2.acc.out, (M1.fr nowhere).trans' hF2 (fun _ _ _ h => h) (fun b o hb hz => by have hz' : H.size ≤ b := hz; omega)⟩

theorem mkeys_spec {B : World} {H : Mem} {d : Nat} {u : Value} {l : List (Int × Int)} (hd : 2 ≤ d ∧ d ≤ 128) (hi : InS EJ H u l) (hll : l.length ≤ 4294967296) :
    Fn Try.prog B 31 [.int .i64 (d : Int), u] H (fun r H' => OutS EN H' r ((Pl.puts OI l).map k1) ∧ Fr nowhere H H') := by
  have hP : PsOk ⟨0, 2 * d - 1, d - 1⟩ := ⟨by show 2 * d - 1 = 2 * (d - 1) + 1; omega, by show 1 ≤ d - 1; omega, by show 2 * d - 1 ≤ 255; omega⟩
  have hpl := Pl.puts_length OI l
  refine fn_of Go.Proofs.Try.func31 rfl Go.Proofs.Try.ntmps31 ?_
  refine (show Go' _ _ _ _ 9 [(0, _), (1, _)] [.code _] _ from ?_)
  refine Go'.seq ?_
  -- region 0 (map.go:163)
  refine Go'.region [(0, 0)] rfl ?_
  refine O.asg rfl rfl rfl rfl rfl ?_
  refine Pl.fin [(0, _), (1, _), (4, _)] ⟨rfl, rfl, rfl, trivial⟩ ?_
  refine Go'.seq ?_
  -- region 1 (map.go:164)
  refine Go'.region [(0, 0), (1, 0), (2, 2), (3, 2), (4, 0)] rfl ?_
  refine O.mv rfl rfl rfl rfl rfl ?_
  refine O.mv rfl rfl rfl rfl rfl ?_
  refine O.call rfl rfl rfl Go.Proofs.Try.call52 rfl (growMap_spec hd hi hll) ?_
  rintro _ H2 ⟨tr, S, rfl, hU, hF2, _⟩
  unfold ptr
  refine ⟨trivial, ?_⟩
  refine O.call rfl rfl rfl Go.Proofs.Try.call60 rfl (keys_spec hP hU (by omega)) ?_
  rintro v3 H3 ⟨h3, hF3⟩
  refine ⟨trivial, ?_⟩
  refine O.asg rfl rfl rfl rfl rfl ?_
  refine Pl.fin [(4, _)] ⟨rfl, trivial⟩ ?_
  refine Go'.ret (vs := [_]) Go.Proofs.Try.func31 Go.Proofs.Try.results31 ⟨rfl, trivial⟩ ?_
  exact ⟨h3, hF2.trans hF3⟩

theorem aliveM_spec {B : World} {H : Mem} :
    Fn Try.prog B 23 [] H (fun r H' => r = .bool true ∧ Fr nowhere H H') := by
  have h3 : ((Pl.puts OI (exl.take 3)).map k1).length = 3 := by decide
  refine fn_of Go.Proofs.Try.func23 rfl Go.Proofs.Try.ntmps23 ?_
  refine (show Go' _ _ _ _ 6 [] [.code _] _ from ?_)
  refine Go'.seq ?_
  -- region 0 (help.go:115)
  refine Go'.region [(0, 0)] rfl ?_
  refine O.asg rfl rfl rfl rfl rfl ?_
  refine Pl.fin [(0, _)] ⟨rfl, trivial⟩ ?_
  refine Go'.seq ?_
  -- region 1 (help.go:115)
  refine Go'.region [(0, 2), (1, 0), (2, 2), (3, 0), (4, 0), (5, 0)] rfl ?_
  refine O.call rfl rfl rfl Go.Proofs.Try.call15 rfl exItems_spec ?_
  rintro ev H1 ⟨hev, hF1⟩
  rcases hev with ⟨b, o, c, rfl, hc, hr⟩ | ⟨e9, _⟩
  rotate_left
  · exact absurd e9 (by decide)
  have e7 : exl.length = 7 := rfl
  rw [e7] at hc ⊢
  refine ⟨trivial, ?_⟩
  refine O.slc (jl := 0) (jh := 3) (jm := c) rfl rfl rfl rfl Go.Proofs.Try.underlying22 Go.Proofs.Try.sizeOf35 rfl rfl ⟨_, by rfl⟩ rfl (by omega) (by omega) (by simp) (by simp) ?_
  intro oc hoc
  have hoc2 : o = oc := by rw [hoc (by omega)]; simp
  subst hoc2
  rw [Nat.sub_zero, Nat.sub_zero]
  have hi : InS EJ H1 (.slice (some ⟨b, o, none⟩) 3 c) (exl.take 3) := .inl ⟨b, o, c, rfl, by show 3 ≤ c; omega, (Rd.append (u := row EJ (exl.take 3)) (v := row EJ (exl.drop 3))).1 hr |>.1⟩
  refine O.call rfl rfl rfl Go.Proofs.Try.call31 rfl (mkeys_spec (d := 2) (by omega) hi (by decide)) ?_
  rintro rv H2 ⟨h2, hF2⟩
  obtain ⟨a2, c2, rfl⟩ := h2.inS.len
  rw [h3]
  refine ⟨trivial, ?_⟩
  refine O.len rfl rfl rfl rfl Go.Proofs.Try.underlying39 rfl ?_
  refine O.cmp rfl rfl rfl rfl rfl rfl (eqlT (by omega)) ?_
  refine O.asg rfl rfl rfl rfl rfl ?_
  refine Pl.fin [(0, _)] ⟨rfl, trivial⟩ ?_
  refine Go'.ret (vs := [_]) Go.Proofs.Try.func23 Go.Proofs.Try.results23 ⟨rfl, trivial⟩ ?_
  exact ⟨rfl, hF1.trans hF2⟩

end Go.Bt
namespace Go.Bt
open Go Go.Proofs
set_option maxRecDepth 20000
set_option maxHeartbeats 4000000
set_option linter.unusedVariables false

namespace Pl
theorem inter_drop1 {α : Type} {X : List α} {K : List (List α)} {x : α} {k : List α} {j : Nat} (hx : X[j]? = some x) (hk : K[j]? = some k) : inter (X.drop j) (K.drop j) = k ++ x :: inter (X.drop (j + 1)) (K.drop (j + 1)) := by
  obtain ⟨h1, h2⟩ := List.getElem?_eq_some_iff.1 hx
  obtain ⟨h3, h4⟩ := List.getElem?_eq_some_iff.1 hk
  rw [← List.getElem_cons_drop (h := h1), ← List.getElem_cons_drop (h := h3), h2, h4]
  rfl
theorem inter_dropn {α : Type} {X : List α} {K : List (List α)} (hl : K.length = X.length + 1) : ∀ j, j ≤ X.length → ∃ A, inter X K = A ++ inter (X.drop j) (K.drop j)
  | 0, _ => ⟨[], by simp⟩
  | j + 1, h => by
    obtain ⟨A, hA⟩ := inter_dropn hl j (by omega)
    exact ⟨A ++ K[j]'(by omega) ++ [X[j]'(by omega)], by rw [hA, inter_drop1 (List.getElem?_eq_getElem (by omega)) (List.getElem?_eq_getElem (by omega))]; simp⟩
end Pl
def encKV (x : Int × Int) : List Value := [.int .i64 x.1, .int .i64 x.2]
theorem takes_stop {go : List (Int × Int) → Bool} {acc l r : List (Int × Int)} (h : (takes go acc l).2 = false) : takes go acc (l ++ r) = takes go acc l := by rw [takes_append, h]; rfl
theorem takes_on {go : List (Int × Int) → Bool} {acc l r : List (Int × Int)} (h : (takes go acc l).2 = true) : takes go acc (l ++ r) = takes go (takes go acc l).1 r := by rw [takes_append, h]; rfl
/-- What a reader with a function is called with. -/
structure VPre {P' : Program} {B : World} {g : FuncId} {us cs : List Value} {go : List (Int × Int) → Bool} {M : Nat} (cb : Cb P' B encKV g us cs go M) (H : Mem) (tr : Nat) (P : Ps) (h : Nat) (t : Gt EI h) (bp op : Nat) (acc : List (Int × Int)) (Z : Nat → Prop) : Prop where
  tc : TrC H tr P.iso P.mx P.mn
  g : Gt.Good H P h t
  cel : cl H bp op = some (ptr (Gt.p h t))
  nz : ∀ b o, Gt.af h t b o → ¬ Z b
  ntr : ¬ Z tr
  st : cb.T acc Z H
  len : acc.length + (Gt.L h t).length ≤ M

theorem nrev0 {B : World} {g : FuncId} {us cs : List Value} {go : List (Int × Int) → Bool} {M : Nat} (cb : Cb Try.prog B encKV g us cs go M) (hcall : ∀ (args : Array Value) (w : World), (callFunc g args).run Try.prog w = .ok (.enter g args) w) {tr : Nat} {P : Ps} (hP : PsOk P) (mt : Bool) {H : Mem} {bp op : Nat} {acc : List (Int × Int)} {Z : Nat → Prop} {t : Gt EI 0} (hp : VPre cb H tr P 0 t bp op acc Z) :
    Fn Try.prog B 119 [.pointer (some ⟨tr, 0, none⟩), .pointer (some ⟨bp, op, none⟩), .func (.func g) us.toArray cs.toArray, .bool mt] H (fun r H' => r = .bool (takes go acc (Gt.L 0 t).reverse).2 ∧ CbPost cb acc Z H (Gt.L 0 t).reverse H') := by
  obtain ⟨gg, X⟩ := t
  obtain ⟨tc, hg, hc, hnz, hntr, hst, hlen⟩ := hp
  have hN : NodeM EI H gg X (.pointer none) := hg.1
  have hiso : gg.iso = P.iso := hg.2.1
  have hxm : X.length ≤ P.mx := hg.2.2.2
  have hx255 := hP.hx
  replace hlen : acc.length + X.length ≤ M := hlen
  have hc0 := hN.c0
  rw [hiso] at hc0
  have hltN : ∀ b o, ncl EI gg b o → b < H.size := fun b o hb => NodeM.lt hN hb
  show Fn _ _ _ _ _ (fun r H' => r = .bool (takes go acc X.reverse).2 ∧ CbPost cb acc Z H X.reverse H')
  refine fn_of Go.Proofs.Try.func119 rfl Go.Proofs.Try.ntmps119 ?_
  refine (show Go' _ _ _ _ 109 [(0, _), (1, _), (2, _), (3, _)] [.code _] _ from ?_)
  refine Go'.seq ?_
  -- region 0 (map.go:554)
  refine Go'.region [(0, 0)] rfl ?_
  refine O.asg rfl rfl rfl rfl rfl ?_
  refine Pl.fin [(0, _), (1, _), (2, _), (3, _), (8, _)] ⟨rfl, rfl, rfl, rfl, rfl, trivial⟩ ?_
  refine Go'.seq ?_
  -- region 1 (map.go:557)
  refine Go'.region [(0, 0), (1, 0), (2, 0), (3, 2), (4, 0)] rfl ?_
  refine O.mv rfl rfl rfl rfl rfl ?_
  refine O.mv rfl rfl rfl rfl rfl ?_
  refine O.mv rfl rfl rfl rfl rfl ?_
  refine O.callQ rfl rfl rfl Go.Proofs.Try.call85 rfl (isoLoad_spec mt hc hc0 tc.iso) trivial ?_
  refine O.asg rfl rfl rfl rfl rfl ?_
  refine Pl.fin [(0, _), (2, _), (3, _), (8, _), (9, _)] ⟨rfl, rfl, rfl, rfl, rfl, trivial⟩ ?_
  refine Go'.seq ?_
  refine Go'.seq ?_
  unfold ptr
  -- region 2 (map.go:558)
  refine Go'.region [(0, 0), (1, 2)] rfl ?_
  refine O.mv rfl rfl rfl rfl rfl ?_
  refine O.callQ rfl rfl rfl Go.Proofs.Try.call86 rfl (leaf_spec hN.c3) trivial ?_
  refine Pl.fin [(0, _), (2, _), (3, _), (8, _), (9, _), (17, _)] ⟨rfl, rfl, rfl, rfl, rfl, rfl, trivial⟩ ?_
  refine Go'.condT rfl ?_
  refine Go'.seq ?_
  refine Go'.seq ?_
  -- region 3 (map.go:559)
  refine Go'.region [(0, 0), (1, 0), (2, 0), (3, 1), (4, 0), (5, 0), (6, 0)] rfl ?_
  refine O.mv rfl rfl rfl rfl rfl ?_
  refine O.nc rfl rfl rfl rfl rfl ?_
  refine O.fa0 (off := 2) rfl rfl rfl rfl ⟨_, _, _, Go.Proofs.Try.underlying111, rfl, rfl, Go.Proofs.Try.sizeOf108⟩ rfl ?_
  refine O.ld rfl rfl rfl (fun w => ⟨Go.Proofs.Try.isAgg108 w, Go.Proofs.Try.sizeOf108 w⟩) rfl hN.c2 ?_
  refine O.len rfl rfl rfl rfl Go.Proofs.Try.underlying108 rfl ?_
  refine O.sub (((X.length : Nat) : Int) - 1) rfl rfl rfl rfl rfl rfl (by omega) (by omega) ?_
  refine O.asg rfl rfl rfl rfl rfl ?_
  refine Pl.fin [(0, _), (2, _), (3, _), (8, _), (9, _), (10, _)] ⟨rfl, rfl, rfl, rfl, rfl, rfl, trivial⟩ ?_
  refine Go'.block ?_
  refine Go'.loop ?_
  refine Go'.keep [(2, _), (9, _), (10, _)] ⟨rfl, rfl, rfl, trivial⟩ ?_
  refine Go'.ind (σ := Nat × (Nat → Prop)) (fun s => s.1) (fun s H' => s.1 ≤ X.length ∧ (takes go acc (X.drop s.1).reverse).2 = true ∧ cb.T (takes go acc (X.drop s.1).reverse).1 s.2 H' ∧ Fr (fun b _ => Z b) H H' ∧ ∀ b, s.2 b → Z b ∨ H.size ≤ b)
    (fun s => [(2, .func (.func g) us.toArray cs.toArray), (9, .pointer (some ⟨gg.p, 0, none⟩)), (10, .int .i64 ((s.1 : Int) - 1))]) (X.length, Z) ⟨Nat.le_refl _, by simp [takes], by simpa [takes] using hst, Fr.refl _ _, fun b hb => .inl hb⟩ rfl ?_
  rintro ⟨j, Z1⟩ H2 ⟨hj, htk, hT, hF, hZ1⟩ ih
  simp only at hj htk hT hZ1
  replace hN := NodeM.fr EI hN hF (fun x y hxy hz => hnz x y hxy hz)
  refine Go'.seq ?_
  refine Go'.seq ?_
  rcases j with _ | j
  · skip
    -- region 4 (map.go:559)
    refine Go'.region [(0, 0), (1, 0)] rfl ?_
    refine O.mv rfl rfl rfl rfl rfl ?_
    refine O.cmp rfl rfl rfl rfl rfl rfl (geqF (by show ((0 : Nat) : Int) - 1 < 0; omega)) ?_
    refine Pl.fin [(2, _), (9, _), (10, _), (25, _)] ⟨rfl, rfl, rfl, rfl, trivial⟩ ?_
    refine Go'.condF rfl ?_
    refine Go'.exit rfl ?_
    refine Go'.seq ?_
    -- region 8 (map.go:564)
    refine Go'.region [(0, 0)] rfl ?_
    refine O.asg rfl rfl rfl rfl rfl ?_
    refine Pl.fin [(2, _), (8, _), (9, _)] ⟨rfl, rfl, rfl, trivial⟩ ?_
    refine Go'.ret (vs := [_]) Go.Proofs.Try.func119 Go.Proofs.Try.results119 ⟨rfl, trivial⟩ ?_
    rw [List.drop_zero] at htk hT
    exact ⟨by rw [htk]; rfl, Z1, hT, hF, hZ1⟩
  · skip
    obtain ⟨y, hy⟩ : ∃ y, X[j]? = some y := ⟨X[j], List.getElem?_eq_getElem (by omega)⟩
    have hd : (X.drop j).reverse = (X.drop (j + 1)).reverse ++ [y] := by
      obtain ⟨h1, h2⟩ := List.getElem?_eq_some_iff.1 hy
      rw [← List.getElem_cons_drop (h := h1), h2, List.reverse_cons]
    have hall : X.reverse = (X.drop j).reverse ++ (X.take j).reverse := by rw [← List.reverse_append, List.take_append_drop]
    have htl := takes_length go (X.drop (j + 1)).reverse acc
    rw [List.length_reverse, List.length_drop] at htl
    have e1 : takes go acc (X.drop j).reverse = takes go (takes go acc (X.drop (j + 1)).reverse).1 [y] := by rw [hd, takes_on htk]
    generalize hA : (takes go acc (X.drop (j + 1)).reverse).1 = A at *
    have ej : (((j + 1 : Nat) : Int) - 1) = (j : Int) := by omega
    rw [ej]
    -- region 4 (map.go:559)
    refine Go'.region [(0, 0), (1, 0)] rfl ?_
    refine O.mv rfl rfl rfl rfl rfl ?_
    refine O.cmp rfl rfl rfl rfl rfl rfl (geqT (by omega)) ?_
    refine Pl.fin [(2, _), (9, _), (10, _), (25, _)] ⟨rfl, rfl, rfl, rfl, trivial⟩ ?_
    refine Go'.condT rfl ?_
    refine Go'.skip ?_
    refine Go'.seq ?_
    refine Go'.block ?_
    refine Go'.seq ?_
    cases hgo : go (A ++ [y])
    · skip
      -- region 6 (map.go:560)
      refine Go'.draw (fun _ => True) [(0, 0), (1, 0), (2, 0), (3, 0), (4, 1), (5, 0), (6, 0), (7, 0), (8, 1), (9, 0), (10, 0), (11, 0), (12, 1), (13, 0), (14, 0), (15, 0), (16, 1), (17, 2), (18, 0)] (by kernel_rfl) (by kernel_rfl) (trivial) ?_
      refine O.mv rfl rfl rfl rfl rfl ?_
      refine O.mv rfl rfl rfl rfl rfl ?_
      refine O.nc rfl rfl rfl rfl rfl ?_
      refine O.fa0 (off := 2) rfl rfl rfl rfl ⟨_, _, _, Go.Proofs.Try.underlying111, rfl, rfl, Go.Proofs.Try.sizeOf108⟩ rfl ?_
      refine O.ld rfl rfl rfl (fun w => ⟨Go.Proofs.Try.isAgg108 w, Go.Proofs.Try.sizeOf108 w⟩) rfl hN.c2 ?_
      refine O.mv rfl rfl rfl rfl rfl ?_
      refine O.ix (j := j) rfl rfl rfl rfl Go.Proofs.Try.underlying108 Go.Proofs.Try.sizeOf100 rfl rfl (by omega) (by omega) ?_
      refine O.fa (off := 1) rfl rfl rfl rfl ⟨_, _, _, Go.Proofs.Try.underlying100, rfl, rfl, Go.Proofs.Try.sizeOf3⟩ rfl ?_
      refine O.ld rfl rfl rfl (fun w => ⟨Go.Proofs.Try.isAgg3 w, Go.Proofs.Try.sizeOf3 w⟩) rfl (hN.sl.cell hy (j := 1) rfl) ?_
      refine O.mv rfl rfl rfl rfl rfl ?_
      refine O.nc rfl rfl rfl rfl rfl ?_
      refine O.fa0 (off := 2) rfl rfl rfl rfl ⟨_, _, _, Go.Proofs.Try.underlying111, rfl, rfl, Go.Proofs.Try.sizeOf108⟩ rfl ?_
      refine O.ld rfl rfl rfl (fun w => ⟨Go.Proofs.Try.isAgg108 w, Go.Proofs.Try.sizeOf108 w⟩) rfl hN.c2 ?_
      refine O.mv rfl rfl rfl rfl rfl ?_
      refine O.ix (j := j) rfl rfl rfl rfl Go.Proofs.Try.underlying108 Go.Proofs.Try.sizeOf100 rfl rfl (by omega) (by omega) ?_
      refine O.faz rfl rfl rfl rfl ⟨_, _, _, Go.Proofs.Try.underlying100, rfl, rfl, Go.Proofs.Try.sizeOf3⟩ rfl ?_
      refine O.ld rfl rfl rfl (fun w => ⟨Go.Proofs.Try.isAgg3 w, Go.Proofs.Try.sizeOf3 w⟩) rfl (hN.sl.cell hy (j := 0) rfl) ?_
      refine O.callC rfl rfl rfl rfl hcall rfl (cb.call y hT (by omega)) ?_
      rintro _ H3 ⟨rfl, Z2, hT2, hF2, hZ2⟩
      rw [hgo]
      have hsz := hF.size
      refine ⟨trivial, ?_⟩
      refine O.not rfl rfl rfl rfl rfl ?_
      refine Pl.fin [(2, _), (9, _), (10, _), (25, _), (46, _)] ⟨rfl, rfl, rfl, rfl, rfl, trivial⟩ ?_
      refine Go'.condT rfl ?_
      refine Go'.seq ?_
      -- region 7 (map.go:561)
      refine Go'.region [(0, 0)] rfl ?_
      refine O.asg rfl rfl rfl rfl rfl ?_
      refine Pl.fin [(2, _), (8, _), (9, _), (10, _), (25, _), (46, _)] ⟨rfl, rfl, rfl, rfl, rfl, rfl, trivial⟩ ?_
      refine Go'.ret (vs := [_]) Go.Proofs.Try.func119 Go.Proofs.Try.results119 ⟨rfl, trivial⟩ ?_
      have e2 : takes go acc (X.drop j).reverse = (A ++ [y], false) := by rw [e1]; simp [takes, hgo]
      have e3 : takes go acc X.reverse = (A ++ [y], false) := by rw [hall, takes_stop (by rw [e2]), e2]
      refine ⟨by rw [e3]; rfl, Z2, by rw [e3]; exact hT2, hF.trans' hF2 (fun _ _ _ h => h) (fun b o hb hz => (hZ1 b hz).elim id (fun h => by omega)), fun b hb => (hZ2 b hb).elim (hZ1 b) (fun h => .inr (by omega))⟩
    · skip
      -- region 6 (map.go:560)
      refine Go'.draw (fun _ => True) [(0, 0), (1, 0), (2, 0), (3, 0), (4, 1), (5, 0), (6, 0), (7, 0), (8, 1), (9, 0), (10, 0), (11, 0), (12, 1), (13, 0), (14, 0), (15, 0), (16, 1), (17, 2), (18, 0)] (by kernel_rfl) (by kernel_rfl) (trivial) ?_
      refine O.mv rfl rfl rfl rfl rfl ?_
      refine O.mv rfl rfl rfl rfl rfl ?_
      refine O.nc rfl rfl rfl rfl rfl ?_
      refine O.fa0 (off := 2) rfl rfl rfl rfl ⟨_, _, _, Go.Proofs.Try.underlying111, rfl, rfl, Go.Proofs.Try.sizeOf108⟩ rfl ?_
      refine O.ld rfl rfl rfl (fun w => ⟨Go.Proofs.Try.isAgg108 w, Go.Proofs.Try.sizeOf108 w⟩) rfl hN.c2 ?_
      refine O.mv rfl rfl rfl rfl rfl ?_
      refine O.ix (j := j) rfl rfl rfl rfl Go.Proofs.Try.underlying108 Go.Proofs.Try.sizeOf100 rfl rfl (by omega) (by omega) ?_
      refine O.fa (off := 1) rfl rfl rfl rfl ⟨_, _, _, Go.Proofs.Try.underlying100, rfl, rfl, Go.Proofs.Try.sizeOf3⟩ rfl ?_
      refine O.ld rfl rfl rfl (fun w => ⟨Go.Proofs.Try.isAgg3 w, Go.Proofs.Try.sizeOf3 w⟩) rfl (hN.sl.cell hy (j := 1) rfl) ?_
      refine O.mv rfl rfl rfl rfl rfl ?_
      refine O.nc rfl rfl rfl rfl rfl ?_
      refine O.fa0 (off := 2) rfl rfl rfl rfl ⟨_, _, _, Go.Proofs.Try.underlying111, rfl, rfl, Go.Proofs.Try.sizeOf108⟩ rfl ?_
      refine O.ld rfl rfl rfl (fun w => ⟨Go.Proofs.Try.isAgg108 w, Go.Proofs.Try.sizeOf108 w⟩) rfl hN.c2 ?_
      refine O.mv rfl rfl rfl rfl rfl ?_
      refine O.ix (j := j) rfl rfl rfl rfl Go.Proofs.Try.underlying108 Go.Proofs.Try.sizeOf100 rfl rfl (by omega) (by omega) ?_
      refine O.faz rfl rfl rfl rfl ⟨_, _, _, Go.Proofs.Try.underlying100, rfl, rfl, Go.Proofs.Try.sizeOf3⟩ rfl ?_
      refine O.ld rfl rfl rfl (fun w => ⟨Go.Proofs.Try.isAgg3 w, Go.Proofs.Try.sizeOf3 w⟩) rfl (hN.sl.cell hy (j := 0) rfl) ?_
      refine O.callC rfl rfl rfl rfl hcall rfl (cb.call y hT (by omega)) ?_
      rintro _ H3 ⟨rfl, Z2, hT2, hF2, hZ2⟩
      rw [hgo]
      have hsz := hF.size
      refine ⟨trivial, ?_⟩
      refine O.not rfl rfl rfl rfl rfl ?_
      refine Pl.fin [(2, _), (9, _), (10, _), (25, _), (46, _)] ⟨rfl, rfl, rfl, rfl, rfl, trivial⟩ ?_
      refine Go'.condF rfl ?_
      refine Go'.skip ?_
      refine Go'.inBlock ?_
      -- region 5 (map.go:559)
      refine Go'.region [(0, 0), (1, 0), (2, 0)] rfl ?_
      refine O.mv rfl rfl rfl rfl rfl ?_
      refine O.sub (((j : Nat) : Int) - 1) rfl rfl rfl rfl rfl rfl (by omega) (by omega) ?_
      refine O.asg rfl rfl rfl rfl rfl ?_
      refine Pl.fin [(2, _), (9, _), (10, _), (25, _), (46, _)] ⟨rfl, rfl, rfl, rfl, rfl, trivial⟩ ?_
      refine Go'.keep [(2, _), (9, _), (10, _)] ⟨rfl, rfl, rfl, trivial⟩ ?_
      refine Go'.inLoop ?_
      have e2 : takes go acc (X.drop j).reverse = (A ++ [y], true) := by rw [e1]; simp [takes, hgo]
      exact ih (j, Z2) H3 ⟨by simp only; omega, by rw [e2], by rw [e2]; exact hT2, hF.trans' hF2 (fun _ _ _ h => h) (fun b o hb hz => (hZ1 b hz).elim id (fun h => by omega)), fun b hb => (hZ2 b hb).elim (hZ1 b) (fun h => .inr (by omega))⟩ (by simp only; omega)

theorem nrev {B : World} {g : FuncId} {us cs : List Value} {go : List (Int × Int) → Bool} {M : Nat} (cb : Cb Try.prog B encKV g us cs go M) (hcall : ∀ (args : Array Value) (w : World), (callFunc g args).run Try.prog w = .ok (.enter g args) w) {tr : Nat} {P : Ps} (hP : PsOk P) (mt : Bool) : ∀ (h : Nat) {H : Mem} {bp op : Nat} {acc : List (Int × Int)} {Z : Nat → Prop} {t : Gt EI h}, VPre cb H tr P h t bp op acc Z →
    Fn Try.prog B 119 [.pointer (some ⟨tr, 0, none⟩), .pointer (some ⟨bp, op, none⟩), .func (.func g) us.toArray cs.toArray, .bool mt] H (fun r H' => r = .bool (takes go acc (Gt.L h t).reverse).2 ∧ CbPost cb acc Z H (Gt.L h t).reverse H')
  | 0, _, _, _, _, _, _, hp => nrev0 cb hcall hP mt hp
  | h + 1, H, bp, op, acc, Z, (gg, X, K), hp => by
    have ih := @nrev B g us cs go M cb hcall tr P hP mt h
    obtain ⟨tc, hg, hc, hnz, hntr, hst, hlen⟩ := hp
    have hI : Inn H P h gg X ((Gt.ps h K).map some) K := hg.inn
    have hKl : K.length = X.length + 1 := hg.2.2.2.2.2.1
    have hxm : X.length ≤ P.mx := hg.2.2.2.2.1
    have hx255 := hP.hx
    have hKL : (K.map (Gt.L h)).length = X.length + 1 := by rw [List.length_map]; exact hKl
    have hol : ((Gt.ps h K).map some).length = X.length + 1 := by rw [List.length_map, Gt.ps, List.length_map]; exact hKl
    replace hlen : acc.length + (Pl.inter X (K.map (Gt.L h))).length ≤ M := hlen
    have hlt : ∀ x y, innc h gg K x y → x < H.size := fun x y hb => hI.lt hb
    obtain ⟨_, _, _, hkb⟩ := hI.cells
    have hkz : ¬ Z gg.kb := fun e => hnz gg.kb gg.ko (.inr (.inl (show kcl gg gg.kb gg.ko from .inr ⟨rfl, Nat.le_refl _, by have := hI.k.kc; omega⟩))) e
    have htl : tr < H.size := cl_lt tc.iso
    have hc0 := hI.n.c0
    rw [hI.iso] at hc0
    have hin : ∀ H', Fr (fun x _ => Z x) H H' → Inn H' P h gg X ((Gt.ps h K).map some) K := fun H' hf => hI.fr hf (fun x y hxy hz => hnz x y hxy hz)
    have htc : ∀ H', Fr (fun x _ => Z x) H H' → TrC H' tr P.iso P.mx P.mn := fun H' hf => tc.fr hf fun _ _ _ hz => hntr hz
    -- a child at any time
    have hkid : ∀ {H2 : Mem} {Z1 : Nat → Prop} {A : List (Int × Int)} {j : Nat} {k : Gt EI h}, K[j]? = some k → Fr (fun x _ => Z x) H H2 → cb.T A Z1 H2 → (∀ b, Z1 b → Z b ∨ H.size ≤ b) → A.length + (Gt.L h k).length ≤ M → VPre cb H2 tr P h k gg.kb (gg.ko + j * 1) A Z1 := by
      intro H2 Z1 A j k hkk hF hT hZ1 hA
      have hkK : k ∈ K := List.mem_of_getElem? hkk
      have hI2 := hin H2 hF
      have hok : ((Gt.ps h K).map some)[j]? = some (some (Gt.p h k)) := by rw [Gt.ps, List.map_map, List.getElem?_map, hkk]; rfl
      exact ⟨htc H2 hF, (hI2.c.1 k hkK).1, hI2.k.at hok, fun b o hb hz => (hZ1 b hz).elim (fun hz => hnz b o (.inr (.inr ⟨k, hkK, hb⟩)) hz) (fun hz => by have := hlt b o (.inr (.inr ⟨k, hkK, hb⟩)); omega),
        fun hz => (hZ1 _ hz).elim hntr (fun h => by omega), hT, hA⟩
    have hkz1 : ∀ Z1 : Nat → Prop, (∀ b, Z1 b → Z b ∨ H.size ≤ b) → ¬ Z1 gg.kb := fun Z1 hZ1 hz => (hZ1 _ hz).elim hkz (fun h => by omega)
    have hcat : ∀ {Z1 Z2 : Nat → Prop} {H2 H3 : Mem}, Fr (fun x _ => Z x) H H2 → (∀ b, Z1 b → Z b ∨ H.size ≤ b) → Fr (fun x _ => Z1 x) H2 H3 → (∀ b, Z2 b → Z1 b ∨ H2.size ≤ b) → Fr (fun x _ => Z x) H H3 ∧ ∀ b, Z2 b → Z b ∨ H.size ≤ b := by
      intro Z1 Z2 H2 H3 hF hZ1 hF2 hZ2
      have := hF.size
      exact ⟨hF.trans' hF2 (fun _ _ _ h => h) (fun b o hb hz => (hZ1 b hz).elim id (fun h => by omega)), fun b hb => (hZ2 b hb).elim (hZ1 b) (fun h => .inr (by omega))⟩
    obtain ⟨kn, hkn⟩ : ∃ k, K[X.length]? = some k := ⟨K[X.length], List.getElem?_eq_getElem (by omega)⟩
    have hknL : (K.map (Gt.L h))[X.length]? = some (Gt.L h kn) := by rw [List.getElem?_map, hkn]; rfl
    have hLn : Pl.inter X (K.map (Gt.L h)) = Pl.pre X ((K.map (Gt.L h)).take X.length) ++ Gt.L h kn := Pl.inter_last hKL hknL
    have hlast : Pl.inter (X.drop X.length) ((K.map (Gt.L h)).drop X.length) = Gt.L h kn := by
      obtain ⟨h1, h2⟩ := List.getElem?_eq_some_iff.1 hknL
      rw [List.drop_length, ← List.getElem_cons_drop (h := h1), h2, List.drop_of_length_le (by omega)]; rfl
    show Fn _ _ _ _ _ (fun r H' => r = .bool (takes go acc (Pl.inter X (K.map (Gt.L h))).reverse).2 ∧ CbPost cb acc Z H (Pl.inter X (K.map (Gt.L h))).reverse H')
    have hlenn : acc.length + (Gt.L h kn).length ≤ M := by rw [hLn, List.length_append] at hlen; omega
    refine fn_of Go.Proofs.Try.func119 rfl Go.Proofs.Try.ntmps119 ?_
    refine (show Go' _ _ _ _ 109 [(0, _), (1, _), (2, _), (3, _)] [.code _] _ from ?_)
    refine Go'.seq ?_
    -- region 0 (map.go:554)
    refine Go'.region [(0, 0)] rfl ?_
    refine O.asg rfl rfl rfl rfl rfl ?_
    refine Pl.fin [(0, _), (1, _), (2, _), (3, _), (8, _)] ⟨rfl, rfl, rfl, rfl, rfl, trivial⟩ ?_
    refine Go'.seq ?_
    -- region 1 (map.go:557)
    refine Go'.region [(0, 0), (1, 0), (2, 0), (3, 2), (4, 0)] rfl ?_
    refine O.mv rfl rfl rfl rfl rfl ?_
    refine O.mv rfl rfl rfl rfl rfl ?_
    refine O.mv rfl rfl rfl rfl rfl ?_
    refine O.callQ rfl rfl rfl Go.Proofs.Try.call85 rfl (isoLoad_spec mt hc hc0 tc.iso) trivial ?_
    refine O.asg rfl rfl rfl rfl rfl ?_
    refine Pl.fin [(0, _), (2, _), (3, _), (8, _), (9, _)] ⟨rfl, rfl, rfl, rfl, rfl, trivial⟩ ?_
    refine Go'.seq ?_
    refine Go'.seq ?_
    unfold ptr
    -- region 2 (map.go:558)
    refine Go'.region [(0, 0), (1, 2)] rfl ?_
    refine O.mv rfl rfl rfl rfl rfl ?_
    refine O.callQ rfl rfl rfl Go.Proofs.Try.call86 rfl (leaf_spec hI.n.c3) trivial ?_
    refine Pl.fin [(0, _), (2, _), (3, _), (8, _), (9, _), (17, _)] ⟨rfl, rfl, rfl, rfl, rfl, rfl, trivial⟩ ?_
    refine Go'.condF rfl ?_
    refine Go'.skip ?_
    refine Go'.seq ?_
    refine Go'.seq ?_
    -- region 9 (map.go:566)
    refine Go'.draw (fun _ => True) [(0, 0), (1, 0), (2, 0), (3, 0), (4, 1), (5, 0), (6, 1), (7, 0), (8, 0), (9, 0), (10, 1), (11, 0), (12, 1), (13, 0), (14, 0), (15, 0), (16, 0), (17, 0), (18, 2), (19, 0)] (by kernel_rfl) (by kernel_rfl) (trivial) ?_
    refine O.mv rfl rfl rfl rfl rfl ?_
    refine O.mv rfl rfl rfl rfl rfl ?_
    refine O.nc rfl rfl rfl rfl rfl ?_
    refine O.fa0 (off := 3) rfl rfl rfl rfl ⟨_, _, _, Go.Proofs.Try.underlying111, rfl, rfl, Go.Proofs.Try.sizeOf109⟩ rfl ?_
    refine O.ld rfl rfl rfl (fun w => ⟨Go.Proofs.Try.isAgg109 w, Go.Proofs.Try.sizeOf109 w⟩) rfl hI.n.c3 ?_
    refine O.nc rfl rfl rfl rfl rfl ?_
    refine O.ld rfl rfl rfl (fun w => ⟨Go.Proofs.Try.isAgg112 w, Go.Proofs.Try.sizeOf112 w⟩) rfl hI.k.c ?_
    refine O.mv rfl rfl rfl rfl rfl ?_
    refine O.nc rfl rfl rfl rfl rfl ?_
    refine O.fa0 (off := 3) rfl rfl rfl rfl ⟨_, _, _, Go.Proofs.Try.underlying111, rfl, rfl, Go.Proofs.Try.sizeOf109⟩ rfl ?_
    refine O.ld rfl rfl rfl (fun w => ⟨Go.Proofs.Try.isAgg109 w, Go.Proofs.Try.sizeOf109 w⟩) rfl hI.n.c3 ?_
    refine O.nc rfl rfl rfl rfl rfl ?_
    refine O.ld rfl rfl rfl (fun w => ⟨Go.Proofs.Try.isAgg112 w, Go.Proofs.Try.sizeOf112 w⟩) rfl hI.k.c ?_
    refine O.len rfl rfl rfl rfl Go.Proofs.Try.underlying112 rfl ?_
    refine O.sub (((X.length : Nat) : Int)) rfl rfl rfl rfl rfl rfl (by omega) (by omega) ?_
    refine O.ix (j := X.length) rfl rfl rfl rfl Go.Proofs.Try.underlying112 Go.Proofs.Try.sizeOf103 rfl rfl (by omega) (by omega) ?_
    refine O.mv rfl rfl rfl rfl rfl ?_
    refine O.mv rfl rfl rfl rfl rfl ?_
    refine O.call rfl rfl rfl Go.Proofs.Try.call119 rfl (ih (hkid hkn (Fr.refl _ _) hst (fun b hb => .inl hb) hlenn)) ?_
    rintro _ H2 ⟨rfl, Z2, hT2, hF2, hZ2⟩
    refine ⟨trivial, ?_⟩
    refine O.not rfl rfl rfl rfl rfl ?_
    refine Pl.fin [(0, _), (2, _), (3, _), (8, _), (9, _), (66, _)] ⟨rfl, rfl, rfl, rfl, rfl, rfl, trivial⟩ ?_
    cases htk0 : (takes go acc (Gt.L h kn).reverse).2
    · -- stopped
      refine Go'.condT rfl ?_
      refine Go'.seq ?_
      -- region 10 (map.go:567)
      refine Go'.region [(0, 0)] rfl ?_
      refine O.asg rfl rfl rfl rfl rfl ?_
      refine Pl.fin [(0, _), (2, _), (3, _), (8, _), (9, _)] ⟨rfl, rfl, rfl, rfl, rfl, trivial⟩ ?_
      refine Go'.ret (vs := [_]) Go.Proofs.Try.func119 Go.Proofs.Try.results119 ⟨rfl, trivial⟩ ?_
      have e : (Pl.inter X (K.map (Gt.L h))).reverse = (Gt.L h kn).reverse ++ (Pl.pre X ((K.map (Gt.L h)).take X.length)).reverse := by rw [hLn, List.reverse_append]
      have e2 := takes_stop (r := (Pl.pre X ((K.map (Gt.L h)).take X.length)).reverse) htk0
      rw [← e] at e2
      unfold CbPost
      rw [e2]
      exact ⟨by rw [htk0]; rfl, Z2, hT2, hF2, hZ2⟩
    · -- on
      refine Go'.condF rfl ?_
      refine Go'.skip ?_
      refine Go'.seq ?_
      refine Go'.seq ?_
      have hI2 := hin H2 hF2
      -- region 11 (map.go:569)
      refine Go'.region [(0, 0), (1, 0), (2, 0), (3, 1), (4, 0), (5, 0), (6, 0)] rfl ?_
      refine O.mv rfl rfl rfl rfl rfl ?_
      refine O.nc rfl rfl rfl rfl rfl ?_
      refine O.fa0 (off := 2) rfl rfl rfl rfl ⟨_, _, _, Go.Proofs.Try.underlying111, rfl, rfl, Go.Proofs.Try.sizeOf108⟩ rfl ?_
      refine O.ld rfl rfl rfl (fun w => ⟨Go.Proofs.Try.isAgg108 w, Go.Proofs.Try.sizeOf108 w⟩) rfl hI2.n.c2 ?_
      refine O.len rfl rfl rfl rfl Go.Proofs.Try.underlying108 rfl ?_
      refine O.sub (((X.length : Nat) : Int) - 1) rfl rfl rfl rfl rfl rfl (by omega) (by omega) ?_
      refine O.asg rfl rfl rfl rfl rfl ?_
      refine Pl.fin [(0, _), (2, _), (3, _), (8, _), (9, _), (11, _)] ⟨rfl, rfl, rfl, rfl, rfl, rfl, trivial⟩ ?_
      refine Go'.block ?_
      refine Go'.loop ?_
      refine Go'.keep [(0, _), (2, _), (3, _), (9, _), (11, _)] ⟨rfl, rfl, rfl, rfl, rfl, trivial⟩ ?_
      refine Go'.ind (σ := Nat × (Nat → Prop)) (fun s => s.1) (fun s H' => s.1 ≤ X.length ∧ (takes go acc (Pl.inter (X.drop s.1) ((K.map (Gt.L h)).drop s.1)).reverse).2 = true ∧ cb.T (takes go acc (Pl.inter (X.drop s.1) ((K.map (Gt.L h)).drop s.1)).reverse).1 s.2 H' ∧ Fr (fun b _ => Z b) H H' ∧ ∀ b, s.2 b → Z b ∨ H.size ≤ b)
        (fun s => [(0, .pointer (some ⟨tr, 0, none⟩)), (2, .func (.func g) us.toArray cs.toArray), (3, .bool mt), (9, .pointer (some ⟨gg.p, 0, none⟩)), (11, .int .i64 ((s.1 : Int) - 1))]) (X.length, Z2) ⟨Nat.le_refl _, by rw [hlast]; exact htk0, by rw [hlast]; exact hT2, hF2, hZ2⟩ rfl ?_
      clear hI2 hT2 hF2 hZ2 htk0
      rintro ⟨j, Z1⟩ H3 ⟨hj, htk, hT, hF, hZ1⟩ ih2
      simp only at hj htk hT hZ1
      have hI3 := hin H3 hF
      refine Go'.seq ?_
      refine Go'.seq ?_
      rcases j with _ | j
      · skip
        -- region 12 (map.go:569)
        refine Go'.region [(0, 0), (1, 0)] rfl ?_
        refine O.mv rfl rfl rfl rfl rfl ?_
        refine O.cmp rfl rfl rfl rfl rfl rfl (geqF (by show ((0 : Nat) : Int) - 1 < 0; omega)) ?_
        refine Pl.fin [(0, _), (2, _), (3, _), (9, _), (11, _), (74, _)] ⟨rfl, rfl, rfl, rfl, rfl, rfl, trivial⟩ ?_
        refine Go'.condF rfl ?_
        refine Go'.exit rfl ?_
        refine Go'.seq ?_
        -- region 18 (map.go:577)
        refine Go'.region [(0, 0)] rfl ?_
        refine O.asg rfl rfl rfl rfl rfl ?_
        refine Pl.fin [(8, _)] ⟨rfl, trivial⟩ ?_
        refine Go'.ret (vs := [_]) Go.Proofs.Try.func119 Go.Proofs.Try.results119 ⟨rfl, trivial⟩ ?_
        rw [List.drop_zero, List.drop_zero] at htk hT
        exact ⟨by rw [htk]; rfl, Z1, hT, hF, hZ1⟩
      · skip
        obtain ⟨y, hy⟩ : ∃ y, X[j]? = some y := ⟨X[j], List.getElem?_eq_getElem (by omega)⟩
        obtain ⟨k, hkk⟩ : ∃ k, K[j]? = some k := ⟨K[j], List.getElem?_eq_getElem (by omega)⟩
        have hkL : (K.map (Gt.L h))[j]? = some (Gt.L h k) := by rw [List.getElem?_map, hkk]; rfl
        have hd := Pl.inter_drop1 hy hkL
        obtain ⟨pfx, hall⟩ := Pl.inter_dropn hKL j (by omega)
        have hal2 : (Pl.inter X (K.map (Gt.L h))).reverse = (Pl.inter (X.drop (j + 1)) ((K.map (Gt.L h)).drop (j + 1))).reverse ++ ([y] ++ ((Gt.L h k).reverse ++ pfx.reverse)) := by
          rw [hall, hd]; simp
        have hal3 : (Pl.inter (X.drop j) ((K.map (Gt.L h)).drop j)).reverse = (Pl.inter (X.drop (j + 1)) ((K.map (Gt.L h)).drop (j + 1))).reverse ++ ([y] ++ (Gt.L h k).reverse) := by
          rw [hd]; simp
        have hlen2 : (Pl.inter X (K.map (Gt.L h))).length = pfx.length + ((Gt.L h k).length + (1 + (Pl.inter (X.drop (j + 1)) ((K.map (Gt.L h)).drop (j + 1))).length)) := by
          rw [hall, hd]; simp; omega
        have htl := takes_length go (Pl.inter (X.drop (j + 1)) ((K.map (Gt.L h)).drop (j + 1))).reverse acc
        rw [List.length_reverse] at htl
        have t1 := takes_on (r := [y] ++ ((Gt.L h k).reverse ++ pfx.reverse)) htk
        have t2 := takes_on (r := [y] ++ (Gt.L h k).reverse) htk
        rw [← hal2] at t1
        rw [← hal3] at t2
        generalize hA : (takes go acc (Pl.inter (X.drop (j + 1)) ((K.map (Gt.L h)).drop (j + 1))).reverse).1 = A at *
        have ej : (((j + 1 : Nat) : Int) - 1) = (j : Int) := by omega
        have hall4 : (A ++ [y]).length = A.length + 1 := by simp
        rw [ej]
        -- region 12 (map.go:569)
        refine Go'.region [(0, 0), (1, 0)] rfl ?_
        refine O.mv rfl rfl rfl rfl rfl ?_
        refine O.cmp rfl rfl rfl rfl rfl rfl (geqT (by omega)) ?_
        refine Pl.fin [(0, _), (2, _), (3, _), (9, _), (11, _), (74, _)] ⟨rfl, rfl, rfl, rfl, rfl, rfl, trivial⟩ ?_
        refine Go'.condT rfl ?_
        refine Go'.skip ?_
        refine Go'.seq ?_
        refine Go'.block ?_
        refine Go'.seq ?_
        refine Go'.seq ?_
        cases hgo : go (A ++ [y])
        · skip
          -- region 14 (map.go:570)
          refine Go'.draw (fun _ => True) [(0, 0), (1, 0), (2, 0), (3, 0), (4, 1), (5, 0), (6, 0), (7, 0), (8, 1), (9, 0), (10, 0), (11, 0), (12, 1), (13, 0), (14, 0), (15, 0), (16, 1), (17, 2), (18, 0)] (by kernel_rfl) (by kernel_rfl) (trivial) ?_
          refine O.mv rfl rfl rfl rfl rfl ?_
          refine O.mv rfl rfl rfl rfl rfl ?_
          refine O.nc rfl rfl rfl rfl rfl ?_
          refine O.fa0 (off := 2) rfl rfl rfl rfl ⟨_, _, _, Go.Proofs.Try.underlying111, rfl, rfl, Go.Proofs.Try.sizeOf108⟩ rfl ?_
          refine O.ld rfl rfl rfl (fun w => ⟨Go.Proofs.Try.isAgg108 w, Go.Proofs.Try.sizeOf108 w⟩) rfl hI3.n.c2 ?_
          refine O.mv rfl rfl rfl rfl rfl ?_
          refine O.ix (j := j) rfl rfl rfl rfl Go.Proofs.Try.underlying108 Go.Proofs.Try.sizeOf100 rfl rfl (by omega) (by omega) ?_
          refine O.fa (off := 1) rfl rfl rfl rfl ⟨_, _, _, Go.Proofs.Try.underlying100, rfl, rfl, Go.Proofs.Try.sizeOf3⟩ rfl ?_
          refine O.ld rfl rfl rfl (fun w => ⟨Go.Proofs.Try.isAgg3 w, Go.Proofs.Try.sizeOf3 w⟩) rfl (hI3.n.sl.cell hy (j := 1) rfl) ?_
          refine O.mv rfl rfl rfl rfl rfl ?_
          refine O.nc rfl rfl rfl rfl rfl ?_
          refine O.fa0 (off := 2) rfl rfl rfl rfl ⟨_, _, _, Go.Proofs.Try.underlying111, rfl, rfl, Go.Proofs.Try.sizeOf108⟩ rfl ?_
          refine O.ld rfl rfl rfl (fun w => ⟨Go.Proofs.Try.isAgg108 w, Go.Proofs.Try.sizeOf108 w⟩) rfl hI3.n.c2 ?_
          refine O.mv rfl rfl rfl rfl rfl ?_
          refine O.ix (j := j) rfl rfl rfl rfl Go.Proofs.Try.underlying108 Go.Proofs.Try.sizeOf100 rfl rfl (by omega) (by omega) ?_
          refine O.faz rfl rfl rfl rfl ⟨_, _, _, Go.Proofs.Try.underlying100, rfl, rfl, Go.Proofs.Try.sizeOf3⟩ rfl ?_
          refine O.ld rfl rfl rfl (fun w => ⟨Go.Proofs.Try.isAgg3 w, Go.Proofs.Try.sizeOf3 w⟩) rfl (hI3.n.sl.cell hy (j := 0) rfl) ?_
          refine O.callC rfl rfl rfl rfl hcall rfl (cb.call y hT (by omega)) ?_
          rintro _ H4 ⟨rfl, Z4, hT4, hF4, hZ4⟩
          rw [hgo]
          obtain ⟨hF5, hZ5⟩ := hcat hF hZ1 hF4 hZ4
          refine ⟨trivial, ?_⟩
          refine O.not rfl rfl rfl rfl rfl ?_
          refine Pl.fin [(0, _), (2, _), (3, _), (9, _), (11, _), (74, _), (95, _)] ⟨rfl, rfl, rfl, rfl, rfl, rfl, rfl, trivial⟩ ?_
          refine Go'.condT rfl ?_
          refine Go'.seq ?_
          -- region 15 (map.go:571)
          refine Go'.region [(0, 0)] rfl ?_
          refine O.asg rfl rfl rfl rfl rfl ?_
          refine Pl.fin [(0, _), (2, _), (3, _), (8, _), (9, _), (11, _), (74, _), (95, _)] ⟨rfl, rfl, rfl, rfl, rfl, rfl, rfl, rfl, trivial⟩ ?_
          refine Go'.ret (vs := [_]) Go.Proofs.Try.func119 Go.Proofs.Try.results119 ⟨rfl, trivial⟩ ?_
          have e3 : takes go acc (Pl.inter X (K.map (Gt.L h))).reverse = (A ++ [y], false) := by rw [t1, takes_stop (by simp [takes, hgo])]; simp [takes, hgo]
          unfold CbPost
          rw [e3]
          exact ⟨rfl, Z4, hT4, hF5, hZ5⟩
        · skip
          -- region 14 (map.go:570)
          refine Go'.draw (fun _ => True) [(0, 0), (1, 0), (2, 0), (3, 0), (4, 1), (5, 0), (6, 0), (7, 0), (8, 1), (9, 0), (10, 0), (11, 0), (12, 1), (13, 0), (14, 0), (15, 0), (16, 1), (17, 2), (18, 0)] (by kernel_rfl) (by kernel_rfl) (trivial) ?_
          refine O.mv rfl rfl rfl rfl rfl ?_
          refine O.mv rfl rfl rfl rfl rfl ?_
          refine O.nc rfl rfl rfl rfl rfl ?_
          refine O.fa0 (off := 2) rfl rfl rfl rfl ⟨_, _, _, Go.Proofs.Try.underlying111, rfl, rfl, Go.Proofs.Try.sizeOf108⟩ rfl ?_
          refine O.ld rfl rfl rfl (fun w => ⟨Go.Proofs.Try.isAgg108 w, Go.Proofs.Try.sizeOf108 w⟩) rfl hI3.n.c2 ?_
          refine O.mv rfl rfl rfl rfl rfl ?_
          refine O.ix (j := j) rfl rfl rfl rfl Go.Proofs.Try.underlying108 Go.Proofs.Try.sizeOf100 rfl rfl (by omega) (by omega) ?_
          refine O.fa (off := 1) rfl rfl rfl rfl ⟨_, _, _, Go.Proofs.Try.underlying100, rfl, rfl, Go.Proofs.Try.sizeOf3⟩ rfl ?_
          refine O.ld rfl rfl rfl (fun w => ⟨Go.Proofs.Try.isAgg3 w, Go.Proofs.Try.sizeOf3 w⟩) rfl (hI3.n.sl.cell hy (j := 1) rfl) ?_
          refine O.mv rfl rfl rfl rfl rfl ?_
          refine O.nc rfl rfl rfl rfl rfl ?_
          refine O.fa0 (off := 2) rfl rfl rfl rfl ⟨_, _, _, Go.Proofs.Try.underlying111, rfl, rfl, Go.Proofs.Try.sizeOf108⟩ rfl ?_
          refine O.ld rfl rfl rfl (fun w => ⟨Go.Proofs.Try.isAgg108 w, Go.Proofs.Try.sizeOf108 w⟩) rfl hI3.n.c2 ?_
          refine O.mv rfl rfl rfl rfl rfl ?_
          refine O.ix (j := j) rfl rfl rfl rfl Go.Proofs.Try.underlying108 Go.Proofs.Try.sizeOf100 rfl rfl (by omega) (by omega) ?_
          refine O.faz rfl rfl rfl rfl ⟨_, _, _, Go.Proofs.Try.underlying100, rfl, rfl, Go.Proofs.Try.sizeOf3⟩ rfl ?_
          refine O.ld rfl rfl rfl (fun w => ⟨Go.Proofs.Try.isAgg3 w, Go.Proofs.Try.sizeOf3 w⟩) rfl (hI3.n.sl.cell hy (j := 0) rfl) ?_
          refine O.callC rfl rfl rfl rfl hcall rfl (cb.call y hT (by omega)) ?_
          rintro _ H4 ⟨rfl, Z4, hT4, hF4, hZ4⟩
          rw [hgo]
          obtain ⟨hF5, hZ5⟩ := hcat hF hZ1 hF4 hZ4
          refine ⟨trivial, ?_⟩
          refine O.not rfl rfl rfl rfl rfl ?_
          refine Pl.fin [(0, _), (2, _), (3, _), (9, _), (11, _), (74, _), (95, _)] ⟨rfl, rfl, rfl, rfl, rfl, rfl, rfl, trivial⟩ ?_
          refine Go'.condF rfl ?_
          refine Go'.skip ?_
          refine Go'.seq ?_
          have u1 : takes go A ([y] ++ ((Gt.L h k).reverse ++ pfx.reverse)) = takes go (A ++ [y]) ((Gt.L h k).reverse ++ pfx.reverse) := by rw [takes_on (by simp [takes, hgo])]; simp [takes, hgo]
          have u2 : takes go A ([y] ++ (Gt.L h k).reverse) = takes go (A ++ [y]) (Gt.L h k).reverse := by rw [takes_on (by simp [takes, hgo])]; simp [takes, hgo]
          rw [u1] at t1
          rw [u2] at t2
          have hI4 := hin H4 hF5
          -- region 16 (map.go:573)
          refine Go'.region [(0, 0), (1, 0), (2, 0), (3, 0), (4, 1), (5, 0), (6, 1), (7, 0), (8, 0), (9, 0), (10, 0), (11, 2), (12, 0)] rfl ?_
          refine O.mv rfl rfl rfl rfl rfl ?_
          refine O.mv rfl rfl rfl rfl rfl ?_
          refine O.nc rfl rfl rfl rfl rfl ?_
          refine O.fa0 (off := 3) rfl rfl rfl rfl ⟨_, _, _, Go.Proofs.Try.underlying111, rfl, rfl, Go.Proofs.Try.sizeOf109⟩ rfl ?_
          refine O.ld rfl rfl rfl (fun w => ⟨Go.Proofs.Try.isAgg109 w, Go.Proofs.Try.sizeOf109 w⟩) rfl hI4.n.c3 ?_
          refine O.nc rfl rfl rfl rfl rfl ?_
          refine O.ld rfl rfl rfl (fun w => ⟨Go.Proofs.Try.isAgg112 w, Go.Proofs.Try.sizeOf112 w⟩) rfl hI4.k.c ?_
          refine O.mv rfl rfl rfl rfl rfl ?_
          refine O.ix (j := j) rfl rfl rfl rfl Go.Proofs.Try.underlying112 Go.Proofs.Try.sizeOf103 rfl rfl (by omega) (by omega) ?_
          refine O.mv rfl rfl rfl rfl rfl ?_
          refine O.mv rfl rfl rfl rfl rfl ?_
          refine O.call rfl rfl rfl Go.Proofs.Try.call119 rfl (ih (hkid hkk hF5 hT4 hZ5 (by omega))) ?_
          rintro _ H6 ⟨rfl, Z6, hT6, hF6, hZ6⟩
          obtain ⟨hF7, hZ7⟩ := hcat hF5 hZ5 hF6 hZ6
          refine ⟨trivial, ?_⟩
          refine O.not rfl rfl rfl rfl rfl ?_
          refine Pl.fin [(0, _), (2, _), (3, _), (9, _), (11, _), (74, _), (95, _), (108, _)] ⟨rfl, rfl, rfl, rfl, rfl, rfl, rfl, rfl, trivial⟩ ?_
          cases htk2 : (takes go (A ++ [y]) (Gt.L h k).reverse).2
          · skip
            refine Go'.condT rfl ?_
            refine Go'.seq ?_
            -- region 17 (map.go:574)
            refine Go'.region [(0, 0)] rfl ?_
            refine O.asg rfl rfl rfl rfl rfl ?_
            refine Pl.fin [(0, _), (2, _), (3, _), (8, _), (9, _), (11, _), (74, _), (95, _), (108, _)] ⟨rfl, rfl, rfl, rfl, rfl, rfl, rfl, rfl, rfl, trivial⟩ ?_
            refine Go'.ret (vs := [_]) Go.Proofs.Try.func119 Go.Proofs.Try.results119 ⟨rfl, trivial⟩ ?_
            rw [takes_stop htk2] at t1
            unfold CbPost
            rw [t1]
            exact ⟨by rw [htk2]; rfl, Z6, hT6, hF7, hZ7⟩
          · skip
            refine Go'.condF rfl ?_
            refine Go'.skip ?_
            refine Go'.inBlock ?_
            -- region 13 (map.go:569)
            refine Go'.region [(0, 0), (1, 0), (2, 0)] rfl ?_
            refine O.mv rfl rfl rfl rfl rfl ?_
            refine O.sub (((j : Nat) : Int) - 1) rfl rfl rfl rfl rfl rfl (by omega) (by omega) ?_
            refine O.asg rfl rfl rfl rfl rfl ?_
            refine Pl.fin [(0, _), (2, _), (3, _), (9, _), (11, _), (74, _), (95, _), (108, _)] ⟨rfl, rfl, rfl, rfl, rfl, rfl, rfl, rfl, trivial⟩ ?_
            refine Go'.keep [(0, _), (2, _), (3, _), (9, _), (11, _)] ⟨rfl, rfl, rfl, rfl, rfl, trivial⟩ ?_
            refine Go'.inLoop ?_
            exact ih2 (j, Z6) H6 ⟨by simp only; omega, by rw [t2]; exact htk2, by rw [t2]; exact hT6, hF7, hZ7⟩ (by simp only; omega)

end Go.Bt
