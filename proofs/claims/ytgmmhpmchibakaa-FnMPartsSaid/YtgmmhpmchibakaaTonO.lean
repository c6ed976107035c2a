/- Contracts of functions of the program, proved by walking through their code. Conditions: those that each theorem names. -/
import Derived.Test.YtgmmhpmchibakaaTonM
import Derived.Test.YtgmmhpmchibakaaTonG
import Derived.Test.YtgmmhpmchibakaaToZr
namespace Go.Bt
open Go Go.Proofs
set_option maxRecDepth 20000
set_option maxHeartbeats 4000000
set_option linter.unusedVariables false

theorem scan_spec {B : World} {g : FuncId} {us cs : List Value} {go : List (Int × Int) → Bool} {M : Nat} (cb : Cb Try.prog B encKV g us cs go M) (hcall : ∀ (args : Array Value) (w : World), (callFunc g args).run Try.prog w = .ok (.enter g args) w) {tr : Nat} {P : Ps} (hP : PsOk P) (mt : Bool) {H : Mem} {S : Nat → Prop} {l : List (Int × Int)} {Z : Nat → Prop} (hM : MapM H tr P S l) (hT : cb.T [] Z H) (hd : ∀ b, S b → ¬ Z b) (hl : l.length ≤ M) :
    Fn Try.prog B 94 [.pointer (some ⟨tr, 0, none⟩), .func (.func g) us.toArray cs.toArray, .bool mt] H (fun _ H' => CbPost cb [] Z H l H') := by
  obtain ⟨tc, srt, cnt, own, lt, hr⟩ := hM
  rcases hr with ⟨rfl, hptr⟩ | ⟨h, t, hg, hx1, e, hc, hnt, hown⟩
  · skip
    refine fn_of Go.Proofs.Try.func94 rfl Go.Proofs.Try.ntmps94 ?_
    refine (show Go' _ _ _ _ 18 [(0, _), (1, _), (2, _)] [.code _] _ from ?_)
    refine Go'.seq ?_
    refine Go'.seq ?_
    -- region 0 (map.go:268)
    refine Go'.region [(0, 0), (1, 0), (2, 0), (3, 1), (4, 0)] rfl ?_
    refine O.mv rfl rfl rfl rfl rfl ?_
    refine O.nc rfl rfl rfl rfl rfl ?_
    refine O.fa0 (off := 2) rfl rfl rfl rfl ⟨_, _, _, Go.Proofs.Try.underlying105, rfl, rfl, Go.Proofs.Try.sizeOf103⟩ rfl ?_
    refine O.ld rfl rfl rfl (fun w => ⟨Go.Proofs.Try.isAgg103 w, Go.Proofs.Try.sizeOf103 w⟩) rfl hptr ?_
    refine O.isNil rfl rfl rfl rfl Go.Proofs.Try.underlying103 rfl rfl ?_
    refine Pl.fin [(0, _), (1, _), (2, _), (10, _)] ⟨rfl, rfl, rfl, rfl, trivial⟩ ?_
    refine Go'.condT rfl ?_
    refine Go'.ret Go.Proofs.Try.func94 Go.Proofs.Try.results94 (vs := []) trivial ?_
    exact ⟨Z, hT, Fr.refl _ _, fun b hb => .inl hb⟩
  · skip
    have hptr : cl H tr 2 = some (.pointer (some ⟨Gt.p h t, 0, none⟩)) := hc
    refine fn_of Go.Proofs.Try.func94 rfl Go.Proofs.Try.ntmps94 ?_
    refine (show Go' _ _ _ _ 18 [(0, _), (1, _), (2, _)] [.code _] _ from ?_)
    refine Go'.seq ?_
    refine Go'.seq ?_
    -- region 0 (map.go:268)
    refine Go'.region [(0, 0), (1, 0), (2, 0), (3, 1), (4, 0)] rfl ?_
    refine O.mv rfl rfl rfl rfl rfl ?_
    refine O.nc rfl rfl rfl rfl rfl ?_
    refine O.fa0 (off := 2) rfl rfl rfl rfl ⟨_, _, _, Go.Proofs.Try.underlying105, rfl, rfl, Go.Proofs.Try.sizeOf103⟩ rfl ?_
    refine O.ld rfl rfl rfl (fun w => ⟨Go.Proofs.Try.isAgg103 w, Go.Proofs.Try.sizeOf103 w⟩) rfl hptr ?_
    refine O.isNil rfl rfl rfl rfl Go.Proofs.Try.underlying103 rfl rfl ?_
    refine Pl.fin [(0, _), (1, _), (2, _), (10, _)] ⟨rfl, rfl, rfl, rfl, trivial⟩ ?_
    refine Go'.condF rfl ?_
    refine Go'.skip ?_
    -- region 1 (map.go:271)
    refine Go'.region [(0, 0), (1, 0), (2, 0), (3, 0), (4, 0), (5, 0), (6, 2)] rfl ?_
    refine O.mv rfl rfl rfl rfl rfl ?_
    refine O.mv rfl rfl rfl rfl rfl ?_
    refine O.nc rfl rfl rfl rfl rfl ?_
    refine O.fa0 (off := 2) rfl rfl rfl rfl ⟨_, _, _, Go.Proofs.Try.underlying105, rfl, rfl, Go.Proofs.Try.sizeOf103⟩ rfl ?_
    refine O.mv rfl rfl rfl rfl rfl ?_
    refine O.mv rfl rfl rfl rfl rfl ?_
    refine O.call rfl rfl rfl Go.Proofs.Try.call116 rfl (nscan cb hcall hP mt h ⟨tc, hg, hc, fun b o hb => hd b (hown b o hb), hd _ own, hT, by rw [e]; simpa using hl⟩) ?_
    rintro _ H2 ⟨rfl, hpost⟩
    refine ⟨trivial, ?_⟩
    refine Pl.fin [] trivial ?_
    refine Go'.fall Go.Proofs.Try.func94 Go.Proofs.Try.results94 (vs := []) trivial ?_
    rw [e] at hpost
    exact hpost

theorem Scan_spec {B : World} {g : FuncId} {us cs : List Value} {go : List (Int × Int) → Bool} {M : Nat} (cb : Cb Try.prog B encKV g us cs go M) (hcall : ∀ (args : Array Value) (w : World), (callFunc g args).run Try.prog w = .ok (.enter g args) w) {tr : Nat} {P : Ps} (hP : PsOk P) {H : Mem} {S : Nat → Prop} {l : List (Int × Int)} {Z : Nat → Prop} (hM : MapM H tr P S l) (hT : cb.T [] Z H) (hd : ∀ b, S b → ¬ Z b) (hl : l.length ≤ M) :
    Fn Try.prog B 58 [.pointer (some ⟨tr, 0, none⟩), .func (.func g) us.toArray cs.toArray] H (fun _ H' => CbPost cb [] Z H l H') := by
  refine fn_of Go.Proofs.Try.func58 rfl Go.Proofs.Try.ntmps58 ?_
  refine (show Go' _ _ _ _ 7 [(0, _), (1, _)] [.code _] _ from ?_)
  -- region 0 (map.go:260)
  refine Go'.region [(0, 0), (1, 0), (2, 2)] rfl ?_
  refine O.mv rfl rfl rfl rfl rfl ?_
  refine O.mv rfl rfl rfl rfl rfl ?_
  refine O.call rfl rfl rfl Go.Proofs.Try.call94 rfl (scan_spec cb hcall hP false hM hT hd hl) ?_
  rintro _ H2 hpost
  refine ⟨trivial, ?_⟩
  refine Pl.fin [] trivial ?_
  refine Go'.fall Go.Proofs.Try.func58 Go.Proofs.Try.results58 (vs := []) trivial ?_
  exact hpost

end Go.Bt
namespace Go.Bt
open Go Go.Proofs
set_option maxRecDepth 20000
set_option maxHeartbeats 4000000
set_option linter.unusedVariables false

def k2 (x : Int × Int) : Int := x.2
/-- Two lists gathered at once: the keys and the values of the same items. -/
structure KV (H : Mem) (k v : Value) (acc : List (Int × Int)) (Z1 Z2 : Nat → Prop) : Prop where
  a1 : AccN EN Z1 H k (acc.map k1)
  a2 : AccN EN Z2 H v (acc.map k2)
  l1 : ∀ b, Z1 b → b < H.size
  l2 : ∀ b, Z2 b → b < H.size
  d : ∀ b, Z1 b → ¬ Z2 b
theorem KV.fr {H H' : Mem} {k v : Value} {acc : List (Int × Int)} {Z1 Z2 : Nat → Prop} {X : Nat → Nat → Prop} (h : KV H k v acc Z1 Z2) (hf : Fr X H H') (hz : ∀ b o, b < H.size → Z1 b ∨ Z2 b → ¬ X b o) : KV H' k v acc Z1 Z2 :=
  ⟨h.a1.fr hf (fun b o hb h => hz b o hb (.inl h)), h.a2.fr hf (fun b o hb h => hz b o hb (.inr h)), fun b hb => Nat.lt_of_lt_of_le (h.l1 b hb) hf.size, fun b hb => Nat.lt_of_lt_of_le (h.l2 b hb) hf.size, h.d⟩
theorem KV.push {H2 H3 H4 H5 H6 : Mem} {k v k' v' : Value} {acc : List (Int × Int)} {Z1 Z2 : Nat → Prop} {y : Int × Int} (h : KV H2 k v acc Z1 Z2) (f3 : Fr nowhere H2 H3) (a1 : AccN EN (fun b => Z1 b ∨ (b = H3.size ∧ b < H4.size)) H4 k' (acc.map k1 ++ [y.1])) (f4 : Fr (fun b _ => Z1 b) H3 H4)
    (f5 : Fr nowhere H4 H5) (a2 : AccN EN (fun b => Z2 b ∨ (b = H5.size ∧ b < H6.size)) H6 v' (acc.map k2 ++ [y.2])) (f6 : Fr (fun b _ => Z2 b) H5 H6) :
    ∃ Z1' Z2', KV H6 k' v' (acc ++ [y]) Z1' Z2' ∧ Fr (fun b _ => Z1 b ∨ Z2 b) H2 H6 ∧ ∀ b, Z1' b ∨ Z2' b → (Z1 b ∨ Z2 b) ∨ H2.size ≤ b := by
  have s3 := f3.size; have s4 := f4.size; have s5 := f5.size; have s6 := f6.size
  refine ⟨fun b => Z1 b ∨ (b = H3.size ∧ b < H4.size), fun b => Z2 b ∨ (b = H5.size ∧ b < H6.size), ⟨?_, ?_, ?_, ?_, ?_⟩, ?_, ?_⟩
  · rw [List.map_append]
    exact (a1.fr f5 (fun _ _ _ _ => nw)).fr f6 (fun b o hb hz hz2 => hz.elim (fun hz => h.d b hz hz2) (fun hz => by have := h.l2 b hz2; omega))
  · rw [List.map_append]; exact a2
  · exact fun b hb => hb.elim (fun hb => by have := h.l1 b hb; omega) (fun hb => by omega)
  · exact fun b hb => hb.elim (fun hb => by have := h.l2 b hb; omega) (fun hb => hb.2)
  · rintro b (hb | hb) (hb2 | hb2)
    · exact h.d b hb hb2
    · have := h.l1 b hb; omega
    · have := h.l2 b hb2; omega
    · omega
  · exact ((f3.trans' (Z := fun b _ => Z1 b ∨ Z2 b) f4 (fun _ _ _ h => h.elim) (fun b o _ h => .inl h)).trans' f5 (fun _ _ _ h => h) (fun _ _ _ h => h.elim)).trans' f6 (fun _ _ _ h => h) (fun b o _ h => .inr h)
  · rintro b ((hb | hb) | (hb | hb))
    · exact .inl (.inl hb)
    · exact .inr (by omega)
    · exact .inl (.inr hb)
    · exact .inr (by omega)
theorem KV.mid {H2 H3 H4 H5 : Mem} {k v : Value} {acc : List (Int × Int)} {Z1 Z2 : Nat → Prop} (h : KV H2 k v acc Z1 Z2) (f3 : Fr nowhere H2 H3) (f4 : Fr (fun b _ => Z1 b) H3 H4) (f5 : Fr nowhere H4 H5) : AccN EN Z2 H5 v (acc.map k2) :=
  ((h.a2.fr f3 (fun _ _ _ _ => nw)).fr f4 (fun b o _ hz hz1 => h.d b hz1 hz)).fr f5 (fun _ _ _ _ => nw)
def KvQ (H : Mem) (acc : List (Int × Int)) (Z1 Z2 : Nat → Prop) (L : List (Int × Int)) (r : Value) (H' : Mem) : Prop :=
  ∃ k v Z1' Z2', r = .tuple #[k, v] ∧ KV H' k v (acc ++ L) Z1' Z2' ∧ Fr (fun b _ => Z1 b ∨ Z2 b) H H' ∧ ∀ b, Z1' b ∨ Z2' b → (Z1 b ∨ Z2 b) ∨ H.size ≤ b

theorem nkv0 {B : World} {P : Ps} (hP : PsOk P) (mt : Bool) {H : Mem} {tr bp op : Nat} {k v : Value} {acc : List (Int × Int)} {Y1 Y2 : Nat → Prop} {t : Gt EI 0} (tc : TrC H tr P.iso P.mx P.mn) (hg : Gt.Good H P 0 t) (hc : cl H bp op = some (ptr (Gt.p 0 t))) (hk : KV H k v acc Y1 Y2) (hnz : ∀ b o, Gt.af 0 t b o → ¬ (Y1 b ∨ Y2 b)) (hlen : acc.length + (Gt.L 0 t).length ≤ 4294967296) :
    Fn Try.prog B 115 [.pointer (some ⟨tr, 0, none⟩), .pointer (some ⟨bp, op, none⟩), k, v, .bool mt] H (KvQ H acc Y1 Y2 (Gt.L 0 t)) := by
  obtain ⟨gg, X⟩ := t
  have hN : NodeM EI H gg X (.pointer none) := hg.1
  have hxm : X.length ≤ P.mx := hg.2.2.2
  have hx255 := hP.hx
  have hiso : gg.iso = P.iso := hg.2.1
  have hc0 := hN.c0
  rw [hiso] at hc0
  replace hlen : acc.length + X.length ≤ 4294967296 := hlen
  show Fn _ _ _ _ _ (KvQ H acc Y1 Y2 X)
  refine fn_of Go.Proofs.Try.func115 rfl Go.Proofs.Try.ntmps115 ?_
  refine (show Go' _ _ _ _ 123 [(0, _), (1, _), (2, _), (3, _), (4, _)] [.code _] _ from ?_)
  refine Go'.seq ?_
  -- region 0 (map.go:1189)
  refine Go'.region [(0, 0), (1, 0)] rfl ?_
  refine O.asg rfl rfl rfl rfl rfl ?_
  refine O.asg rfl rfl rfl rfl rfl ?_
  refine Pl.fin [(0, _), (1, _), (2, _), (3, _), (4, _), (10, _), (11, _)] ⟨rfl, rfl, rfl, rfl, rfl, rfl, rfl, trivial⟩ ?_
  refine Go'.seq ?_
  -- region 1 (map.go:1192)
  refine Go'.region [(0, 0), (1, 0), (2, 0), (3, 2), (4, 0)] rfl ?_
  refine O.mv rfl rfl rfl rfl rfl ?_
  refine O.mv rfl rfl rfl rfl rfl ?_
  refine O.mv rfl rfl rfl rfl rfl ?_
  refine O.callQ rfl rfl rfl Go.Proofs.Try.call85 rfl (isoLoad_spec mt hc hc0 tc.iso) trivial ?_
  refine O.asg rfl rfl rfl rfl rfl ?_
  refine Pl.fin [(0, _), (2, _), (3, _), (4, _), (10, _), (11, _), (12, _)] ⟨rfl, rfl, rfl, rfl, rfl, rfl, rfl, trivial⟩ ?_
  refine Go'.seq ?_
  refine Go'.seq ?_
  unfold ptr
  -- region 2 (map.go:1193)
  refine Go'.region [(0, 0), (1, 2)] rfl ?_
  refine O.mv rfl rfl rfl rfl rfl ?_
  refine O.callQ rfl rfl rfl Go.Proofs.Try.call86 rfl (leaf_spec hN.c3) trivial ?_
  refine Pl.fin [(0, _), (2, _), (3, _), (4, _), (10, _), (11, _), (12, _), (20, _)] ⟨rfl, rfl, rfl, rfl, rfl, rfl, rfl, rfl, trivial⟩ ?_
  refine Go'.condT rfl ?_
  refine Go'.seq ?_
  refine Go'.seq ?_
  -- region 3 (map.go:1194)
  refine Go'.region [(0, 0)] rfl ?_
  refine O.asg rfl rfl rfl rfl rfl ?_
  refine Pl.fin [(0, _), (2, _), (3, _), (4, _), (10, _), (11, _), (12, _), (13, _)] ⟨rfl, rfl, rfl, rfl, rfl, rfl, rfl, rfl, trivial⟩ ?_
  refine Go'.block ?_
  refine Go'.loop ?_
  refine Go'.keep [(2, _), (3, _), (12, _), (13, _)] ⟨rfl, rfl, rfl, rfl, trivial⟩ ?_
  refine Go'.ind (σ := Nat × Value × Value × (Nat → Prop) × (Nat → Prop)) (fun s => X.length - s.1) (fun s H' => s.1 ≤ X.length ∧ KV H' s.2.1 s.2.2.1 (acc ++ X.take s.1) s.2.2.2.1 s.2.2.2.2 ∧ Fr (fun b _ => Y1 b ∨ Y2 b) H H' ∧ ∀ b, s.2.2.2.1 b ∨ s.2.2.2.2 b → (Y1 b ∨ Y2 b) ∨ H.size ≤ b)
    (fun s => [(2, s.2.1), (3, s.2.2.1), (12, .pointer (some ⟨gg.p, 0, none⟩)), (13, .int .i64 (s.1 : Int))]) (0, k, v, Y1, Y2) ⟨Nat.zero_le _, by rw [List.take_zero, List.append_nil]; exact hk, Fr.refl _ _, fun b hb => .inl hb⟩ rfl ?_
  clear hk tc
  rintro ⟨j, kv, vv, Z1, Z2⟩ H2 ⟨hj, hk, hF, hZ⟩ ih
  simp only at hj hk hZ
  have hsz := hF.size
  replace hN := NodeM.fr EI hN hF (fun x y hxy hz => hnz x y hxy hz)
  refine Go'.seq ?_
  refine Go'.seq ?_
  by_cases hlt : j < X.length
  · skip
    obtain ⟨y, hy⟩ : ∃ y, X[j]? = some y := ⟨X[j], List.getElem?_eq_getElem hlt⟩
    have hd : acc ++ X.take (j + 1) = acc ++ X.take j ++ [y] := by rw [List.take_add_one, hy, List.append_assoc]; rfl
    have hal : (acc ++ X.take j).length = acc.length + j := by rw [List.length_append, List.length_take]; omega
    have hltN : ∀ b o, ncl EI gg b o → b < H.size := fun b o hb => by
      have := hg.lt (show Gt.af 0 ((gg, X) : Gt EI 0) b o from hb); exact this
    have hnz2 : ∀ b o, ncl EI gg b o → ¬ (Z1 b ∨ Z2 b) := fun b o hb hz => (hZ b hz).elim (hnz b o hb) (fun h => by have := hltN b o hb; omega)
    -- region 4 (map.go:1194)
    refine Go'.region [(0, 0), (1, 0), (2, 0), (3, 0), (4, 1), (5, 0), (6, 0)] rfl ?_
    refine O.mv rfl rfl rfl rfl rfl ?_
    refine O.mv rfl rfl rfl rfl rfl ?_
    refine O.nc rfl rfl rfl rfl rfl ?_
    refine O.fa0 (off := 2) rfl rfl rfl rfl ⟨_, _, _, Go.Proofs.Try.underlying111, rfl, rfl, Go.Proofs.Try.sizeOf108⟩ rfl ?_
    refine O.ld rfl rfl rfl (fun w => ⟨Go.Proofs.Try.isAgg108 w, Go.Proofs.Try.sizeOf108 w⟩) rfl hN.c2 ?_
    refine O.len rfl rfl rfl rfl Go.Proofs.Try.underlying108 rfl ?_
    refine O.cmp rfl rfl rfl rfl rfl rfl (lssT (by omega)) ?_
    refine Pl.fin [(2, _), (3, _), (12, _), (13, _), (27, _)] ⟨rfl, rfl, rfl, rfl, rfl, trivial⟩ ?_
    refine Go'.condT rfl ?_
    refine Go'.skip ?_
    refine Go'.seq ?_
    refine Go'.block ?_
    refine Go'.seq ?_
    -- region 6 (map.go:1195)
    refine Go'.region [(0, 0), (1, 0), (2, 0), (3, 0), (4, 1), (5, 0), (6, 0), (7, 0), (8, 1), (9, 2), (10, 2), (11, 0)] rfl ?_
    refine O.mv rfl rfl rfl rfl rfl ?_
    refine O.mv rfl rfl rfl rfl rfl ?_
    refine O.nc rfl rfl rfl rfl rfl ?_
    refine O.fa0 (off := 2) rfl rfl rfl rfl ⟨_, _, _, Go.Proofs.Try.underlying111, rfl, rfl, Go.Proofs.Try.sizeOf108⟩ rfl ?_
    refine O.ld rfl rfl rfl (fun w => ⟨Go.Proofs.Try.isAgg108 w, Go.Proofs.Try.sizeOf108 w⟩) rfl hN.c2 ?_
    refine O.mv rfl rfl rfl rfl rfl ?_
    refine O.ix (j := j) rfl rfl rfl rfl Go.Proofs.Try.underlying108 Go.Proofs.Try.sizeOf100 rfl rfl (by omega) (by omega) ?_
    refine O.fa (off := 1) rfl rfl rfl rfl ⟨_, _, _, Go.Proofs.Try.underlying100, rfl, rfl, Go.Proofs.Try.sizeOf3⟩ rfl ?_
    refine O.ld rfl rfl rfl (fun w => ⟨Go.Proofs.Try.isAgg3 w, Go.Proofs.Try.sizeOf3 w⟩) rfl (hN.sl.cell hy (j := 1) rfl) ?_
    refine O.bsl (cs := (EN.enc y.1)) rfl rfl rfl ⟨Go.Proofs.Try.underlying39, Go.Proofs.Try.sizeOf3, Go.Proofs.Try.zeroValue3, ⟨_, Go.Proofs.Try.typeInfo3, rfl⟩, rfl, by decide, by decide⟩ rfl (by decide) (by kernel_rfl) ?_
    intro H3 M3
    have f3 := M3.fr nowhere
    have hA3 := hk.a1.fr f3 (fun _ _ _ _ => nw)
    have hv3 : InS EN H3 (.slice (some ⟨H2.size, 0, none⟩) 1 1) [y.1] := .inl ⟨_, _, _, rfl, Nat.le_refl _, M3.rd _ [] (by simp [row, EN])⟩
    refine ⟨trivial, ?_⟩
    refine O.appI (E := EN) rfl rfl rfl ⟨Go.Proofs.Try.underlying39, Go.Proofs.Try.sizeOf3, Go.Proofs.Try.zeroValue3, ⟨_, Go.Proofs.Try.typeInfo3, rfl⟩, rfl, by decide, by decide⟩ rfl hA3 rfl hv3 (Nat.le_trans (Nat.mul_le_mul_left _ (Nat.le_of_ble_eq_true (n := _) (m := 4096) rfl)) (by rw [List.length_map, hal, List.length_singleton]; omega)) (by rw [List.length_map, hal, List.length_singleton]; omega) ?_
    intro v4 H4 hA4 hF4 hs4
    have f34 : Fr (fun b _ => Z1 b) H2 H4 := f3.trans' hF4 (fun _ _ _ h => h.elim) (fun _ _ _ h => h)
    replace hN := NodeM.fr EI hN f34 (fun x y hxy hz => hnz2 x y hxy (.inl hz))
    refine ⟨trivial, ?_⟩
    refine O.asg rfl rfl rfl rfl rfl ?_
    refine Pl.fin [(2, _), (3, _), (12, _), (13, _), (27, _)] ⟨rfl, rfl, rfl, rfl, rfl, trivial⟩ ?_
    -- region 7 (map.go:1196)
    refine Go'.region [(0, 0), (1, 0), (2, 0), (3, 0), (4, 1), (5, 0), (6, 0), (7, 0), (8, 1), (9, 2), (10, 2), (11, 0)] rfl ?_
    refine O.mv rfl rfl rfl rfl rfl ?_
    refine O.mv rfl rfl rfl rfl rfl ?_
    refine O.nc rfl rfl rfl rfl rfl ?_
    refine O.fa0 (off := 2) rfl rfl rfl rfl ⟨_, _, _, Go.Proofs.Try.underlying111, rfl, rfl, Go.Proofs.Try.sizeOf108⟩ rfl ?_
    refine O.ld rfl rfl rfl (fun w => ⟨Go.Proofs.Try.isAgg108 w, Go.Proofs.Try.sizeOf108 w⟩) rfl hN.c2 ?_
    refine O.mv rfl rfl rfl rfl rfl ?_
    refine O.ix (j := j) rfl rfl rfl rfl Go.Proofs.Try.underlying108 Go.Proofs.Try.sizeOf100 rfl rfl (by omega) (by omega) ?_
    refine O.faz rfl rfl rfl rfl ⟨_, _, _, Go.Proofs.Try.underlying100, rfl, rfl, Go.Proofs.Try.sizeOf3⟩ rfl ?_
    refine O.ld rfl rfl rfl (fun w => ⟨Go.Proofs.Try.isAgg3 w, Go.Proofs.Try.sizeOf3 w⟩) rfl (hN.sl.cell hy (j := 0) rfl) ?_
    refine O.bsl (cs := (EN.enc y.2)) rfl rfl rfl ⟨Go.Proofs.Try.underlying39, Go.Proofs.Try.sizeOf3, Go.Proofs.Try.zeroValue3, ⟨_, Go.Proofs.Try.typeInfo3, rfl⟩, rfl, by decide, by decide⟩ rfl (by decide) (by kernel_rfl) ?_
    intro H5 M5
    have f5 := M5.fr nowhere
    have hA5 := hk.mid f3 hF4 f5
    have hv5 : InS EN H5 (.slice (some ⟨H4.size, 0, none⟩) 1 1) [y.2] := .inl ⟨_, _, _, rfl, Nat.le_refl _, M5.rd _ [] (by simp [row, EN])⟩
    refine ⟨trivial, ?_⟩
    refine O.appI (E := EN) rfl rfl rfl ⟨Go.Proofs.Try.underlying39, Go.Proofs.Try.sizeOf3, Go.Proofs.Try.zeroValue3, ⟨_, Go.Proofs.Try.typeInfo3, rfl⟩, rfl, by decide, by decide⟩ rfl hA5 rfl hv5 (Nat.le_trans (Nat.mul_le_mul_left _ (Nat.le_of_ble_eq_true (n := _) (m := 4096) rfl)) (by rw [List.length_map, hal, List.length_singleton]; omega)) (by rw [List.length_map, hal, List.length_singleton]; omega) ?_
    intro v6 H6 hA6 hF6 hs6
    obtain ⟨Z1b, Z2b, hkb, fb, hzb⟩ := hk.push f3 hA4 hF4 f5 hA6 hF6
    refine ⟨trivial, ?_⟩
    refine O.asg rfl rfl rfl rfl rfl ?_
    refine Pl.fin [(2, _), (3, _), (12, _), (13, _), (27, _)] ⟨rfl, rfl, rfl, rfl, rfl, trivial⟩ ?_
    refine Go'.inBlock ?_
    -- region 5 (map.go:1194)
    refine Go'.region [(0, 0), (1, 0), (2, 0)] rfl ?_
    refine O.mv rfl rfl rfl rfl rfl ?_
    refine O.add (((j + 1 : Nat) : Int)) rfl rfl rfl rfl rfl rfl (by omega) (by omega) ?_
    refine O.asg rfl rfl rfl rfl rfl ?_
    refine Pl.fin [(2, _), (3, _), (12, _), (13, _), (27, _)] ⟨rfl, rfl, rfl, rfl, rfl, trivial⟩ ?_
    refine Go'.keep [(2, _), (3, _), (12, _), (13, _)] ⟨rfl, rfl, rfl, rfl, trivial⟩ ?_
    refine Go'.inLoop ?_
    exact ih (j + 1, v4, v6, Z1b, Z2b) H6 ⟨hlt, by rw [hd]; exact hkb, hF.trans' fb (fun _ _ _ h => h) (fun b o hb hz => (hZ b hz).elim id (fun h => by omega)), fun b hb => (hzb b hb).elim (fun h => hZ b h) (fun h => .inr (by omega))⟩ (by simp only; omega)
  · skip
    obtain rfl : j = X.length := by omega
    rw [List.take_length] at hk
    -- region 4 (map.go:1194)
    refine Go'.region [(0, 0), (1, 0), (2, 0), (3, 0), (4, 1), (5, 0), (6, 0)] rfl ?_
    refine O.mv rfl rfl rfl rfl rfl ?_
    refine O.mv rfl rfl rfl rfl rfl ?_
    refine O.nc rfl rfl rfl rfl rfl ?_
    refine O.fa0 (off := 2) rfl rfl rfl rfl ⟨_, _, _, Go.Proofs.Try.underlying111, rfl, rfl, Go.Proofs.Try.sizeOf108⟩ rfl ?_
    refine O.ld rfl rfl rfl (fun w => ⟨Go.Proofs.Try.isAgg108 w, Go.Proofs.Try.sizeOf108 w⟩) rfl hN.c2 ?_
    refine O.len rfl rfl rfl rfl Go.Proofs.Try.underlying108 rfl ?_
    refine O.cmp rfl rfl rfl rfl rfl rfl (lssF (by omega)) ?_
    refine Pl.fin [(2, _), (3, _), (12, _), (13, _), (27, _)] ⟨rfl, rfl, rfl, rfl, rfl, trivial⟩ ?_
    refine Go'.condF rfl ?_
    refine Go'.exit rfl ?_
    refine Go'.seq ?_
    -- region 8 (map.go:1198)
    refine Go'.region [(0, 0), (1, 0), (2, 0), (3, 0)] rfl ?_
    refine O.mv rfl rfl rfl rfl rfl ?_
    refine O.mv rfl rfl rfl rfl rfl ?_
    refine O.asg rfl rfl rfl rfl rfl ?_
    refine O.asg rfl rfl rfl rfl rfl ?_
    refine Pl.fin [(2, _), (3, _), (10, _), (11, _), (12, _)] ⟨rfl, rfl, rfl, rfl, rfl, trivial⟩ ?_
    refine Go'.ret (vs := [_, _]) Go.Proofs.Try.func115 Go.Proofs.Try.results115 ⟨rfl, rfl, trivial⟩ ?_
    exact ⟨kv, vv, Z1, Z2, rfl, hk, hF, hZ⟩

theorem nkv {B : World} {P : Ps} (hP : PsOk P) (mt : Bool) {tr : Nat} : ∀ (h : Nat) {H : Mem} {bp op : Nat} {k v : Value} {acc : List (Int × Int)} {Y1 Y2 : Nat → Prop} {t : Gt EI h}, TrC H tr P.iso P.mx P.mn → Gt.Good H P h t → cl H bp op = some (ptr (Gt.p h t)) → KV H k v acc Y1 Y2 → (∀ b o, Gt.af h t b o → ¬ (Y1 b ∨ Y2 b)) → ¬ (Y1 tr ∨ Y2 tr) → acc.length + (Gt.L h t).length ≤ 4294967296 →
    Fn Try.prog B 115 [.pointer (some ⟨tr, 0, none⟩), .pointer (some ⟨bp, op, none⟩), k, v, .bool mt] H (KvQ H acc Y1 Y2 (Gt.L h t))
  | 0, _, _, _, _, _, _, _, _, _, tc, hg, hc, hk, hnz, hnt, hlen => nkv0 hP mt tc hg hc hk hnz hlen
  | h + 1, H, bp, op, k, v, acc, Y1, Y2, (g, X, K), tc, hg, hc, hk, hnz, hnt, hlen => by
    have ih := @nkv B P hP mt tr h
    have htl : tr < H.size := cl_lt tc.iso
    have hI : Inn H P h g X ((Gt.ps h K).map some) K := hg.inn
    have hKl : K.length = X.length + 1 := hg.2.2.2.2.2.1
    have hxm : X.length ≤ P.mx := hg.2.2.2.2.1
    have hx255 := hP.hx
    have hc0 := hI.n.c0
    rw [hI.iso] at hc0
    have hKL : (K.map (Gt.L h)).length = X.length + 1 := by rw [List.length_map]; exact hKl
    have hol : ((Gt.ps h K).map some).length = X.length + 1 := by rw [List.length_map, Gt.ps, List.length_map]; exact hKl
    replace hlen : acc.length + (Pl.inter X (K.map (Gt.L h))).length ≤ 4294967296 := hlen
    have hlt : ∀ x y, innc h g K x y → x < H.size := fun x y hb => hI.lt hb
    have hcat : ∀ {Z5 Z6 Z7 Z8 : Nat → Prop} {H2 H3 : Mem}, Fr (fun x _ => Y1 x ∨ Y2 x) H H2 → (∀ b, Z5 b ∨ Z6 b → (Y1 b ∨ Y2 b) ∨ H.size ≤ b) → Fr (fun x _ => Z5 x ∨ Z6 x) H2 H3 → (∀ b, Z7 b ∨ Z8 b → (Z5 b ∨ Z6 b) ∨ H2.size ≤ b) → Fr (fun x _ => Y1 x ∨ Y2 x) H H3 ∧ ∀ b, Z7 b ∨ Z8 b → (Y1 b ∨ Y2 b) ∨ H.size ≤ b := by
      intro Z5 Z6 Z7 Z8 H2 H3 hF hZ1 hF2 hZ2
      have := hF.size
      exact ⟨hF.trans' hF2 (fun _ _ _ h => h) (fun b o hb hz => (hZ1 b hz).elim id (fun h => by omega)), fun b hb => (hZ2 b hb).elim (hZ1 b) (fun h => .inr (by omega))⟩
    have hin : ∀ H', Fr (fun x _ => Y1 x ∨ Y2 x) H H' → Inn H' P h g X ((Gt.ps h K).map some) K ∧ TrC H' tr P.iso P.mx P.mn := fun H' hf => ⟨hI.fr hf (fun x y hxy hz => hnz x y hxy hz), tc.fr hf (fun _ _ _ hz => hnt hz)⟩
    have hkz : ∀ {Z5 Z6 : Nat → Prop}, (∀ b, Z5 b ∨ Z6 b → (Y1 b ∨ Y2 b) ∨ H.size ≤ b) → (∀ b o, innc h g K b o → ¬ (Z5 b ∨ Z6 b)) ∧ ¬ (Z5 tr ∨ Z6 tr) := fun hZ1 => ⟨fun b o hb hz => (hZ1 b hz).elim (hnz b o hb) (fun hz => by have := hlt b o hb; omega), fun hz => (hZ1 tr hz).elim hnt (fun hz => by omega)⟩
    show Fn _ _ _ _ _ (KvQ H acc Y1 Y2 (Pl.inter X (K.map (Gt.L h))))
    refine fn_of Go.Proofs.Try.func115 rfl Go.Proofs.Try.ntmps115 ?_
    refine (show Go' _ _ _ _ 123 [(0, _), (1, _), (2, _), (3, _), (4, _)] [.code _] _ from ?_)
    refine Go'.seq ?_
    -- region 0 (map.go:1189)
    refine Go'.region [(0, 0), (1, 0)] rfl ?_
    refine O.asg rfl rfl rfl rfl rfl ?_
    refine O.asg rfl rfl rfl rfl rfl ?_
    refine Pl.fin [(0, _), (1, _), (2, _), (3, _), (4, _), (10, _), (11, _)] ⟨rfl, rfl, rfl, rfl, rfl, rfl, rfl, trivial⟩ ?_
    refine Go'.seq ?_
    -- region 1 (map.go:1192)
    refine Go'.region [(0, 0), (1, 0), (2, 0), (3, 2), (4, 0)] rfl ?_
    refine O.mv rfl rfl rfl rfl rfl ?_
    refine O.mv rfl rfl rfl rfl rfl ?_
    refine O.mv rfl rfl rfl rfl rfl ?_
    refine O.callQ rfl rfl rfl Go.Proofs.Try.call85 rfl (isoLoad_spec mt hc hc0 tc.iso) trivial ?_
    refine O.asg rfl rfl rfl rfl rfl ?_
    refine Pl.fin [(0, _), (2, _), (3, _), (4, _), (10, _), (11, _), (12, _)] ⟨rfl, rfl, rfl, rfl, rfl, rfl, rfl, trivial⟩ ?_
    refine Go'.seq ?_
    refine Go'.seq ?_
    unfold ptr
    -- region 2 (map.go:1193)
    refine Go'.region [(0, 0), (1, 2)] rfl ?_
    refine O.mv rfl rfl rfl rfl rfl ?_
    refine O.callQ rfl rfl rfl Go.Proofs.Try.call86 rfl (leaf_spec hI.n.c3) trivial ?_
    refine Pl.fin [(0, _), (2, _), (3, _), (4, _), (10, _), (11, _), (12, _), (20, _)] ⟨rfl, rfl, rfl, rfl, rfl, rfl, rfl, rfl, trivial⟩ ?_
    refine Go'.condF rfl ?_
    refine Go'.skip ?_
    refine Go'.seq ?_
    refine Go'.seq ?_
    -- region 9 (map.go:1200)
    refine Go'.region [(0, 0)] rfl ?_
    refine O.asg rfl rfl rfl rfl rfl ?_
    refine Pl.fin [(0, _), (2, _), (3, _), (4, _), (10, _), (11, _), (12, _), (14, _)] ⟨rfl, rfl, rfl, rfl, rfl, rfl, rfl, rfl, trivial⟩ ?_
    refine Go'.block ?_
    refine Go'.loop ?_
    refine Go'.keep [(0, _), (2, _), (3, _), (4, _), (12, _), (14, _)] ⟨rfl, rfl, rfl, rfl, rfl, rfl, trivial⟩ ?_
    refine Go'.ind (σ := Nat × Value × Value × (Nat → Prop) × (Nat → Prop)) (fun s => X.length - s.1) (fun s H' => s.1 ≤ X.length ∧ KV H' s.2.1 s.2.2.1 (acc ++ Pl.pre (X.take s.1) ((K.map (Gt.L h)).take s.1)) s.2.2.2.1 s.2.2.2.2 ∧ Fr (fun b _ => Y1 b ∨ Y2 b) H H' ∧ ∀ b, s.2.2.2.1 b ∨ s.2.2.2.2 b → (Y1 b ∨ Y2 b) ∨ H.size ≤ b)
      (fun s => [(0, .pointer (some ⟨tr, 0, none⟩)), (2, s.2.1), (3, s.2.2.1), (4, .bool mt), (12, .pointer (some ⟨g.p, 0, none⟩)), (14, .int .i64 (s.1 : Int))]) (0, k, v, Y1, Y2) ⟨Nat.zero_le _, by rw [List.take_zero]; show KV H k v (acc ++ []) Y1 Y2; rw [List.append_nil]; exact hk, Fr.refl _ _, fun b hb => .inl hb⟩ rfl ?_
    clear hk
    rintro ⟨j, kv, vv, Z1, Z2⟩ H2 ⟨hj, hk, hF, hZ⟩ ih2
    simp only at hj hk hZ
    have hsz := hF.size
    obtain ⟨hI2, tc2⟩ := hin H2 hF
    obtain ⟨hz1, hz2⟩ := hkz hZ
    have hpl := Pl.pre_len X (K.map (Gt.L h)) hKL j hj
    have hal : (acc ++ Pl.pre (X.take j) ((K.map (Gt.L h)).take j)).length = acc.length + (Pl.pre (X.take j) ((K.map (Gt.L h)).take j)).length := List.length_append
    obtain ⟨c, hkk⟩ : ∃ c, K[j]? = some c := ⟨K[j], List.getElem?_eq_getElem (by omega)⟩
    have hkL : (K.map (Gt.L h))[j]? = some (Gt.L h c) := by rw [List.getElem?_map, hkk]; rfl
    have hkK : c ∈ K := List.mem_of_getElem? hkk
    have hok : ((Gt.ps h K).map some)[j]? = some (some (Gt.p h c)) := by rw [Gt.ps, List.map_map, List.getElem?_map, hkk]; rfl
    have hcel := hI2.k.at hok
    unfold ptr at hcel
    refine Go'.seq ?_
    refine Go'.seq ?_
    by_cases hlt2 : j < X.length
    · skip
      obtain ⟨y, hy⟩ : ∃ y, X[j]? = some y := ⟨X[j], List.getElem?_eq_getElem hlt2⟩
      have hps := Pl.pre_succ hy hkL
      have hpl2 := Pl.pre_len X (K.map (Gt.L h)) hKL (j + 1) hlt2
      rw [hps, List.length_append, List.length_append, List.length_singleton] at hpl2
      -- region 10 (map.go:1200)
      refine Go'.region [(0, 0), (1, 0), (2, 0), (3, 0), (4, 1), (5, 0), (6, 0)] rfl ?_
      refine O.mv rfl rfl rfl rfl rfl ?_
      refine O.mv rfl rfl rfl rfl rfl ?_
      refine O.nc rfl rfl rfl rfl rfl ?_
      refine O.fa0 (off := 2) rfl rfl rfl rfl ⟨_, _, _, Go.Proofs.Try.underlying111, rfl, rfl, Go.Proofs.Try.sizeOf108⟩ rfl ?_
      refine O.ld rfl rfl rfl (fun w => ⟨Go.Proofs.Try.isAgg108 w, Go.Proofs.Try.sizeOf108 w⟩) rfl hI2.n.c2 ?_
      refine O.len rfl rfl rfl rfl Go.Proofs.Try.underlying108 rfl ?_
      refine O.cmp rfl rfl rfl rfl rfl rfl (lssT (by omega)) ?_
      refine Pl.fin [(0, _), (2, _), (3, _), (4, _), (12, _), (14, _), (60, _)] ⟨rfl, rfl, rfl, rfl, rfl, rfl, rfl, trivial⟩ ?_
      refine Go'.condT rfl ?_
      refine Go'.skip ?_
      refine Go'.seq ?_
      refine Go'.block ?_
      refine Go'.seq ?_
      -- region 12 (map.go:1201)
      refine Go'.region [(0, 0), (1, 0), (2, 0), (3, 0), (4, 1), (5, 0), (6, 1), (7, 0), (8, 0), (9, 0), (10, 0), (11, 0), (12, 2), (13, 0), (14, 0), (15, 0), (16, 0), (17, 0)] rfl ?_
      refine O.mv rfl rfl rfl rfl rfl ?_
      refine O.mv rfl rfl rfl rfl rfl ?_
      refine O.nc rfl rfl rfl rfl rfl ?_
      refine O.fa0 (off := 3) rfl rfl rfl rfl ⟨_, _, _, Go.Proofs.Try.underlying111, rfl, rfl, Go.Proofs.Try.sizeOf109⟩ rfl ?_
      refine O.ld rfl rfl rfl (fun w => ⟨Go.Proofs.Try.isAgg109 w, Go.Proofs.Try.sizeOf109 w⟩) rfl hI2.n.c3 ?_
      refine O.nc rfl rfl rfl rfl rfl ?_
      refine O.ld rfl rfl rfl (fun w => ⟨Go.Proofs.Try.isAgg112 w, Go.Proofs.Try.sizeOf112 w⟩) rfl hI2.k.c ?_
      refine O.mv rfl rfl rfl rfl rfl ?_
      refine O.ix (j := j) rfl rfl rfl rfl Go.Proofs.Try.underlying112 Go.Proofs.Try.sizeOf103 rfl rfl (by omega) (by omega) ?_
      refine O.mv rfl rfl rfl rfl rfl ?_
      refine O.mv rfl rfl rfl rfl rfl ?_
      refine O.mv rfl rfl rfl rfl rfl ?_
      refine O.call rfl rfl rfl Go.Proofs.Try.call115 rfl (ih tc2 (hI2.c.1 c hkK).1 hcel hk (fun b o hb => hz1 b o (.inr (.inr ⟨c, hkK, hb⟩))) hz2 (by rw [hal]; omega)) ?_
      rintro _ H7 ⟨k7, v7, Z3, Z4, rfl, hk7, hF7, hZ7⟩
      obtain ⟨hF8, hZ8⟩ := hcat hF hZ hF7 hZ7
      have hsz8 := hF8.size
      refine ⟨trivial, ?_⟩
      refine O.mv rfl rfl rfl rfl rfl ?_
      refine O.ext rfl rfl rfl rfl rfl rfl ?_
      refine O.ext rfl rfl rfl rfl rfl rfl ?_
      refine O.asg rfl rfl rfl rfl rfl ?_
      refine O.asg rfl rfl rfl rfl rfl ?_
      refine Pl.fin [(0, _), (2, _), (3, _), (4, _), (12, _), (14, _), (60, _)] ⟨rfl, rfl, rfl, rfl, rfl, rfl, rfl, trivial⟩ ?_
      refine Go'.seq ?_
      obtain ⟨hI3, tc3⟩ := hin H7 hF8
      obtain ⟨hz3, hz4⟩ := hkz hZ8
      have hal4 : (acc ++ Pl.pre (X.take j) ((K.map (Gt.L h)).take j) ++ Gt.L h c).length = acc.length + (Pl.pre (X.take j) ((K.map (Gt.L h)).take j)).length + (Gt.L h c).length := by rw [List.length_append, hal]
      -- region 13 (map.go:1202)
      refine Go'.region [(0, 0), (1, 0), (2, 0), (3, 0), (4, 1), (5, 0), (6, 0), (7, 0), (8, 1), (9, 2), (10, 2), (11, 0)] rfl ?_
      refine O.mv rfl rfl rfl rfl rfl ?_
      refine O.mv rfl rfl rfl rfl rfl ?_
      refine O.nc rfl rfl rfl rfl rfl ?_
      refine O.fa0 (off := 2) rfl rfl rfl rfl ⟨_, _, _, Go.Proofs.Try.underlying111, rfl, rfl, Go.Proofs.Try.sizeOf108⟩ rfl ?_
      refine O.ld rfl rfl rfl (fun w => ⟨Go.Proofs.Try.isAgg108 w, Go.Proofs.Try.sizeOf108 w⟩) rfl hI3.n.c2 ?_
      refine O.mv rfl rfl rfl rfl rfl ?_
      refine O.ix (j := j) rfl rfl rfl rfl Go.Proofs.Try.underlying108 Go.Proofs.Try.sizeOf100 rfl rfl (by omega) (by omega) ?_
      refine O.fa (off := 1) rfl rfl rfl rfl ⟨_, _, _, Go.Proofs.Try.underlying100, rfl, rfl, Go.Proofs.Try.sizeOf3⟩ rfl ?_
      refine O.ld rfl rfl rfl (fun w => ⟨Go.Proofs.Try.isAgg3 w, Go.Proofs.Try.sizeOf3 w⟩) rfl (hI3.n.sl.cell hy (j := 1) rfl) ?_
      refine O.bsl (cs := (EN.enc y.1)) rfl rfl rfl ⟨Go.Proofs.Try.underlying39, Go.Proofs.Try.sizeOf3, Go.Proofs.Try.zeroValue3, ⟨_, Go.Proofs.Try.typeInfo3, rfl⟩, rfl, by decide, by decide⟩ rfl (by decide) (by kernel_rfl) ?_
      intro H3 M3
      have f3 := M3.fr nowhere
      have hA3 := hk7.a1.fr f3 (fun _ _ _ _ => nw)
      have hv3 : InS EN H3 (.slice (some ⟨H7.size, 0, none⟩) 1 1) [y.1] := .inl ⟨_, _, _, rfl, Nat.le_refl _, M3.rd _ [] (by simp [row, EN])⟩
      refine ⟨trivial, ?_⟩
      refine O.appI (E := EN) rfl rfl rfl ⟨Go.Proofs.Try.underlying39, Go.Proofs.Try.sizeOf3, Go.Proofs.Try.zeroValue3, ⟨_, Go.Proofs.Try.typeInfo3, rfl⟩, rfl, by decide, by decide⟩ rfl hA3 rfl hv3 (Nat.le_trans (Nat.mul_le_mul_left _ (Nat.le_of_ble_eq_true (n := _) (m := 4096) rfl)) (by rw [List.length_map, hal4, List.length_singleton]; omega)) (by rw [List.length_map, hal4, List.length_singleton]; omega) ?_
      intro v4 H4 hA4 hF4 hs4
      have f34 : Fr (fun b _ => Z3 b) H7 H4 := f3.trans' hF4 (fun _ _ _ h => h.elim) (fun _ _ _ h => h)
      replace hI3 := hI3.fr f34 (fun x y hxy hz => hz3 x y hxy (.inl hz))
      refine ⟨trivial, ?_⟩
      refine O.asg rfl rfl rfl rfl rfl ?_
      refine Pl.fin [(0, _), (2, _), (3, _), (4, _), (12, _), (14, _), (60, _)] ⟨rfl, rfl, rfl, rfl, rfl, rfl, rfl, trivial⟩ ?_
      -- region 14 (map.go:1203)
      refine Go'.region [(0, 0), (1, 0), (2, 0), (3, 0), (4, 1), (5, 0), (6, 0), (7, 0), (8, 1), (9, 2), (10, 2), (11, 0)] rfl ?_
      refine O.mv rfl rfl rfl rfl rfl ?_
      refine O.mv rfl rfl rfl rfl rfl ?_
      refine O.nc rfl rfl rfl rfl rfl ?_
      refine O.fa0 (off := 2) rfl rfl rfl rfl ⟨_, _, _, Go.Proofs.Try.underlying111, rfl, rfl, Go.Proofs.Try.sizeOf108⟩ rfl ?_
      refine O.ld rfl rfl rfl (fun w => ⟨Go.Proofs.Try.isAgg108 w, Go.Proofs.Try.sizeOf108 w⟩) rfl hI3.n.c2 ?_
      refine O.mv rfl rfl rfl rfl rfl ?_
      refine O.ix (j := j) rfl rfl rfl rfl Go.Proofs.Try.underlying108 Go.Proofs.Try.sizeOf100 rfl rfl (by omega) (by omega) ?_
      refine O.faz rfl rfl rfl rfl ⟨_, _, _, Go.Proofs.Try.underlying100, rfl, rfl, Go.Proofs.Try.sizeOf3⟩ rfl ?_
      refine O.ld rfl rfl rfl (fun w => ⟨Go.Proofs.Try.isAgg3 w, Go.Proofs.Try.sizeOf3 w⟩) rfl (hI3.n.sl.cell hy (j := 0) rfl) ?_
      refine O.bsl (cs := (EN.enc y.2)) rfl rfl rfl ⟨Go.Proofs.Try.underlying39, Go.Proofs.Try.sizeOf3, Go.Proofs.Try.zeroValue3, ⟨_, Go.Proofs.Try.typeInfo3, rfl⟩, rfl, by decide, by decide⟩ rfl (by decide) (by kernel_rfl) ?_
      intro H5 M5
      have f5 := M5.fr nowhere
      have hA5 := hk7.mid f3 hF4 f5
      have hv5 : InS EN H5 (.slice (some ⟨H4.size, 0, none⟩) 1 1) [y.2] := .inl ⟨_, _, _, rfl, Nat.le_refl _, M5.rd _ [] (by simp [row, EN])⟩
      refine ⟨trivial, ?_⟩
      refine O.appI (E := EN) rfl rfl rfl ⟨Go.Proofs.Try.underlying39, Go.Proofs.Try.sizeOf3, Go.Proofs.Try.zeroValue3, ⟨_, Go.Proofs.Try.typeInfo3, rfl⟩, rfl, by decide, by decide⟩ rfl hA5 rfl hv5 (Nat.le_trans (Nat.mul_le_mul_left _ (Nat.le_of_ble_eq_true (n := _) (m := 4096) rfl)) (by rw [List.length_map, hal4, List.length_singleton]; omega)) (by rw [List.length_map, hal4, List.length_singleton]; omega) ?_
      intro v6 H6 hA6 hF6 hs6
      obtain ⟨Z1b, Z2b, hkb, fb, hzb⟩ := hk7.push f3 hA4 hF4 f5 hA6 hF6
      refine ⟨trivial, ?_⟩
      refine O.asg rfl rfl rfl rfl rfl ?_
      refine Pl.fin [(0, _), (2, _), (3, _), (4, _), (12, _), (14, _), (60, _)] ⟨rfl, rfl, rfl, rfl, rfl, rfl, rfl, trivial⟩ ?_
      refine Go'.inBlock ?_
      -- region 11 (map.go:1200)
      refine Go'.region [(0, 0), (1, 0), (2, 0)] rfl ?_
      refine O.mv rfl rfl rfl rfl rfl ?_
      refine O.add (((j + 1 : Nat) : Int)) rfl rfl rfl rfl rfl rfl (by omega) (by omega) ?_
      refine O.asg rfl rfl rfl rfl rfl ?_
      refine Pl.fin [(0, _), (2, _), (3, _), (4, _), (12, _), (14, _), (60, _)] ⟨rfl, rfl, rfl, rfl, rfl, rfl, rfl, trivial⟩ ?_
      refine Go'.keep [(0, _), (2, _), (3, _), (4, _), (12, _), (14, _)] ⟨rfl, rfl, rfl, rfl, rfl, rfl, trivial⟩ ?_
      refine Go'.inLoop ?_
      obtain ⟨hF9, hZ9⟩ := hcat hF8 hZ8 fb hzb
      refine ih2 (j + 1, v4, v6, Z1b, Z2b) H6 ⟨hlt2, ?_, hF9, hZ9⟩ (by simp only; omega)
      simp only
      rw [hps, ← List.append_assoc, ← List.append_assoc]
      exact hkb
    · skip
      obtain rfl : j = X.length := by omega
      have hil := Pl.inter_eq_pre (Nat.le_refl _) hkL
      rw [List.take_length, show (K.map (Gt.L h)).take (X.length + 1) = K.map (Gt.L h) from List.take_of_length_le (by omega)] at hil
      rw [List.take_length] at hk hal hpl
      have hll := congrArg List.length hil
      rw [List.length_append] at hll
      -- region 10 (map.go:1200)
      refine Go'.region [(0, 0), (1, 0), (2, 0), (3, 0), (4, 1), (5, 0), (6, 0)] rfl ?_
      refine O.mv rfl rfl rfl rfl rfl ?_
      refine O.mv rfl rfl rfl rfl rfl ?_
      refine O.nc rfl rfl rfl rfl rfl ?_
      refine O.fa0 (off := 2) rfl rfl rfl rfl ⟨_, _, _, Go.Proofs.Try.underlying111, rfl, rfl, Go.Proofs.Try.sizeOf108⟩ rfl ?_
      refine O.ld rfl rfl rfl (fun w => ⟨Go.Proofs.Try.isAgg108 w, Go.Proofs.Try.sizeOf108 w⟩) rfl hI2.n.c2 ?_
      refine O.len rfl rfl rfl rfl Go.Proofs.Try.underlying108 rfl ?_
      refine O.cmp rfl rfl rfl rfl rfl rfl (lssF (by omega)) ?_
      refine Pl.fin [(0, _), (2, _), (3, _), (4, _), (12, _), (14, _), (60, _)] ⟨rfl, rfl, rfl, rfl, rfl, rfl, rfl, trivial⟩ ?_
      refine Go'.condF rfl ?_
      refine Go'.exit rfl ?_
      refine Go'.seq ?_
      -- region 15 (map.go:1205)
      refine Go'.draw (fun _ => True) [(0, 0), (1, 0), (2, 0), (3, 0), (4, 1), (5, 0), (6, 1), (7, 0), (8, 0), (9, 0), (10, 1), (11, 0), (12, 1), (13, 0), (14, 0), (15, 0), (16, 0), (17, 0), (18, 0), (19, 2), (20, 0), (21, 0), (22, 0), (23, 0)] (by kernel_rfl) (by kernel_rfl) (trivial) ?_
      refine O.mv rfl rfl rfl rfl rfl ?_
      refine O.mv rfl rfl rfl rfl rfl ?_
      refine O.nc rfl rfl rfl rfl rfl ?_
      refine O.fa0 (off := 3) rfl rfl rfl rfl ⟨_, _, _, Go.Proofs.Try.underlying111, rfl, rfl, Go.Proofs.Try.sizeOf109⟩ rfl ?_
      refine O.ld rfl rfl rfl (fun w => ⟨Go.Proofs.Try.isAgg109 w, Go.Proofs.Try.sizeOf109 w⟩) rfl hI2.n.c3 ?_
      refine O.nc rfl rfl rfl rfl rfl ?_
      refine O.ld rfl rfl rfl (fun w => ⟨Go.Proofs.Try.isAgg112 w, Go.Proofs.Try.sizeOf112 w⟩) rfl hI2.k.c ?_
      refine O.mv rfl rfl rfl rfl rfl ?_
      refine O.nc rfl rfl rfl rfl rfl ?_
      refine O.fa0 (off := 3) rfl rfl rfl rfl ⟨_, _, _, Go.Proofs.Try.underlying111, rfl, rfl, Go.Proofs.Try.sizeOf109⟩ rfl ?_
      refine O.ld rfl rfl rfl (fun w => ⟨Go.Proofs.Try.isAgg109 w, Go.Proofs.Try.sizeOf109 w⟩) rfl hI2.n.c3 ?_
      refine O.nc rfl rfl rfl rfl rfl ?_
      refine O.ld rfl rfl rfl (fun w => ⟨Go.Proofs.Try.isAgg112 w, Go.Proofs.Try.sizeOf112 w⟩) rfl hI2.k.c ?_
      refine O.len rfl rfl rfl rfl Go.Proofs.Try.underlying112 rfl ?_
      refine O.sub (((((((Gt.ps h K).map some)).length) - 1 : Nat) : Int)) rfl rfl rfl rfl rfl rfl (by omega) (by omega) ?_
      refine O.ix (j := X.length) rfl rfl rfl rfl Go.Proofs.Try.underlying112 Go.Proofs.Try.sizeOf103 rfl rfl (by omega) (by omega) ?_
      refine O.mv rfl rfl rfl rfl rfl ?_
      refine O.mv rfl rfl rfl rfl rfl ?_
      refine O.mv rfl rfl rfl rfl rfl ?_
      refine O.call rfl rfl rfl Go.Proofs.Try.call115 rfl (ih tc2 (hI2.c.1 c hkK).1 hcel hk (fun b o hb => hz1 b o (.inr (.inr ⟨c, hkK, hb⟩))) hz2 (by rw [hal]; omega)) ?_
      rintro _ H7 ⟨k7, v7, Z3, Z4, rfl, hk7, hF7, hZ7⟩
      obtain ⟨hF8, hZ8⟩ := hcat hF hZ hF7 hZ7
      have hsz8 := hF8.size
      refine ⟨trivial, ?_⟩
      refine O.ext rfl rfl rfl rfl rfl rfl ?_
      refine O.ext rfl rfl rfl rfl rfl rfl ?_
      refine O.asg rfl rfl rfl rfl rfl ?_
      refine O.asg rfl rfl rfl rfl rfl ?_
      refine Pl.fin [(10, _), (11, _)] ⟨rfl, rfl, trivial⟩ ?_
      refine Go'.ret (vs := [_, _]) Go.Proofs.Try.func115 Go.Proofs.Try.results115 ⟨rfl, rfl, trivial⟩ ?_
      refine ⟨k7, v7, Z3, Z4, rfl, ?_, hF8, hZ8⟩
      rw [hil, ← List.append_assoc]
      exact hk7

theorem keyValues_spec {B : World} {H : Mem} {tr : Nat} {P : Ps} (hP : PsOk P) {S : Nat → Prop} {l : List (Int × Int)} (hU : MapM H tr P S l) (mt : Bool) (hll : l.length ≤ 4294967296) :
    Fn Try.prog B 93 [.pointer (some ⟨tr, 0, none⟩), .bool mt] H (fun r H' => ∃ v1 v2, r = .tuple #[v1, v2] ∧ OutS EN H' v1 (l.map k1) ∧ OutS EN H' v2 (l.map k2) ∧ Fr nowhere H H') := by
  have lt0 := hU.lt
  have htl := hU.lt tr hU.own
  refine fn_of Go.Proofs.Try.func93 rfl Go.Proofs.Try.ntmps93 ?_
  refine (show Go' _ _ _ _ 32 [(0, _), (1, _)] [.code _] _ from ?_)
  refine Go'.seq ?_
  -- region 0 (map.go:1180)
  refine Go'.region [(0, 0), (1, 0)] rfl ?_
  refine O.asg rfl rfl rfl rfl rfl ?_
  refine O.asg rfl rfl rfl rfl rfl ?_
  refine Pl.fin [(0, _), (1, _), (4, _), (5, _)] ⟨rfl, rfl, rfl, rfl, trivial⟩ ?_
  refine Go'.seq ?_
  -- region 1 (map.go:1181)
  refine Go'.region [(0, 0), (1, 2), (2, 2), (3, 0)] rfl ?_
  refine O.mv rfl rfl rfl rfl rfl ?_
  refine O.callQ rfl rfl rfl Go.Proofs.Try.call97 rfl (len_spec hU) trivial ?_
  refine O.mks (j := 0) (c := l.length) rfl rfl rfl ⟨Go.Proofs.Try.underlying39, Go.Proofs.Try.sizeOf3, Go.Proofs.Try.zeroValue3, ⟨_, Go.Proofs.Try.typeInfo3, rfl⟩, rfl, by decide, by decide⟩ rfl rfl rfl rfl (by omega) (Nat.le_trans (Nat.mul_le_mul_right _ (Nat.le_of_ble_eq_true (n := _) (m := 4096) rfl)) (by omega)) (by omega) ?_
  intro H1 M1
  have hs1 := M1.size
  have hA1 : AccN EN (fun b => b = H.size) H1 (.slice (some ⟨H.size, 0, none⟩) 0 l.length) [] := ⟨H.size, 0, l.length, rfl, rfl, by omega, ⟨rfl, Nat.zero_le _, Rd.nil _ _ _, M1.wr _ (by rw [zeroRow_size]; exact Nat.le_refl _)⟩⟩
  replace hU := hU.fr (M1.fr nowhere) (fun _ _ _ => nw)
  refine ⟨trivial, ?_⟩
  refine O.asg rfl rfl rfl rfl rfl ?_
  refine Pl.fin [(0, _), (1, _), (4, _), (5, _), (6, _)] ⟨rfl, rfl, rfl, rfl, rfl, trivial⟩ ?_
  refine Go'.seq ?_
  -- region 2 (map.go:1182)
  refine Go'.region [(0, 0), (1, 2), (2, 2), (3, 0)] rfl ?_
  refine O.mv rfl rfl rfl rfl rfl ?_
  refine O.callQ rfl rfl rfl Go.Proofs.Try.call97 rfl (len_spec hU) trivial ?_
  refine O.mks (j := 0) (c := l.length) rfl rfl rfl ⟨Go.Proofs.Try.underlying39, Go.Proofs.Try.sizeOf3, Go.Proofs.Try.zeroValue3, ⟨_, Go.Proofs.Try.typeInfo3, rfl⟩, rfl, by decide, by decide⟩ rfl rfl rfl rfl (by omega) (Nat.le_trans (Nat.mul_le_mul_right _ (Nat.le_of_ble_eq_true (n := _) (m := 4096) rfl)) (by omega)) (by omega) ?_
  intro H2 M2
  have hs2 := M2.size
  have hA2 : AccN EN (fun b => b = H1.size) H2 (.slice (some ⟨H1.size, 0, none⟩) 0 l.length) [] := ⟨H1.size, 0, l.length, rfl, rfl, by omega, ⟨rfl, Nat.zero_le _, Rd.nil _ _ _, M2.wr _ (by rw [zeroRow_size]; exact Nat.le_refl _)⟩⟩
  replace hU := hU.fr (M2.fr nowhere) (fun _ _ _ => nw)
  have hkv : KV H2 (.slice (some ⟨H.size, 0, none⟩) 0 l.length) (.slice (some ⟨H1.size, 0, none⟩) 0 l.length) [] (fun b => b = H.size) (fun b => b = H1.size) := ⟨hA1.fr (M2.fr nowhere) (fun _ _ _ _ => nw), hA2, fun b hb => by omega, fun b hb => by omega, fun b hb hb2 => by omega⟩
  have hF2 : Fr nowhere H H2 := (M1.fr nowhere).trans (M2.fr nowhere)
  refine ⟨trivial, ?_⟩
  refine O.asg rfl rfl rfl rfl rfl ?_
  refine Pl.fin [(0, _), (1, _), (4, _), (5, _), (6, _), (7, _)] ⟨rfl, rfl, rfl, rfl, rfl, rfl, trivial⟩ ?_
  refine Go'.seq ?_
  refine Go'.seq ?_
  rcases hU.rt with ⟨rfl, hptr⟩ | ⟨h, t, hg, hx1, e, hc, hnt, hown⟩
  · skip
    -- region 3 (map.go:1183)
    refine Go'.region [(0, 0), (1, 0), (2, 0), (3, 1), (4, 0)] rfl ?_
    refine O.mv rfl rfl rfl rfl rfl ?_
    refine O.nc rfl rfl rfl rfl rfl ?_
    refine O.fa0 (off := 2) rfl rfl rfl rfl ⟨_, _, _, Go.Proofs.Try.underlying105, rfl, rfl, Go.Proofs.Try.sizeOf103⟩ rfl ?_
    refine O.ld rfl rfl rfl (fun w => ⟨Go.Proofs.Try.isAgg103 w, Go.Proofs.Try.sizeOf103 w⟩) rfl hptr ?_
    refine O.notNil rfl rfl rfl rfl Go.Proofs.Try.underlying103 rfl rfl ?_
    refine Pl.fin [(0, _), (1, _), (4, _), (5, _), (6, _), (7, _), (18, _)] ⟨rfl, rfl, rfl, rfl, rfl, rfl, rfl, trivial⟩ ?_
    refine Go'.condF rfl ?_
    refine Go'.skip ?_
    refine Go'.seq ?_
    -- region 5 (map.go:1186)
    refine Go'.region [(0, 0), (1, 0), (2, 0), (3, 0)] rfl ?_
    refine O.mv rfl rfl rfl rfl rfl ?_
    refine O.mv rfl rfl rfl rfl rfl ?_
    refine O.asg rfl rfl rfl rfl rfl ?_
    refine O.asg rfl rfl rfl rfl rfl ?_
    refine Pl.fin [(4, _), (5, _)] ⟨rfl, rfl, trivial⟩ ?_
    refine Go'.ret (vs := [_, _]) Go.Proofs.Try.func93 Go.Proofs.Try.results93 ⟨rfl, rfl, trivial⟩ ?_
    exact ⟨_, _, rfl, hkv.a1.acc.out, hkv.a2.acc.out, hF2⟩
  · skip
    have hptr : cl H2 tr 2 = some (.pointer (some ⟨Gt.p h t, 0, none⟩)) := hc
    -- region 3 (map.go:1183)
    refine Go'.region [(0, 0), (1, 0), (2, 0), (3, 1), (4, 0)] rfl ?_
    refine O.mv rfl rfl rfl rfl rfl ?_
    refine O.nc rfl rfl rfl rfl rfl ?_
    refine O.fa0 (off := 2) rfl rfl rfl rfl ⟨_, _, _, Go.Proofs.Try.underlying105, rfl, rfl, Go.Proofs.Try.sizeOf103⟩ rfl ?_
    refine O.ld rfl rfl rfl (fun w => ⟨Go.Proofs.Try.isAgg103 w, Go.Proofs.Try.sizeOf103 w⟩) rfl hptr ?_
    refine O.notNil rfl rfl rfl rfl Go.Proofs.Try.underlying103 rfl rfl ?_
    refine Pl.fin [(0, _), (1, _), (4, _), (5, _), (6, _), (7, _), (18, _)] ⟨rfl, rfl, rfl, rfl, rfl, rfl, rfl, trivial⟩ ?_
    refine Go'.condT rfl ?_
    -- region 4 (map.go:1184)
    refine Go'.region [(0, 0), (1, 0), (2, 0), (3, 0), (4, 0), (5, 0), (6, 0), (7, 2), (8, 0), (9, 0), (10, 0), (11, 0), (12, 0)] rfl ?_
    refine O.mv rfl rfl rfl rfl rfl ?_
    refine O.mv rfl rfl rfl rfl rfl ?_
    refine O.nc rfl rfl rfl rfl rfl ?_
    refine O.fa0 (off := 2) rfl rfl rfl rfl ⟨_, _, _, Go.Proofs.Try.underlying105, rfl, rfl, Go.Proofs.Try.sizeOf103⟩ rfl ?_
    refine O.mv rfl rfl rfl rfl rfl ?_
    refine O.mv rfl rfl rfl rfl rfl ?_
    refine O.mv rfl rfl rfl rfl rfl ?_
    refine O.call rfl rfl rfl Go.Proofs.Try.call115 rfl (nkv hP mt h hU.tc hg hc hkv (fun b o hb hz => by have := lt0 b (hown b o hb); omega) (fun hz => by omega) (by rw [e]; simpa using hll)) ?_
    rintro _ H3 ⟨k3, v3, Z3, Z4, rfl, hk3, hF3, _⟩
    rw [List.nil_append, e] at hk3
    refine ⟨trivial, ?_⟩
    refine O.mv rfl rfl rfl rfl rfl ?_
    refine O.ext rfl rfl rfl rfl rfl rfl ?_
    refine O.ext rfl rfl rfl rfl rfl rfl ?_
    refine O.asg rfl rfl rfl rfl rfl ?_
    refine O.asg rfl rfl rfl rfl rfl ?_
    refine Pl.fin [(4, _), (5, _), (6, _), (7, _)] ⟨rfl, rfl, rfl, rfl, trivial⟩ ?_
    refine Go'.seq ?_
    -- region 5 (map.go:1186)
    refine Go'.region [(0, 0), (1, 0), (2, 0), (3, 0)] rfl ?_
    refine O.mv rfl rfl rfl rfl rfl ?_
    refine O.mv rfl rfl rfl rfl rfl ?_
    refine O.asg rfl rfl rfl rfl rfl ?_
    refine O.asg rfl rfl rfl rfl rfl ?_
    refine Pl.fin [(4, _), (5, _)] ⟨rfl, rfl, trivial⟩ ?_
    refine Go'.ret (vs := [_, _]) Go.Proofs.Try.func93 Go.Proofs.Try.results93 ⟨rfl, rfl, trivial⟩ ?_
    exact ⟨_, _, rfl, hk3.a1.acc.out, hk3.a2.acc.out, hF2.trans' hF3 (fun _ _ _ h => h) (fun b o hb hz => by omega)⟩

theorem KeyValues_spec {B : World} {H : Mem} {tr : Nat} {P : Ps} (hP : PsOk P) {S : Nat → Prop} {l : List (Int × Int)} (hU : MapM H tr P S l) (hll : l.length ≤ 4294967296) :
    Fn Try.prog B 57 [.pointer (some ⟨tr, 0, none⟩)] H (fun r H' => ∃ v1 v2, r = .tuple #[v1, v2] ∧ OutS EN H' v1 (l.map k1) ∧ OutS EN H' v2 (l.map k2) ∧ Fr nowhere H H') := by
  refine fn_of Go.Proofs.Try.func57 rfl Go.Proofs.Try.ntmps57 ?_
  refine (show Go' _ _ _ _ 8 [(0, _)] [.code _] _ from ?_)
  refine Go'.seq ?_
  -- region 0 (map.go:1172)
  refine Go'.region [(0, 0), (1, 0)] rfl ?_
  refine O.asg rfl rfl rfl rfl rfl ?_
  refine O.asg rfl rfl rfl rfl rfl ?_
  refine Pl.fin [(0, _), (2, _), (3, _)] ⟨rfl, rfl, rfl, trivial⟩ ?_
  refine Go'.seq ?_
  -- region 1 (map.go:1173)
  refine Go'.region [(0, 0), (1, 2), (2, 0), (3, 0), (4, 0), (5, 0)] rfl ?_
  refine O.mv rfl rfl rfl rfl rfl ?_
  refine O.call rfl rfl rfl Go.Proofs.Try.call93 rfl (keyValues_spec hP hU false hll) ?_
  rintro _ H2 ⟨v1, v2, rfl, h1, h2, hF2⟩
  refine ⟨trivial, ?_⟩
  refine O.ext rfl rfl rfl rfl rfl rfl ?_
  refine O.ext rfl rfl rfl rfl rfl rfl ?_
  refine O.asg rfl rfl rfl rfl rfl ?_
  refine O.asg rfl rfl rfl rfl rfl ?_
  refine Pl.fin [(2, _), (3, _)] ⟨rfl, rfl, trivial⟩ ?_
  refine Go'.ret (vs := [_, _]) Go.Proofs.Try.func57 Go.Proofs.Try.results57 ⟨rfl, rfl, trivial⟩ ?_
  exact ⟨_, _, rfl, h1, h2, hF2⟩

theorem mkeyValues_spec {B : World} {H : Mem} {d : Nat} {u : Value} {l : List (Int × Int)} (hd : 2 ≤ d ∧ d ≤ 128) (hi : InS EJ H u l) (hll : l.length ≤ 4294967296) :
    Fn Try.prog B 28 [.int .i64 (d : Int), u] H (fun r H' => ∃ v1 v2, r = .tuple #[v1, v2] ∧ OutS EN H' v1 ((Pl.puts OI l).map k1) ∧ OutS EN H' v2 ((Pl.puts OI l).map k2) ∧ Fr nowhere H H') := by
  have hP : PsOk ⟨0, 2 * d - 1, d - 1⟩ := ⟨by show 2 * d - 1 = 2 * (d - 1) + 1; omega, by show 1 ≤ d - 1; omega, by show 2 * d - 1 ≤ 255; omega⟩
  have hpl := Pl.puts_length OI l
  refine fn_of Go.Proofs.Try.func28 rfl Go.Proofs.Try.ntmps28 ?_
  refine (show Go' _ _ _ _ 12 [(0, _), (1, _)] [.code _] _ from ?_)
  refine Go'.seq ?_
  -- region 0 (map.go:178)
  refine Go'.region [(0, 0), (1, 0)] rfl ?_
  refine O.asg rfl rfl rfl rfl rfl ?_
  refine O.asg rfl rfl rfl rfl rfl ?_
  refine Pl.fin [(0, _), (1, _), (4, _), (5, _)] ⟨rfl, rfl, rfl, rfl, trivial⟩ ?_
  refine Go'.seq ?_
  -- region 1 (map.go:179)
  refine Go'.region [(0, 0), (1, 0), (2, 2), (3, 2), (4, 0), (5, 0), (6, 0), (7, 0)] rfl ?_
  refine O.mv rfl rfl rfl rfl rfl ?_
  refine O.mv rfl rfl rfl rfl rfl ?_
  refine O.call rfl rfl rfl Go.Proofs.Try.call52 rfl (growMap_spec hd hi hll) ?_
  rintro _ H2 ⟨tr, S, rfl, hU, hF2, _⟩
  unfold ptr
  refine ⟨trivial, ?_⟩
  refine O.call rfl rfl rfl Go.Proofs.Try.call57 rfl (KeyValues_spec hP hU (by omega)) ?_
  rintro _ H3 ⟨v1, v2, rfl, h1, h2, hF3⟩
  refine ⟨trivial, ?_⟩
  refine O.ext rfl rfl rfl rfl rfl rfl ?_
  refine O.ext rfl rfl rfl rfl rfl rfl ?_
  refine O.asg rfl rfl rfl rfl rfl ?_
  refine O.asg rfl rfl rfl rfl rfl ?_
  refine Pl.fin [(4, _), (5, _)] ⟨rfl, rfl, trivial⟩ ?_
  refine Go'.ret (vs := [_, _]) Go.Proofs.Try.func28 Go.Proofs.Try.results28 ⟨rfl, rfl, trivial⟩ ?_
  exact ⟨_, _, rfl, h1, h2, hF2.trans hF3⟩

theorem Values_spec {B : World} {H : Mem} {tr : Nat} {P : Ps} (hP : PsOk P) {S : Nat → Prop} {l : List (Int × Int)} (hM : MapM H tr P S l) (hll : l.length ≤ 4294967296) :
    Fn Try.prog B 61 [.pointer (some ⟨tr, 0, none⟩)] H (fun r H' => OutS EN H' r (l.map k2) ∧ Fr nowhere H H') := by
  refine fn_of Go.Proofs.Try.func61 rfl Go.Proofs.Try.ntmps61 ?_
  refine (show Go' _ _ _ _ 5 [(0, _)] [.code _] _ from ?_)
  refine Go'.seq ?_
  -- region 0 (map.go:1117)
  refine Go'.region [(0, 0)] rfl ?_
  refine O.asg rfl rfl rfl rfl rfl ?_
  refine Pl.fin [(0, _), (2, _)] ⟨rfl, rfl, trivial⟩ ?_
  refine Go'.seq ?_
  -- region 1 (map.go:1118)
  refine Go'.region [(0, 0), (1, 2), (2, 0)] rfl ?_
  refine O.mv rfl rfl rfl rfl rfl ?_
  refine O.call rfl rfl rfl Go.Proofs.Try.call99 rfl (values_spec hP hM false hll) ?_
  rintro r H2 ⟨hr, hF2⟩
  refine ⟨trivial, ?_⟩
  refine O.asg rfl rfl rfl rfl rfl ?_
  refine Pl.fin [(2, _)] ⟨rfl, trivial⟩ ?_
  refine Go'.ret (vs := [_]) Go.Proofs.Try.func61 Go.Proofs.Try.results61 ⟨rfl, trivial⟩ ?_
  exact ⟨hr, hF2⟩

theorem mvalues_spec {B : World} {H : Mem} {d : Nat} {u : Value} {l : List (Int × Int)} (hd : 2 ≤ d ∧ d ≤ 128) (hi : InS EJ H u l) (hll : l.length ≤ 4294967296) :
    Fn Try.prog B 32 [.int .i64 (d : Int), u] H (fun r H' => OutS EN H' r ((Pl.puts OI l).map k2) ∧ Fr nowhere H H') := by
  have hP : PsOk ⟨0, 2 * d - 1, d - 1⟩ := ⟨by show 2 * d - 1 = 2 * (d - 1) + 1; omega, by show 1 ≤ d - 1; omega, by show 2 * d - 1 ≤ 255; omega⟩
  have hpl := Pl.puts_length OI l
  refine fn_of Go.Proofs.Try.func32 rfl Go.Proofs.Try.ntmps32 ?_
  refine (show Go' _ _ _ _ 9 [(0, _), (1, _)] [.code _] _ from ?_)
  refine Go'.seq ?_
  -- region 0 (map.go:168)
  refine Go'.region [(0, 0)] rfl ?_
  refine O.asg rfl rfl rfl rfl rfl ?_
  refine Pl.fin [(0, _), (1, _), (4, _)] ⟨rfl, rfl, rfl, trivial⟩ ?_
  refine Go'.seq ?_
  -- region 1 (map.go:169)
  refine Go'.region [(0, 0), (1, 0), (2, 2), (3, 2), (4, 0)] rfl ?_
  refine O.mv rfl rfl rfl rfl rfl ?_
  refine O.mv rfl rfl rfl rfl rfl ?_
  refine O.call rfl rfl rfl Go.Proofs.Try.call52 rfl (growMap_spec hd hi hll) ?_
  rintro _ H2 ⟨tr, S, rfl, hU, hF2, _⟩
  unfold ptr
  refine ⟨trivial, ?_⟩
  refine O.call rfl rfl rfl Go.Proofs.Try.call61 rfl (Values_spec hP hU (by omega)) ?_
  rintro v3 H3 ⟨h3, hF3⟩
  refine ⟨trivial, ?_⟩
  refine O.asg rfl rfl rfl rfl rfl ?_
  refine Pl.fin [(4, _)] ⟨rfl, trivial⟩ ?_
  refine Go'.ret (vs := [_]) Go.Proofs.Try.func32 Go.Proofs.Try.results32 ⟨rfl, trivial⟩ ?_
  exact ⟨h3, hF2.trans hF3⟩

theorem mscan_spec {B : World} {H : Mem} {d : Nat} {u : Value} {l : List (Int × Int)} {n : Int} (hd : 2 ≤ d ∧ d ≤ 128) (hi : InS EJ H u l) (hll : l.length ≤ 4294967296) :
    Fn Try.prog B 29 [.int .i64 (d : Int), u, .int .i64 n] H (fun r H' => OutS EJ H' r (firstN (Pl.puts OI l) n) ∧ Fr nowhere H H') := by
  have hP : PsOk ⟨0, 2 * d - 1, d - 1⟩ := ⟨by show 2 * d - 1 = 2 * (d - 1) + 1; omega, by show 1 ≤ d - 1; omega, by show 2 * d - 1 ≤ 255; omega⟩
  have hpl := Pl.puts_length OI l
  refine fn_of Go.Proofs.Try.func29 rfl Go.Proofs.Try.ntmps29 ?_
  refine (show Go' _ _ _ _ 15 [(0, _), (1, _), (2, _)] [.code _] _ from ?_)
  refine Go'.seq ?_
  -- region 0 (map.go:188)
  refine Go'.region [(0, 0)] rfl ?_
  refine O.asg rfl rfl rfl rfl rfl ?_
  refine Pl.fin [(0, _), (1, _), (2, _), (6, _)] ⟨rfl, rfl, rfl, rfl, trivial⟩ ?_
  refine Go'.seq ?_
  -- region 1 (map.go:189)
  refine Go'.region [(0, 2)] rfl ?_
  refine O.alloc rfl rfl rfl Go.Proofs.Try.zeroValue22 ?_
  intro H1 M1
  refine ⟨trivial, ?_⟩
  have hs1 := M1.size
  have hD : cl H1 H.size 0 = some (.slice none 0 0) := (M1.cl 0).trans rfl
  have hw := M1.wr 1 (by decide)
  replace hi := hi.fr (M1.fr nowhere)
  refine Pl.fin [(0, _), (1, _), (2, _), (6, _), (7, _)] ⟨rfl, rfl, rfl, rfl, rfl, trivial⟩ ?_
  refine Go'.seq ?_
  -- region 2 (map.go:190)
  refine Go'.region [(0, 0), (1, 0), (2, 2), (3, 0), (4, 2), (5, 2)] rfl ?_
  refine O.mv rfl rfl rfl rfl rfl ?_
  refine O.mv rfl rfl rfl rfl rfl ?_
  refine O.call rfl rfl rfl Go.Proofs.Try.call52 rfl (growMap_spec hd hi hll) ?_
  rintro _ H2 ⟨tr, S, rfl, hM, hF2, hS⟩
  have hs2 := hF2.size
  replace hD := hF2.keep hD nw
  replace hw := hF2.wr hw
  have hSl := hM.lt
  refine ⟨trivial, ?_⟩
  refine O.mv rfl rfl rfl rfl rfl ?_
  refine O.call rfl rfl rfl Go.Proofs.Try.call59 rfl (pairs_spec (n := n) hD hw) ?_
  rintro _ H3 ⟨pb, b2, b3, Z, rfl, hT, hF3, hZ⟩
  replace hM := hM.fr hF3 (fun _ _ _ => nw)
  refine ⟨trivial, ?_⟩
  refine O.call rfl rfl rfl Go.Proofs.Try.call58 rfl (Scan_spec (cbPairs B pb b2 b3 H.size n) Try.call96 hP hM hT (fun b hb hz => (hZ b hz).elim (fun h => by have := hS b hb; omega) (fun h => by have := hSl b hb; omega)) (by omega)) ?_
  rintro _ H4 ⟨Z4, hT4, hF4, hZ4⟩
  obtain ⟨v, hv, hov⟩ := PrT.out hT4
  rw [takes_first] at hov
  refine ⟨trivial, ?_⟩
  refine Pl.fin [(6, _), (7, _)] ⟨rfl, rfl, trivial⟩ ?_
  refine Go'.seq ?_
  -- region 3 (map.go:191)
  refine Go'.region [(0, 1), (1, 0)] rfl ?_
  refine O.ld rfl rfl rfl (fun w => ⟨Go.Proofs.Try.isAgg22 w, Go.Proofs.Try.sizeOf22 w⟩) rfl hv ?_
  refine O.asg rfl rfl rfl rfl rfl ?_
  refine Pl.fin [(6, _)] ⟨rfl, trivial⟩ ?_
  refine Go'.ret (vs := [_]) Go.Proofs.Try.func29 Go.Proofs.Try.results29 ⟨rfl, trivial⟩ ?_
  exact ⟨hov, (((M1.fr nowhere).trans hF2).trans hF3).trans' hF4 (fun _ _ _ h => h) (fun b o hb hz => (hZ b hz).elim (fun h => by omega) (fun h => by omega))⟩

end Go.Bt
namespace Go.Bt
open Go Go.Proofs
set_option maxRecDepth 20000
set_option maxHeartbeats 4000000
set_option linter.unusedVariables false

namespace SI
/-- Slices of the lists ls. -/
def InSS {α : Type} (E : Elt α) (H : Mem) : List (Option Addr × Nat × Nat) → List (List α) → Prop
  | [], [] => True
  | u :: us, l :: ls => InS E H (.slice u.1 u.2.1 u.2.2) l ∧ InSS E H us ls
  | _, _ => False
theorem InSS.fr {α : Type} {E : Elt α} {H H' : Mem} (hf : Fr nowhere H H') : ∀ {us : List (Option Addr × Nat × Nat)} {ls : List (List α)}, InSS E H us ls → InSS E H' us ls
  | [], [], _ => trivial
  | u :: us, l :: ls, h => ⟨h.1.fr hf, InSS.fr hf h.2⟩
  | [], _ :: _, h => h.elim
  | _ :: _, [], h => h.elim
theorem InSS.len {α : Type} {E : Elt α} {H : Mem} : ∀ {us : List (Option Addr × Nat × Nat)} {ls : List (List α)}, InSS E H us ls → us.length = ls.length
  | [], [], _ => rfl
  | u :: us, l :: ls, h => by rw [List.length_cons, List.length_cons, InSS.len h.2]
  | [], _ :: _, h => h.elim
  | _ :: _, [], h => h.elim
theorem InSS.at {α : Type} {E : Elt α} {H : Mem} : ∀ {us : List (Option Addr × Nat × Nat)} {ls : List (List α)} (_ : InSS E H us ls) {i : Nat} {u : Option Addr × Nat × Nat}, us[i]? = some u → ∃ l, ls[i]? = some l ∧ InS E H (.slice u.1 u.2.1 u.2.2) l
  | [], [], _, i, u, hu => by simp at hu
  | u :: us, l :: ls, h, 0, v, hv => by
    simp only [List.getElem?_cons_zero, Option.some.injEq] at hv
    subst hv
    exact ⟨l, rfl, h.1⟩
  | u :: us, l :: ls, h, i + 1, v, hv => by
    simp only [List.getElem?_cons_succ] at hv ⊢
    exact InSS.at h.2 hv
  | [], _ :: _, h, _, _, _ => h.elim
  | _ :: _, [], h, _, _, _ => h.elim
theorem swp_get {α : Type} {X : List α} {i j : Nat} {x y : α} (hi : i < X.length) (hj : j < X.length) (hne : i ≠ j) (k : Nat) :
    ((X.set i x).set j y)[k]? = if k = j then some y else if k = i then some x else X[k]? := by
  rw [List.getElem?_set]
  by_cases h1 : j = k
  · subst h1
    rw [if_pos rfl, if_pos rfl, if_pos (by rw [List.length_set]; exact hj)]
  · rw [if_neg h1, if_neg (fun h => h1 h.symm), List.getElem?_set]
    by_cases h2 : i = k
    · subst h2; rw [if_pos rfl, if_pos rfl, if_pos hi]
    · rw [if_neg h2, if_neg (fun h => h2 h.symm)]
theorem set_td {α : Type} {X : List α} {i : Nat} {x : α} (hi : i < X.length) : X.take i ++ x :: X.drop (i + 1) = X.set i x := (List.set_eq_take_append_cons_drop.trans (if_pos hi)).symm

theorem rev_spec {B : World} {H : Mem} {v : Value} {l : List (Int × Int)} {Z : Nat → Prop} (hA : AccN EJ Z H v l) (hll : l.length ≤ 4294967296) :
    Fn Try.prog B 64 [v] H (fun _ H' => AccN EJ Z H' v l.reverse ∧ Fr (fun b _ => Z b) H H') := by
  obtain ⟨b, o, c, rfl, hz, hb, hS⟩ := hA
  refine fn_of Go.Proofs.Try.func64 rfl Go.Proofs.Try.ntmps64 ?_
  refine (show Go' _ _ _ _ 28 [(0, _)] [.code _] _ from ?_)
  refine Go'.seq ?_
  -- region 0 (slices.go:484)
  refine Go'.region [(0, 0), (1, 0), (2, 0), (3, 0), (4, 0)] rfl ?_
  refine O.mv rfl rfl rfl rfl rfl ?_
  refine O.len rfl rfl rfl rfl Go.Proofs.Try.underlying22 rfl ?_
  refine O.sub (((l.length : Int) - 1)) rfl rfl rfl rfl rfl rfl (by omega) (by omega) ?_
  refine O.asg rfl rfl rfl rfl rfl ?_
  refine O.asg rfl rfl rfl rfl rfl ?_
  refine Pl.fin [(0, _), (2, _), (3, _)] ⟨rfl, rfl, rfl, trivial⟩ ?_
  refine Go'.block ?_
  refine Go'.loop ?_
  refine Go'.keep [(0, _), (2, _), (3, _)] ⟨rfl, rfl, rfl, trivial⟩ ?_
  refine Go'.ind (σ := Nat × List (Int × Int)) (fun s => l.length - s.1) (fun s H' => SlE EJ H' b o c s.2 ∧ s.2.length = l.length ∧ (∀ k, k < l.length → s.2[k]? = if k < s.1 ∨ l.length ≤ k + s.1 then l[l.length - 1 - k]? else l[k]?) ∧ Fr (fun b _ => Z b) H H')
    (fun s => [(0, .slice (some ⟨b, o, none⟩) l.length c), (2, .int .i64 (s.1 : Int)), (3, .int .i64 ((l.length : Int) - 1 - s.1))]) (0, l) ⟨hS, rfl, fun k hk => by rw [if_neg (by omega)], Fr.refl _ _⟩ (by simp) ?_
  clear hS
  rintro ⟨i, m⟩ H2 ⟨hS, hml, hm, hF⟩ ih
  simp only at hS hml hm ih
  have hsz := hF.size
  refine Go'.seq ?_
  refine Go'.seq ?_
  by_cases hlt : (i : Int) < (l.length : Int) - 1 - i
  · skip
    have hjl : l.length - 1 - i < m.length := by omega
    have hil : i < m.length := by omega
    obtain ⟨x, hx⟩ : ∃ x, m[i]? = some x := ⟨m[i], List.getElem?_eq_getElem hil⟩
    obtain ⟨y, hy⟩ : ∃ y, m[l.length - 1 - i]? = some y := ⟨m[l.length - 1 - i], List.getElem?_eq_getElem hjl⟩
    have hx2 := hx
    rw [hm i (by omega), if_neg (by omega)] at hx2
    have hy2 := hy
    rw [hm _ (by omega), if_neg (by omega)] at hy2
    have wj := hS.wri hjl
    have wi := hS.wri hil
    have hlm : l.length = m.length := hml.symm
    -- region 1 (slices.go:484)
    refine Go'.region [(0, 0), (1, 0), (2, 0)] rfl ?_
    refine O.mv rfl rfl rfl rfl rfl ?_
    refine O.mv rfl rfl rfl rfl rfl ?_
    refine O.cmp rfl rfl rfl rfl rfl rfl (lssT hlt) ?_
    refine Pl.fin [(0, _), (2, _), (3, _), (9, _)] ⟨rfl, rfl, rfl, rfl, trivial⟩ ?_
    refine Go'.condT rfl ?_
    refine Go'.skip ?_
    refine Go'.seq ?_
    refine Go'.block ?_
    -- region 3 (slices.go:485)
    refine Go'.draw (fun _ => True) [(0, 0), (1, 0), (2, 0), (3, 0), (4, 0), (5, 0), (6, 0), (7, 1), (8, 0), (9, 0), (10, 0), (11, 1), (12, 0), (13, 2), (14, 0), (15, 3)] (by kernel_rfl) (by kernel_rfl) (trivial) ?_
    refine O.mv rfl rfl rfl rfl rfl ?_
    refine O.mv rfl rfl rfl rfl rfl ?_
    refine O.mv rfl rfl rfl rfl rfl ?_
    refine O.mv rfl rfl rfl rfl rfl ?_
    refine O.mv rfl rfl rfl rfl rfl ?_
    refine O.mv rfl rfl rfl rfl rfl ?_
    refine O.ix (j := (l.length - 1 - i)) rfl rfl rfl rfl Go.Proofs.Try.underlying22 Go.Proofs.Try.sizeOf35 rfl rfl (by omega) (by omega) ?_
    refine O.lds rfl rfl rfl (fun w => ⟨Go.Proofs.Try.isAgg35 w, Go.Proofs.Try.sizeOf35 w⟩) rfl rfl (hS.item hy) ?_
    refine O.mv rfl rfl rfl rfl rfl ?_
    refine O.mv rfl rfl rfl rfl rfl ?_
    refine O.ix (j := i) rfl rfl rfl rfl Go.Proofs.Try.underlying22 Go.Proofs.Try.sizeOf35 rfl rfl (by omega) (by omega) ?_
    refine O.lds rfl rfl rfl (fun w => ⟨Go.Proofs.Try.isAgg35 w, Go.Proofs.Try.sizeOf35 w⟩) rfl rfl (hS.item hx) ?_
    refine O.ix (j := i) rfl rfl rfl rfl Go.Proofs.Try.underlying22 Go.Proofs.Try.sizeOf35 rfl rfl (by omega) (by omega) ?_
    refine O.st (vs := (EJ.enc y)) rfl rfl Go.Proofs.Try.sizeOf35 rfl rfl rfl rfl rfl wi ?_
    intro H3 W3
    have hS3 := hS.set W3 hil
    rw [set_td hil] at hS3
    have wj3 := hS3.wri (i := l.length - 1 - i) (by rw [List.length_set]; exact hjl)
    refine ⟨trivial, ?_⟩
    refine O.ix (j := (l.length - 1 - i)) rfl rfl rfl rfl Go.Proofs.Try.underlying22 Go.Proofs.Try.sizeOf35 rfl rfl (by omega) (by omega) ?_
    refine O.st3 (vs := (EJ.enc x)) rfl rfl Go.Proofs.Try.sizeOf35 rfl rfl rfl rfl rfl wj3 ?_
    intro H4 W4
    have hS4 := hS3.set W4 (by rw [List.length_set]; exact hjl)
    rw [set_td (by rw [List.length_set]; exact hjl)] at hS4
    refine Pl.fin [(0, _), (2, _), (3, _), (9, _)] ⟨rfl, rfl, rfl, rfl, trivial⟩ ?_
    refine Go'.inBlock ?_
    -- region 2 (slices.go:484)
    refine Go'.region [(0, 0), (1, 0), (2, 0), (3, 0), (4, 0), (5, 0)] rfl ?_
    refine O.mv rfl rfl rfl rfl rfl ?_
    refine O.add (((i + 1 : Nat) : Int)) rfl rfl rfl rfl rfl rfl (by omega) (by omega) ?_
    refine O.mv rfl rfl rfl rfl rfl ?_
    refine O.sub (((l.length : Int) - 1 - ((i + 1 : Nat) : Int))) rfl rfl rfl rfl rfl rfl (by omega) (by omega) ?_
    refine O.asg rfl rfl rfl rfl rfl ?_
    refine O.asg rfl rfl rfl rfl rfl ?_
    refine Pl.fin [(0, _), (2, _), (3, _), (9, _)] ⟨rfl, rfl, rfl, rfl, trivial⟩ ?_
    refine Go'.keep [(0, _), (2, _), (3, _)] ⟨rfl, rfl, rfl, trivial⟩ ?_
    refine Go'.inLoop ?_
    refine ih (i + 1, (m.set i y).set (l.length - 1 - i) x) H4 ⟨hS4, by simpa using hml, fun k hk => ?_, (hF.trans' W3.fr (fun _ _ _ h => h) (fun b' o' _ h => by rw [show b' = b from h.1]; exact hz)).trans' W4.fr (fun _ _ _ h => h) (fun b' o' _ h => by rw [show b' = b from h.1]; exact hz)⟩ (by simp only; omega)
    simp only
    rw [swp_get hil hjl (by omega) k]
    by_cases h1 : k = l.length - 1 - i
    · rw [if_pos h1, if_pos (by omega), h1, show l.length - 1 - (l.length - 1 - i) = i by omega, hx2]
    · rw [if_neg h1]
      by_cases h2 : k = i
      · rw [if_pos h2, if_pos (by omega), h2, hy2]
      · rw [if_neg h2, hm k hk]
        by_cases h3 : k < i ∨ l.length ≤ k + i
        · rw [if_pos h3, if_pos (by omega)]
        · rw [if_neg h3, if_neg (by omega)]
  · skip
    -- region 1 (slices.go:484)
    refine Go'.region [(0, 0), (1, 0), (2, 0)] rfl ?_
    refine O.mv rfl rfl rfl rfl rfl ?_
    refine O.mv rfl rfl rfl rfl rfl ?_
    refine O.cmp rfl rfl rfl rfl rfl rfl (lssF (by simp only; omega)) ?_
    refine Pl.fin [(0, _), (2, _), (3, _), (9, _)] ⟨rfl, rfl, rfl, rfl, trivial⟩ ?_
    refine Go'.condF rfl ?_
    refine Go'.exit rfl ?_
    have e : m = l.reverse := by
      refine List.ext_getElem? fun k => ?_
      rcases Nat.lt_or_ge k l.length with hk | hk
      · rw [hm k hk, List.getElem?_reverse hk]
        by_cases h3 : k < i ∨ l.length ≤ k + i
        · rw [if_pos h3]
        · rw [if_neg h3, show l.length - 1 - k = k by omega]
      · rw [List.getElem?_eq_none (by omega), List.getElem?_eq_none (by rw [List.length_reverse]; exact hk)]
    subst e
    refine Go'.fall Go.Proofs.Try.func64 Go.Proofs.Try.results64 (vs := []) trivial ?_
    exact ⟨⟨b, o, c, by rw [List.length_reverse], hz, by omega, hS⟩, hF⟩

theorem cloneA_spec {B : World} {H : Mem} {v : Value} {l : List (Int × Int)} (hi : InS EJ H v l) (hll : l.length ≤ 4294967296) :
    Fn Try.prog B 63 [v] H (fun r H' => Acc EJ (fun b => H.size ≤ b) H' r l ∧ Fr nowhere H H') := by
  obtain ⟨a, c, rfl⟩ := hi.len
  rcases a with _ | a
  · skip
    obtain rfl : l = [] := by
      rcases hi with ⟨b, o, c', e, _⟩ | ⟨e, _⟩
      · cases e
      · exact e
    refine fn_of Go.Proofs.Try.func63 rfl Go.Proofs.Try.ntmps63 ?_
    refine (show Go' _ _ _ _ 8 [(0, _)] [.code _] _ from ?_)
    refine Go'.seq ?_
    -- region 0 (slices.go:355)
    refine Go'.region [(0, 0)] rfl ?_
    refine O.asg rfl rfl rfl rfl rfl ?_
    refine Pl.fin [(0, _), (2, _)] ⟨rfl, rfl, trivial⟩ ?_
    refine Go'.seq ?_
    refine Go'.seq ?_
    -- region 1 (slices.go:357)
    refine Go'.region [(0, 0), (1, 0)] rfl ?_
    refine O.mv rfl rfl rfl rfl rfl ?_
    refine O.slNil rfl rfl rfl rfl Go.Proofs.Try.underlying22 rfl rfl ?_
    refine Pl.fin [(0, _), (2, _), (4, _)] ⟨rfl, rfl, rfl, trivial⟩ ?_
    refine Go'.condT rfl ?_
    refine Go'.seq ?_
    -- region 2 (slices.go:358)
    refine Go'.region [(0, 0)] rfl ?_
    refine O.asg rfl rfl rfl rfl rfl ?_
    refine Pl.fin [(0, _), (2, _)] ⟨rfl, rfl, trivial⟩ ?_
    refine Go'.ret (vs := [_]) Go.Proofs.Try.func63 Go.Proofs.Try.results63 ⟨rfl, trivial⟩ ?_
    exact ⟨Acc.nil _ _ _, Fr.refl _ _⟩
  · skip
    refine fn_of Go.Proofs.Try.func63 rfl Go.Proofs.Try.ntmps63 ?_
    refine (show Go' _ _ _ _ 8 [(0, _)] [.code _] _ from ?_)
    refine Go'.seq ?_
    -- region 0 (slices.go:355)
    refine Go'.region [(0, 0)] rfl ?_
    refine O.asg rfl rfl rfl rfl rfl ?_
    refine Pl.fin [(0, _), (2, _)] ⟨rfl, rfl, trivial⟩ ?_
    refine Go'.seq ?_
    refine Go'.seq ?_
    -- region 1 (slices.go:357)
    refine Go'.region [(0, 0), (1, 0)] rfl ?_
    refine O.mv rfl rfl rfl rfl rfl ?_
    refine O.slNil rfl rfl rfl rfl Go.Proofs.Try.underlying22 rfl rfl ?_
    refine Pl.fin [(0, _), (2, _), (4, _)] ⟨rfl, rfl, rfl, trivial⟩ ?_
    refine Go'.condF rfl ?_
    refine Go'.skip ?_
    refine Go'.seq ?_
    -- region 3 (slices.go:362)
    refine Go'.region [(0, 2), (1, 0), (2, 2), (3, 0)] rfl ?_
    refine O.bsl (cs := []) rfl rfl rfl ⟨Go.Proofs.Try.underlying22, Go.Proofs.Try.sizeOf35, Go.Proofs.Try.zeroValue35, ⟨_, Go.Proofs.Try.typeInfo35, rfl⟩, rfl, by decide, by decide⟩ rfl (by decide) (by kernel_rfl) ?_
    intro H1 M1
    have hs1 := M1.size
    have hA1 := AccN.made (E := EJ) M1
    refine ⟨trivial, ?_⟩
    refine O.mv rfl rfl rfl rfl rfl ?_
    refine O.appI (E := EJ) rfl rfl rfl ⟨Go.Proofs.Try.underlying22, Go.Proofs.Try.sizeOf35, Go.Proofs.Try.zeroValue35, ⟨_, Go.Proofs.Try.typeInfo35, rfl⟩, rfl, by decide, by decide⟩ rfl hA1 rfl (hi.fr (M1.fr nowhere)) (Nat.le_trans (Nat.mul_le_mul_left _ (Nat.le_of_ble_eq_true (n := _) (m := 4096) rfl)) (by simp only [List.length_nil]; omega)) (by simp only [List.length_nil]; omega) ?_
    intro v2 H2 hA2 hF2 hs2
    rw [List.nil_append] at hA2
    refine ⟨trivial, ?_⟩
    refine O.asg rfl rfl rfl rfl rfl ?_
    refine Pl.fin [(2, _)] ⟨rfl, trivial⟩ ?_
    refine Go'.ret (vs := [_]) Go.Proofs.Try.func63 Go.Proofs.Try.results63 ⟨rfl, trivial⟩ ?_
    exact ⟨.inr (hA2.mono fun b _ hz => hz.elim id (fun h => by omega)), (M1.fr nowhere).trans' hF2 (fun _ _ _ h => h) (fun b o hb hz => by have hz' : H.size ≤ b := hz; omega)⟩

theorem revA_spec {B : World} {H : Mem} {v : Value} {l : List (Int × Int)} {Z : Nat → Prop} (hA : Acc EJ Z H v l) (hll : l.length ≤ 4294967296) :
    Fn Try.prog B 64 [v] H (fun _ H' => Acc EJ Z H' v l.reverse ∧ Fr (fun b _ => Z b) H H') := by
  rcases hA with ⟨rfl, rfl⟩ | hA
  rotate_left
  · exact (rev_spec hA hll).mono fun _ _ h => ⟨.inr h.1, h.2⟩
  refine fn_of Go.Proofs.Try.func64 rfl Go.Proofs.Try.ntmps64 ?_
  refine (show Go' _ _ _ _ 28 [(0, _)] [.code _] _ from ?_)
  refine Go'.seq ?_
  -- region 0 (slices.go:484)
  refine Go'.region [(0, 0), (1, 0), (2, 0), (3, 0), (4, 0)] rfl ?_
  refine O.mv rfl rfl rfl rfl rfl ?_
  refine O.len rfl rfl rfl rfl Go.Proofs.Try.underlying22 rfl ?_
  refine O.sub ((-1 : Int)) rfl rfl rfl rfl rfl rfl (by omega) (by omega) ?_
  refine O.asg rfl rfl rfl rfl rfl ?_
  refine O.asg rfl rfl rfl rfl rfl ?_
  refine Pl.fin [(0, _), (2, _), (3, _)] ⟨rfl, rfl, rfl, trivial⟩ ?_
  refine Go'.block ?_
  refine Go'.loop ?_
  refine Go'.seq ?_
  refine Go'.seq ?_
  -- region 1 (slices.go:484)
  refine Go'.region [(0, 0), (1, 0), (2, 0)] rfl ?_
  refine O.mv rfl rfl rfl rfl rfl ?_
  refine O.mv rfl rfl rfl rfl rfl ?_
  refine O.cmp rfl rfl rfl rfl rfl rfl (lssF (by omega)) ?_
  refine Pl.fin [(0, _), (2, _), (3, _), (9, _)] ⟨rfl, rfl, rfl, rfl, trivial⟩ ?_
  refine Go'.condF rfl ?_
  refine Go'.exit rfl ?_
  refine Go'.fall Go.Proofs.Try.func64 Go.Proofs.Try.results64 (vs := []) trivial ?_
  exact ⟨Acc.nil _ _ _, Fr.refl _ _⟩

theorem turnedA_spec {B : World} {H : Mem} {v : Value} {l : List (Int × Int)} (hi : InS EJ H v l) (hll : l.length ≤ 4294967296) :
    Fn Try.prog B 36 [v] H (fun r H' => Acc EJ (fun b => H.size ≤ b) H' r l.reverse ∧ Fr nowhere H H') := by
  refine fn_of Go.Proofs.Try.func36 rfl Go.Proofs.Try.ntmps36 ?_
  refine (show Go' _ _ _ _ 9 [(0, _)] [.code _] _ from ?_)
  refine Go'.seq ?_
  -- region 0 (trees.go:16)
  refine Go'.region [(0, 0)] rfl ?_
  refine O.asg rfl rfl rfl rfl rfl ?_
  refine Pl.fin [(0, _), (2, _)] ⟨rfl, rfl, trivial⟩ ?_
  refine Go'.seq ?_
  -- region 1 (trees.go:17)
  refine Go'.region [(0, 0), (1, 2), (2, 0)] rfl ?_
  refine O.mv rfl rfl rfl rfl rfl ?_
  refine O.call rfl rfl rfl Go.Proofs.Try.call63 rfl (cloneA_spec hi hll) ?_
  rintro v1 H1 ⟨h1, hF1⟩
  refine ⟨trivial, ?_⟩
  refine O.asg rfl rfl rfl rfl rfl ?_
  refine Pl.fin [(2, _), (3, _)] ⟨rfl, rfl, trivial⟩ ?_
  refine Go'.seq ?_
  -- region 2 (trees.go:18)
  refine Go'.region [(0, 0), (1, 2)] rfl ?_
  refine O.mv rfl rfl rfl rfl rfl ?_
  refine O.call rfl rfl rfl Go.Proofs.Try.call64 rfl (revA_spec h1 hll) ?_
  rintro _ H2 ⟨h2, hF2⟩
  refine ⟨trivial, ?_⟩
  refine Pl.fin [(2, _), (3, _)] ⟨rfl, rfl, trivial⟩ ?_
  refine Go'.seq ?_
  -- region 3 (trees.go:19)
  refine Go'.region [(0, 0), (1, 0)] rfl ?_
  refine O.mv rfl rfl rfl rfl rfl ?_
  refine O.asg rfl rfl rfl rfl rfl ?_
  refine Pl.fin [(2, _)] ⟨rfl, trivial⟩ ?_
  refine Go'.ret (vs := [_]) Go.Proofs.Try.func36 Go.Proofs.Try.results36 ⟨rfl, trivial⟩ ?_
  exact ⟨h2, hF1.trans' hF2 (fun _ _ _ h => h) (fun b o hb hz => by have hz' : H.size ≤ b := hz; omega)⟩

end SI
end Go.Bt
namespace Go.Bt
open Go Go.Proofs
set_option maxRecDepth 20000
set_option maxHeartbeats 4000000
set_option linter.unusedVariables false

end Go.Bt
