/- Contracts of functions of the program, proved by walking through their code. Conditions: those that each theorem names. -/
import Derived.Laws.StructEq
import Derived.Test.YtknkmaigdgfhlaaTozI
import Derived.Test.YtknkmaigdgfhlaaTotC
import Derived.Test.YtknkmaigdgfhlaaToMp
namespace Go.Bt.FZ
open Go Go.Proofs
set_option maxRecDepth 20000
set_option maxHeartbeats 4000000
set_option linter.unusedVariables false

theorem st136 : StT Try.prog 136 [] [] := ⟨⟨_, Try.underlying136, fun w => by simp⟩, Try.zeroValue136⟩
abbrev P0 : Ps := ⟨0, 63, 31⟩
theorem P0_ok : PsOk P0 := ⟨rfl, by decide, by decide⟩
/-- A set in memory: one that nothing was done to, or a map. -/
def MapU (H : Mem) (tr : Nat) (S : Nat → Prop) (l : List Int) : Prop := (l = [] ∧ MapZ H tr ∧ S tr ∧ ∀ b, S b → b < H.size) ∨ MapM H tr P0 S l
theorem MapU.fr {H H' : Mem} {Z : Nat → Nat → Prop} {tr : Nat} {S : Nat → Prop} {l : List Int} (h : MapU H tr S l) (hf : Fr Z H H') (hz : ∀ b o, S b → ¬ Z b o) : MapU H' tr S l :=
  h.imp (fun ⟨e, h, s, lt⟩ => ⟨e, h.fr hf (fun o => hz tr o s), s, fun b hb => Nat.lt_of_lt_of_le (lt b hb) hf.size⟩) (fun h => h.fr hf hz)
theorem MapU.lt {H : Mem} {tr : Nat} {S : Nat → Prop} {l : List Int} (h : MapU H tr S l) : ∀ b, S b → b < H.size := h.elim (fun h => h.2.2.2) (fun h => h.lt)
theorem MapU.own {H : Mem} {tr : Nat} {S : Nat → Prop} {l : List Int} (h : MapU H tr S l) : S tr := h.elim (fun h => h.2.2.1) (fun h => h.own)
theorem MapU.cnt {H : Mem} {tr : Nat} {S : Nat → Prop} {l : List Int} (h : MapU H tr S l) : cl H tr 3 = some (.int .i64 (l.length : Int)) := h.elim (fun h => by rw [h.1]; exact h.2.1.h3) (fun h => h.cnt)
theorem MapU.wr {H : Mem} {tr : Nat} {S : Nat → Prop} {l : List Int} (h : MapU H tr S l) : Wr H tr 0 9 := h.elim (fun h => h.2.1.hw) (fun h => h.tc.wr)
theorem MapU.cases {H : Mem} {tr : Nat} {S : Nat → Prop} {l : List Int} (h : MapU H tr S l) : (l = [] ∧ cl H tr 2 = some (.pointer none)) ∨ (TrC H tr 0 63 31 ∧ Pl.Srt OI l ∧ ∃ h, ∃ t : Gt EI h, Gt.Good H P0 h t ∧ 1 ≤ (Gt.X h t).length ∧ Gt.L h t = l ∧ cl H tr 2 = some (ptr (Gt.p h t)) ∧ (∀ o, ¬ Gt.af h t tr o) ∧ ∀ b o, Gt.af h t b o → S b) := by
  rcases h with ⟨e, h, _⟩ | ⟨tc, srt, cnt, own, lt, hr⟩
  · exact .inl ⟨e, h.h2⟩
  · rcases hr with ⟨e, k⟩ | ⟨h, t, r⟩
    · exact .inl ⟨e, k⟩
    · exact .inr ⟨tc, srt, h, t, r⟩

theorem mset_u {B : World} {H : Mem} {tr : Nat} {S : Nat → Prop} {l : List Int} {x : Int} (hU : MapU H tr S l) (hlen : l.length < 2305843009213693952) :
    Fn Try.prog B 135 [.pointer (some ⟨tr, 0, none⟩), .int .i64 x, .agg #[]] H (fun r H' => r = .tuple #[.agg #[], .bool (Pl.fnd OI x l)] ∧ ∃ S', MapU H' tr S' (Pl.put OI x l) ∧ Fr (fun b _ => S b) H H' ∧ ∀ b, S' b → S b ∨ H.size ≤ b) := by
  rcases hU with ⟨rfl, h, s, _⟩ | h
  · refine (mset_zero (x := x) h).mono fun r H' ⟨e, S', hM, hF, hS⟩ => ⟨e, S', .inr hM, hF.mono fun b o _ hb => ?_, fun b hb => (hS b hb).imp (fun hb => ?_) id⟩
    · have hb' : b = tr := hb
      rw [hb']; exact s
    · rw [hb]; exact s
  · exact (mset_spec P0_ok (x := x) h hlen).mono fun r H' ⟨e, S', hM, hF, hS⟩ => ⟨e, S', .inr hM, hF, hS⟩

theorem insert_spec {B : World} {H : Mem} {tr : Nat} {S : Nat → Prop} {l : List Int} {x : Int} (hU : MapU H tr S l) (hlen : l.length < 2305843009213693952) :
    Fn Try.prog B 96 [.pointer (some ⟨tr, 0, none⟩), .int .i64 x] H (fun r H' => ∃ S', MapU H' tr S' (Pl.put OI x l) ∧ Fr (fun b _ => S b) H H' ∧ ∀ b, S' b → S b ∨ H.size ≤ b) := by
  refine fn_of Go.Proofs.Try.func96 rfl Go.Proofs.Try.ntmps96 ?_
  refine (show Go' _ _ _ _ 10 [(0, _), (1, _)] [.code _] _ from ?_)
  -- region 0 (set.go:22)
  refine Go'.region [(0, 0), (1, 0), (2, 0), (3, 0), (4, 0), (5, 2)] rfl ?_
  refine O.mv rfl rfl rfl rfl rfl ?_
  refine O.nc rfl rfl rfl rfl rfl ?_
  refine O.faz rfl rfl rfl rfl ⟨_, _, _, Go.Proofs.Try.underlying142, rfl, rfl, Go.Proofs.Try.sizeOf140⟩ rfl ?_
  refine O.mv rfl rfl rfl rfl rfl ?_
  refine O.bld (cs := []) rfl rfl rfl rfl (st136) rfl (by kernel_rfl) ?_
  refine O.call rfl rfl rfl Go.Proofs.Try.call135 rfl (mset_u hU hlen) ?_
  rintro _ H2 ⟨rfl, h2⟩
  refine ⟨trivial, ?_⟩
  refine Pl.fin [] trivial ?_
  refine Go'.fall Go.Proofs.Try.func96 Go.Proofs.Try.results96 (vs := []) trivial ?_
  exact h2

theorem growSet_spec {B : World} {H : Mem} {u : Value} {l : List Int} (hi : InS EN H u l) (hll : l.length ≤ 4294967296) :
    Fn Try.prog B 55 [u] H (fun r H' => ∃ tr S, r = ptr tr ∧ MapU H' tr S (Pl.puts OI l) ∧ Fr nowhere H H' ∧ ∀ b, S b → H.size ≤ b) := by
  obtain ⟨a, c, hu⟩ := hi.len
  subst hu
  refine fn_of Go.Proofs.Try.func55 rfl Go.Proofs.Try.ntmps55 ?_
  refine (show Go' _ _ _ _ 18 [(0, _)] [.code _] _ from ?_)
  refine Go'.seq ?_
  -- region 0 (set.go:92)
  refine Go'.region [(0, 0)] rfl ?_
  refine O.asg rfl rfl rfl rfl rfl ?_
  refine Pl.fin [(0, _), (2, _)] ⟨rfl, rfl, trivial⟩ ?_
  refine Go'.seq ?_
  -- region 1 (set.go:93)
  refine Go'.region [(0, 2), (1, 0)] rfl ?_
  refine O.alloc rfl rfl rfl Go.Proofs.Try.zeroValue142 ?_
  intro H1 M1
  refine ⟨trivial, ?_⟩
  have hF1 := M1.fr nowhere
  have hs1 := M1.size
  have hU1 : MapU H1 H.size (fun b => b = H.size) [] := .inl ⟨rfl, ⟨(M1.cl 0).trans rfl, (M1.cl 2).trans rfl, (M1.cl 3).trans rfl, fun i v h => (by
    match i, h with
    | 0, h => exact (M1.cl 4).trans h
    | i + 1, h => simp at h), (M1.cl 5).trans rfl, (M1.cl 7).trans rfl, (M1.cl 8).trans rfl, M1.wr 9 (by decide)⟩, rfl, fun b hb => by subst hb; omega⟩
  refine O.asg rfl rfl rfl rfl rfl ?_
  refine Pl.fin [(0, _), (2, _), (3, _)] ⟨rfl, rfl, rfl, trivial⟩ ?_
  refine Go'.seq ?_
  refine Go'.seq ?_
  -- region 2 (set.go:94)
  refine Go'.region [(0, 0), (1, 0), (2, 0)] rfl ?_
  refine O.mv rfl rfl rfl rfl rfl ?_
  refine O.len rfl rfl rfl rfl Go.Proofs.Try.underlying22 rfl ?_
  refine O.mv rfl rfl rfl rfl rfl ?_
  refine Pl.fin [(2, _), (3, _), (7, _), (8, _), (9, _)] ⟨rfl, rfl, rfl, rfl, rfl, trivial⟩ ?_
  refine Go'.block ?_
  refine Go'.loop ?_
  refine Go'.keep [(3, _), (7, _), (8, _), (9, _)] ⟨rfl, rfl, rfl, rfl, trivial⟩ ?_
  refine Go'.ind (σ := Nat) (fun j => l.length - j) (fun j H' => Fr nowhere H H' ∧ j ≤ l.length ∧ ∃ S, MapU H' H.size S (Pl.puts OI (l.take j)) ∧ ∀ b, S b → H.size ≤ b)
    (fun j => [(3, .pointer (some ⟨H.size, 0, none⟩)), (7, .slice a l.length c), (8, .int .i64 (l.length : Int)), (9, .int .i64 (j : Int))]) 0 ⟨hF1, Nat.zero_le _, _, hU1, fun b hb => by subst hb; exact Nat.le_refl _⟩ rfl ?_
  rintro j H2 ⟨hF, hjl, S, hM, hS⟩ ih
  have hi2 := hi.fr hF
  refine Go'.seq ?_
  by_cases hlt : j < l.length
  · skip
    obtain ⟨y, hy⟩ : ∃ y, l[j]? = some y := ⟨l[j], List.getElem?_eq_getElem hlt⟩
    obtain ⟨b, o, c', e, hr⟩ := hi2.at hy
    cases e
    have hpl := Pl.puts_length OI (l.take j)
    have hsz := hF.size
    rw [List.length_take] at hpl
    -- region 3 (set.go:94)
    refine Go'.region [(0, 0)] rfl ?_
    refine O.cmp rfl rfl rfl rfl rfl rfl (lssT (by omega)) ?_
    refine Pl.fin [(3, _), (7, _), (8, _), (9, _), (10, _)] ⟨rfl, rfl, rfl, rfl, rfl, trivial⟩ ?_
    refine Go'.seq ?_
    refine Go'.condT rfl ?_
    refine Go'.skip ?_
    refine Go'.seq ?_
    refine Go'.block ?_
    refine Go'.seq ?_
    -- region 4 (set.go:94)
    refine Go'.region [(0, 0), (1, 1), (2, 0)] rfl ?_
    refine O.ix (j := j) rfl rfl rfl rfl Go.Proofs.Try.underlying22 Go.Proofs.Try.sizeOf3 rfl rfl (by omega) hlt ?_
    refine O.ld rfl rfl rfl (fun w => ⟨Go.Proofs.Try.isAgg3 w, Go.Proofs.Try.sizeOf3 w⟩) rfl (hr 0 _ rfl) ?_
    refine O.asg rfl rfl rfl rfl rfl ?_
    refine Pl.fin [(3, _), (5, _), (7, _), (8, _), (9, _), (10, _)] ⟨rfl, rfl, rfl, rfl, rfl, rfl, trivial⟩ ?_
    -- region 5 (set.go:95)
    refine Go'.region [(0, 0), (1, 0), (2, 2)] rfl ?_
    refine O.mv rfl rfl rfl rfl rfl ?_
    refine O.mv rfl rfl rfl rfl rfl ?_
    refine O.call rfl rfl rfl Go.Proofs.Try.call96 rfl (insert_spec (x := y) hM (by omega)) ?_
    rintro _ H5 ⟨S', hM', hF', hS'⟩
    refine ⟨trivial, ?_⟩
    refine Pl.fin [(3, _), (5, _), (7, _), (8, _), (9, _), (10, _)] ⟨rfl, rfl, rfl, rfl, rfl, rfl, trivial⟩ ?_
    refine Go'.inBlock ?_
    -- region 6 (set.go:94)
    refine Go'.region [(0, 0), (1, 0)] rfl ?_
    refine O.add (((j + 1 : Nat) : Int)) rfl rfl rfl rfl rfl rfl (by omega) (by omega) ?_
    refine O.mv rfl rfl rfl rfl rfl ?_
    refine Pl.fin [(3, _), (5, _), (7, _), (8, _), (9, _), (10, _)] ⟨rfl, rfl, rfl, rfl, rfl, rfl, trivial⟩ ?_
    refine Go'.keep [(3, _), (7, _), (8, _), (9, _)] ⟨rfl, rfl, rfl, rfl, trivial⟩ ?_
    refine Go'.inLoop ?_
    exact ih (j + 1) H5 ⟨hF.trans' hF' (fun _ _ _ h => h) (fun b o hb hz => by have h1 := hS b hz; omega), hlt, S', by
      rw [List.take_add_one, hy]
      rw [← Pl.puts_snoc] at hM'
      exact hM', fun b hb => (hS' b hb).elim (hS b) (fun h => by omega)⟩ (by omega)
  · skip
    obtain rfl : j = l.length := by omega
    -- region 3 (set.go:94)
    refine Go'.region [(0, 0)] rfl ?_
    refine O.cmp rfl rfl rfl rfl rfl rfl (lssF (by omega)) ?_
    refine Pl.fin [(3, _), (7, _), (8, _), (9, _), (10, _)] ⟨rfl, rfl, rfl, rfl, rfl, trivial⟩ ?_
    refine Go'.seq ?_
    refine Go'.condF rfl ?_
    refine Go'.exit rfl ?_
    refine Go'.seq ?_
    -- region 7 (set.go:97)
    refine Go'.region [(0, 0), (1, 0)] rfl ?_
    refine O.mv rfl rfl rfl rfl rfl ?_
    refine O.asg rfl rfl rfl rfl rfl ?_
    refine Pl.fin [(2, _)] ⟨rfl, trivial⟩ ?_
    refine Go'.ret (vs := [_]) Go.Proofs.Try.func55 Go.Proofs.Try.results55 ⟨rfl, trivial⟩ ?_
    rw [List.take_length] at hM
    exact ⟨H.size, S, rfl, hM, hF, hS⟩

theorem Gt.Good.some' {H : Mem} {P : Ps} : ∀ {h : Nat} {t : Gt EI h}, Gt.Good H P h t → 1 ≤ (Gt.X h t).length → 1 ≤ (Gt.L h t).length
  | 0, _, _, h1 => h1
  | h + 1, (g, X, K), hg, h1 => Nat.le_trans h1 (Pl.sublist_inter X (K.map (Gt.L h)) (by have := hg.2.2.2.2.2.1; simp only at this; rw [List.length_map, this]; omega)).length_le
def kz? : Option Int → Value
  | some y => .tuple #[.int .i64 y, .agg #[], .bool true]
  | none => .tuple #[.int .i64 0, .agg #[], .bool false]
theorem minMut_spec {B : World} {H : Mem} {tr : Nat} {S : Nat → Prop} {l : List Int} (hU : MapU H tr S l) (mt : Bool) :
    Fn Try.prog B 153 [.pointer (some ⟨tr, 0, none⟩), .bool mt] H (fun r H' => r = kz? l[0]? ∧ Fr nowhere H H') := by
  obtain ⟨z5, hz5⟩ : ∃ z, z = H.size := ⟨_, rfl⟩
  refine fn_of Go.Proofs.Try.func153 rfl Go.Proofs.Try.ntmps153 ?_
  refine (show Go' _ _ _ _ 44 [(0, _), (1, _)] [.code _] _ from ?_)
  refine Go'.seq ?_
  -- region 0 (map.go:671)
  refine Go'.region [(0, 0), (1, 2), (2, 0)] rfl ?_
  refine O.asg rfl rfl rfl rfl rfl ?_
  refine O.alloc rfl rfl rfl Go.Proofs.Try.zeroValue136 ?_
  intro H Mz
  refine ⟨trivial, ?_⟩
  replace hU := hU.fr (Mz.fr nowhere) (fun _ _ _ => nw)
  refine O.asg rfl rfl rfl rfl rfl ?_
  refine Pl.fin [(0, _), (1, _), (4, _), (5, _), (6, _)] ⟨rfl, rfl, rfl, rfl, rfl, trivial⟩ ?_
  refine Go'.seq ?_
  refine Go'.seq ?_
  refine Go'.mono (Q := fun r H' => r = kz? l[0]? ∧ Fr nowhere H H') (fun v H' hq => ⟨hq.1, (Mz.fr nowhere).trans hq.2⟩) ?_
  rw [← hz5]
  rcases hU.cases with ⟨rfl, hptr⟩ | ⟨tc, srt, h, t, hg, hx1, e, hc, hnt, hown⟩
  · skip
    -- region 1 (map.go:672)
    refine Go'.region [(0, 0), (1, 0), (2, 0), (3, 1), (4, 0)] rfl ?_
    refine O.mv rfl rfl rfl rfl rfl ?_
    refine O.nc rfl rfl rfl rfl rfl ?_
    refine O.fa0 (off := 2) rfl rfl rfl rfl ⟨_, _, _, Go.Proofs.Try.underlying140, rfl, rfl, Go.Proofs.Try.sizeOf135⟩ rfl ?_
    refine O.ld rfl rfl rfl (fun w => ⟨Go.Proofs.Try.isAgg135 w, Go.Proofs.Try.sizeOf135 w⟩) rfl hptr ?_
    refine O.isNil rfl rfl rfl rfl Go.Proofs.Try.underlying135 rfl rfl ?_
    refine Pl.fin [(0, _), (1, _), (4, _), (5, _), (6, _), (13, _)] ⟨rfl, rfl, rfl, rfl, rfl, rfl, trivial⟩ ?_
    refine Go'.condT rfl ?_
    refine Go'.seq ?_
    -- region 2 (map.go:673)
    refine Go'.draw (fun _ => True) [(0, 0), (1, 1), (2, 0), (3, 2), (4, 0)] (by kernel_rfl) (by kernel_rfl) (trivial) ?_
    refine O.mv rfl rfl rfl rfl rfl ?_
    refine O.lds rfl rfl rfl (fun w => ⟨Go.Proofs.Try.isAgg136 w, Go.Proofs.Try.sizeOf136 w⟩) rfl rfl (Rd.nil _ _ _) ?_
    refine O.asg rfl rfl rfl rfl rfl ?_
    refine O.st0 rfl rfl Go.Proofs.Try.sizeOf136 rfl rfl rfl trivial ?_
    refine O.asg rfl rfl rfl rfl rfl ?_
    refine Pl.fin [(0, _), (1, _), (4, _), (5, _), (6, _)] ⟨rfl, rfl, rfl, rfl, rfl, trivial⟩ ?_
    refine Go'.ret (vs := [_, _, _]) Go.Proofs.Try.func153 Go.Proofs.Try.results153 ⟨rfl, ⟨_, _, rfl, fun _ _ => run_loadVar_agg (fun w => ⟨Go.Proofs.Try.isAgg136 w, Go.Proofs.Try.sizeOf136 w⟩) rfl (Rd.nil _ _ _)⟩, rfl, trivial⟩ ?_
    exact ⟨rfl, Fr.refl _ _⟩
  · skip
    obtain ⟨kp, hN⟩ := hg.node
    have hiso : (Gt.g h t).iso = P0.iso := hg.isoe
    have hc0 := hN.c0
    rw [hiso] at hc0
    have hptr : cl H tr 2 = some (.pointer (some ⟨Gt.p h t, 0, none⟩)) := hc
    -- region 1 (map.go:672)
    refine Go'.region [(0, 0), (1, 0), (2, 0), (3, 1), (4, 0)] rfl ?_
    refine O.mv rfl rfl rfl rfl rfl ?_
    refine O.nc rfl rfl rfl rfl rfl ?_
    refine O.fa0 (off := 2) rfl rfl rfl rfl ⟨_, _, _, Go.Proofs.Try.underlying140, rfl, rfl, Go.Proofs.Try.sizeOf135⟩ rfl ?_
    refine O.ld rfl rfl rfl (fun w => ⟨Go.Proofs.Try.isAgg135 w, Go.Proofs.Try.sizeOf135 w⟩) rfl hptr ?_
    refine O.isNil rfl rfl rfl rfl Go.Proofs.Try.underlying135 rfl rfl ?_
    refine Pl.fin [(0, _), (1, _), (4, _), (5, _), (6, _), (13, _)] ⟨rfl, rfl, rfl, rfl, rfl, rfl, trivial⟩ ?_
    refine Go'.condF rfl ?_
    refine Go'.skip ?_
    refine Go'.seq ?_
    -- region 3 (map.go:675)
    refine Go'.region [(0, 0), (1, 0), (2, 0), (3, 0), (4, 0), (5, 2), (6, 0)] rfl ?_
    refine O.mv rfl rfl rfl rfl rfl ?_
    refine O.mv rfl rfl rfl rfl rfl ?_
    refine O.nc rfl rfl rfl rfl rfl ?_
    refine O.fa0 (off := 2) rfl rfl rfl rfl ⟨_, _, _, Go.Proofs.Try.underlying140, rfl, rfl, Go.Proofs.Try.sizeOf135⟩ rfl ?_
    refine O.mv rfl rfl rfl rfl rfl ?_
    refine O.callQ rfl rfl rfl Go.Proofs.Try.call151 rfl (isoLoad_spec mt hc hc0 tc.iso) trivial ?_
    refine O.asg rfl rfl rfl rfl rfl ?_
    refine Pl.fin [(0, _), (1, _), (4, _), (5, _), (6, _), (7, _)] ⟨rfl, rfl, rfl, rfl, rfl, rfl, trivial⟩ ?_
    refine Go'.block ?_
    refine Go'.loop ?_
    refine Go'.keep [(0, _), (1, _), (4, _), (5, _), (6, _), (7, _)] ⟨rfl, rfl, rfl, rfl, rfl, rfl, trivial⟩ ?_
    refine Go'.ind (σ := (h : Nat) × Gt EI h) (fun s => s.1) (fun s H' => H' = H ∧ Gt.Good H P0 s.1 s.2 ∧ 1 ≤ (Gt.X s.1 s.2).length ∧ (Gt.L s.1 s.2)[0]? = l[0]?)
      (fun s => [(0, .pointer (some ⟨tr, 0, none⟩)), (1, .bool mt), (4, .int .i64 0), (5, .pointer (some ⟨z5, 0, none⟩)), (6, .bool false), (7, .pointer (some ⟨Gt.p s.1 s.2, 0, none⟩))]) ⟨h, t⟩ ⟨rfl, hg, hx1, by rw [e]⟩ rfl ?_
    clear hg hx1 e hc hnt hown hN hiso hc0 hptr t h kp
    rintro ⟨h, t⟩ H2 ⟨hHH, hg, hx1, hL⟩ ih
    have eH : H = H2 := hHH.symm
    subst eH
    simp only at hg hx1 hL
    clear hHH
    refine Go'.block ?_
    refine Go'.seq ?_
    refine Go'.seq ?_
    rcases h with _ | h
    · -- a leaf
      obtain ⟨g, X⟩ := t
      have hN : NodeM EI H g X (.pointer none) := hg.1
      replace hx1 : 1 ≤ X.length := hx1
      replace hL : X[0]? = l[0]? := hL
      obtain ⟨y, hy⟩ : ∃ y, X[0]? = some y := ⟨X[0], List.getElem?_eq_getElem (by omega)⟩
      rw [← hL, hy]
      -- region 4 (map.go:677)
      refine Go'.region [(0, 0), (1, 2)] rfl ?_
      refine O.mv rfl rfl rfl rfl rfl ?_
      refine O.callQ rfl rfl rfl Go.Proofs.Try.call152 rfl (leaf_spec hN.c3) trivial ?_
      refine Pl.fin [(0, _), (1, _), (4, _), (5, _), (6, _), (7, _), (23, _)] ⟨rfl, rfl, rfl, rfl, rfl, rfl, rfl, trivial⟩ ?_
      refine Go'.condT rfl ?_
      refine Go'.seq ?_
      -- region 5 (map.go:678)
      refine Go'.region [(0, 0), (1, 0), (2, 0), (3, 1), (4, 0), (5, 1), (6, 2), (7, 2)] rfl ?_
      refine O.mv rfl rfl rfl rfl rfl ?_
      refine O.nc rfl rfl rfl rfl rfl ?_
      refine O.fa0 (off := 2) rfl rfl rfl rfl ⟨_, _, _, Go.Proofs.Try.underlying205, rfl, rfl, Go.Proofs.Try.sizeOf202⟩ rfl ?_
      refine O.ld rfl rfl rfl (fun w => ⟨Go.Proofs.Try.isAgg202 w, Go.Proofs.Try.sizeOf202 w⟩) rfl hN.c2 ?_
      refine O.ix (j := 0) rfl rfl rfl rfl Go.Proofs.Try.underlying202 Go.Proofs.Try.sizeOf138 rfl rfl rfl (by omega) ?_
      refine O.lds rfl rfl rfl (fun w => ⟨Go.Proofs.Try.isAgg138 w, Go.Proofs.Try.sizeOf138 w⟩) rfl rfl (hN.sl.item hy) ?_
      refine O.alloc rfl rfl rfl Go.Proofs.Try.zeroValue138 ?_
      intro H3 M3
      refine ⟨trivial, ?_⟩
      have hs3 := M3.size
      have m8 : Wr H3 H.size 0 1 := M3.wr 1 (by decide)
      refine O.st rfl rfl Go.Proofs.Try.sizeOf138 rfl rfl rfl rfl rfl m8 ?_
      intro H4 W4
      have hF4 : Fr nowhere H H4 := (M3.fr nowhere).trans' W4.fr (fun _ _ _ h => h) (fun b o hb hz => by have h1 := hz.1; omega)
      replace m8 := W4.fr.wr m8
      have k0 : cl H4 H.size 0 = some (.int .i64 y) := W4.all 0 _ rfl
      refine ⟨trivial, ?_⟩
      refine Pl.fin [(0, _), (1, _), (4, _), (5, _), (6, _), (7, _), (8, _), (23, _)] ⟨rfl, rfl, rfl, rfl, rfl, rfl, rfl, rfl, trivial⟩ ?_
      refine Go'.seq ?_
      -- region 6 (map.go:679)
      refine Go'.draw (fun _ => True) [(0, 0), (1, 1), (2, 1), (3, 1), (4, 0), (5, 2), (6, 0)] (by kernel_rfl) (by kernel_rfl) (trivial) ?_
      refine O.faz rfl rfl rfl rfl ⟨_, _, _, Go.Proofs.Try.underlying138, rfl, rfl, Go.Proofs.Try.sizeOf3⟩ rfl ?_
      refine O.ld rfl rfl rfl (fun w => ⟨Go.Proofs.Try.isAgg3 w, Go.Proofs.Try.sizeOf3 w⟩) rfl k0 ?_
      refine O.fz1 rfl rfl rfl ty ⟨_, _, Go.Proofs.Try.underlying138, rfl, rfl, rfl, Go.Proofs.Try.sizeOf136⟩ rfl m8 ?_
      refine O.lds rfl rfl rfl (fun w => ⟨Go.Proofs.Try.isAgg136 w, Go.Proofs.Try.sizeOf136 w⟩) rfl rfl (Rd.nil _ _ _) ?_
      refine O.asg rfl rfl rfl rfl rfl ?_
      refine O.st0 rfl rfl Go.Proofs.Try.sizeOf136 rfl rfl rfl trivial ?_
      refine O.asg rfl rfl rfl rfl rfl ?_
      refine Pl.fin [(0, _), (1, _), (4, _), (5, _), (6, _), (7, _), (8, _), (23, _)] ⟨rfl, rfl, rfl, rfl, rfl, rfl, rfl, rfl, trivial⟩ ?_
      refine Go'.ret (vs := [_, _, _]) Go.Proofs.Try.func153 Go.Proofs.Try.results153 ⟨rfl, ⟨_, _, rfl, fun _ _ => run_loadVar_agg (fun w => ⟨Go.Proofs.Try.isAgg136 w, Go.Proofs.Try.sizeOf136 w⟩) rfl (Rd.nil _ _ _)⟩, rfl, trivial⟩ ?_
      exact ⟨rfl, hF4⟩
    · -- an inner node
      obtain ⟨g, X, K⟩ := t
      have hI : Inn H P0 h g X ((Gt.ps h K).map some) K := hg.inn
      have hKl : K.length = X.length + 1 := hg.2.2.2.2.2.1
      obtain ⟨k, K', rfl⟩ : ∃ k K', K = k :: K' := by
        cases K with
        | nil => simp at hKl
        | cons k K' => exact ⟨k, K', rfl⟩
      obtain ⟨hgk, hmk, _⟩ := hI.c.1 k List.mem_cons_self
      obtain ⟨kp, hNk⟩ := hgk.node
      have hc0 := hNk.c0
      rw [hgk.isoe] at hc0
      have hck : cl H g.kb (g.ko + 0 * 1) = some (ptr (Gt.p h k)) := hI.k.at (i := 0) rfl
      have hLk : (Gt.L h k)[0]? = l[0]? := by
        rw [← hL]
        show _ = (Pl.inter X ((k :: K').map (Gt.L h)))[0]?
        rw [List.map_cons, Pl.inter_post _ _ _ (by rw [List.length_map]; simpa using hKl.symm), List.getElem?_append_left (by have := Gt.Good.some' hgk (Nat.le_trans P0_ok.h1 hmk); omega)]
      -- region 4 (map.go:677)
      refine Go'.region [(0, 0), (1, 2)] rfl ?_
      refine O.mv rfl rfl rfl rfl rfl ?_
      refine O.callQ rfl rfl rfl Go.Proofs.Try.call152 rfl (leaf_spec hI.n.c3) trivial ?_
      refine Pl.fin [(0, _), (1, _), (4, _), (5, _), (6, _), (7, _), (23, _)] ⟨rfl, rfl, rfl, rfl, rfl, rfl, rfl, trivial⟩ ?_
      refine Go'.condF rfl ?_
      refine Go'.skip ?_
      -- region 7 (map.go:681)
      refine Go'.region [(0, 0), (1, 0), (2, 0), (3, 0), (4, 1), (5, 0), (6, 1), (7, 0), (8, 0), (9, 2), (10, 0)] rfl ?_
      refine O.mv rfl rfl rfl rfl rfl ?_
      refine O.mv rfl rfl rfl rfl rfl ?_
      refine O.nc rfl rfl rfl rfl rfl ?_
      refine O.fa0 (off := 3) rfl rfl rfl rfl ⟨_, _, _, Go.Proofs.Try.underlying205, rfl, rfl, Go.Proofs.Try.sizeOf203⟩ rfl ?_
      refine O.ld rfl rfl rfl (fun w => ⟨Go.Proofs.Try.isAgg203 w, Go.Proofs.Try.sizeOf203 w⟩) rfl hI.n.c3 ?_
      refine O.nc rfl rfl rfl rfl rfl ?_
      refine O.ld rfl rfl rfl (fun w => ⟨Go.Proofs.Try.isAgg206 w, Go.Proofs.Try.sizeOf206 w⟩) rfl hI.k.c ?_
      refine O.ix (j := 0) rfl rfl rfl rfl Go.Proofs.Try.underlying206 Go.Proofs.Try.sizeOf135 rfl rfl rfl (by rw [List.length_map, Gt.ps, List.length_map]; exact Nat.succ_pos _) ?_
      refine O.mv rfl rfl rfl rfl rfl ?_
      refine O.callQ rfl rfl rfl Go.Proofs.Try.call151 rfl (isoLoad_spec mt hck hc0 tc.iso) trivial ?_
      refine O.asg rfl rfl rfl rfl rfl ?_
      refine Pl.fin [(0, _), (1, _), (4, _), (5, _), (6, _), (7, _), (23, _)] ⟨rfl, rfl, rfl, rfl, rfl, rfl, rfl, trivial⟩ ?_
      refine Go'.inBlock ?_
      refine Go'.keep [(0, _), (1, _), (4, _), (5, _), (6, _), (7, _)] ⟨rfl, rfl, rfl, rfl, rfl, rfl, trivial⟩ ?_
      refine Go'.inLoop ?_
      exact ih ⟨h, k⟩ H ⟨rfl, hgk, Nat.le_trans P0_ok.h1 hmk, hLk⟩ (Nat.lt_succ_self h)

theorem min_spec {B : World} {H : Mem} {tr : Nat} {S : Nat → Prop} {l : List Int} (hU : MapU H tr S l) :
    Fn Try.prog B 122 [.pointer (some ⟨tr, 0, none⟩)] H (fun r H' => r = kz? l[0]? ∧ Fr nowhere H H') := by
  refine fn_of Go.Proofs.Try.func122 rfl Go.Proofs.Try.ntmps122 ?_
  refine (show Go' _ _ _ _ 10 [(0, _)] [.code _] _ from ?_)
  refine Go'.seq ?_
  -- region 0 (map.go:663)
  refine Go'.region [(0, 0), (1, 2), (2, 0)] rfl ?_
  refine O.asg rfl rfl rfl rfl rfl ?_
  refine O.alloc rfl rfl rfl Go.Proofs.Try.zeroValue136 ?_
  intro H Mz
  refine ⟨trivial, ?_⟩
  replace hU := hU.fr (Mz.fr nowhere) (fun _ _ _ => nw)
  refine O.asg rfl rfl rfl rfl rfl ?_
  refine Pl.fin [(0, _), (2, _), (3, _), (4, _)] ⟨rfl, rfl, rfl, rfl, trivial⟩ ?_
  refine Go'.seq ?_
  refine Go'.mono (Q := fun r H' => r = kz? l[0]? ∧ Fr nowhere H H') (fun v H' hq => ⟨hq.1, (Mz.fr nowhere).trans hq.2⟩) ?_
  cases hl0 : l[0]?
  · skip
    -- region 1 (map.go:664)
    refine Go'.region [(0, 0), (1, 2), (2, 0), (3, 0), (4, 0), (5, 0), (6, 2), (7, 0)] rfl ?_
    refine O.mv rfl rfl rfl rfl rfl ?_
    refine O.call rfl rfl rfl Go.Proofs.Try.call153 rfl (minMut_spec hU false) ?_
    rintro _ H2 ⟨rfl, hF2⟩
    rw [hl0]
    unfold kz?
    refine ⟨trivial, ?_⟩
    refine O.ext rfl rfl rfl rfl rfl rfl ?_
    refine O.ext rfl rfl rfl rfl rfl rfl ?_
    refine O.ext rfl rfl rfl rfl rfl rfl ?_
    refine O.asg rfl rfl rfl rfl rfl ?_
    refine O.st0 rfl rfl Go.Proofs.Try.sizeOf136 rfl rfl rfl trivial ?_
    refine O.asg rfl rfl rfl rfl rfl ?_
    refine Pl.fin [(2, _), (3, _), (4, _)] ⟨rfl, rfl, rfl, trivial⟩ ?_
    refine Go'.ret (vs := [_, _, _]) Go.Proofs.Try.func122 Go.Proofs.Try.results122 ⟨rfl, ⟨_, _, rfl, fun _ _ => run_loadVar_agg (fun w => ⟨Go.Proofs.Try.isAgg136 w, Go.Proofs.Try.sizeOf136 w⟩) rfl (Rd.nil _ _ _)⟩, rfl, trivial⟩ ?_
    exact ⟨rfl, hF2⟩
  · skip
    -- region 1 (map.go:664)
    refine Go'.region [(0, 0), (1, 2), (2, 0), (3, 0), (4, 0), (5, 0), (6, 2), (7, 0)] rfl ?_
    refine O.mv rfl rfl rfl rfl rfl ?_
    refine O.call rfl rfl rfl Go.Proofs.Try.call153 rfl (minMut_spec hU false) ?_
    rintro _ H2 ⟨rfl, hF2⟩
    rw [hl0]
    unfold kz?
    refine ⟨trivial, ?_⟩
    refine O.ext rfl rfl rfl rfl rfl rfl ?_
    refine O.ext rfl rfl rfl rfl rfl rfl ?_
    refine O.ext rfl rfl rfl rfl rfl rfl ?_
    refine O.asg rfl rfl rfl rfl rfl ?_
    refine O.st0 rfl rfl Go.Proofs.Try.sizeOf136 rfl rfl rfl trivial ?_
    refine O.asg rfl rfl rfl rfl rfl ?_
    refine Pl.fin [(2, _), (3, _), (4, _)] ⟨rfl, rfl, rfl, trivial⟩ ?_
    refine Go'.ret (vs := [_, _, _]) Go.Proofs.Try.func122 Go.Proofs.Try.results122 ⟨rfl, ⟨_, _, rfl, fun _ _ => run_loadVar_agg (fun w => ⟨Go.Proofs.Try.isAgg136 w, Go.Proofs.Try.sizeOf136 w⟩) rfl (Rd.nil _ _ _)⟩, rfl, trivial⟩ ?_
    exact ⟨rfl, hF2⟩

def ky? : Option Int → Value
  | some y => .tuple #[.int .i64 y, .bool true]
  | none => .tuple #[.int .i64 0, .bool false]
theorem smin_spec {B : World} {H : Mem} {tr : Nat} {S : Nat → Prop} {l : List Int} (hU : MapU H tr S l) :
    Fn Try.prog B 86 [.pointer (some ⟨tr, 0, none⟩)] H (fun r H' => r = ky? l[0]? ∧ Fr nowhere H H') := by
  refine fn_of Go.Proofs.Try.func86 rfl Go.Proofs.Try.ntmps86 ?_
  refine (show Go' _ _ _ _ 17 [(0, _)] [.code _] _ from ?_)
  refine Go'.seq ?_
  -- region 0 (set.go:78)
  refine Go'.region [(0, 0), (1, 0)] rfl ?_
  refine O.asg rfl rfl rfl rfl rfl ?_
  refine O.asg rfl rfl rfl rfl rfl ?_
  refine Pl.fin [(0, _), (2, _), (3, _)] ⟨rfl, rfl, rfl, trivial⟩ ?_
  refine Go'.seq ?_
  cases hl0 : l[0]?
  · skip
    -- region 1 (set.go:79)
    refine Go'.region [(0, 0), (1, 0), (2, 0), (3, 2), (4, 0), (5, 0), (6, 0), (7, 0), (8, 2), (9, 0), (10, 2), (11, 0)] rfl ?_
    refine O.mv rfl rfl rfl rfl rfl ?_
    refine O.nc rfl rfl rfl rfl rfl ?_
    refine O.faz rfl rfl rfl rfl ⟨_, _, _, Go.Proofs.Try.underlying142, rfl, rfl, Go.Proofs.Try.sizeOf140⟩ rfl ?_
    refine O.call rfl rfl rfl Go.Proofs.Try.call122 rfl (min_spec hU) ?_
    rintro _ H2 ⟨rfl, hF2⟩
    rw [hl0]
    unfold kz?
    refine ⟨trivial, ?_⟩
    refine O.mv rfl rfl rfl rfl rfl ?_
    refine O.ext rfl rfl rfl rfl rfl rfl ?_
    refine O.ext rfl rfl rfl rfl rfl rfl ?_
    refine O.ext rfl rfl rfl rfl rfl rfl ?_
    refine O.alloc rfl rfl rfl Go.Proofs.Try.zeroValue136 ?_
    intro H3 M3
    refine ⟨trivial, ?_⟩
    refine O.asg rfl rfl rfl rfl rfl ?_
    refine O.st0 rfl rfl Go.Proofs.Try.sizeOf136 rfl rfl rfl trivial ?_
    refine O.asg rfl rfl rfl rfl rfl ?_
    refine Pl.fin [(2, _), (3, _), (4, _), (6, _)] ⟨rfl, rfl, rfl, rfl, trivial⟩ ?_
    refine Go'.seq ?_
    -- region 2 (set.go:80)
    refine Go'.region [(0, 0), (1, 0), (2, 0), (3, 0)] rfl ?_
    refine O.mv rfl rfl rfl rfl rfl ?_
    refine O.mv rfl rfl rfl rfl rfl ?_
    refine O.asg rfl rfl rfl rfl rfl ?_
    refine O.asg rfl rfl rfl rfl rfl ?_
    refine Pl.fin [(2, _), (3, _)] ⟨rfl, rfl, trivial⟩ ?_
    refine Go'.ret (vs := [_, _]) Go.Proofs.Try.func86 Go.Proofs.Try.results86 ⟨rfl, rfl, trivial⟩ ?_
    exact ⟨rfl, hF2.trans (M3.fr nowhere)⟩
  · skip
    -- region 1 (set.go:79)
    refine Go'.region [(0, 0), (1, 0), (2, 0), (3, 2), (4, 0), (5, 0), (6, 0), (7, 0), (8, 2), (9, 0), (10, 2), (11, 0)] rfl ?_
    refine O.mv rfl rfl rfl rfl rfl ?_
    refine O.nc rfl rfl rfl rfl rfl ?_
    refine O.faz rfl rfl rfl rfl ⟨_, _, _, Go.Proofs.Try.underlying142, rfl, rfl, Go.Proofs.Try.sizeOf140⟩ rfl ?_
    refine O.call rfl rfl rfl Go.Proofs.Try.call122 rfl (min_spec hU) ?_
    rintro _ H2 ⟨rfl, hF2⟩
    rw [hl0]
    unfold kz?
    refine ⟨trivial, ?_⟩
    refine O.mv rfl rfl rfl rfl rfl ?_
    refine O.ext rfl rfl rfl rfl rfl rfl ?_
    refine O.ext rfl rfl rfl rfl rfl rfl ?_
    refine O.ext rfl rfl rfl rfl rfl rfl ?_
    refine O.alloc rfl rfl rfl Go.Proofs.Try.zeroValue136 ?_
    intro H3 M3
    refine ⟨trivial, ?_⟩
    refine O.asg rfl rfl rfl rfl rfl ?_
    refine O.st0 rfl rfl Go.Proofs.Try.sizeOf136 rfl rfl rfl trivial ?_
    refine O.asg rfl rfl rfl rfl rfl ?_
    refine Pl.fin [(2, _), (3, _), (4, _), (6, _)] ⟨rfl, rfl, rfl, rfl, trivial⟩ ?_
    refine Go'.seq ?_
    -- region 2 (set.go:80)
    refine Go'.region [(0, 0), (1, 0), (2, 0), (3, 0)] rfl ?_
    refine O.mv rfl rfl rfl rfl rfl ?_
    refine O.mv rfl rfl rfl rfl rfl ?_
    refine O.asg rfl rfl rfl rfl rfl ?_
    refine O.asg rfl rfl rfl rfl rfl ?_
    refine Pl.fin [(2, _), (3, _)] ⟨rfl, rfl, trivial⟩ ?_
    refine Go'.ret (vs := [_, _]) Go.Proofs.Try.func86 Go.Proofs.Try.results86 ⟨rfl, rfl, trivial⟩ ?_
    exact ⟨rfl, hF2.trans (M3.fr nowhere)⟩

/-- A key that was found. -/
def kvs : Option Int → List Value
  | some y => [.int .i64 y, .bool true]
  | none => [.int .i64 0, .bool false]
def KV (o : Option Int) : Value := .agg (kvs o).toArray
theorem st63 : StT Try.prog 63 [(0, 1), (1, 1)] [.int .i64 0, .bool false] := ⟨⟨_, Try.underlying63, fun w => by simp [Array.mapM_eq_mapM_toList, Try.sizeOf3, Try.sizeOf4]⟩, Try.zeroValue63⟩
def ok1 (x : Int) : Bool → Option Int
  | true => some x
  | false => none
theorem key_spec {B : World} {H : Mem} {x : Int} {ok : Bool} : Fn Try.prog B 83 [.int .i64 x, .bool ok] H (fun r H' => r = KV (ok1 x ok) ∧ Fr nowhere H H') := by
  have hF : Fr nowhere H H := Fr.refl _ _
  refine fn_of Go.Proofs.Try.func83 rfl Go.Proofs.Try.ntmps83 ?_
  refine (show Go' _ _ _ _ 10 [(0, _), (1, _)] [.code _] _ from ?_)
  refine Go'.seq ?_
  -- region 0 (set.go:101)
  refine Go'.region [(0, 2)] rfl ?_
  refine O.alloc rfl rfl rfl Go.Proofs.Try.zeroValue63 ?_
  intro H2 M2
  refine ⟨trivial, ?_⟩
  have hs2 := M2.size
  
  replace hF := hF.trans' (M2.fr nowhere) (fun _ _ _ h => h) (fun _ _ _ h => h.elim)
  have m4 : Wr H2 H.size 0 2 := M2.wr 2 (by decide)
  refine Pl.fin [(0, _), (1, _), (4, _)] ⟨rfl, rfl, rfl, trivial⟩ ?_
  refine Go'.seq ?_
  refine Go'.seq ?_
  -- region 1 (set.go:102)
  refine Go'.region [(0, 0), (1, 0)] rfl ?_
  refine O.mv rfl rfl rfl rfl rfl ?_
  refine O.not rfl rfl rfl rfl rfl ?_
  refine Pl.fin [(0, _), (4, _), (6, _)] ⟨rfl, rfl, rfl, trivial⟩ ?_
  cases ok
  · skip
    refine Go'.condT rfl ?_
    refine Go'.seq ?_
    -- region 2 (set.go:103)
    refine Go'.region [(0, 0), (1, 2)] rfl ?_
    refine O.bld (cs := (kvs none)) rfl rfl rfl rfl (st63) rfl (by kernel_rfl) ?_
    refine O.st rfl rfl Go.Proofs.Try.sizeOf63 rfl rfl rfl rfl rfl m4 ?_
    intro H5 W5
    replace hF := hF.trans' W5.fr (fun _ _ _ h => h) (fun b o hb hz => by have h1 := hz.1; omega)
    refine ⟨trivial, ?_⟩
    refine Pl.fin [(0, _), (4, _)] ⟨rfl, rfl, trivial⟩ ?_
    refine Go'.ret (vs := [_]) Go.Proofs.Try.func83 Go.Proofs.Try.results83 ⟨⟨_, _, rfl, fun _ _ => run_loadVar_agg (fun w => ⟨Go.Proofs.Try.isAgg63 w, Go.Proofs.Try.sizeOf63 w⟩) rfl W5.all⟩, trivial⟩ ?_
    exact ⟨rfl, hF⟩
  · skip
    refine Go'.condF rfl ?_
    refine Go'.skip ?_
    refine Go'.seq ?_
    -- region 3 (set.go:105)
    refine Go'.region [(0, 0), (1, 0), (2, 2)] rfl ?_
    refine O.mv rfl rfl rfl rfl rfl ?_
    refine O.bld (cs := (kvs (some x))) rfl rfl rfl rfl (st63) rfl (by kernel_rfl) ?_
    refine O.st rfl rfl Go.Proofs.Try.sizeOf63 rfl rfl rfl rfl rfl m4 ?_
    intro H5 W5
    replace hF := hF.trans' W5.fr (fun _ _ _ h => h) (fun b o hb hz => by have h1 := hz.1; omega)
    refine ⟨trivial, ?_⟩
    refine Pl.fin [(4, _)] ⟨rfl, trivial⟩ ?_
    refine Go'.ret (vs := [_]) Go.Proofs.Try.func83 Go.Proofs.Try.results83 ⟨⟨_, _, rfl, fun _ _ => run_loadVar_agg (fun w => ⟨Go.Proofs.Try.isAgg63 w, Go.Proofs.Try.sizeOf63 w⟩) rfl W5.all⟩, trivial⟩ ?_
    exact ⟨rfl, hF⟩

theorem simplMin_spec {B : World} {H : Mem} {u : Value} {l : List Int} (hi : InS EN H u l) (hll : l.length ≤ 4294967296) :
    Fn Try.prog B 40 [u] H (fun r H' => r = KV (Pl.puts OI l)[0]? ∧ Fr nowhere H H') := by
  have hF : Fr nowhere H H := Fr.refl _ _
  refine fn_of Go.Proofs.Try.func40 rfl Go.Proofs.Try.ntmps40 ?_
  refine (show Go' _ _ _ _ 9 [(0, _)] [.code _] _ from ?_)
  refine Go'.seq ?_
  -- region 0 (set.go:162)
  refine Go'.region [(0, 2)] rfl ?_
  refine O.alloc rfl rfl rfl Go.Proofs.Try.zeroValue63 ?_
  intro H1 M1
  refine ⟨trivial, ?_⟩
  have hs1 := M1.size
  replace hi := hi.fr (M1.fr nowhere)
  replace hF := hF.trans' (M1.fr nowhere) (fun _ _ _ h => h) (fun _ _ _ h => h.elim)
  have m4 : Wr H1 H.size 0 2 := M1.wr 2 (by decide)
  refine Pl.fin [(0, _), (2, _)] ⟨rfl, rfl, trivial⟩ ?_
  refine Go'.seq ?_
  cases hl0 : (Pl.puts OI l)[0]? with
  | none =>
    -- region 1 (set.go:163)
    refine Go'.region [(0, 0), (1, 2), (2, 2), (3, 0), (4, 0), (5, 2), (6, 2)] rfl ?_
    refine O.mv rfl rfl rfl rfl rfl ?_
    refine O.call rfl rfl rfl Go.Proofs.Try.call55 rfl (growSet_spec hi hll) ?_
    rintro _ H2 ⟨tr, S, rfl, hM, hF2, _⟩
    unfold ptr
    have hs2 := hF2.size
    replace m4 := hF2.wr m4
    replace hF := hF.trans' hF2 (fun _ _ _ h => h) (fun _ _ _ h => h.elim)
    refine ⟨trivial, ?_⟩
    refine O.call rfl rfl rfl Go.Proofs.Try.call86 rfl (smin_spec hM) ?_
    rintro _ H3 ⟨rfl, hF3⟩
    have hs3 := hF3.size
    replace m4 := hF3.wr m4
    replace hF := hF.trans' hF3 (fun _ _ _ h => h) (fun _ _ _ h => h.elim)
    rw [hl0]
    unfold ky?
    refine ⟨trivial, ?_⟩
    refine O.ext rfl rfl rfl rfl rfl rfl ?_
    refine O.ext rfl rfl rfl rfl rfl rfl ?_
    refine O.call rfl rfl rfl Go.Proofs.Try.call83 rfl (key_spec (x := (0 : Int)) (ok := false)) ?_
    rintro _ H4 ⟨rfl, hF4⟩
    have hs4 := hF4.size
    replace m4 := hF4.wr m4
    replace hF := hF.trans' hF4 (fun _ _ _ h => h) (fun _ _ _ h => h.elim)
    refine ⟨trivial, ?_⟩
    refine O.st (vs := (kvs none)) rfl rfl Go.Proofs.Try.sizeOf63 rfl rfl rfl rfl rfl m4 ?_
    intro H5 W5
    replace hF := hF.trans' W5.fr (fun _ _ _ h => h) (fun b o hb hz => by have h1 := hz.1; omega)
    refine ⟨trivial, ?_⟩
    refine Pl.fin [(2, _)] ⟨rfl, trivial⟩ ?_
    refine Go'.ret (vs := [_]) Go.Proofs.Try.func40 Go.Proofs.Try.results40 ⟨⟨_, _, rfl, fun _ _ => run_loadVar_agg (fun w => ⟨Go.Proofs.Try.isAgg63 w, Go.Proofs.Try.sizeOf63 w⟩) rfl W5.all⟩, trivial⟩ ?_
    exact ⟨rfl, hF⟩
  | some y =>
    -- region 1 (set.go:163)
    refine Go'.region [(0, 0), (1, 2), (2, 2), (3, 0), (4, 0), (5, 2), (6, 2)] rfl ?_
    refine O.mv rfl rfl rfl rfl rfl ?_
    refine O.call rfl rfl rfl Go.Proofs.Try.call55 rfl (growSet_spec hi hll) ?_
    rintro _ H2 ⟨tr, S, rfl, hM, hF2, _⟩
    unfold ptr
    have hs2 := hF2.size
    replace m4 := hF2.wr m4
    replace hF := hF.trans' hF2 (fun _ _ _ h => h) (fun _ _ _ h => h.elim)
    refine ⟨trivial, ?_⟩
    refine O.call rfl rfl rfl Go.Proofs.Try.call86 rfl (smin_spec hM) ?_
    rintro _ H3 ⟨rfl, hF3⟩
    have hs3 := hF3.size
    replace m4 := hF3.wr m4
    replace hF := hF.trans' hF3 (fun _ _ _ h => h) (fun _ _ _ h => h.elim)
    rw [hl0]
    unfold ky?
    refine ⟨trivial, ?_⟩
    refine O.ext rfl rfl rfl rfl rfl rfl ?_
    refine O.ext rfl rfl rfl rfl rfl rfl ?_
    refine O.call rfl rfl rfl Go.Proofs.Try.call83 rfl (key_spec (x := y) (ok := true)) ?_
    rintro _ H4 ⟨rfl, hF4⟩
    have hs4 := hF4.size
    replace m4 := hF4.wr m4
    replace hF := hF.trans' hF4 (fun _ _ _ h => h) (fun _ _ _ h => h.elim)
    refine ⟨trivial, ?_⟩
    refine O.st (vs := (kvs (some y))) rfl rfl Go.Proofs.Try.sizeOf63 rfl rfl rfl rfl rfl m4 ?_
    intro H5 W5
    replace hF := hF.trans' W5.fr (fun _ _ _ h => h) (fun b o hb hz => by have h1 := hz.1; omega)
    refine ⟨trivial, ?_⟩
    refine Pl.fin [(2, _)] ⟨rfl, trivial⟩ ?_
    refine Go'.ret (vs := [_]) Go.Proofs.Try.func40 Go.Proofs.Try.results40 ⟨⟨_, _, rfl, fun _ _ => run_loadVar_agg (fun w => ⟨Go.Proofs.Try.isAgg63 w, Go.Proofs.Try.sizeOf63 w⟩) rfl W5.all⟩, trivial⟩ ?_
    exact ⟨rfl, hF⟩

end Go.Bt.FZ
namespace Go.Bt.FZ
open Go Go.Proofs
set_option maxRecDepth 20000
set_option maxHeartbeats 4000000
set_option linter.unusedVariables false

def kinj (k : Int) : Int × Int := (k, 0)
theorem OO_kinj (x y : Int) : (OO []).lt (kinj x) (kinj y) = OI.lt x y := rfl
theorem puts_kinj (l : List Int) : Pl.puts (OO []) (l.map kinj) = (Pl.puts OI l).map kinj := Pl.puts_map OO_kinj l
theorem stM : StT Try.prog 73 [(0, 1), (1, 1), (2, 1)] [.slice none 0 0, .int .i64 0, .bool false] := ⟨⟨_, Try.underlying73, fun w => by simp [Array.mapM_eq_mapM_toList, Try.sizeOf3, Try.sizeOf4, Try.sizeOf22]⟩, Try.zeroValue73⟩

theorem specItems_spec {B : World} {H : Mem} {u : Value} {l : List Int} (hi : InS EN H u l) (hll : l.length ≤ 4294967296) :
    Fn Try.prog B 43 [u] H (fun r H' => Acc EJ (fun b => H.size ≤ b) H' r (l.map kinj) ∧ Fr nowhere H H') := by
  obtain ⟨a, c, hu⟩ := hi.len
  subst hu
  refine fn_of Go.Proofs.Try.func43 rfl Go.Proofs.Try.ntmps43 ?_
  refine (show Go' _ _ _ _ 19 [(0, _)] [.code _] _ from ?_)
  refine Go'.seq ?_
  -- region 0 (list.go:192)
  refine Go'.region [(0, 0)] rfl ?_
  refine O.asg rfl rfl rfl rfl rfl ?_
  refine Pl.fin [(0, _), (2, _)] ⟨rfl, rfl, trivial⟩ ?_
  refine Go'.seq ?_
  -- region 1 (list.go:193)
  refine Go'.region [(0, 0)] rfl ?_
  refine O.asg rfl rfl rfl rfl rfl ?_
  refine Pl.fin [(0, _), (2, _), (3, _)] ⟨rfl, rfl, rfl, trivial⟩ ?_
  refine Go'.seq ?_
  refine Go'.seq ?_
  -- region 2 (list.go:194)
  refine Go'.region [(0, 0), (1, 0), (2, 0)] rfl ?_
  refine O.mv rfl rfl rfl rfl rfl ?_
  refine O.len rfl rfl rfl rfl Go.Proofs.Try.underlying22 rfl ?_
  refine O.mv rfl rfl rfl rfl rfl ?_
  refine Pl.fin [(2, _), (3, _), (6, _), (7, _), (8, _)] ⟨rfl, rfl, rfl, rfl, rfl, trivial⟩ ?_
  refine Go'.block ?_
  refine Go'.loop ?_
  refine Go'.keep [(3, _), (6, _), (7, _), (8, _)] ⟨rfl, rfl, rfl, rfl, trivial⟩ ?_
  refine Go'.ind (σ := Nat × Value) (fun s => l.length - s.1) (fun s H' => Fr nowhere H H' ∧ s.1 ≤ l.length ∧ Acc EJ (fun b => H.size ≤ b) H' s.2 ((l.take s.1).map kinj))
    (fun s => [(3, s.2), (6, .slice a l.length c), (7, .int .i64 (l.length : Int)), (8, .int .i64 (s.1 : Int))]) (0, .slice none 0 0) ⟨Fr.refl _ _, Nat.zero_le _, Acc.nil _ _ _⟩ rfl ?_
  rintro ⟨j, sv⟩ H2 ⟨hF, hjl, hA⟩ ih
  simp only at hjl hA
  have hi2 := hi.fr hF
  refine Go'.seq ?_
  by_cases hlt : j < l.length
  · skip
    obtain ⟨y, hy⟩ : ∃ y, l[j]? = some y := ⟨l[j], List.getElem?_eq_getElem hlt⟩
    obtain ⟨b, o, c', e, hr⟩ := hi2.at hy
    cases e
    have hsz := hF.size
    have hx : (l.take (j + 1)).map kinj = (l.take j).map kinj ++ [kinj y] := by rw [List.take_add_one, hy, List.map_append]; rfl
    have hlout : ((l.take j).map kinj).length = j := by rw [List.length_map, List.length_take]; omega
    -- region 3 (list.go:194)
    refine Go'.region [(0, 0)] rfl ?_
    refine O.cmp rfl rfl rfl rfl rfl rfl (lssT (by omega)) ?_
    refine Pl.fin [(3, _), (6, _), (7, _), (8, _), (9, _)] ⟨rfl, rfl, rfl, rfl, rfl, trivial⟩ ?_
    refine Go'.seq ?_
    refine Go'.condT rfl ?_
    refine Go'.skip ?_
    refine Go'.seq ?_
    refine Go'.block ?_
    refine Go'.seq ?_
    -- region 4 (list.go:194)
    refine Go'.region [(0, 0), (1, 1), (2, 0)] rfl ?_
    refine O.ix (j := j) rfl rfl rfl rfl Go.Proofs.Try.underlying22 Go.Proofs.Try.sizeOf3 rfl rfl (by omega) hlt ?_
    refine O.ld rfl rfl rfl (fun w => ⟨Go.Proofs.Try.isAgg3 w, Go.Proofs.Try.sizeOf3 w⟩) rfl (hr 0 _ rfl) ?_
    refine O.asg rfl rfl rfl rfl rfl ?_
    refine Pl.fin [(3, _), (5, _), (6, _), (7, _), (8, _), (9, _)] ⟨rfl, rfl, rfl, rfl, rfl, rfl, trivial⟩ ?_
    -- region 5 (list.go:195)
    refine Go'.region [(0, 0), (1, 0), (2, 0), (3, 2), (4, 2), (5, 0)] rfl ?_
    refine O.mv rfl rfl rfl rfl rfl ?_
    refine O.mv rfl rfl rfl rfl rfl ?_
    refine O.bld (cs := (EJ.enc (kinj y))) rfl rfl rfl rfl (st68) rfl (by kernel_rfl) ?_
    refine O.bsl (cs := (EJ.enc (kinj y))) rfl rfl rfl ⟨Go.Proofs.Try.underlying74, Go.Proofs.Try.sizeOf68, Go.Proofs.Try.zeroValue68, ⟨_, Go.Proofs.Try.typeInfo68, rfl⟩, rfl, by decide, by decide⟩ rfl (by decide) (by kernel_rfl) ?_
    intro H5 M5
    have hs5 := M5.size
    have hA5 := hA.fr (M5.fr nowhere) (fun _ _ _ _ => nw)
    have m5 : Rd H5 H2.size 0 (row EJ [kinj y]) := M5.rd _ [] (by simp [row, EJ])
    refine ⟨trivial, ?_⟩
    refine O.appA (E := EJ) (Y := [kinj y]) rfl rfl rfl ⟨Go.Proofs.Try.underlying74, Go.Proofs.Try.sizeOf68, Go.Proofs.Try.zeroValue68, ⟨_, Go.Proofs.Try.typeInfo68, rfl⟩, rfl, by decide, by decide⟩ rfl hA5 rfl ⟨_, _, _, rfl, m5⟩ (Nat.succ_pos _) (by rw [hlout]; exact Nat.le_trans (Nat.mul_le_mul_left _ (Nat.le_of_ble_eq_true (n := _) (m := 4096) rfl)) (by simp only [List.length_cons, List.length_nil]; omega)) (by rw [hlout]; simp only [List.length_cons, List.length_nil]; omega) ?_
    intro v6 H6 hA6 hF6 hs6
    rw [← hx] at hA6
    refine ⟨trivial, ?_⟩
    refine O.asg rfl rfl rfl rfl rfl ?_
    refine Pl.fin [(3, _), (5, _), (6, _), (7, _), (8, _), (9, _)] ⟨rfl, rfl, rfl, rfl, rfl, rfl, trivial⟩ ?_
    refine Go'.inBlock ?_
    -- region 6 (list.go:194)
    refine Go'.region [(0, 0), (1, 0)] rfl ?_
    refine O.add (((j + 1 : Nat) : Int)) rfl rfl rfl rfl rfl rfl (by omega) (by omega) ?_
    refine O.mv rfl rfl rfl rfl rfl ?_
    refine Pl.fin [(3, _), (5, _), (6, _), (7, _), (8, _), (9, _)] ⟨rfl, rfl, rfl, rfl, rfl, rfl, trivial⟩ ?_
    refine Go'.keep [(3, _), (6, _), (7, _), (8, _)] ⟨rfl, rfl, rfl, rfl, trivial⟩ ?_
    refine Go'.inLoop ?_
    exact ih (j + 1, v6) H6 ⟨(hF.trans (M5.fr nowhere)).trans' hF6 (fun _ _ _ h => h) (fun b o hb hz => by have hz' : H.size ≤ b := hz; omega), hlt, hA6.mono (fun b hb hz => hz.elim id (fun h => by omega))⟩ (by simp only; omega)
  · skip
    obtain rfl : j = l.length := by omega
    rw [List.take_length] at hA
    -- region 3 (list.go:194)
    refine Go'.region [(0, 0)] rfl ?_
    refine O.cmp rfl rfl rfl rfl rfl rfl (lssF (by omega)) ?_
    refine Pl.fin [(3, _), (6, _), (7, _), (8, _), (9, _)] ⟨rfl, rfl, rfl, rfl, rfl, trivial⟩ ?_
    refine Go'.seq ?_
    refine Go'.condF rfl ?_
    refine Go'.exit rfl ?_
    refine Go'.seq ?_
    -- region 7 (list.go:197)
    refine Go'.region [(0, 0), (1, 0)] rfl ?_
    refine O.mv rfl rfl rfl rfl rfl ?_
    refine O.asg rfl rfl rfl rfl rfl ?_
    refine Pl.fin [(2, _)] ⟨rfl, trivial⟩ ?_
    refine Go'.ret (vs := [_]) Go.Proofs.Try.func43 Go.Proofs.Try.results43 ⟨rfl, trivial⟩ ?_
    exact ⟨hA, hF⟩

theorem keyOf_spec {B : World} {H : Mem} {o : Option (Int × Int)} : Fn Try.prog B 41 [.agg (fvs o).toArray] H (fun r H' => r = KV (o.map (·.1)) ∧ Fr nowhere H H') := by
  have hF : Fr nowhere H H := Fr.refl _ _
  cases o with
  | none =>
    refine fn_of Go.Proofs.Try.func41 rfl Go.Proofs.Try.ntmps41 ?_
    refine (show Go' _ _ _ _ 9 [(0, _)] [.code _] _ from ?_)
    refine Go'.seq ?_
    -- region 0 (help.go:49)
    refine Go'.region [(0, 2), (1, 2)] rfl ?_
    refine O.box rfl rfl rfl rfl ?_
    intro H1 M1
    refine ⟨trivial, ?_⟩
    have hs1 := M1.size
    
    replace hF := hF.trans' (M1.fr nowhere) (fun _ _ _ h => h) (fun _ _ _ h => h.elim)
    have mi : Rd H1 H.size 0 (fvs none) := M1.rd _ [] (by simp [fvs, Value.cells])
    refine O.alloc rfl rfl rfl Go.Proofs.Try.zeroValue63 ?_
    intro H2 M2
    refine ⟨trivial, ?_⟩
    have hs2 := M2.size
    replace mi := (M2.fr nowhere).rd mi (fun _ _ => nw)
    replace hF := hF.trans' (M2.fr nowhere) (fun _ _ _ h => h) (fun _ _ _ h => h.elim)
    have m2 : Wr H2 H1.size 0 2 := M2.wr 2 (by decide)
    refine Pl.fin [(1, _), (2, _)] ⟨rfl, rfl, trivial⟩ ?_
    refine Go'.seq ?_
    -- region 1 (help.go:49)
    refine Go'.region [(0, 0), (1, 0), (2, 1), (3, 0), (4, 1), (5, 0), (6, 2)] rfl ?_
    refine O.faz rfl rfl rfl rfl ⟨_, _, _, Go.Proofs.Try.underlying70, rfl, rfl, Go.Proofs.Try.sizeOf68⟩ rfl ?_
    refine O.faz rfl rfl rfl rfl ⟨_, _, _, Go.Proofs.Try.underlying68, rfl, rfl, Go.Proofs.Try.sizeOf3⟩ rfl ?_
    refine O.ld rfl rfl rfl (fun w => ⟨Go.Proofs.Try.isAgg3 w, Go.Proofs.Try.sizeOf3 w⟩) rfl (mi 0 _ rfl) ?_
    refine O.fa0 (off := 2) rfl rfl rfl rfl ⟨_, _, _, Go.Proofs.Try.underlying70, rfl, rfl, Go.Proofs.Try.sizeOf4⟩ rfl ?_
    refine O.ld rfl rfl rfl (fun w => ⟨Go.Proofs.Try.isAgg4 w, Go.Proofs.Try.sizeOf4 w⟩) rfl (mi 2 _ rfl) ?_
    refine O.bld (cs := (kvs none)) rfl rfl rfl rfl (st63) rfl (by kernel_rfl) ?_
    refine O.st (vs := (kvs none)) rfl rfl Go.Proofs.Try.sizeOf63 rfl rfl rfl rfl rfl m2 ?_
    intro H5 W5
    replace hF := hF.trans' W5.fr (fun _ _ _ h => h) (fun b o hb hz => by have h1 := hz.1; omega)
    refine ⟨trivial, ?_⟩
    refine Pl.fin [(2, _)] ⟨rfl, trivial⟩ ?_
    refine Go'.ret (vs := [_]) Go.Proofs.Try.func41 Go.Proofs.Try.results41 ⟨⟨_, _, rfl, fun _ _ => run_loadVar_agg (fun w => ⟨Go.Proofs.Try.isAgg63 w, Go.Proofs.Try.sizeOf63 w⟩) rfl W5.all⟩, trivial⟩ ?_
    exact ⟨rfl, hF⟩
  | some y =>
    refine fn_of Go.Proofs.Try.func41 rfl Go.Proofs.Try.ntmps41 ?_
    refine (show Go' _ _ _ _ 9 [(0, _)] [.code _] _ from ?_)
    refine Go'.seq ?_
    -- region 0 (help.go:49)
    refine Go'.region [(0, 2), (1, 2)] rfl ?_
    refine O.box rfl rfl rfl rfl ?_
    intro H1 M1
    refine ⟨trivial, ?_⟩
    have hs1 := M1.size
    
    replace hF := hF.trans' (M1.fr nowhere) (fun _ _ _ h => h) (fun _ _ _ h => h.elim)
    have mi : Rd H1 H.size 0 (fvs (some y)) := M1.rd _ [] (by simp [fvs, Value.cells])
    refine O.alloc rfl rfl rfl Go.Proofs.Try.zeroValue63 ?_
    intro H2 M2
    refine ⟨trivial, ?_⟩
    have hs2 := M2.size
    replace mi := (M2.fr nowhere).rd mi (fun _ _ => nw)
    replace hF := hF.trans' (M2.fr nowhere) (fun _ _ _ h => h) (fun _ _ _ h => h.elim)
    have m2 : Wr H2 H1.size 0 2 := M2.wr 2 (by decide)
    refine Pl.fin [(1, _), (2, _)] ⟨rfl, rfl, trivial⟩ ?_
    refine Go'.seq ?_
    -- region 1 (help.go:49)
    refine Go'.region [(0, 0), (1, 0), (2, 1), (3, 0), (4, 1), (5, 0), (6, 2)] rfl ?_
    refine O.faz rfl rfl rfl rfl ⟨_, _, _, Go.Proofs.Try.underlying70, rfl, rfl, Go.Proofs.Try.sizeOf68⟩ rfl ?_
    refine O.faz rfl rfl rfl rfl ⟨_, _, _, Go.Proofs.Try.underlying68, rfl, rfl, Go.Proofs.Try.sizeOf3⟩ rfl ?_
    refine O.ld rfl rfl rfl (fun w => ⟨Go.Proofs.Try.isAgg3 w, Go.Proofs.Try.sizeOf3 w⟩) rfl (mi 0 _ rfl) ?_
    refine O.fa0 (off := 2) rfl rfl rfl rfl ⟨_, _, _, Go.Proofs.Try.underlying70, rfl, rfl, Go.Proofs.Try.sizeOf4⟩ rfl ?_
    refine O.ld rfl rfl rfl (fun w => ⟨Go.Proofs.Try.isAgg4 w, Go.Proofs.Try.sizeOf4 w⟩) rfl (mi 2 _ rfl) ?_
    refine O.bld (cs := (kvs (some y.1))) rfl rfl rfl rfl (st63) rfl (by kernel_rfl) ?_
    refine O.st (vs := (kvs (some y.1))) rfl rfl Go.Proofs.Try.sizeOf63 rfl rfl rfl rfl rfl m2 ?_
    intro H5 W5
    replace hF := hF.trans' W5.fr (fun _ _ _ h => h) (fun b o hb hz => by have h1 := hz.1; omega)
    refine ⟨trivial, ?_⟩
    refine Pl.fin [(2, _)] ⟨rfl, trivial⟩ ?_
    refine Go'.ret (vs := [_]) Go.Proofs.Try.func41 Go.Proofs.Try.results41 ⟨⟨_, _, rfl, fun _ _ => run_loadVar_agg (fun w => ⟨Go.Proofs.Try.isAgg63 w, Go.Proofs.Try.sizeOf63 w⟩) rfl W5.all⟩, trivial⟩ ?_
    exact ⟨rfl, hF⟩

theorem fieldsK : Try.prog.underlying 63 = some (.struct (Try.prog.fieldsOf 63)) := by unfold Program.fieldsOf; rw [Try.underlying63]
theorem key_eq (o : Option Int) (x y : Operand) (w : World) : (eqGuard .eql 63 x y (.agg (kvs o).toArray) (.agg (kvs o).toArray)).run Try.prog w = .ok () w ∧ (binOp .eql 63 (.agg (kvs o).toArray) (.agg (kvs o).toArray)).run Try.prog w = .ok (.bool true) w := by
  refine ⟨run_eqGuard_agg w _ _ _ _ _ _ Try.eqGuardType63, ?_⟩
  rw [run_eql_struct, run_equalIn_agg w 9999 63 _ _ fieldsK Try.stoodInHeld63]
  have hb : ∀ b : Bool, (Op.equalIn 9999 4 (.bool b) (.bool b)).run Try.prog w = .ok true w := fun b => by
    have := run_equalIn_bool' w 9998 4 b b Try.underlying4
    simpa using this
  cases o with
  | none => simp [kvs, Op.eqFields, Program.fieldsOf, Try.underlying63, part, Try.isAgg3, Try.isAgg4, run_equalIn_int w 9998 3 _ _ _ _ Try.underlying3, hb]
  | some y => simp [kvs, Op.eqFields, Program.fieldsOf, Try.underlying63, part, Try.isAgg3, Try.isAgg4, run_equalIn_int w 9998 3 _ _ _ _ Try.underlying3, hb]

theorem lawSMin_spec {B : World} {H : Mem} {u : Value} {l : List Int} (hi : InS EN H u l) (hll : l.length ≤ 4294967296) :
    Fn Try.prog B 14 [u] H (fun r H' => r = .bool true ∧ Fr nowhere H H') := by
  have hF : Fr nowhere H H := Fr.refl _ _
  have hi0 := hi
  have hlm : (l.map kinj).length ≤ 4294967296 := by rw [List.length_map]; exact hll
  have hmm : ((Pl.puts (OO []) (l.map kinj))[0]?).map (fun x => x.1) = (Pl.puts OI l)[0]? := by
    rw [puts_kinj, List.getElem?_map, Option.map_map]
    cases (Pl.puts OI l)[0]? <;> rfl
  refine fn_of Go.Proofs.Try.func14 rfl Go.Proofs.Try.ntmps14 ?_
  refine (show Go' _ _ _ _ 15 [(0, _)] [.code _] _ from ?_)
  refine Go'.seq ?_
  -- region 0 (exact.go:1740)
  refine Go'.region [(0, 0)] rfl ?_
  refine O.asg rfl rfl rfl rfl rfl ?_
  refine Pl.fin [(0, _), (2, _)] ⟨rfl, rfl, trivial⟩ ?_
  refine Go'.seq ?_
  -- region 1 (exact.go:1741)
  refine Go'.region [(0, 0), (1, 2), (2, 2), (3, 2)] rfl ?_
  refine O.mv rfl rfl rfl rfl rfl ?_
  refine O.call rfl rfl rfl Go.Proofs.Try.call40 rfl (simplMin_spec hi hll) ?_
  rintro _ H1 ⟨rfl, hF1⟩
  have hs1 := hF1.size
  replace hi := hi.fr hF1
  replace hF := hF.trans' hF1 (fun _ _ _ h => h) (fun _ _ _ h => h.elim)
  refine ⟨trivial, ?_⟩
  refine O.alloc rfl rfl rfl Go.Proofs.Try.zeroValue63 ?_
  intro H2 M2
  refine ⟨trivial, ?_⟩
  have hs2 := M2.size
  replace hi := hi.fr (M2.fr nowhere)
  replace hF := hF.trans' (M2.fr nowhere) (fun _ _ _ h => h) (fun _ _ _ h => h.elim)
  have m3 : Wr H2 H1.size 0 2 := M2.wr 2 (by decide)
  unfold KV
  refine O.st (vs := (kvs ((Pl.puts OI l)[0]?))) rfl rfl Go.Proofs.Try.sizeOf63 rfl rfl rfl (by cases ((Pl.puts OI l)[0]?) <;> rfl) (by cases ((Pl.puts OI l)[0]?) <;> rfl) m3 ?_
  intro H3 W3
  have hs3 := W3.size
  replace hF := hF.trans' W3.fr (fun _ _ _ h => h) (fun b o hb hz => by have h1 := hz.1; omega)
  replace hi := hi0.fr hF
  have r3 : Rd H3 H1.size 0 (kvs ((Pl.puts OI l)[0]?)) := W3.all
  refine ⟨trivial, ?_⟩
  refine Pl.fin [(0, _), (2, _), (3, _)] ⟨rfl, rfl, rfl, trivial⟩ ?_
  refine Go'.seq ?_
  -- region 2 (exact.go:1742)
  refine Go'.region [(0, 0), (1, 0), (2, 2), (3, 2), (4, 2), (5, 2), (6, 2)] rfl ?_
  refine O.bld (cs := [.slice none 0 0, .int .i64 0, .bool false]) rfl rfl rfl rfl (stM) rfl (by kernel_rfl) ?_
  refine O.mv rfl rfl rfl rfl rfl ?_
  refine O.call rfl rfl rfl Go.Proofs.Try.call43 rfl (specItems_spec hi hll) ?_
  rintro v4 H4 ⟨hA, hF4⟩
  have hs4 := hF4.size
  replace r3 := hF4.rd r3 (fun _ _ => nw)
  replace hF := hF.trans' hF4 (fun _ _ _ h => h) (fun _ _ _ h => h.elim)
  refine ⟨trivial, ?_⟩
  refine O.call rfl rfl rfl Go.Proofs.Try.call42 rfl (gmin_spec (ord := []) (InS.nil EN H4) (by simp) hA.inS hlm) ?_
  rintro _ H5 ⟨rfl, hF5⟩
  have hs5 := hF5.size
  replace r3 := hF5.rd r3 (fun _ _ => nw)
  replace hF := hF.trans' hF5 (fun _ _ _ h => h) (fun _ _ _ h => h.elim)
  rw [FV_eq]
  refine ⟨trivial, ?_⟩
  refine O.call rfl rfl rfl Go.Proofs.Try.call41 rfl (keyOf_spec (o := (Pl.puts (OO []) (l.map kinj))[0]?)) ?_
  rintro _ H6 ⟨rfl, hF6⟩
  have hs6 := hF6.size
  replace r3 := hF6.rd r3 (fun _ _ => nw)
  replace hF := hF.trans' hF6 (fun _ _ _ h => h) (fun _ _ _ h => h.elim)
  rw [hmm]
  unfold KV
  refine ⟨trivial, ?_⟩
  refine O.alloc rfl rfl rfl Go.Proofs.Try.zeroValue63 ?_
  intro H7 M7
  refine ⟨trivial, ?_⟩
  have hs7 := M7.size
  replace r3 := (M7.fr nowhere).rd r3 (fun _ _ => nw)
  replace hF := hF.trans' (M7.fr nowhere) (fun _ _ _ h => h) (fun _ _ _ h => h.elim)
  have m4 : Wr H7 H6.size 0 2 := M7.wr 2 (by decide)
  refine O.st (vs := (kvs ((Pl.puts OI l)[0]?))) rfl rfl Go.Proofs.Try.sizeOf63 rfl rfl rfl (by cases ((Pl.puts OI l)[0]?) <;> rfl) (by cases ((Pl.puts OI l)[0]?) <;> rfl) m4 ?_
  intro H8 W8
  replace r3 := W8.fr.rd r3 (fun _ _ => nr (.inl (by omega)))
  replace hF := hF.trans' W8.fr (fun _ _ _ h => h) (fun b o hb hz => by have h1 := hz.1; omega)
  have r4 : Rd H8 H6.size 0 (kvs ((Pl.puts OI l)[0]?)) := W8.all
  refine ⟨trivial, ?_⟩
  refine Pl.fin [(2, _), (3, _), (4, _)] ⟨rfl, rfl, rfl, trivial⟩ ?_
  refine Go'.seq ?_
  -- region 3 (exact.go:1743)
  refine Go'.region [(0, 1), (1, 1), (2, 0), (3, 0)] rfl ?_
  refine O.lds rfl rfl rfl (fun w => ⟨Go.Proofs.Try.isAgg63 w, Go.Proofs.Try.sizeOf63 w⟩) rfl (by cases ((Pl.puts OI l)[0]?) <;> rfl) r3 ?_
  refine O.lds rfl rfl rfl (fun w => ⟨Go.Proofs.Try.isAgg63 w, Go.Proofs.Try.sizeOf63 w⟩) rfl (by cases ((Pl.puts OI l)[0]?) <;> rfl) r4 ?_
  refine O.bin rfl rfl rfl rfl rfl rfl (key_eq ((Pl.puts OI l)[0]?) _ _) ?_
  refine O.asg rfl rfl rfl rfl rfl ?_
  refine Pl.fin [(2, _)] ⟨rfl, trivial⟩ ?_
  refine Go'.ret (vs := [_]) Go.Proofs.Try.func14 Go.Proofs.Try.results14 ⟨rfl, trivial⟩ ?_
  exact ⟨rfl, hF⟩

def exks : List Int := [5, 3, 9, 3, 1]
theorem fnExactSMin {B : World} {H : Mem} {u : Value} {l : List Int} (hi : InS EN H u l) :
    Fn Try.prog B 3 [u] H (fun r H' => r = .bool true ∧ Fr nowhere H H') := by
  obtain ⟨a, c, hu⟩ := hi.len
  subst hu
  have hi0 := hi
  refine fn_of Go.Proofs.Try.func3 rfl Go.Proofs.Try.ntmps3 ?_
  refine (show Go' _ _ _ _ 12 [(0, _)] [.code _] _ from ?_)
  refine Go'.seq ?_
  -- region 0 (exact.go:1733)
  refine Go'.region [(0, 0)] rfl ?_
  refine O.asg rfl rfl rfl rfl rfl ?_
  refine Pl.fin [(0, _), (2, _)] ⟨rfl, rfl, trivial⟩ ?_
  refine Go'.seq ?_
  refine Go'.seq ?_
  by_cases hbig : (2147483647 : Int) < (l.length : Int)
  · skip
    -- region 1 (exact.go:1734)
    refine Go'.region [(0, 0), (1, 0), (2, 0)] rfl ?_
    refine O.mv rfl rfl rfl rfl rfl ?_
    refine O.len rfl rfl rfl rfl Go.Proofs.Try.underlying22 rfl ?_
    refine O.cmp rfl rfl rfl rfl rfl rfl (gtrT (by omega)) ?_
    refine Pl.fin [(0, _), (2, _), (5, _)] ⟨rfl, rfl, rfl, trivial⟩ ?_
    refine Go'.condT rfl ?_
    refine Go'.seq ?_
    -- region 2 (exact.go:1735)
    refine Go'.region [(0, 0)] rfl ?_
    refine O.asg rfl rfl rfl rfl rfl ?_
    refine Pl.fin [(0, _), (2, _)] ⟨rfl, rfl, trivial⟩ ?_
    refine Go'.ret (vs := [_]) Go.Proofs.Try.func3 Go.Proofs.Try.results3 ⟨rfl, trivial⟩ ?_
    exact ⟨rfl, Fr.refl _ _⟩
  · skip
    -- region 1 (exact.go:1734)
    refine Go'.region [(0, 0), (1, 0), (2, 0)] rfl ?_
    refine O.mv rfl rfl rfl rfl rfl ?_
    refine O.len rfl rfl rfl rfl Go.Proofs.Try.underlying22 rfl ?_
    refine O.cmp rfl rfl rfl rfl rfl rfl (gtrF (by omega)) ?_
    refine Pl.fin [(0, _), (2, _), (5, _)] ⟨rfl, rfl, rfl, trivial⟩ ?_
    refine Go'.condF rfl ?_
    refine Go'.skip ?_
    refine Go'.seq ?_
    -- region 3 (exact.go:1737)
    refine Go'.region [(0, 2), (1, 2), (2, 0), (3, 0), (4, 2), (5, 0), (6, 0)] rfl ?_
    refine O.bsl (cs := (row EN exks)) rfl rfl rfl ⟨Go.Proofs.Try.underlying22, Go.Proofs.Try.sizeOf3, Go.Proofs.Try.zeroValue3, ⟨_, Go.Proofs.Try.typeInfo3, rfl⟩, rfl, by decide, by decide⟩ rfl (by decide) (by kernel_rfl) ?_
    intro H1 M1
    have hev : InS EN H1 (.slice (some ⟨H.size, 0, none⟩) 5 5) exks := .inl ⟨H.size, 0, 5, rfl, by decide, M1.rd _ [] (by simp)⟩
    refine ⟨trivial, ?_⟩
    refine O.call rfl rfl rfl Go.Proofs.Try.call14 rfl (lawSMin_spec hev (by decide)) ?_
    rintro _ H2 ⟨rfl, hF2⟩
    have hF := (M1.fr nowhere).trans hF2
    have hi2 := hi0.fr hF
    refine ⟨trivial, ?_⟩
    refine O.mv rfl rfl rfl rfl rfl ?_
    refine O.mv rfl rfl rfl rfl rfl ?_
    refine O.call rfl rfl rfl Go.Proofs.Try.call14 rfl (lawSMin_spec hi2 (by omega)) ?_
    rintro _ H3 ⟨rfl, hF3⟩
    replace hF := hF.trans hF3
    refine ⟨trivial, ?_⟩
    refine O.pick rfl rfl rfl rfl rfl rfl ?_
    refine O.asg rfl rfl rfl rfl rfl ?_
    refine Pl.fin [(2, _)] ⟨rfl, trivial⟩ ?_
    refine Go'.ret (vs := [_]) Go.Proofs.Try.func3 Go.Proofs.Try.results3 ⟨rfl, trivial⟩ ?_
    exact ⟨rfl, hF⟩

end Go.Bt.FZ
namespace Go.Bt
open Go Go.Proofs
set_option maxRecDepth 20000
set_option maxHeartbeats 4000000
set_option linter.unusedVariables false

theorem ath_cut (l : List (Int × Int)) (z : Int) : (Pl.cut l.length z).bind (l[·]?) = ath l z := by
  unfold Pl.cut ath
  by_cases h : z < 0
  · rw [if_neg (by omega), if_pos h]; rfl
  · rw [if_neg h]
    by_cases h2 : z < (l.length : Int)
    · rw [if_pos ⟨by omega, h2⟩]; rfl
    · rw [if_neg (by omega), List.getElem?_eq_none (by omega)]; rfl
theorem atz_none {l : List (Int × Int)} {z : Int} (h : ath l z = none) : Pl.atz (Pl.cut l.length z) = -1 := by
  cases hc : Pl.cut l.length z with
  | none => rfl
  | some q =>
    have hq := Pl.cut_lt hc
    rw [← ath_cut, hc] at h
    have : l[q]? = none := h
    rw [List.getElem?_eq_none_iff] at this
    omega
theorem atz_some {l : List (Int × Int)} {z : Int} {y : Int × Int} (h : ath l z = some y) : Pl.atz (Pl.cut l.length z) = z := by
  cases hc : Pl.cut l.length z with
  | none => rw [← ath_cut, hc] at h; cases h
  | some q =>
    unfold Pl.cut at hc
    split at hc
    · cases hc
      show ((z.toNat : Nat) : Int) = z
      omega
    · cases hc

theorem giter_spec {B : World} {H : Mem} {v u um : Value} {ord : List Int} {l : List (Int × Int)} {ms : List (Int × Int × Int)} (ho : InS EN H v ord) (hl : ord.length < 4611686018427387904) (hi : InS EJ H u l) (hs : Pl.Srt (OO ord) l) (hll : l.length ≤ 4294967296) (hu : InS EMv H um ms) (hml : ms.length ≤ 4294967296) :
    Fn Try.prog B 68 [v, u, um] H (fun r H' => ∃ v1 v2, r = .tuple #[v1, v2] ∧ OutS EF H' v1 (Pl.itRun (OO ord) l ms).2.1 ∧ OutS EB H' v2 (Pl.itRun (OO ord) l ms).2.2 ∧ Fr nowhere H H') := by
  obtain ⟨a, c, hue⟩ := hi.len
  subst hue
  obtain ⟨am, cm, hue⟩ := hu.len
  subst hue
  refine fn_of Go.Proofs.Try.func68 rfl Go.Proofs.Try.ntmps68 ?_
  refine (show Go' _ _ _ _ 79 [(0, _), (1, _), (2, _)] [.code _] _ from ?_)
  refine Go'.seq ?_
  -- region 0 (list.go:144)
  refine Go'.region [(0, 0), (1, 0)] rfl ?_
  refine O.asg rfl rfl rfl rfl rfl ?_
  refine O.asg rfl rfl rfl rfl rfl ?_
  refine Pl.fin [(0, _), (1, _), (2, _), (6, _), (7, _)] ⟨rfl, rfl, rfl, rfl, rfl, trivial⟩ ?_
  refine Go'.seq ?_
  -- region 1 (list.go:145)
  refine Go'.region [(0, 0)] rfl ?_
  refine O.asg rfl rfl rfl rfl rfl ?_
  refine Pl.fin [(0, _), (1, _), (2, _), (6, _), (7, _), (8, _)] ⟨rfl, rfl, rfl, rfl, rfl, rfl, trivial⟩ ?_
  refine Go'.seq ?_
  -- region 2 (list.go:146)
  refine Go'.region [(0, 0)] rfl ?_
  refine O.asg rfl rfl rfl rfl rfl ?_
  refine Pl.fin [(0, _), (1, _), (2, _), (6, _), (7, _), (8, _), (9, _)] ⟨rfl, rfl, rfl, rfl, rfl, rfl, rfl, trivial⟩ ?_
  refine Go'.seq ?_
  -- region 3 (list.go:147)
  refine Go'.region [(0, 0)] rfl ?_
  refine O.asg rfl rfl rfl rfl rfl ?_
  refine Pl.fin [(0, _), (1, _), (2, _), (6, _), (7, _), (8, _), (9, _), (10, _)] ⟨rfl, rfl, rfl, rfl, rfl, rfl, rfl, rfl, trivial⟩ ?_
  refine Go'.seq ?_
  refine Go'.seq ?_
  -- region 4 (list.go:148)
  refine Go'.region [(0, 0), (1, 0), (2, 0)] rfl ?_
  refine O.mv rfl rfl rfl rfl rfl ?_
  refine O.len rfl rfl rfl rfl Go.Proofs.Try.underlying45 rfl ?_
  refine O.mv rfl rfl rfl rfl rfl ?_
  refine Pl.fin [(0, _), (1, _), (6, _), (7, _), (8, _), (9, _), (10, _), (15, _), (16, _), (17, _)] ⟨rfl, rfl, rfl, rfl, rfl, rfl, rfl, rfl, rfl, rfl, trivial⟩ ?_
  refine Go'.block ?_
  refine Go'.loop ?_
  refine Go'.keep [(0, _), (1, _), (8, _), (9, _), (10, _), (15, _), (16, _), (17, _)] ⟨rfl, rfl, rfl, rfl, rfl, rfl, rfl, rfl, trivial⟩ ?_
  refine Go'.ind (σ := Nat × Value × Value) (fun s => ms.length - s.1) (fun s H' => Fr nowhere H H' ∧ s.1 ≤ ms.length ∧ ∃ Zo Zt, Acc EF Zo H' s.2.1 (Pl.itRun (OO ord) l (ms.take s.1)).2.1 ∧ Acc EB Zt H' s.2.2 (Pl.itRun (OO ord) l (ms.take s.1)).2.2 ∧ (∀ b, Zo b → H.size ≤ b ∧ b < H'.size ∧ ¬ Zt b) ∧ ∀ b, Zt b → H.size ≤ b ∧ b < H'.size)
    (fun s => [(0, v), (1, .slice a l.length c), (8, s.2.1), (9, s.2.2), (10, .int .i64 (Pl.atz (Pl.itRun (OO ord) l (ms.take s.1)).1)), (15, .slice am ms.length cm), (16, .int .i64 (ms.length : Int)), (17, .int .i64 (s.1 : Int))]) (0, .slice none 0 0, .slice none 0 0)
    ⟨Fr.refl _ _, Nat.zero_le _, fun _ => False, fun _ => False, Acc.nil _ _ _, Acc.nil _ _ _, fun _ h => h.elim, fun _ h => h.elim⟩ rfl ?_
  rintro ⟨j, sv, tv⟩ H2 ⟨hF, hjl, Zo, Zt, hA, hB, hZo, hZt⟩ ih
  simp only at hjl hA hB
  have ho2 := ho.fr hF
  have hi2 := hi.fr hF
  refine Go'.seq ?_
  by_cases hlt : j < ms.length
  · skip
    obtain ⟨y, hy⟩ : ∃ y, ms[j]? = some y := ⟨ms[j], List.getElem?_eq_getElem hlt⟩
    obtain ⟨b, o, c', e, hr⟩ := (hu.fr hF).at hy
    cases e
    have hsz0 := hF.size
    have erun : Pl.itRun (OO ord) l (ms.take (j + 1)) = Pl.itStep (OO ord) l (Pl.itRun (OO ord) l (ms.take j)) y := by rw [List.take_add_one, hy]; exact Pl.itRun_snoc _ _ _ _
    have hlA : (Pl.itRun (OO ord) l (ms.take j)).2.1.length = j := by rw [(Pl.itRun_len (OO ord) l (ms.take j)).1, List.length_take]; omega
    have hlB : (Pl.itRun (OO ord) l (ms.take j)).2.2.length = j := by rw [(Pl.itRun_len (OO ord) l (ms.take j)).2, List.length_take]; omega
    -- region 5 (list.go:148)
    refine Go'.region [(0, 0)] rfl ?_
    refine O.cmp rfl rfl rfl rfl rfl rfl (lssT (by omega)) ?_
    refine Pl.fin [(0, _), (1, _), (8, _), (9, _), (10, _), (15, _), (16, _), (17, _), (18, _)] ⟨rfl, rfl, rfl, rfl, rfl, rfl, rfl, rfl, rfl, trivial⟩ ?_
    refine Go'.seq ?_
    refine Go'.condT rfl ?_
    refine Go'.skip ?_
    refine Go'.seq ?_
    refine Go'.block ?_
    refine Go'.seq ?_
    -- region 6 (list.go:148)
    refine Go'.region [(0, 0), (1, 1), (2, 2), (3, 2)] rfl ?_
    refine O.ix (j := j) rfl rfl rfl rfl Go.Proofs.Try.underlying45 Go.Proofs.Try.sizeOf107 rfl rfl (by omega) hlt ?_
    refine O.lds rfl rfl rfl (fun w => ⟨Go.Proofs.Try.isAgg107 w, Go.Proofs.Try.sizeOf107 w⟩) rfl rfl hr ?_
    refine O.alloc rfl rfl rfl Go.Proofs.Try.zeroValue107 ?_
    intro H3 M3
    refine ⟨trivial, ?_⟩
    have hs3 := M3.size
    have m7 : Wr H3 H2.size 0 3 := M3.wr 3 (by decide)
    refine O.st rfl rfl Go.Proofs.Try.sizeOf107 rfl rfl rfl rfl rfl m7 ?_
    intro H4 W4
    have hs4 := W4.size
    have hf4 : Fr nowhere H2 H4 := (M3.fr nowhere).trans' W4.fr (fun _ _ _ h => h) (fun b o hb hz => by have h1 := hz.1; omega)
    replace ho2 := ho2.fr hf4
    replace hi2 := hi2.fr hf4
    replace hA := hA.fr hf4 (fun _ _ _ _ => nw)
    replace hB := hB.fr hf4 (fun _ _ _ _ => nw)
    have k0 : cl H4 H2.size 0 = some (.int .i64 y.1) := W4.all 0 _ rfl
    have k2 : Rd H4 H2.size 1 (EJ.enc y.2) := fun i v hv => by
      have h := W4.all (1 + i) v (by rw [← hv, Nat.add_comm]; rfl)
      rwa [Nat.zero_add] at h
    clear hr m7 M3
    refine ⟨trivial, ?_⟩
    refine Pl.fin [(0, _), (1, _), (8, _), (9, _), (10, _), (12, _), (15, _), (16, _), (17, _), (18, _)] ⟨rfl, rfl, rfl, rfl, rfl, rfl, rfl, rfl, rfl, rfl, trivial⟩ ?_
    refine Go'.seq ?_
    -- region 7 (list.go:149)
    refine Go'.region [(0, 0)] rfl ?_
    refine O.asg rfl rfl rfl rfl rfl ?_
    refine Pl.fin [(0, _), (1, _), (8, _), (9, _), (10, _), (12, _), (13, _), (15, _), (16, _), (17, _), (18, _)] ⟨rfl, rfl, rfl, rfl, rfl, rfl, rfl, rfl, rfl, rfl, rfl, trivial⟩ ?_
    refine Go'.seq ?_
    refine Go'.seq ?_
    -- region 8 (list.go:150)
    refine Go'.region [(0, 0), (1, 1)] rfl ?_
    refine O.faz rfl rfl rfl rfl ⟨_, _, _, Go.Proofs.Try.underlying107, rfl, rfl, Go.Proofs.Try.sizeOf3⟩ rfl ?_
    refine O.ld rfl rfl rfl (fun w => ⟨Go.Proofs.Try.isAgg3 w, Go.Proofs.Try.sizeOf3 w⟩) rfl k0 ?_
    refine Pl.fin [(0, _), (1, _), (8, _), (9, _), (10, _), (12, _), (13, _), (15, _), (16, _), (17, _), (18, _), (22, _)] ⟨rfl, rfl, rfl, rfl, rfl, rfl, rfl, rfl, rfl, rfl, rfl, rfl, trivial⟩ ?_
    refine Go'.block ?_
    refine Go'.seq ?_
    refine Go'.seq ?_
    refine Go'.cut4 (σ := Int × Bool) (fun s H' => Fr nowhere H4 H' ∧ s.1 = Pl.mvTo (OO ord) l y (Pl.itRun (OO ord) l (ms.take j)).1 ∧ s.2 = Pl.mvTold l y (Pl.itRun (OO ord) l (ms.take j)).1) (fun s => [(0, v), (1, .slice a l.length c), (8, sv), (9, tv), (10, .int .i64 s.1), (13, .bool s.2), (15, .slice (some ⟨b, o, none⟩) ms.length cm), (16, .int .i64 (ms.length : Int)), (17, .int .i64 (j : Int))]) ?_ ?_
    · rintro ⟨z, k⟩ H5 ⟨hf5, ez, ek⟩
      simp only at ez ek
      replace hi2 := hi2.fr hf5
      replace hA := hA.fr hf5 (fun _ _ _ _ => nw)
      replace hB := hB.fr hf5 (fun _ _ _ _ => nw)
      replace hf5 := hf4.trans hf5
      have hs5 := hf5.size
      have e1 : (Pl.itRun (OO ord) l (ms.take (j + 1))).1 = Pl.cut l.length z := by rw [erun, ez]; rfl
      have e2 : (Pl.itRun (OO ord) l (ms.take (j + 1))).2.1 = (Pl.itRun (OO ord) l (ms.take j)).2.1 ++ [ath l z] := by rw [erun, ← ath_cut, ez]; rfl
      have e3 : (Pl.itRun (OO ord) l (ms.take (j + 1))).2.2 = (Pl.itRun (OO ord) l (ms.take j)).2.2 ++ [k] := by rw [erun, ek]; rfl
      refine Go'.seq ?_
      cases hath : ath l z
      · skip
        -- region 22 (list.go:165)
        refine Go'.region [(0, 0), (1, 0), (2, 2), (3, 2), (4, 2)] rfl ?_
        refine O.mv rfl rfl rfl rfl rfl ?_
        refine O.mv rfl rfl rfl rfl rfl ?_
        refine O.call rfl rfl rfl Go.Proofs.Try.call87 rfl (at_spec z hi2 hll) ?_
        rintro _ H6 ⟨rfl, hF6⟩
        rw [hath]
        unfold FV
        have hs6 := hF6.size
        replace hA := hA.fr hF6 (fun _ _ _ _ => nw)
        replace hB := hB.fr hF6 (fun _ _ _ _ => nw)
        refine ⟨trivial, ?_⟩
        refine O.alloc rfl rfl rfl Go.Proofs.Try.zeroValue70 ?_
        intro H7 M7
        refine ⟨trivial, ?_⟩
        have hs7 := M7.size
        have m14 : Wr H7 H6.size 0 3 := M7.wr 3 (by decide)
        replace hA := hA.fr (M7.fr nowhere) (fun _ _ _ _ => nw)
        replace hB := hB.fr (M7.fr nowhere) (fun _ _ _ _ => nw)
        refine O.st (vs := (fvs none)) rfl rfl Go.Proofs.Try.sizeOf70 rfl rfl rfl rfl rfl m14 ?_
        intro H8 W8
        have hs8 := W8.size
        have f8 : Rd H8 H6.size 0 (fvs none) := W8.all
        have hf8 : Fr nowhere H2 H8 := ((hf5.trans hF6).trans (M7.fr nowhere)).trans' W8.fr (fun _ _ _ h => h) (fun b o hb hz => by have h1 := hz.1; omega)
        replace hA := hA.fr W8.fr (fun b o _ hz hx => by have h1 := hx.1; have h2 := hZo b hz; omega)
        replace hB := hB.fr W8.fr (fun b o _ hz hx => by have h1 := hx.1; have h2 := hZt b hz; omega)
        refine ⟨trivial, ?_⟩
        refine Pl.fin [(0, _), (1, _), (8, _), (9, _), (10, _), (13, _), (14, _), (15, _), (16, _), (17, _)] ⟨rfl, rfl, rfl, rfl, rfl, rfl, rfl, rfl, rfl, rfl, trivial⟩ ?_
        refine Go'.seq ?_
        refine Go'.seq ?_
        -- region 23 (list.go:166)
        refine Go'.region [(0, 0), (1, 1), (2, 0)] rfl ?_
        refine O.fa0 (off := 2) rfl rfl rfl rfl ⟨_, _, _, Go.Proofs.Try.underlying70, rfl, rfl, Go.Proofs.Try.sizeOf4⟩ rfl ?_
        refine O.ld rfl rfl rfl (fun w => ⟨Go.Proofs.Try.isAgg4 w, Go.Proofs.Try.sizeOf4 w⟩) rfl (f8 2 _ rfl) ?_
        refine O.not rfl rfl rfl rfl rfl ?_
        refine Pl.fin [(0, _), (1, _), (8, _), (9, _), (10, _), (13, _), (14, _), (15, _), (16, _), (17, _), (67, _)] ⟨rfl, rfl, rfl, rfl, rfl, rfl, rfl, rfl, rfl, rfl, rfl, trivial⟩ ?_
        refine Go'.condT rfl ?_
        -- region 24 (list.go:167)
        refine Go'.region [(0, 0)] rfl ?_
        refine O.asg rfl rfl rfl rfl rfl ?_
        refine Pl.fin [(0, _), (1, _), (8, _), (9, _), (10, _), (13, _), (14, _), (15, _), (16, _), (17, _), (67, _)] ⟨rfl, rfl, rfl, rfl, rfl, rfl, rfl, rfl, rfl, rfl, rfl, trivial⟩ ?_
        -- region 25 (list.go:169)
        refine Go'.region [(0, 0), (1, 1), (2, 2), (3, 2), (4, 0), (5, 0), (6, 2), (7, 2), (8, 0), (9, 0)] rfl ?_
        refine O.mv rfl rfl rfl rfl rfl ?_
        refine O.lds rfl rfl rfl (fun w => ⟨Go.Proofs.Try.isAgg70 w, Go.Proofs.Try.sizeOf70 w⟩) rfl rfl f8 ?_
        refine O.bsl (cs := (fvs none)) rfl rfl rfl ⟨Go.Proofs.Try.underlying78, Go.Proofs.Try.sizeOf70, Go.Proofs.Try.zeroValue70, ⟨_, Go.Proofs.Try.typeInfo70, rfl⟩, rfl, by decide, by decide⟩ rfl (by decide) (by kernel_rfl) ?_
        intro H9 M9
        have hs9 := M9.size
        replace hA := hA.fr (M9.fr nowhere) (fun _ _ _ _ => nw)
        replace hB := hB.fr (M9.fr nowhere) (fun _ _ _ _ => nw)
        have m5 : Rd H9 H8.size 0 (row EF [none]) := M9.rd _ [] (by simp [row, EF, fvs])
        refine ⟨trivial, ?_⟩
        refine O.appA (E := EF) (Y := [none]) rfl rfl rfl ⟨Go.Proofs.Try.underlying78, Go.Proofs.Try.sizeOf70, Go.Proofs.Try.zeroValue70, ⟨_, Go.Proofs.Try.typeInfo70, rfl⟩, rfl, by decide, by decide⟩ rfl hA rfl ⟨_, _, _, rfl, m5⟩ (Nat.succ_pos _) (Nat.le_trans (Nat.mul_le_mul_left _ (Nat.le_of_ble_eq_true (n := _) (m := 4096) rfl)) (by rw [hlA]; simp only [List.length_cons, List.length_nil]; omega)) (by rw [hlA]; simp only [List.length_cons, List.length_nil]; omega) ?_
        intro v10 H10 hA10 hF10 hs10
        have hg10 := hF10.size
        replace hB := hB.fr hF10 (fun b o _ hz hx => (hZo b hx).2.2 hz)
        refine ⟨trivial, ?_⟩
        refine O.mv rfl rfl rfl rfl rfl ?_
        refine O.mv rfl rfl rfl rfl rfl ?_
        refine O.bsl (cs := [.bool k]) rfl rfl rfl ⟨Go.Proofs.Try.underlying50, Go.Proofs.Try.sizeOf4, Go.Proofs.Try.zeroValue4, ⟨_, Go.Proofs.Try.typeInfo4, rfl⟩, rfl, by decide, by decide⟩ rfl (by decide) (by kernel_rfl) ?_
        intro H11 M11
        have hs11 := M11.size
        have hA11 := hA10.fr (M11.fr nowhere) (fun _ _ _ _ => nw)
        replace hB := hB.fr (M11.fr nowhere) (fun _ _ _ _ => nw)
        have m6 : Rd H11 H10.size 0 (row EB [k]) := M11.rd _ [] (by simp [row, EB])
        refine ⟨trivial, ?_⟩
        refine O.appA (E := EB) (Y := [k]) rfl rfl rfl ⟨Go.Proofs.Try.underlying50, Go.Proofs.Try.sizeOf4, Go.Proofs.Try.zeroValue4, ⟨_, Go.Proofs.Try.typeInfo4, rfl⟩, rfl, by decide, by decide⟩ rfl hB rfl ⟨_, _, _, rfl, m6⟩ (Nat.succ_pos _) (Nat.le_trans (Nat.mul_le_mul_left _ (Nat.le_of_ble_eq_true (n := _) (m := 4096) rfl)) (by rw [hlB]; simp only [List.length_cons, List.length_nil]; omega)) (by rw [hlB]; simp only [List.length_cons, List.length_nil]; omega) ?_
        intro v12 H12 hB12 hF12 hs12
        have hg12 := hF12.size
        have hA12 := hA11.fr hF12 (fun b o _ hz hx => by
          have h2 := hZt b hx
          rcases hz with hz | hz
          · exact (hZo b hz).2.2 hx
          · omega)
        rw [hath] at e2
        refine ⟨trivial, ?_⟩
        refine O.asg rfl rfl rfl rfl rfl ?_
        refine O.asg rfl rfl rfl rfl rfl ?_
        refine Pl.fin [(0, _), (1, _), (8, _), (9, _), (10, _), (13, _), (14, _), (15, _), (16, _), (17, _), (67, _)] ⟨rfl, rfl, rfl, rfl, rfl, rfl, rfl, rfl, rfl, rfl, rfl, trivial⟩ ?_
        refine Go'.inBlock ?_
        -- region 26 (list.go:148)
        refine Go'.region [(0, 0), (1, 0)] rfl ?_
        refine O.add (((j + 1 : Nat) : Int)) rfl rfl rfl rfl rfl rfl (by omega) (by omega) ?_
        refine O.mv rfl rfl rfl rfl rfl ?_
        refine Pl.fin [(0, _), (1, _), (8, _), (9, _), (10, _), (13, _), (14, _), (15, _), (16, _), (17, _), (67, _)] ⟨rfl, rfl, rfl, rfl, rfl, rfl, rfl, rfl, rfl, rfl, rfl, trivial⟩ ?_
        refine Go'.keep [(0, _), (1, _), (8, _), (9, _), (10, _), (15, _), (16, _), (17, _)] ⟨rfl, rfl, rfl, rfl, rfl, rfl, rfl, rfl, trivial⟩ ?_
        refine Go'.inLoop ?_
        have hn := ih (j + 1, v10, v12) H12 ⟨((((hF.trans hf8).trans (M9.fr nowhere)).trans' hF10 (fun _ _ _ h => h) (fun b o hb hz => by have := (hZo b hz).1; omega)).trans (M11.fr nowhere)).trans' hF12 (fun _ _ _ h => h) (fun b o hb hz => by have := (hZt b hz).1; omega), hlt, (fun b => Zo b ∨ (b = H9.size ∧ b < H10.size)), (fun b => Zt b ∨ (b = H11.size ∧ b < H12.size)), by
          simp only
          rw [e2]
          exact hA12, by
          simp only
          rw [e3]
          exact hB12, fun b hb => hb.elim (fun h => ⟨(hZo b h).1, by have := (hZo b h).2.1; omega, fun hx => hx.elim (hZo b h).2.2 (fun h2 => by have := (hZo b h).2.1; omega)⟩) (fun h => ⟨by omega, by omega, fun hx => hx.elim (fun h2 => by have := (hZt b h2).2; omega) (fun h2 => by omega)⟩), fun b hb => hb.elim (fun h => ⟨(hZt b h).1, by have := (hZt b h).2; omega⟩) (fun h => ⟨by omega, h.2⟩)⟩ (by simp only; omega)
        simp only [e1, atz_none hath] at hn
        exact hn
      · rename_i y2
        -- region 22 (list.go:165)
        refine Go'.region [(0, 0), (1, 0), (2, 2), (3, 2), (4, 2)] rfl ?_
        refine O.mv rfl rfl rfl rfl rfl ?_
        refine O.mv rfl rfl rfl rfl rfl ?_
        refine O.call rfl rfl rfl Go.Proofs.Try.call87 rfl (at_spec z hi2 hll) ?_
        rintro _ H6 ⟨rfl, hF6⟩
        rw [hath]
        unfold FV
        have hs6 := hF6.size
        replace hA := hA.fr hF6 (fun _ _ _ _ => nw)
        replace hB := hB.fr hF6 (fun _ _ _ _ => nw)
        refine ⟨trivial, ?_⟩
        refine O.alloc rfl rfl rfl Go.Proofs.Try.zeroValue70 ?_
        intro H7 M7
        refine ⟨trivial, ?_⟩
        have hs7 := M7.size
        have m14 : Wr H7 H6.size 0 3 := M7.wr 3 (by decide)
        replace hA := hA.fr (M7.fr nowhere) (fun _ _ _ _ => nw)
        replace hB := hB.fr (M7.fr nowhere) (fun _ _ _ _ => nw)
        refine O.st (vs := (fvs (some y2))) rfl rfl Go.Proofs.Try.sizeOf70 rfl rfl rfl rfl rfl m14 ?_
        intro H8 W8
        have hs8 := W8.size
        have f8 : Rd H8 H6.size 0 (fvs (some y2)) := W8.all
        have hf8 : Fr nowhere H2 H8 := ((hf5.trans hF6).trans (M7.fr nowhere)).trans' W8.fr (fun _ _ _ h => h) (fun b o hb hz => by have h1 := hz.1; omega)
        replace hA := hA.fr W8.fr (fun b o _ hz hx => by have h1 := hx.1; have h2 := hZo b hz; omega)
        replace hB := hB.fr W8.fr (fun b o _ hz hx => by have h1 := hx.1; have h2 := hZt b hz; omega)
        refine ⟨trivial, ?_⟩
        refine Pl.fin [(0, _), (1, _), (8, _), (9, _), (10, _), (13, _), (14, _), (15, _), (16, _), (17, _)] ⟨rfl, rfl, rfl, rfl, rfl, rfl, rfl, rfl, rfl, rfl, trivial⟩ ?_
        refine Go'.seq ?_
        refine Go'.seq ?_
        -- region 23 (list.go:166)
        refine Go'.region [(0, 0), (1, 1), (2, 0)] rfl ?_
        refine O.fa0 (off := 2) rfl rfl rfl rfl ⟨_, _, _, Go.Proofs.Try.underlying70, rfl, rfl, Go.Proofs.Try.sizeOf4⟩ rfl ?_
        refine O.ld rfl rfl rfl (fun w => ⟨Go.Proofs.Try.isAgg4 w, Go.Proofs.Try.sizeOf4 w⟩) rfl (f8 2 _ rfl) ?_
        refine O.not rfl rfl rfl rfl rfl ?_
        refine Pl.fin [(0, _), (1, _), (8, _), (9, _), (10, _), (13, _), (14, _), (15, _), (16, _), (17, _), (67, _)] ⟨rfl, rfl, rfl, rfl, rfl, rfl, rfl, rfl, rfl, rfl, rfl, trivial⟩ ?_
        refine Go'.condF rfl ?_
        refine Go'.skip ?_
        -- region 25 (list.go:169)
        refine Go'.region [(0, 0), (1, 1), (2, 2), (3, 2), (4, 0), (5, 0), (6, 2), (7, 2), (8, 0), (9, 0)] rfl ?_
        refine O.mv rfl rfl rfl rfl rfl ?_
        refine O.lds rfl rfl rfl (fun w => ⟨Go.Proofs.Try.isAgg70 w, Go.Proofs.Try.sizeOf70 w⟩) rfl rfl f8 ?_
        refine O.bsl (cs := (fvs (some y2))) rfl rfl rfl ⟨Go.Proofs.Try.underlying78, Go.Proofs.Try.sizeOf70, Go.Proofs.Try.zeroValue70, ⟨_, Go.Proofs.Try.typeInfo70, rfl⟩, rfl, by decide, by decide⟩ rfl (by decide) (by kernel_rfl) ?_
        intro H9 M9
        have hs9 := M9.size
        replace hA := hA.fr (M9.fr nowhere) (fun _ _ _ _ => nw)
        replace hB := hB.fr (M9.fr nowhere) (fun _ _ _ _ => nw)
        have m5 : Rd H9 H8.size 0 (row EF [(some y2)]) := M9.rd _ [] (by simp [row, EF, fvs])
        refine ⟨trivial, ?_⟩
        refine O.appA (E := EF) (Y := [(some y2)]) rfl rfl rfl ⟨Go.Proofs.Try.underlying78, Go.Proofs.Try.sizeOf70, Go.Proofs.Try.zeroValue70, ⟨_, Go.Proofs.Try.typeInfo70, rfl⟩, rfl, by decide, by decide⟩ rfl hA rfl ⟨_, _, _, rfl, m5⟩ (Nat.succ_pos _) (Nat.le_trans (Nat.mul_le_mul_left _ (Nat.le_of_ble_eq_true (n := _) (m := 4096) rfl)) (by rw [hlA]; simp only [List.length_cons, List.length_nil]; omega)) (by rw [hlA]; simp only [List.length_cons, List.length_nil]; omega) ?_
        intro v10 H10 hA10 hF10 hs10
        have hg10 := hF10.size
        replace hB := hB.fr hF10 (fun b o _ hz hx => (hZo b hx).2.2 hz)
        refine ⟨trivial, ?_⟩
        refine O.mv rfl rfl rfl rfl rfl ?_
        refine O.mv rfl rfl rfl rfl rfl ?_
        refine O.bsl (cs := [.bool k]) rfl rfl rfl ⟨Go.Proofs.Try.underlying50, Go.Proofs.Try.sizeOf4, Go.Proofs.Try.zeroValue4, ⟨_, Go.Proofs.Try.typeInfo4, rfl⟩, rfl, by decide, by decide⟩ rfl (by decide) (by kernel_rfl) ?_
        intro H11 M11
        have hs11 := M11.size
        have hA11 := hA10.fr (M11.fr nowhere) (fun _ _ _ _ => nw)
        replace hB := hB.fr (M11.fr nowhere) (fun _ _ _ _ => nw)
        have m6 : Rd H11 H10.size 0 (row EB [k]) := M11.rd _ [] (by simp [row, EB])
        refine ⟨trivial, ?_⟩
        refine O.appA (E := EB) (Y := [k]) rfl rfl rfl ⟨Go.Proofs.Try.underlying50, Go.Proofs.Try.sizeOf4, Go.Proofs.Try.zeroValue4, ⟨_, Go.Proofs.Try.typeInfo4, rfl⟩, rfl, by decide, by decide⟩ rfl hB rfl ⟨_, _, _, rfl, m6⟩ (Nat.succ_pos _) (Nat.le_trans (Nat.mul_le_mul_left _ (Nat.le_of_ble_eq_true (n := _) (m := 4096) rfl)) (by rw [hlB]; simp only [List.length_cons, List.length_nil]; omega)) (by rw [hlB]; simp only [List.length_cons, List.length_nil]; omega) ?_
        intro v12 H12 hB12 hF12 hs12
        have hg12 := hF12.size
        have hA12 := hA11.fr hF12 (fun b o _ hz hx => by
          have h2 := hZt b hx
          rcases hz with hz | hz
          · exact (hZo b hz).2.2 hx
          · omega)
        rw [hath] at e2
        refine ⟨trivial, ?_⟩
        refine O.asg rfl rfl rfl rfl rfl ?_
        refine O.asg rfl rfl rfl rfl rfl ?_
        refine Pl.fin [(0, _), (1, _), (8, _), (9, _), (10, _), (13, _), (14, _), (15, _), (16, _), (17, _), (67, _)] ⟨rfl, rfl, rfl, rfl, rfl, rfl, rfl, rfl, rfl, rfl, rfl, trivial⟩ ?_
        refine Go'.inBlock ?_
        -- region 26 (list.go:148)
        refine Go'.region [(0, 0), (1, 0)] rfl ?_
        refine O.add (((j + 1 : Nat) : Int)) rfl rfl rfl rfl rfl rfl (by omega) (by omega) ?_
        refine O.mv rfl rfl rfl rfl rfl ?_
        refine Pl.fin [(0, _), (1, _), (8, _), (9, _), (10, _), (13, _), (14, _), (15, _), (16, _), (17, _), (67, _)] ⟨rfl, rfl, rfl, rfl, rfl, rfl, rfl, rfl, rfl, rfl, rfl, trivial⟩ ?_
        refine Go'.keep [(0, _), (1, _), (8, _), (9, _), (10, _), (15, _), (16, _), (17, _)] ⟨rfl, rfl, rfl, rfl, rfl, rfl, rfl, rfl, trivial⟩ ?_
        refine Go'.inLoop ?_
        have hn := ih (j + 1, v10, v12) H12 ⟨((((hF.trans hf8).trans (M9.fr nowhere)).trans' hF10 (fun _ _ _ h => h) (fun b o hb hz => by have := (hZo b hz).1; omega)).trans (M11.fr nowhere)).trans' hF12 (fun _ _ _ h => h) (fun b o hb hz => by have := (hZt b hz).1; omega), hlt, (fun b => Zo b ∨ (b = H9.size ∧ b < H10.size)), (fun b => Zt b ∨ (b = H11.size ∧ b < H12.size)), by
          simp only
          rw [e2]
          exact hA12, by
          simp only
          rw [e3]
          exact hB12, fun b hb => hb.elim (fun h => ⟨(hZo b h).1, by have := (hZo b h).2.1; omega, fun hx => hx.elim (hZo b h).2.2 (fun h2 => by have := (hZo b h).2.1; omega)⟩) (fun h => ⟨by omega, by omega, fun hx => hx.elim (fun h2 => by have := (hZt b h2).2; omega) (fun h2 => by omega)⟩), fun b hb => hb.elim (fun h => ⟨(hZt b h).1, by have := (hZt b h).2; omega⟩) (fun h => ⟨by omega, h.2⟩)⟩ (by simp only; omega)
        simp only [e1, atz_some hath] at hn
        exact hn
    · intro tail
      have hqlt : ∀ q, (Pl.itRun (OO ord) l (ms.take j)).1 = some q → q < l.length := fun q h => Pl.itRun_lt (OO ord) l _ h
      generalize (Pl.itRun (OO ord) l (ms.take j)).1 = s0 at *
      by_cases h2 : y.1 = 2
      · skip
        -- region 10 (list.go:151)
        refine Go'.region [(0, 0), (1, 0)] rfl ?_
        refine O.cmp rfl rfl rfl rfl rfl rfl (eqlT (by omega)) ?_
        refine O.asg rfl rfl rfl rfl rfl ?_
        refine Pl.fin [(0, _), (1, _), (8, _), (9, _), (10, _), (12, _), (13, _), (15, _), (16, _), (17, _), (18, _), (22, _), (23, _)] ⟨rfl, rfl, rfl, rfl, rfl, rfl, rfl, rfl, rfl, rfl, rfl, rfl, rfl, trivial⟩ ?_
        refine Go'.condT rfl ?_
        refine Go'.skip ?_
        refine Go'.condT rfl ?_
        refine Go'.seq ?_
        rcases s0 with _ | q
        · skip
          by_cases hl0 : l.length = 0
          · skip
            -- region 12 (list.go:152)
            refine Go'.region [(0, 0), (1, 0), (2, 0), (3, 0), (4, 0), (5, 0), (6, 0), (7, 0)] rfl ?_
            refine O.mv rfl rfl rfl rfl rfl ?_
            refine O.cmp rfl rfl rfl rfl rfl rfl (geqF (by decide)) ?_
            refine O.mv rfl rfl rfl rfl rfl ?_
            refine O.mv rfl rfl rfl rfl rfl ?_
            refine O.len rfl rfl rfl rfl Go.Proofs.Try.underlying74 rfl ?_
            refine O.cmp rfl rfl rfl rfl rfl rfl (eqlT (by omega)) ?_
            refine O.pick rfl rfl rfl rfl rfl rfl ?_
            refine O.asg rfl rfl rfl rfl rfl ?_
            refine Pl.fin [(0, _), (1, _), (8, _), (9, _), (10, _), (12, _), (13, _), (15, _), (16, _), (17, _), (18, _), (22, _), (23, _)] ⟨rfl, rfl, rfl, rfl, rfl, rfl, rfl, rfl, rfl, rfl, rfl, rfl, rfl, trivial⟩ ?_
            refine Go'.seq ?_
            -- region 13 (list.go:153)
            refine Go'.region [(0, 0), (1, 0), (2, 0), (3, 0), (4, 1), (5, 0), (6, 0)] rfl ?_
            refine O.mv rfl rfl rfl rfl rfl ?_
            refine O.cmp rfl rfl rfl rfl rfl rfl (geqF (by decide)) ?_
            refine O.mv rfl rfl rfl rfl rfl ?_
            refine Pl.pass rfl rfl rfl rfl ?_
            refine Pl.pass rfl rfl rfl rfl ?_
            refine Pl.pass rfl rfl rfl rfl ?_
            refine O.pick rfl rfl rfl rfl rfl rfl ?_
            refine Pl.fin [(0, _), (1, _), (8, _), (9, _), (10, _), (12, _), (13, _), (15, _), (16, _), (17, _), (18, _), (22, _), (23, _), (39, _)] ⟨rfl, rfl, rfl, rfl, rfl, rfl, rfl, rfl, rfl, rfl, rfl, rfl, rfl, rfl, trivial⟩ ?_
            refine Go'.condF rfl ?_
            refine Go'.seq ?_
            -- region 15 (list.go:155)
            refine Go'.region [(0, 0), (1, 0)] rfl ?_
            refine O.mv rfl rfl rfl rfl rfl ?_
            refine O.cmp rfl rfl rfl rfl rfl rfl (geqF (by decide)) ?_
            refine Pl.fin [(0, _), (1, _), (8, _), (9, _), (10, _), (12, _), (13, _), (15, _), (16, _), (17, _), (18, _), (22, _), (23, _), (39, _), (43, _)] ⟨rfl, rfl, rfl, rfl, rfl, rfl, rfl, rfl, rfl, rfl, rfl, rfl, rfl, rfl, rfl, trivial⟩ ?_
            refine Go'.condF rfl ?_
            refine Go'.skip ?_
            refine Go'.inBlock ?_
            refine Go'.keep [(0, _), (1, _), (8, _), (9, _), (10, _), (13, _), (15, _), (16, _), (17, _)] ⟨rfl, rfl, rfl, rfl, rfl, rfl, rfl, rfl, rfl, trivial⟩ ?_
            exact tail (-1, true) _ ⟨Fr.refl _ _, by unfold Pl.mvTo; rw [if_pos (.inl h2)], by unfold Pl.mvTold; rw [if_pos (.inl h2)]; rw [List.length_eq_zero_iff.1 hl0]; rfl⟩
          · skip
            -- region 12 (list.go:152)
            refine Go'.region [(0, 0), (1, 0), (2, 0), (3, 0), (4, 0), (5, 0), (6, 0), (7, 0)] rfl ?_
            refine O.mv rfl rfl rfl rfl rfl ?_
            refine O.cmp rfl rfl rfl rfl rfl rfl (geqF (by decide)) ?_
            refine O.mv rfl rfl rfl rfl rfl ?_
            refine O.mv rfl rfl rfl rfl rfl ?_
            refine O.len rfl rfl rfl rfl Go.Proofs.Try.underlying74 rfl ?_
            refine O.cmp rfl rfl rfl rfl rfl rfl (eqlF (by omega)) ?_
            refine O.pick rfl rfl rfl rfl rfl rfl ?_
            refine O.asg rfl rfl rfl rfl rfl ?_
            refine Pl.fin [(0, _), (1, _), (8, _), (9, _), (10, _), (12, _), (13, _), (15, _), (16, _), (17, _), (18, _), (22, _), (23, _)] ⟨rfl, rfl, rfl, rfl, rfl, rfl, rfl, rfl, rfl, rfl, rfl, rfl, rfl, trivial⟩ ?_
            refine Go'.seq ?_
            -- region 13 (list.go:153)
            refine Go'.region [(0, 0), (1, 0), (2, 0), (3, 0), (4, 1), (5, 0), (6, 0)] rfl ?_
            refine O.mv rfl rfl rfl rfl rfl ?_
            refine O.cmp rfl rfl rfl rfl rfl rfl (geqF (by decide)) ?_
            refine O.mv rfl rfl rfl rfl rfl ?_
            refine Pl.pass rfl rfl rfl rfl ?_
            refine Pl.pass rfl rfl rfl rfl ?_
            refine Pl.pass rfl rfl rfl rfl ?_
            refine O.pick rfl rfl rfl rfl rfl rfl ?_
            refine Pl.fin [(0, _), (1, _), (8, _), (9, _), (10, _), (12, _), (13, _), (15, _), (16, _), (17, _), (18, _), (22, _), (23, _), (39, _)] ⟨rfl, rfl, rfl, rfl, rfl, rfl, rfl, rfl, rfl, rfl, rfl, rfl, rfl, rfl, trivial⟩ ?_
            refine Go'.condF rfl ?_
            refine Go'.seq ?_
            -- region 15 (list.go:155)
            refine Go'.region [(0, 0), (1, 0)] rfl ?_
            refine O.mv rfl rfl rfl rfl rfl ?_
            refine O.cmp rfl rfl rfl rfl rfl rfl (geqF (by decide)) ?_
            refine Pl.fin [(0, _), (1, _), (8, _), (9, _), (10, _), (12, _), (13, _), (15, _), (16, _), (17, _), (18, _), (22, _), (23, _), (39, _), (43, _)] ⟨rfl, rfl, rfl, rfl, rfl, rfl, rfl, rfl, rfl, rfl, rfl, rfl, rfl, rfl, rfl, trivial⟩ ?_
            refine Go'.condF rfl ?_
            refine Go'.skip ?_
            refine Go'.inBlock ?_
            refine Go'.keep [(0, _), (1, _), (8, _), (9, _), (10, _), (13, _), (15, _), (16, _), (17, _)] ⟨rfl, rfl, rfl, rfl, rfl, rfl, rfl, rfl, rfl, trivial⟩ ?_
            exact tail (-1, false) _ ⟨Fr.refl _ _, by unfold Pl.mvTo; rw [if_pos (.inl h2)], by unfold Pl.mvTold; rw [if_pos (.inl h2)]; cases l with | nil => exact absurd rfl hl0 | cons => rfl⟩
        · skip
          have hql := hqlt q rfl
          -- region 12 (list.go:152)
          refine Go'.region [(0, 0), (1, 0), (2, 0), (3, 0), (4, 0), (5, 0), (6, 0), (7, 0)] rfl ?_
          refine O.mv rfl rfl rfl rfl rfl ?_
          refine O.cmp rfl rfl rfl rfl rfl rfl (geqT (Int.natCast_nonneg q)) ?_
          refine O.mv rfl rfl rfl rfl rfl ?_
          refine Pl.pass rfl rfl rfl rfl ?_
          refine Pl.pass rfl rfl rfl rfl ?_
          refine Pl.pass rfl rfl rfl rfl ?_
          refine O.pick rfl rfl rfl rfl rfl rfl ?_
          refine O.asg rfl rfl rfl rfl rfl ?_
          refine Pl.fin [(0, _), (1, _), (8, _), (9, _), (10, _), (12, _), (13, _), (15, _), (16, _), (17, _), (18, _), (22, _), (23, _)] ⟨rfl, rfl, rfl, rfl, rfl, rfl, rfl, rfl, rfl, rfl, rfl, rfl, rfl, trivial⟩ ?_
          refine Go'.seq ?_
          -- region 13 (list.go:153)
          refine Go'.region [(0, 0), (1, 0), (2, 0), (3, 0), (4, 1), (5, 0), (6, 0)] rfl ?_
          refine O.mv rfl rfl rfl rfl rfl ?_
          refine O.cmp rfl rfl rfl rfl rfl rfl (geqT (Int.natCast_nonneg q)) ?_
          refine O.mv rfl rfl rfl rfl rfl ?_
          refine O.faz rfl rfl rfl rfl ⟨_, _, _, Go.Proofs.Try.underlying107, rfl, rfl, Go.Proofs.Try.sizeOf3⟩ rfl ?_
          refine O.ld rfl rfl rfl (fun w => ⟨Go.Proofs.Try.isAgg3 w, Go.Proofs.Try.sizeOf3 w⟩) rfl k0 ?_
          refine O.cmp rfl rfl rfl rfl rfl rfl (eqlT (by omega)) ?_
          refine O.pick rfl rfl rfl rfl rfl rfl ?_
          refine Pl.fin [(0, _), (1, _), (8, _), (9, _), (10, _), (12, _), (13, _), (15, _), (16, _), (17, _), (18, _), (22, _), (23, _), (39, _)] ⟨rfl, rfl, rfl, rfl, rfl, rfl, rfl, rfl, rfl, rfl, rfl, rfl, rfl, rfl, trivial⟩ ?_
          refine Go'.condT rfl ?_
          -- region 14 (list.go:154)
          refine Go'.region [(0, 0), (1, 0), (2, 0)] rfl ?_
          refine O.mv rfl rfl rfl rfl rfl ?_
          refine O.add ((q : Int) + 1) rfl rfl rfl rfl rfl rfl (show (q : Int) + 1 = (q : Int) + 1 from rfl) (by omega) ?_
          refine O.asg rfl rfl rfl rfl rfl ?_
          refine Pl.fin [(0, _), (1, _), (8, _), (9, _), (10, _), (12, _), (13, _), (15, _), (16, _), (17, _), (18, _), (22, _), (23, _), (39, _)] ⟨rfl, rfl, rfl, rfl, rfl, rfl, rfl, rfl, rfl, rfl, rfl, rfl, rfl, rfl, trivial⟩ ?_
          refine Go'.inBlock ?_
          refine Go'.keep [(0, _), (1, _), (8, _), (9, _), (10, _), (13, _), (15, _), (16, _), (17, _)] ⟨rfl, rfl, rfl, rfl, rfl, rfl, rfl, rfl, rfl, trivial⟩ ?_
          exact tail ((q : Int) + 1, true) _ ⟨Fr.refl _ _, by unfold Pl.mvTo; rw [if_pos (.inl h2)]; simp only; rw [if_pos h2], by unfold Pl.mvTold; rw [if_pos (.inl h2)]; rfl⟩
      -- region 10 (list.go:151)
      refine Go'.region [(0, 0), (1, 0)] rfl ?_
      refine O.cmp rfl rfl rfl rfl rfl rfl (eqlF (by omega)) ?_
      refine O.asg rfl rfl rfl rfl rfl ?_
      refine Pl.fin [(0, _), (1, _), (8, _), (9, _), (10, _), (12, _), (13, _), (15, _), (16, _), (17, _), (18, _), (22, _), (23, _)] ⟨rfl, rfl, rfl, rfl, rfl, rfl, rfl, rfl, rfl, rfl, rfl, rfl, rfl, trivial⟩ ?_
      refine Go'.condF rfl ?_
      by_cases h3 : y.1 = 3
      · skip
        -- region 11 (list.go:151)
        refine Go'.region [(0, 0), (1, 0)] rfl ?_
        refine O.cmp rfl rfl rfl rfl rfl rfl (eqlT (by omega)) ?_
        refine O.asg rfl rfl rfl rfl rfl ?_
        refine Pl.fin [(0, _), (1, _), (8, _), (9, _), (10, _), (12, _), (13, _), (15, _), (16, _), (17, _), (18, _), (22, _), (23, _)] ⟨rfl, rfl, rfl, rfl, rfl, rfl, rfl, rfl, rfl, rfl, rfl, rfl, rfl, trivial⟩ ?_
        refine Go'.condT rfl ?_
        refine Go'.seq ?_
        rcases s0 with _ | q
        · skip
          by_cases hl0 : l.length = 0
          · skip
            -- region 12 (list.go:152)
            refine Go'.region [(0, 0), (1, 0), (2, 0), (3, 0), (4, 0), (5, 0), (6, 0), (7, 0)] rfl ?_
            refine O.mv rfl rfl rfl rfl rfl ?_
            refine O.cmp rfl rfl rfl rfl rfl rfl (geqF (by decide)) ?_
            refine O.mv rfl rfl rfl rfl rfl ?_
            refine O.mv rfl rfl rfl rfl rfl ?_
            refine O.len rfl rfl rfl rfl Go.Proofs.Try.underlying74 rfl ?_
            refine O.cmp rfl rfl rfl rfl rfl rfl (eqlT (by omega)) ?_
            refine O.pick rfl rfl rfl rfl rfl rfl ?_
            refine O.asg rfl rfl rfl rfl rfl ?_
            refine Pl.fin [(0, _), (1, _), (8, _), (9, _), (10, _), (12, _), (13, _), (15, _), (16, _), (17, _), (18, _), (22, _), (23, _)] ⟨rfl, rfl, rfl, rfl, rfl, rfl, rfl, rfl, rfl, rfl, rfl, rfl, rfl, trivial⟩ ?_
            refine Go'.seq ?_
            -- region 13 (list.go:153)
            refine Go'.region [(0, 0), (1, 0), (2, 0), (3, 0), (4, 1), (5, 0), (6, 0)] rfl ?_
            refine O.mv rfl rfl rfl rfl rfl ?_
            refine O.cmp rfl rfl rfl rfl rfl rfl (geqF (by decide)) ?_
            refine O.mv rfl rfl rfl rfl rfl ?_
            refine Pl.pass rfl rfl rfl rfl ?_
            refine Pl.pass rfl rfl rfl rfl ?_
            refine Pl.pass rfl rfl rfl rfl ?_
            refine O.pick rfl rfl rfl rfl rfl rfl ?_
            refine Pl.fin [(0, _), (1, _), (8, _), (9, _), (10, _), (12, _), (13, _), (15, _), (16, _), (17, _), (18, _), (22, _), (23, _), (39, _)] ⟨rfl, rfl, rfl, rfl, rfl, rfl, rfl, rfl, rfl, rfl, rfl, rfl, rfl, rfl, trivial⟩ ?_
            refine Go'.condF rfl ?_
            refine Go'.seq ?_
            -- region 15 (list.go:155)
            refine Go'.region [(0, 0), (1, 0)] rfl ?_
            refine O.mv rfl rfl rfl rfl rfl ?_
            refine O.cmp rfl rfl rfl rfl rfl rfl (geqF (by decide)) ?_
            refine Pl.fin [(0, _), (1, _), (8, _), (9, _), (10, _), (12, _), (13, _), (15, _), (16, _), (17, _), (18, _), (22, _), (23, _), (39, _), (43, _)] ⟨rfl, rfl, rfl, rfl, rfl, rfl, rfl, rfl, rfl, rfl, rfl, rfl, rfl, rfl, rfl, trivial⟩ ?_
            refine Go'.condF rfl ?_
            refine Go'.skip ?_
            refine Go'.inBlock ?_
            refine Go'.keep [(0, _), (1, _), (8, _), (9, _), (10, _), (13, _), (15, _), (16, _), (17, _)] ⟨rfl, rfl, rfl, rfl, rfl, rfl, rfl, rfl, rfl, trivial⟩ ?_
            exact tail (-1, true) _ ⟨Fr.refl _ _, by unfold Pl.mvTo; rw [if_pos (.inr h3)], by unfold Pl.mvTold; rw [if_pos (.inr h3)]; rw [List.length_eq_zero_iff.1 hl0]; rfl⟩
          · skip
            -- region 12 (list.go:152)
            refine Go'.region [(0, 0), (1, 0), (2, 0), (3, 0), (4, 0), (5, 0), (6, 0), (7, 0)] rfl ?_
            refine O.mv rfl rfl rfl rfl rfl ?_
            refine O.cmp rfl rfl rfl rfl rfl rfl (geqF (by decide)) ?_
            refine O.mv rfl rfl rfl rfl rfl ?_
            refine O.mv rfl rfl rfl rfl rfl ?_
            refine O.len rfl rfl rfl rfl Go.Proofs.Try.underlying74 rfl ?_
            refine O.cmp rfl rfl rfl rfl rfl rfl (eqlF (by omega)) ?_
            refine O.pick rfl rfl rfl rfl rfl rfl ?_
            refine O.asg rfl rfl rfl rfl rfl ?_
            refine Pl.fin [(0, _), (1, _), (8, _), (9, _), (10, _), (12, _), (13, _), (15, _), (16, _), (17, _), (18, _), (22, _), (23, _)] ⟨rfl, rfl, rfl, rfl, rfl, rfl, rfl, rfl, rfl, rfl, rfl, rfl, rfl, trivial⟩ ?_
            refine Go'.seq ?_
            -- region 13 (list.go:153)
            refine Go'.region [(0, 0), (1, 0), (2, 0), (3, 0), (4, 1), (5, 0), (6, 0)] rfl ?_
            refine O.mv rfl rfl rfl rfl rfl ?_
            refine O.cmp rfl rfl rfl rfl rfl rfl (geqF (by decide)) ?_
            refine O.mv rfl rfl rfl rfl rfl ?_
            refine Pl.pass rfl rfl rfl rfl ?_
            refine Pl.pass rfl rfl rfl rfl ?_
            refine Pl.pass rfl rfl rfl rfl ?_
            refine O.pick rfl rfl rfl rfl rfl rfl ?_
            refine Pl.fin [(0, _), (1, _), (8, _), (9, _), (10, _), (12, _), (13, _), (15, _), (16, _), (17, _), (18, _), (22, _), (23, _), (39, _)] ⟨rfl, rfl, rfl, rfl, rfl, rfl, rfl, rfl, rfl, rfl, rfl, rfl, rfl, rfl, trivial⟩ ?_
            refine Go'.condF rfl ?_
            refine Go'.seq ?_
            -- region 15 (list.go:155)
            refine Go'.region [(0, 0), (1, 0)] rfl ?_
            refine O.mv rfl rfl rfl rfl rfl ?_
            refine O.cmp rfl rfl rfl rfl rfl rfl (geqF (by decide)) ?_
            refine Pl.fin [(0, _), (1, _), (8, _), (9, _), (10, _), (12, _), (13, _), (15, _), (16, _), (17, _), (18, _), (22, _), (23, _), (39, _), (43, _)] ⟨rfl, rfl, rfl, rfl, rfl, rfl, rfl, rfl, rfl, rfl, rfl, rfl, rfl, rfl, rfl, trivial⟩ ?_
            refine Go'.condF rfl ?_
            refine Go'.skip ?_
            refine Go'.inBlock ?_
            refine Go'.keep [(0, _), (1, _), (8, _), (9, _), (10, _), (13, _), (15, _), (16, _), (17, _)] ⟨rfl, rfl, rfl, rfl, rfl, rfl, rfl, rfl, rfl, trivial⟩ ?_
            exact tail (-1, false) _ ⟨Fr.refl _ _, by unfold Pl.mvTo; rw [if_pos (.inr h3)], by unfold Pl.mvTold; rw [if_pos (.inr h3)]; cases l with | nil => exact absurd rfl hl0 | cons => rfl⟩
        · skip
          have hql := hqlt q rfl
          -- region 12 (list.go:152)
          refine Go'.region [(0, 0), (1, 0), (2, 0), (3, 0), (4, 0), (5, 0), (6, 0), (7, 0)] rfl ?_
          refine O.mv rfl rfl rfl rfl rfl ?_
          refine O.cmp rfl rfl rfl rfl rfl rfl (geqT (Int.natCast_nonneg q)) ?_
          refine O.mv rfl rfl rfl rfl rfl ?_
          refine Pl.pass rfl rfl rfl rfl ?_
          refine Pl.pass rfl rfl rfl rfl ?_
          refine Pl.pass rfl rfl rfl rfl ?_
          refine O.pick rfl rfl rfl rfl rfl rfl ?_
          refine O.asg rfl rfl rfl rfl rfl ?_
          refine Pl.fin [(0, _), (1, _), (8, _), (9, _), (10, _), (12, _), (13, _), (15, _), (16, _), (17, _), (18, _), (22, _), (23, _)] ⟨rfl, rfl, rfl, rfl, rfl, rfl, rfl, rfl, rfl, rfl, rfl, rfl, rfl, trivial⟩ ?_
          refine Go'.seq ?_
          -- region 13 (list.go:153)
          refine Go'.region [(0, 0), (1, 0), (2, 0), (3, 0), (4, 1), (5, 0), (6, 0)] rfl ?_
          refine O.mv rfl rfl rfl rfl rfl ?_
          refine O.cmp rfl rfl rfl rfl rfl rfl (geqT (Int.natCast_nonneg q)) ?_
          refine O.mv rfl rfl rfl rfl rfl ?_
          refine O.faz rfl rfl rfl rfl ⟨_, _, _, Go.Proofs.Try.underlying107, rfl, rfl, Go.Proofs.Try.sizeOf3⟩ rfl ?_
          refine O.ld rfl rfl rfl (fun w => ⟨Go.Proofs.Try.isAgg3 w, Go.Proofs.Try.sizeOf3 w⟩) rfl k0 ?_
          refine O.cmp rfl rfl rfl rfl rfl rfl (eqlF (by omega)) ?_
          refine O.pick rfl rfl rfl rfl rfl rfl ?_
          refine Pl.fin [(0, _), (1, _), (8, _), (9, _), (10, _), (12, _), (13, _), (15, _), (16, _), (17, _), (18, _), (22, _), (23, _), (39, _)] ⟨rfl, rfl, rfl, rfl, rfl, rfl, rfl, rfl, rfl, rfl, rfl, rfl, rfl, rfl, trivial⟩ ?_
          refine Go'.condF rfl ?_
          refine Go'.seq ?_
          -- region 15 (list.go:155)
          refine Go'.region [(0, 0), (1, 0)] rfl ?_
          refine O.mv rfl rfl rfl rfl rfl ?_
          refine O.cmp rfl rfl rfl rfl rfl rfl (geqT (Int.natCast_nonneg q)) ?_
          refine Pl.fin [(0, _), (1, _), (8, _), (9, _), (10, _), (12, _), (13, _), (15, _), (16, _), (17, _), (18, _), (22, _), (23, _), (39, _), (43, _)] ⟨rfl, rfl, rfl, rfl, rfl, rfl, rfl, rfl, rfl, rfl, rfl, rfl, rfl, rfl, rfl, trivial⟩ ?_
          refine Go'.condT rfl ?_
          -- region 16 (list.go:156)
          refine Go'.region [(0, 0), (1, 0), (2, 0)] rfl ?_
          refine O.mv rfl rfl rfl rfl rfl ?_
          refine O.sub ((q : Int) - 1) rfl rfl rfl rfl rfl rfl (show (q : Int) - 1 = (q : Int) - 1 from rfl) (by omega) ?_
          refine O.asg rfl rfl rfl rfl rfl ?_
          refine Pl.fin [(0, _), (1, _), (8, _), (9, _), (10, _), (12, _), (13, _), (15, _), (16, _), (17, _), (18, _), (22, _), (23, _), (39, _), (43, _)] ⟨rfl, rfl, rfl, rfl, rfl, rfl, rfl, rfl, rfl, rfl, rfl, rfl, rfl, rfl, rfl, trivial⟩ ?_
          refine Go'.inBlock ?_
          refine Go'.keep [(0, _), (1, _), (8, _), (9, _), (10, _), (13, _), (15, _), (16, _), (17, _)] ⟨rfl, rfl, rfl, rfl, rfl, rfl, rfl, rfl, rfl, trivial⟩ ?_
          exact tail ((q : Int) - 1, true) _ ⟨Fr.refl _ _, by unfold Pl.mvTo; rw [if_pos (.inr h3)]; simp only; rw [if_neg (by omega)], by unfold Pl.mvTold; rw [if_pos (.inr h3)]; rfl⟩
      have eT : Pl.mvTold l y s0 = true := by unfold Pl.mvTold; rw [if_neg (by omega)]
      -- region 11 (list.go:151)
      refine Go'.region [(0, 0), (1, 0)] rfl ?_
      refine O.cmp rfl rfl rfl rfl rfl rfl (eqlF (by omega)) ?_
      refine O.asg rfl rfl rfl rfl rfl ?_
      refine Pl.fin [(0, _), (1, _), (8, _), (9, _), (10, _), (12, _), (13, _), (15, _), (16, _), (17, _), (18, _), (22, _), (23, _)] ⟨rfl, rfl, rfl, rfl, rfl, rfl, rfl, rfl, rfl, rfl, rfl, rfl, rfl, trivial⟩ ?_
      refine Go'.condF rfl ?_
      refine Go'.seq ?_
      by_cases h1 : y.1 = 1
      · skip
        -- region 17 (list.go:158)
        refine Go'.region [(0, 0), (1, 0)] rfl ?_
        refine O.cmp rfl rfl rfl rfl rfl rfl (eqlT (by omega)) ?_
        refine O.asg rfl rfl rfl rfl rfl ?_
        refine Pl.fin [(0, _), (1, _), (8, _), (9, _), (10, _), (12, _), (13, _), (15, _), (16, _), (17, _), (18, _), (22, _), (23, _), (46, _)] ⟨rfl, rfl, rfl, rfl, rfl, rfl, rfl, rfl, rfl, rfl, rfl, rfl, rfl, rfl, trivial⟩ ?_
        refine Go'.condT rfl ?_
        -- region 18 (list.go:159)
        refine Go'.region [(0, 0), (1, 0), (2, 0), (3, 0)] rfl ?_
        refine O.mv rfl rfl rfl rfl rfl ?_
        refine O.len rfl rfl rfl rfl Go.Proofs.Try.underlying74 rfl ?_
        refine O.sub ((l.length : Int) - 1) rfl rfl rfl rfl rfl rfl (by omega) (by omega) ?_
        refine O.asg rfl rfl rfl rfl rfl ?_
        refine Pl.fin [(0, _), (1, _), (8, _), (9, _), (10, _), (12, _), (13, _), (15, _), (16, _), (17, _), (18, _), (22, _), (23, _), (46, _)] ⟨rfl, rfl, rfl, rfl, rfl, rfl, rfl, rfl, rfl, rfl, rfl, rfl, rfl, rfl, trivial⟩ ?_
        refine Go'.inBlock ?_
        refine Go'.keep [(0, _), (1, _), (8, _), (9, _), (10, _), (13, _), (15, _), (16, _), (17, _)] ⟨rfl, rfl, rfl, rfl, rfl, rfl, rfl, rfl, rfl, trivial⟩ ?_
        exact tail ((l.length : Int) - 1, true) _ ⟨Fr.refl _ _, by unfold Pl.mvTo; rw [if_neg (by omega), if_pos h1], eT.symm⟩
      -- region 17 (list.go:158)
      refine Go'.region [(0, 0), (1, 0)] rfl ?_
      refine O.cmp rfl rfl rfl rfl rfl rfl (eqlF (by omega)) ?_
      refine O.asg rfl rfl rfl rfl rfl ?_
      refine Pl.fin [(0, _), (1, _), (8, _), (9, _), (10, _), (12, _), (13, _), (15, _), (16, _), (17, _), (18, _), (22, _), (23, _), (46, _)] ⟨rfl, rfl, rfl, rfl, rfl, rfl, rfl, rfl, rfl, rfl, rfl, rfl, rfl, rfl, trivial⟩ ?_
      refine Go'.condF rfl ?_
      refine Go'.seq ?_
      refine Go'.seq ?_
      by_cases h4 : y.1 = 4
      · skip
        -- region 19 (list.go:160)
        refine Go'.region [(0, 0), (1, 0)] rfl ?_
        refine O.cmp rfl rfl rfl rfl rfl rfl (eqlT (by omega)) ?_
        refine O.asg rfl rfl rfl rfl rfl ?_
        refine Pl.fin [(0, _), (1, _), (8, _), (9, _), (10, _), (12, _), (13, _), (15, _), (16, _), (17, _), (18, _), (22, _), (23, _), (46, _), (51, _)] ⟨rfl, rfl, rfl, rfl, rfl, rfl, rfl, rfl, rfl, rfl, rfl, rfl, rfl, rfl, rfl, trivial⟩ ?_
        refine Go'.condT rfl ?_
        refine Go'.skip ?_
        refine Go'.condT rfl ?_
        -- region 21 (list.go:161)
        refine Go'.region [(0, 0), (1, 0), (2, 0), (3, 1), (4, 2), (5, 0), (6, 0), (7, 0), (8, 0)] rfl ?_
        refine O.mv rfl rfl rfl rfl rfl ?_
        refine O.mv rfl rfl rfl rfl rfl ?_
        refine O.fa0 (off := 1) rfl rfl rfl rfl ⟨_, _, _, Go.Proofs.Try.underlying107, rfl, rfl, Go.Proofs.Try.sizeOf68⟩ rfl ?_
        refine O.lds rfl rfl rfl (fun w => ⟨Go.Proofs.Try.isAgg68 w, Go.Proofs.Try.sizeOf68 w⟩) rfl rfl k2 ?_
        refine O.call rfl rfl rfl Go.Proofs.Try.call89 rfl (place_spec (x := y.2) ho2 hl hi2 hs (by omega)) ?_
        rintro _ H5 ⟨rfl, hf5⟩
        refine ⟨trivial, ?_⟩
        refine O.mv rfl rfl rfl rfl rfl ?_
        refine O.ext rfl rfl rfl rfl rfl rfl ?_
        refine O.ext rfl rfl rfl rfl rfl rfl ?_
        refine O.asg rfl rfl rfl rfl rfl ?_
        refine Pl.fin [(0, _), (1, _), (8, _), (9, _), (10, _), (12, _), (13, _), (15, _), (16, _), (17, _), (18, _), (22, _), (23, _), (46, _), (51, _)] ⟨rfl, rfl, rfl, rfl, rfl, rfl, rfl, rfl, rfl, rfl, rfl, rfl, rfl, rfl, rfl, trivial⟩ ?_
        refine Go'.inBlock ?_
        refine Go'.keep [(0, _), (1, _), (8, _), (9, _), (10, _), (13, _), (15, _), (16, _), (17, _)] ⟨rfl, rfl, rfl, rfl, rfl, rfl, rfl, rfl, rfl, trivial⟩ ?_
        exact tail (_, true) _ ⟨hf5, by unfold Pl.mvTo; rw [if_neg (by omega), if_neg h1, if_pos (.inl h4)], eT.symm⟩
      -- region 19 (list.go:160)
      refine Go'.region [(0, 0), (1, 0)] rfl ?_
      refine O.cmp rfl rfl rfl rfl rfl rfl (eqlF (by omega)) ?_
      refine O.asg rfl rfl rfl rfl rfl ?_
      refine Pl.fin [(0, _), (1, _), (8, _), (9, _), (10, _), (12, _), (13, _), (15, _), (16, _), (17, _), (18, _), (22, _), (23, _), (46, _), (51, _)] ⟨rfl, rfl, rfl, rfl, rfl, rfl, rfl, rfl, rfl, rfl, rfl, rfl, rfl, rfl, rfl, trivial⟩ ?_
      refine Go'.condF rfl ?_
      by_cases h5 : y.1 = 5
      · skip
        -- region 20 (list.go:160)
        refine Go'.region [(0, 0), (1, 0)] rfl ?_
        refine O.cmp rfl rfl rfl rfl rfl rfl (eqlT (by omega)) ?_
        refine O.asg rfl rfl rfl rfl rfl ?_
        refine Pl.fin [(0, _), (1, _), (8, _), (9, _), (10, _), (12, _), (13, _), (15, _), (16, _), (17, _), (18, _), (22, _), (23, _), (46, _), (51, _)] ⟨rfl, rfl, rfl, rfl, rfl, rfl, rfl, rfl, rfl, rfl, rfl, rfl, rfl, rfl, rfl, trivial⟩ ?_
        refine Go'.condT rfl ?_
        -- region 21 (list.go:161)
        refine Go'.region [(0, 0), (1, 0), (2, 0), (3, 1), (4, 2), (5, 0), (6, 0), (7, 0), (8, 0)] rfl ?_
        refine O.mv rfl rfl rfl rfl rfl ?_
        refine O.mv rfl rfl rfl rfl rfl ?_
        refine O.fa0 (off := 1) rfl rfl rfl rfl ⟨_, _, _, Go.Proofs.Try.underlying107, rfl, rfl, Go.Proofs.Try.sizeOf68⟩ rfl ?_
        refine O.lds rfl rfl rfl (fun w => ⟨Go.Proofs.Try.isAgg68 w, Go.Proofs.Try.sizeOf68 w⟩) rfl rfl k2 ?_
        refine O.call rfl rfl rfl Go.Proofs.Try.call89 rfl (place_spec (x := y.2) ho2 hl hi2 hs (by omega)) ?_
        rintro _ H5 ⟨rfl, hf5⟩
        refine ⟨trivial, ?_⟩
        refine O.mv rfl rfl rfl rfl rfl ?_
        refine O.ext rfl rfl rfl rfl rfl rfl ?_
        refine O.ext rfl rfl rfl rfl rfl rfl ?_
        refine O.asg rfl rfl rfl rfl rfl ?_
        refine Pl.fin [(0, _), (1, _), (8, _), (9, _), (10, _), (12, _), (13, _), (15, _), (16, _), (17, _), (18, _), (22, _), (23, _), (46, _), (51, _)] ⟨rfl, rfl, rfl, rfl, rfl, rfl, rfl, rfl, rfl, rfl, rfl, rfl, rfl, rfl, rfl, trivial⟩ ?_
        refine Go'.inBlock ?_
        refine Go'.keep [(0, _), (1, _), (8, _), (9, _), (10, _), (13, _), (15, _), (16, _), (17, _)] ⟨rfl, rfl, rfl, rfl, rfl, rfl, rfl, rfl, rfl, trivial⟩ ?_
        exact tail (_, true) _ ⟨hf5, by unfold Pl.mvTo; rw [if_neg (by omega), if_neg h1, if_pos (.inr h5)], eT.symm⟩
      · skip
        -- region 20 (list.go:160)
        refine Go'.region [(0, 0), (1, 0)] rfl ?_
        refine O.cmp rfl rfl rfl rfl rfl rfl (eqlF (by omega)) ?_
        refine O.asg rfl rfl rfl rfl rfl ?_
        refine Pl.fin [(0, _), (1, _), (8, _), (9, _), (10, _), (12, _), (13, _), (15, _), (16, _), (17, _), (18, _), (22, _), (23, _), (46, _), (51, _)] ⟨rfl, rfl, rfl, rfl, rfl, rfl, rfl, rfl, rfl, rfl, rfl, rfl, rfl, rfl, rfl, trivial⟩ ?_
        refine Go'.condF rfl ?_
        -- region 9 (list.go:163)
        refine Go'.region [(0, 0)] rfl ?_
        refine O.asg rfl rfl rfl rfl rfl ?_
        refine Pl.fin [(0, _), (1, _), (8, _), (9, _), (10, _), (12, _), (13, _), (15, _), (16, _), (17, _), (18, _), (22, _), (23, _), (46, _), (51, _)] ⟨rfl, rfl, rfl, rfl, rfl, rfl, rfl, rfl, rfl, rfl, rfl, rfl, rfl, rfl, rfl, trivial⟩ ?_
        refine Go'.inBlock ?_
        refine Go'.keep [(0, _), (1, _), (8, _), (9, _), (10, _), (13, _), (15, _), (16, _), (17, _)] ⟨rfl, rfl, rfl, rfl, rfl, rfl, rfl, rfl, rfl, trivial⟩ ?_
        exact tail (0, true) _ ⟨Fr.refl _ _, by unfold Pl.mvTo; rw [if_neg (by omega), if_neg h1, if_neg (by omega)], eT.symm⟩
  · skip
    obtain rfl : j = ms.length := by omega
    rw [List.take_length] at hA hB
    -- region 5 (list.go:148)
    refine Go'.region [(0, 0)] rfl ?_
    refine O.cmp rfl rfl rfl rfl rfl rfl (lssF (by omega)) ?_
    refine Pl.fin [(0, _), (1, _), (8, _), (9, _), (10, _), (15, _), (16, _), (17, _), (18, _)] ⟨rfl, rfl, rfl, rfl, rfl, rfl, rfl, rfl, rfl, trivial⟩ ?_
    refine Go'.seq ?_
    refine Go'.condF rfl ?_
    refine Go'.exit rfl ?_
    refine Go'.seq ?_
    -- region 27 (list.go:171)
    refine Go'.region [(0, 0), (1, 0), (2, 0), (3, 0)] rfl ?_
    refine O.mv rfl rfl rfl rfl rfl ?_
    refine O.mv rfl rfl rfl rfl rfl ?_
    refine O.asg rfl rfl rfl rfl rfl ?_
    refine O.asg rfl rfl rfl rfl rfl ?_
    refine Pl.fin [(6, _), (7, _)] ⟨rfl, rfl, trivial⟩ ?_
    refine Go'.ret (vs := [_, _]) Go.Proofs.Try.func68 Go.Proofs.Try.results68 ⟨rfl, rfl, trivial⟩ ?_
    exact ⟨_, _, rfl, hA.out, hB.out, hF⟩

end Go.Bt
