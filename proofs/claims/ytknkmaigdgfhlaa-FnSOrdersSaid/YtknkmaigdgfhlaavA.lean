/- Contracts of functions of the program, proved by walking through their code. Conditions: those that each theorem names. -/
import Derived.Test.YtknkmaigdgfhlaazI
import Derived.Test.YtknkmaigdgfhlaatC
import Derived.Test.YtknkmaigdgfhlaaMp
namespace Go.Bt.FZ
open Go Go.Proofs
set_option maxRecDepth 20000
set_option maxHeartbeats 4000000
set_option linter.unusedVariables false

theorem st136 : StT Try.prog 136 [] [] := ⟨⟨_, Try.underlying136, fun w => by simp⟩, Try.zeroValue136⟩
abbrev P0 : Ps := ⟨0, 63, 31⟩
theorem P0_ok : PsOk P0 := ⟨rfl, by decide, by decide⟩
/-- A set in memory: one that nothing was done to, or a map. -/
def MapU (H : Mem) (tr : Nat) (S : Nat → Prop) (l : List Int) : Prop := (l = [] ∧ MapZ H tr ∧ S tr ∧ ∀ b, S b → b < H.size) ∨ MapM H tr P0 S l
theorem MapU.fr {H H' : Mem} {Z : Nat → Nat → Prop} {tr : Nat} {S : Nat → Prop} {l : List Int} (h : MapU H tr S l) (hf : Fr Z H H') (hz : ∀ b o, S b → ¬ Z b o) : MapU H' tr S l :=
  h.imp (fun ⟨e, h, s, lt⟩ => ⟨e, h.fr hf (fun o => hz tr o s), s, fun b hb => Nat.lt_of_lt_of_le (lt b hb) hf.size⟩) (fun h => h.fr hf hz)
theorem MapU.lt {H : Mem} {tr : Nat} {S : Nat → Prop} {l : List Int} (h : MapU H tr S l) : ∀ b, S b → b < H.size := h.elim (fun h => h.2.2.2) (fun h => h.lt)
theorem MapU.own {H : Mem} {tr : Nat} {S : Nat → Prop} {l : List Int} (h : MapU H tr S l) : S tr := h.elim (fun h => h.2.2.1) (fun h => h.own)
theorem MapU.cnt {H : Mem} {tr : Nat} {S : Nat → Prop} {l : List Int} (h : MapU H tr S l) : cl H tr 3 = some (.int .i64 (l.length : Int)) := h.elim (fun h => by rw [h.1]; exact h.2.1.h3) (fun h => h.cnt)
theorem MapU.wr {H : Mem} {tr : Nat} {S : Nat → Prop} {l : List Int} (h : MapU H tr S l) : Wr H tr 0 9 := h.elim (fun h => h.2.1.hw) (fun h => h.tc.wr)
theorem MapU.cases {H : Mem} {tr : Nat} {S : Nat → Prop} {l : List Int} (h : MapU H tr S l) : (l = [] ∧ cl H tr 2 = some (.pointer none)) ∨ (TrC H tr 0 63 31 ∧ Pl.Srt OI l ∧ ∃ h, ∃ t : Gt EI h, Gt.Good H P0 h t ∧ 1 ≤ (Gt.X h t).length ∧ Gt.L h t = l ∧ cl H tr 2 = some (ptr (Gt.p h t)) ∧ (∀ o, ¬ Gt.af h t tr o) ∧ ∀ b o, Gt.af h t b o → S b) := by
  rcases h with ⟨e, h, _⟩ | ⟨tc, srt, cnt, own, lt, hr⟩
  · exact .inl ⟨e, h.h2⟩
  · rcases hr with ⟨e, k⟩ | ⟨h, t, r⟩
    · exact .inl ⟨e, k⟩
    · exact .inr ⟨tc, srt, h, t, r⟩

theorem mset_u {B : World} {H : Mem} {tr : Nat} {S : Nat → Prop} {l : List Int} {x : Int} (hU : MapU H tr S l) (hlen : l.length < 2305843009213693952) :
    Fn Try.prog B 135 [.pointer (some ⟨tr, 0, none⟩), .int .i64 x, .agg #[]] H (fun r H' => r = .tuple #[.agg #[], .bool (Pl.fnd OI x l)] ∧ ∃ S', MapU H' tr S' (Pl.put OI x l) ∧ Fr (fun b _ => S b) H H' ∧ ∀ b, S' b → S b ∨ H.size ≤ b) := by
  rcases hU with ⟨rfl, h, s, _⟩ | h
  · refine (mset_zero (x := x) h).mono fun r H' ⟨e, S', hM, hF, hS⟩ => ⟨e, S', .inr hM, hF.mono fun b o _ hb => ?_, fun b hb => (hS b hb).imp (fun hb => ?_) id⟩
    · have hb' : b = tr := hb
      rw [hb']; exact s
    · rw [hb]; exact s
  · exact (mset_spec P0_ok (x := x) h hlen).mono fun r H' ⟨e, S', hM, hF, hS⟩ => ⟨e, S', .inr hM, hF, hS⟩

theorem insert_spec {B : World} {H : Mem} {tr : Nat} {S : Nat → Prop} {l : List Int} {x : Int} (hU : MapU H tr S l) (hlen : l.length < 2305843009213693952) :
    Fn Try.prog B 96 [.pointer (some ⟨tr, 0, none⟩), .int .i64 x] H (fun r H' => ∃ S', MapU H' tr S' (Pl.put OI x l) ∧ Fr (fun b _ => S b) H H' ∧ ∀ b, S' b → S b ∨ H.size ≤ b) := by
  refine fn_of Go.Proofs.Try.func96 rfl Go.Proofs.Try.ntmps96 ?_
  refine (show Go' _ _ _ _ 10 [(0, _), (1, _)] [.code _] _ from ?_)
  -- region 0 (set.go:22)
  refine Go'.region [(0, 0), (1, 0), (2, 0), (3, 0), (4, 0), (5, 2)] rfl ?_
  refine O.mv rfl rfl rfl rfl rfl ?_
  refine O.nc rfl rfl rfl rfl rfl ?_
  refine O.faz rfl rfl rfl rfl ⟨_, _, _, Go.Proofs.Try.underlying142, rfl, rfl, Go.Proofs.Try.sizeOf140⟩ rfl ?_
  refine O.mv rfl rfl rfl rfl rfl ?_
  refine O.bld (cs := []) rfl rfl rfl rfl (st136) rfl (by kernel_rfl) ?_
  refine O.call rfl rfl rfl Go.Proofs.Try.call135 rfl (mset_u hU hlen) ?_
  rintro _ H2 ⟨rfl, h2⟩
  refine ⟨trivial, ?_⟩
  refine Pl.fin [] trivial ?_
  refine Go'.fall Go.Proofs.Try.func96 Go.Proofs.Try.results96 (vs := []) trivial ?_
  exact h2

theorem growSet_spec {B : World} {H : Mem} {u : Value} {l : List Int} (hi : InS EN H u l) (hll : l.length ≤ 4294967296) :
    Fn Try.prog B 55 [u] H (fun r H' => ∃ tr S, r = ptr tr ∧ MapU H' tr S (Pl.puts OI l) ∧ Fr nowhere H H' ∧ ∀ b, S b → H.size ≤ b) := by
  obtain ⟨a, c, hu⟩ := hi.len
  subst hu
  refine fn_of Go.Proofs.Try.func55 rfl Go.Proofs.Try.ntmps55 ?_
  refine (show Go' _ _ _ _ 18 [(0, _)] [.code _] _ from ?_)
  refine Go'.seq ?_
  -- region 0 (set.go:92)
  refine Go'.region [(0, 0)] rfl ?_
  refine O.asg rfl rfl rfl rfl rfl ?_
  refine Pl.fin [(0, _), (2, _)] ⟨rfl, rfl, trivial⟩ ?_
  refine Go'.seq ?_
  -- region 1 (set.go:93)
  refine Go'.region [(0, 2), (1, 0)] rfl ?_
  refine O.alloc rfl rfl rfl Go.Proofs.Try.zeroValue142 ?_
  intro H1 M1
  refine ⟨trivial, ?_⟩
  have hF1 := M1.fr nowhere
  have hs1 := M1.size
  have hU1 : MapU H1 H.size (fun b => b = H.size) [] := .inl ⟨rfl, ⟨(M1.cl 0).trans rfl, (M1.cl 2).trans rfl, (M1.cl 3).trans rfl, fun i v h => (by
    match i, h with
    | 0, h => exact (M1.cl 4).trans h
    | i + 1, h => simp at h), (M1.cl 5).trans rfl, (M1.cl 7).trans rfl, (M1.cl 8).trans rfl, M1.wr 9 (by decide)⟩, rfl, fun b hb => by subst hb; omega⟩
  refine O.asg rfl rfl rfl rfl rfl ?_
  refine Pl.fin [(0, _), (2, _), (3, _)] ⟨rfl, rfl, rfl, trivial⟩ ?_
  refine Go'.seq ?_
  refine Go'.seq ?_
  -- region 2 (set.go:94)
  refine Go'.region [(0, 0), (1, 0), (2, 0)] rfl ?_
  refine O.mv rfl rfl rfl rfl rfl ?_
  refine O.len rfl rfl rfl rfl Go.Proofs.Try.underlying22 rfl ?_
  refine O.mv rfl rfl rfl rfl rfl ?_
  refine Pl.fin [(2, _), (3, _), (7, _), (8, _), (9, _)] ⟨rfl, rfl, rfl, rfl, rfl, trivial⟩ ?_
  refine Go'.block ?_
  refine Go'.loop ?_
  refine Go'.keep [(3, _), (7, _), (8, _), (9, _)] ⟨rfl, rfl, rfl, rfl, trivial⟩ ?_
  refine Go'.ind (σ := Nat) (fun j => l.length - j) (fun j H' => Fr nowhere H H' ∧ j ≤ l.length ∧ ∃ S, MapU H' H.size S (Pl.puts OI (l.take j)) ∧ ∀ b, S b → H.size ≤ b)
    (fun j => [(3, .pointer (some ⟨H.size, 0, none⟩)), (7, .slice a l.length c), (8, .int .i64 (l.length : Int)), (9, .int .i64 (j : Int))]) 0 ⟨hF1, Nat.zero_le _, _, hU1, fun b hb => by subst hb; exact Nat.le_refl _⟩ rfl ?_
  rintro j H2 ⟨hF, hjl, S, hM, hS⟩ ih
  have hi2 := hi.fr hF
  refine Go'.seq ?_
  by_cases hlt : j < l.length
  · skip
    obtain ⟨y, hy⟩ : ∃ y, l[j]? = some y := ⟨l[j], List.getElem?_eq_getElem hlt⟩
    obtain ⟨b, o, c', e, hr⟩ := hi2.at hy
    cases e
    have hpl := Pl.puts_length OI (l.take j)
    have hsz := hF.size
    rw [List.length_take] at hpl
    -- region 3 (set.go:94)
    refine Go'.region [(0, 0)] rfl ?_
    refine O.cmp rfl rfl rfl rfl rfl rfl (lssT (by omega)) ?_
    refine Pl.fin [(3, _), (7, _), (8, _), (9, _), (10, _)] ⟨rfl, rfl, rfl, rfl, rfl, trivial⟩ ?_
    refine Go'.seq ?_
    refine Go'.condT rfl ?_
    refine Go'.skip ?_
    refine Go'.seq ?_
    refine Go'.block ?_
    refine Go'.seq ?_
    -- region 4 (set.go:94)
    refine Go'.region [(0, 0), (1, 1), (2, 0)] rfl ?_
    refine O.ix (j := j) rfl rfl rfl rfl Go.Proofs.Try.underlying22 Go.Proofs.Try.sizeOf3 rfl rfl (by omega) hlt ?_
    refine O.ld rfl rfl rfl (fun w => ⟨Go.Proofs.Try.isAgg3 w, Go.Proofs.Try.sizeOf3 w⟩) rfl (hr 0 _ rfl) ?_
    refine O.asg rfl rfl rfl rfl rfl ?_
    refine Pl.fin [(3, _), (5, _), (7, _), (8, _), (9, _), (10, _)] ⟨rfl, rfl, rfl, rfl, rfl, rfl, trivial⟩ ?_
    -- region 5 (set.go:95)
    refine Go'.region [(0, 0), (1, 0), (2, 2)] rfl ?_
    refine O.mv rfl rfl rfl rfl rfl ?_
    refine O.mv rfl rfl rfl rfl rfl ?_
    refine O.call rfl rfl rfl Go.Proofs.Try.call96 rfl (insert_spec (x := y) hM (by omega)) ?_
    rintro _ H5 ⟨S', hM', hF', hS'⟩
    refine ⟨trivial, ?_⟩
    refine Pl.fin [(3, _), (5, _), (7, _), (8, _), (9, _), (10, _)] ⟨rfl, rfl, rfl, rfl, rfl, rfl, trivial⟩ ?_
    refine Go'.inBlock ?_
    -- region 6 (set.go:94)
    refine Go'.region [(0, 0), (1, 0)] rfl ?_
    refine O.add (((j + 1 : Nat) : Int)) rfl rfl rfl rfl rfl rfl (by omega) (by omega) ?_
    refine O.mv rfl rfl rfl rfl rfl ?_
    refine Pl.fin [(3, _), (5, _), (7, _), (8, _), (9, _), (10, _)] ⟨rfl, rfl, rfl, rfl, rfl, rfl, trivial⟩ ?_
    refine Go'.keep [(3, _), (7, _), (8, _), (9, _)] ⟨rfl, rfl, rfl, rfl, trivial⟩ ?_
    refine Go'.inLoop ?_
    exact ih (j + 1) H5 ⟨hF.trans' hF' (fun _ _ _ h => h) (fun b o hb hz => by have h1 := hS b hz; omega), hlt, S', by
      rw [List.take_add_one, hy]
      rw [← Pl.puts_snoc] at hM'
      exact hM', fun b hb => (hS' b hb).elim (hS b) (fun h => by omega)⟩ (by omega)
  · skip
    obtain rfl : j = l.length := by omega
    -- region 3 (set.go:94)
    refine Go'.region [(0, 0)] rfl ?_
    refine O.cmp rfl rfl rfl rfl rfl rfl (lssF (by omega)) ?_
    refine Pl.fin [(3, _), (7, _), (8, _), (9, _), (10, _)] ⟨rfl, rfl, rfl, rfl, rfl, trivial⟩ ?_
    refine Go'.seq ?_
    refine Go'.condF rfl ?_
    refine Go'.exit rfl ?_
    refine Go'.seq ?_
    -- region 7 (set.go:97)
    refine Go'.region [(0, 0), (1, 0)] rfl ?_
    refine O.mv rfl rfl rfl rfl rfl ?_
    refine O.asg rfl rfl rfl rfl rfl ?_
    refine Pl.fin [(2, _)] ⟨rfl, trivial⟩ ?_
    refine Go'.ret (vs := [_]) Go.Proofs.Try.func55 Go.Proofs.Try.results55 ⟨rfl, trivial⟩ ?_
    rw [List.take_length] at hM
    exact ⟨H.size, S, rfl, hM, hF, hS⟩

theorem Gt.Good.some' {H : Mem} {P : Ps} : ∀ {h : Nat} {t : Gt EI h}, Gt.Good H P h t → 1 ≤ (Gt.X h t).length → 1 ≤ (Gt.L h t).length
  | 0, _, _, h1 => h1
  | h + 1, (g, X, K), hg, h1 => Nat.le_trans h1 (Pl.sublist_inter X (K.map (Gt.L h)) (by have := hg.2.2.2.2.2.1; simp only at this; rw [List.length_map, this]; omega)).length_le
def kz? : Option Int → Value
  | some y => .tuple #[.int .i64 y, .agg #[], .bool true]
  | none => .tuple #[.int .i64 0, .agg #[], .bool false]
theorem minMut_spec {B : World} {H : Mem} {tr : Nat} {S : Nat → Prop} {l : List Int} (hU : MapU H tr S l) (mt : Bool) :
    Fn Try.prog B 153 [.pointer (some ⟨tr, 0, none⟩), .bool mt] H (fun r H' => r = kz? l[0]? ∧ Fr nowhere H H') := by
  obtain ⟨z5, hz5⟩ : ∃ z, z = H.size := ⟨_, rfl⟩
  refine fn_of Go.Proofs.Try.func153 rfl Go.Proofs.Try.ntmps153 ?_
  refine (show Go' _ _ _ _ 44 [(0, _), (1, _)] [.code _] _ from ?_)
  refine Go'.seq ?_
  -- region 0 (map.go:671)
  refine Go'.region [(0, 0), (1, 2), (2, 0)] rfl ?_
  refine O.asg rfl rfl rfl rfl rfl ?_
  refine O.alloc rfl rfl rfl Go.Proofs.Try.zeroValue136 ?_
  intro H Mz
  refine ⟨trivial, ?_⟩
  replace hU := hU.fr (Mz.fr nowhere) (fun _ _ _ => nw)
  refine O.asg rfl rfl rfl rfl rfl ?_
  refine Pl.fin [(0, _), (1, _), (4, _), (5, _), (6, _)] ⟨rfl, rfl, rfl, rfl, rfl, trivial⟩ ?_
  refine Go'.seq ?_
  refine Go'.seq ?_
  refine Go'.mono (Q := fun r H' => r = kz? l[0]? ∧ Fr nowhere H H') (fun v H' hq => ⟨hq.1, (Mz.fr nowhere).trans hq.2⟩) ?_
  rw [← hz5]
  rcases hU.cases with ⟨rfl, hptr⟩ | ⟨tc, srt, h, t, hg, hx1, e, hc, hnt, hown⟩
  · skip
    -- region 1 (map.go:672)
    refine Go'.region [(0, 0), (1, 0), (2, 0), (3, 1), (4, 0)] rfl ?_
    refine O.mv rfl rfl rfl rfl rfl ?_
    refine O.nc rfl rfl rfl rfl rfl ?_
    refine O.fa0 (off := 2) rfl rfl rfl rfl ⟨_, _, _, Go.Proofs.Try.underlying140, rfl, rfl, Go.Proofs.Try.sizeOf135⟩ rfl ?_
    refine O.ld rfl rfl rfl (fun w => ⟨Go.Proofs.Try.isAgg135 w, Go.Proofs.Try.sizeOf135 w⟩) rfl hptr ?_
    refine O.isNil rfl rfl rfl rfl Go.Proofs.Try.underlying135 rfl rfl ?_
    refine Pl.fin [(0, _), (1, _), (4, _), (5, _), (6, _), (13, _)] ⟨rfl, rfl, rfl, rfl, rfl, rfl, trivial⟩ ?_
    refine Go'.condT rfl ?_
    refine Go'.seq ?_
    -- region 2 (map.go:673)
    refine Go'.draw (fun _ => True) [(0, 0), (1, 1), (2, 0), (3, 2), (4, 0)] (by kernel_rfl) (by kernel_rfl) (trivial) ?_
    refine O.mv rfl rfl rfl rfl rfl ?_
    refine O.lds rfl rfl rfl (fun w => ⟨Go.Proofs.Try.isAgg136 w, Go.Proofs.Try.sizeOf136 w⟩) rfl rfl (Rd.nil _ _ _) ?_
    refine O.asg rfl rfl rfl rfl rfl ?_
    refine O.st0 rfl rfl Go.Proofs.Try.sizeOf136 rfl rfl rfl trivial ?_
    refine O.asg rfl rfl rfl rfl rfl ?_
    refine Pl.fin [(0, _), (1, _), (4, _), (5, _), (6, _)] ⟨rfl, rfl, rfl, rfl, rfl, trivial⟩ ?_
    refine Go'.ret (vs := [_, _, _]) Go.Proofs.Try.func153 Go.Proofs.Try.results153 ⟨rfl, ⟨_, _, rfl, fun _ _ => run_loadVar_agg (fun w => ⟨Go.Proofs.Try.isAgg136 w, Go.Proofs.Try.sizeOf136 w⟩) rfl (Rd.nil _ _ _)⟩, rfl, trivial⟩ ?_
    exact ⟨rfl, Fr.refl _ _⟩
  · skip
    obtain ⟨kp, hN⟩ := hg.node
    have hiso : (Gt.g h t).iso = P0.iso := hg.isoe
    have hc0 := hN.c0
    rw [hiso] at hc0
    have hptr : cl H tr 2 = some (.pointer (some ⟨Gt.p h t, 0, none⟩)) := hc
    -- region 1 (map.go:672)
    refine Go'.region [(0, 0), (1, 0), (2, 0), (3, 1), (4, 0)] rfl ?_
    refine O.mv rfl rfl rfl rfl rfl ?_
    refine O.nc rfl rfl rfl rfl rfl ?_
    refine O.fa0 (off := 2) rfl rfl rfl rfl ⟨_, _, _, Go.Proofs.Try.underlying140, rfl, rfl, Go.Proofs.Try.sizeOf135⟩ rfl ?_
    refine O.ld rfl rfl rfl (fun w => ⟨Go.Proofs.Try.isAgg135 w, Go.Proofs.Try.sizeOf135 w⟩) rfl hptr ?_
    refine O.isNil rfl rfl rfl rfl Go.Proofs.Try.underlying135 rfl rfl ?_
    refine Pl.fin [(0, _), (1, _), (4, _), (5, _), (6, _), (13, _)] ⟨rfl, rfl, rfl, rfl, rfl, rfl, trivial⟩ ?_
    refine Go'.condF rfl ?_
    refine Go'.skip ?_
    refine Go'.seq ?_
    -- region 3 (map.go:675)
    refine Go'.region [(0, 0), (1, 0), (2, 0), (3, 0), (4, 0), (5, 2), (6, 0)] rfl ?_
    refine O.mv rfl rfl rfl rfl rfl ?_
    refine O.mv rfl rfl rfl rfl rfl ?_
    refine O.nc rfl rfl rfl rfl rfl ?_
    refine O.fa0 (off := 2) rfl rfl rfl rfl ⟨_, _, _, Go.Proofs.Try.underlying140, rfl, rfl, Go.Proofs.Try.sizeOf135⟩ rfl ?_
    refine O.mv rfl rfl rfl rfl rfl ?_
    refine O.callQ rfl rfl rfl Go.Proofs.Try.call151 rfl (isoLoad_spec mt hc hc0 tc.iso) trivial ?_
    refine O.asg rfl rfl rfl rfl rfl ?_
    refine Pl.fin [(0, _), (1, _), (4, _), (5, _), (6, _), (7, _)] ⟨rfl, rfl, rfl, rfl, rfl, rfl, trivial⟩ ?_
    refine Go'.block ?_
    refine Go'.loop ?_
    refine Go'.keep [(0, _), (1, _), (4, _), (5, _), (6, _), (7, _)] ⟨rfl, rfl, rfl, rfl, rfl, rfl, trivial⟩ ?_
    refine Go'.ind (σ := (h : Nat) × Gt EI h) (fun s => s.1) (fun s H' => H' = H ∧ Gt.Good H P0 s.1 s.2 ∧ 1 ≤ (Gt.X s.1 s.2).length ∧ (Gt.L s.1 s.2)[0]? = l[0]?)
      (fun s => [(0, .pointer (some ⟨tr, 0, none⟩)), (1, .bool mt), (4, .int .i64 0), (5, .pointer (some ⟨z5, 0, none⟩)), (6, .bool false), (7, .pointer (some ⟨Gt.p s.1 s.2, 0, none⟩))]) ⟨h, t⟩ ⟨rfl, hg, hx1, by rw [e]⟩ rfl ?_
    clear hg hx1 e hc hnt hown hN hiso hc0 hptr t h kp
    rintro ⟨h, t⟩ H2 ⟨hHH, hg, hx1, hL⟩ ih
    have eH : H = H2 := hHH.symm
    subst eH
    simp only at hg hx1 hL
    clear hHH
    refine Go'.block ?_
    refine Go'.seq ?_
    refine Go'.seq ?_
    rcases h with _ | h
    · -- a leaf
      obtain ⟨g, X⟩ := t
      have hN : NodeM EI H g X (.pointer none) := hg.1
      replace hx1 : 1 ≤ X.length := hx1
      replace hL : X[0]? = l[0]? := hL
      obtain ⟨y, hy⟩ : ∃ y, X[0]? = some y := ⟨X[0], List.getElem?_eq_getElem (by omega)⟩
      rw [← hL, hy]
      -- region 4 (map.go:677)
      refine Go'.region [(0, 0), (1, 2)] rfl ?_
      refine O.mv rfl rfl rfl rfl rfl ?_
      refine O.callQ rfl rfl rfl Go.Proofs.Try.call152 rfl (leaf_spec hN.c3) trivial ?_
      refine Pl.fin [(0, _), (1, _), (4, _), (5, _), (6, _), (7, _), (23, _)] ⟨rfl, rfl, rfl, rfl, rfl, rfl, rfl, trivial⟩ ?_
      refine Go'.condT rfl ?_
      refine Go'.seq ?_
      -- region 5 (map.go:678)
      refine Go'.region [(0, 0), (1, 0), (2, 0), (3, 1), (4, 0), (5, 1), (6, 2), (7, 2)] rfl ?_
      refine O.mv rfl rfl rfl rfl rfl ?_
      refine O.nc rfl rfl rfl rfl rfl ?_
      refine O.fa0 (off := 2) rfl rfl rfl rfl ⟨_, _, _, Go.Proofs.Try.underlying205, rfl, rfl, Go.Proofs.Try.sizeOf202⟩ rfl ?_
      refine O.ld rfl rfl rfl (fun w => ⟨Go.Proofs.Try.isAgg202 w, Go.Proofs.Try.sizeOf202 w⟩) rfl hN.c2 ?_
      refine O.ix (j := 0) rfl rfl rfl rfl Go.Proofs.Try.underlying202 Go.Proofs.Try.sizeOf138 rfl rfl rfl (by omega) ?_
      refine O.lds rfl rfl rfl (fun w => ⟨Go.Proofs.Try.isAgg138 w, Go.Proofs.Try.sizeOf138 w⟩) rfl rfl (hN.sl.item hy) ?_
      refine O.alloc rfl rfl rfl Go.Proofs.Try.zeroValue138 ?_
      intro H3 M3
      refine ⟨trivial, ?_⟩
      have hs3 := M3.size
      have m8 : Wr H3 H.size 0 1 := M3.wr 1 (by decide)
      refine O.st rfl rfl Go.Proofs.Try.sizeOf138 rfl rfl rfl rfl rfl m8 ?_
      intro H4 W4
      have hF4 : Fr nowhere H H4 := (M3.fr nowhere).trans' W4.fr (fun _ _ _ h => h) (fun b o hb hz => by have h1 := hz.1; omega)
      replace m8 := W4.fr.wr m8
      have k0 : cl H4 H.size 0 = some (.int .i64 y) := W4.all 0 _ rfl
      refine ⟨trivial, ?_⟩
      refine Pl.fin [(0, _), (1, _), (4, _), (5, _), (6, _), (7, _), (8, _), (23, _)] ⟨rfl, rfl, rfl, rfl, rfl, rfl, rfl, rfl, trivial⟩ ?_
      refine Go'.seq ?_
      -- region 6 (map.go:679)
      refine Go'.draw (fun _ => True) [(0, 0), (1, 1), (2, 1), (3, 1), (4, 0), (5, 2), (6, 0)] (by kernel_rfl) (by kernel_rfl) (trivial) ?_
      refine O.faz rfl rfl rfl rfl ⟨_, _, _, Go.Proofs.Try.underlying138, rfl, rfl, Go.Proofs.Try.sizeOf3⟩ rfl ?_
      refine O.ld rfl rfl rfl (fun w => ⟨Go.Proofs.Try.isAgg3 w, Go.Proofs.Try.sizeOf3 w⟩) rfl k0 ?_
      refine O.fz1 rfl rfl rfl ty ⟨_, _, Go.Proofs.Try.underlying138, rfl, rfl, rfl, Go.Proofs.Try.sizeOf136⟩ rfl m8 ?_
      refine O.lds rfl rfl rfl (fun w => ⟨Go.Proofs.Try.isAgg136 w, Go.Proofs.Try.sizeOf136 w⟩) rfl rfl (Rd.nil _ _ _) ?_
      refine O.asg rfl rfl rfl rfl rfl ?_
      refine O.st0 rfl rfl Go.Proofs.Try.sizeOf136 rfl rfl rfl trivial ?_
      refine O.asg rfl rfl rfl rfl rfl ?_
      refine Pl.fin [(0, _), (1, _), (4, _), (5, _), (6, _), (7, _), (8, _), (23, _)] ⟨rfl, rfl, rfl, rfl, rfl, rfl, rfl, rfl, trivial⟩ ?_
      refine Go'.ret (vs := [_, _, _]) Go.Proofs.Try.func153 Go.Proofs.Try.results153 ⟨rfl, ⟨_, _, rfl, fun _ _ => run_loadVar_agg (fun w => ⟨Go.Proofs.Try.isAgg136 w, Go.Proofs.Try.sizeOf136 w⟩) rfl (Rd.nil _ _ _)⟩, rfl, trivial⟩ ?_
      exact ⟨rfl, hF4⟩
    · -- an inner node
      obtain ⟨g, X, K⟩ := t
      have hI : Inn H P0 h g X ((Gt.ps h K).map some) K := hg.inn
      have hKl : K.length = X.length + 1 := hg.2.2.2.2.2.1
      obtain ⟨k, K', rfl⟩ : ∃ k K', K = k :: K' := by
        cases K with
        | nil => simp at hKl
        | cons k K' => exact ⟨k, K', rfl⟩
      obtain ⟨hgk, hmk, _⟩ := hI.c.1 k List.mem_cons_self
      obtain ⟨kp, hNk⟩ := hgk.node
      have hc0 := hNk.c0
      rw [hgk.isoe] at hc0
      have hck : cl H g.kb (g.ko + 0 * 1) = some (ptr (Gt.p h k)) := hI.k.at (i := 0) rfl
      have hLk : (Gt.L h k)[0]? = l[0]? := by
        rw [← hL]
        show _ = (Pl.inter X ((k :: K').map (Gt.L h)))[0]?
        rw [List.map_cons, Pl.inter_post _ _ _ (by rw [List.length_map]; simpa using hKl.symm), List.getElem?_append_left (by have := Gt.Good.some' hgk (Nat.le_trans P0_ok.h1 hmk); omega)]
      -- region 4 (map.go:677)
      refine Go'.region [(0, 0), (1, 2)] rfl ?_
      refine O.mv rfl rfl rfl rfl rfl ?_
      refine O.callQ rfl rfl rfl Go.Proofs.Try.call152 rfl (leaf_spec hI.n.c3) trivial ?_
      refine Pl.fin [(0, _), (1, _), (4, _), (5, _), (6, _), (7, _), (23, _)] ⟨rfl, rfl, rfl, rfl, rfl, rfl, rfl, trivial⟩ ?_
      refine Go'.condF rfl ?_
      refine Go'.skip ?_
      -- region 7 (map.go:681)
      refine Go'.region [(0, 0), (1, 0), (2, 0), (3, 0), (4, 1), (5, 0), (6, 1), (7, 0), (8, 0), (9, 2), (10, 0)] rfl ?_
      refine O.mv rfl rfl rfl rfl rfl ?_
      refine O.mv rfl rfl rfl rfl rfl ?_
      refine O.nc rfl rfl rfl rfl rfl ?_
      refine O.fa0 (off := 3) rfl rfl rfl rfl ⟨_, _, _, Go.Proofs.Try.underlying205, rfl, rfl, Go.Proofs.Try.sizeOf203⟩ rfl ?_
      refine O.ld rfl rfl rfl (fun w => ⟨Go.Proofs.Try.isAgg203 w, Go.Proofs.Try.sizeOf203 w⟩) rfl hI.n.c3 ?_
      refine O.nc rfl rfl rfl rfl rfl ?_
      refine O.ld rfl rfl rfl (fun w => ⟨Go.Proofs.Try.isAgg206 w, Go.Proofs.Try.sizeOf206 w⟩) rfl hI.k.c ?_
      refine O.ix (j := 0) rfl rfl rfl rfl Go.Proofs.Try.underlying206 Go.Proofs.Try.sizeOf135 rfl rfl rfl (by rw [List.length_map, Gt.ps, List.length_map]; exact Nat.succ_pos _) ?_
      refine O.mv rfl rfl rfl rfl rfl ?_
      refine O.callQ rfl rfl rfl Go.Proofs.Try.call151 rfl (isoLoad_spec mt hck hc0 tc.iso) trivial ?_
      refine O.asg rfl rfl rfl rfl rfl ?_
      refine Pl.fin [(0, _), (1, _), (4, _), (5, _), (6, _), (7, _), (23, _)] ⟨rfl, rfl, rfl, rfl, rfl, rfl, rfl, trivial⟩ ?_
      refine Go'.inBlock ?_
      refine Go'.keep [(0, _), (1, _), (4, _), (5, _), (6, _), (7, _)] ⟨rfl, rfl, rfl, rfl, rfl, rfl, trivial⟩ ?_
      refine Go'.inLoop ?_
      exact ih ⟨h, k⟩ H ⟨rfl, hgk, Nat.le_trans P0_ok.h1 hmk, hLk⟩ (Nat.lt_succ_self h)

theorem min_spec {B : World} {H : Mem} {tr : Nat} {S : Nat → Prop} {l : List Int} (hU : MapU H tr S l) :
    Fn Try.prog B 122 [.pointer (some ⟨tr, 0, none⟩)] H (fun r H' => r = kz? l[0]? ∧ Fr nowhere H H') := by
  refine fn_of Go.Proofs.Try.func122 rfl Go.Proofs.Try.ntmps122 ?_
  refine (show Go' _ _ _ _ 10 [(0, _)] [.code _] _ from ?_)
  refine Go'.seq ?_
  -- region 0 (map.go:663)
  refine Go'.region [(0, 0), (1, 2), (2, 0)] rfl ?_
  refine O.asg rfl rfl rfl rfl rfl ?_
  refine O.alloc rfl rfl rfl Go.Proofs.Try.zeroValue136 ?_
  intro H Mz
  refine ⟨trivial, ?_⟩
  replace hU := hU.fr (Mz.fr nowhere) (fun _ _ _ => nw)
  refine O.asg rfl rfl rfl rfl rfl ?_
  refine Pl.fin [(0, _), (2, _), (3, _), (4, _)] ⟨rfl, rfl, rfl, rfl, trivial⟩ ?_
  refine Go'.seq ?_
  refine Go'.mono (Q := fun r H' => r = kz? l[0]? ∧ Fr nowhere H H') (fun v H' hq => ⟨hq.1, (Mz.fr nowhere).trans hq.2⟩) ?_
  cases hl0 : l[0]?
  · skip
    -- region 1 (map.go:664)
    refine Go'.region [(0, 0), (1, 2), (2, 0), (3, 0), (4, 0), (5, 0), (6, 2), (7, 0)] rfl ?_
    refine O.mv rfl rfl rfl rfl rfl ?_
    refine O.call rfl rfl rfl Go.Proofs.Try.call153 rfl (minMut_spec hU false) ?_
    rintro _ H2 ⟨rfl, hF2⟩
    rw [hl0]
    unfold kz?
    refine ⟨trivial, ?_⟩
    refine O.ext rfl rfl rfl rfl rfl rfl ?_
    refine O.ext rfl rfl rfl rfl rfl rfl ?_
    refine O.ext rfl rfl rfl rfl rfl rfl ?_
    refine O.asg rfl rfl rfl rfl rfl ?_
    refine O.st0 rfl rfl Go.Proofs.Try.sizeOf136 rfl rfl rfl trivial ?_
    refine O.asg rfl rfl rfl rfl rfl ?_
    refine Pl.fin [(2, _), (3, _), (4, _)] ⟨rfl, rfl, rfl, trivial⟩ ?_
    refine Go'.ret (vs := [_, _, _]) Go.Proofs.Try.func122 Go.Proofs.Try.results122 ⟨rfl, ⟨_, _, rfl, fun _ _ => run_loadVar_agg (fun w => ⟨Go.Proofs.Try.isAgg136 w, Go.Proofs.Try.sizeOf136 w⟩) rfl (Rd.nil _ _ _)⟩, rfl, trivial⟩ ?_
    exact ⟨rfl, hF2⟩
  · skip
    -- region 1 (map.go:664)
    refine Go'.region [(0, 0), (1, 2), (2, 0), (3, 0), (4, 0), (5, 0), (6, 2), (7, 0)] rfl ?_
    refine O.mv rfl rfl rfl rfl rfl ?_
    refine O.call rfl rfl rfl Go.Proofs.Try.call153 rfl (minMut_spec hU false) ?_
    rintro _ H2 ⟨rfl, hF2⟩
    rw [hl0]
    unfold kz?
    refine ⟨trivial, ?_⟩
    refine O.ext rfl rfl rfl rfl rfl rfl ?_
    refine O.ext rfl rfl rfl rfl rfl rfl ?_
    refine O.ext rfl rfl rfl rfl rfl rfl ?_
    refine O.asg rfl rfl rfl rfl rfl ?_
    refine O.st0 rfl rfl Go.Proofs.Try.sizeOf136 rfl rfl rfl trivial ?_
    refine O.asg rfl rfl rfl rfl rfl ?_
    refine Pl.fin [(2, _), (3, _), (4, _)] ⟨rfl, rfl, rfl, trivial⟩ ?_
    refine Go'.ret (vs := [_, _, _]) Go.Proofs.Try.func122 Go.Proofs.Try.results122 ⟨rfl, ⟨_, _, rfl, fun _ _ => run_loadVar_agg (fun w => ⟨Go.Proofs.Try.isAgg136 w, Go.Proofs.Try.sizeOf136 w⟩) rfl (Rd.nil _ _ _)⟩, rfl, trivial⟩ ?_
    exact ⟨rfl, hF2⟩

def ky? : Option Int → Value
  | some y => .tuple #[.int .i64 y, .bool true]
  | none => .tuple #[.int .i64 0, .bool false]
theorem smin_spec {B : World} {H : Mem} {tr : Nat} {S : Nat → Prop} {l : List Int} (hU : MapU H tr S l) :
    Fn Try.prog B 86 [.pointer (some ⟨tr, 0, none⟩)] H (fun r H' => r = ky? l[0]? ∧ Fr nowhere H H') := by
  refine fn_of Go.Proofs.Try.func86 rfl Go.Proofs.Try.ntmps86 ?_
  refine (show Go' _ _ _ _ 17 [(0, _)] [.code _] _ from ?_)
  refine Go'.seq ?_
  -- region 0 (set.go:78)
  refine Go'.region [(0, 0), (1, 0)] rfl ?_
  refine O.asg rfl rfl rfl rfl rfl ?_
  refine O.asg rfl rfl rfl rfl rfl ?_
  refine Pl.fin [(0, _), (2, _), (3, _)] ⟨rfl, rfl, rfl, trivial⟩ ?_
  refine Go'.seq ?_
  cases hl0 : l[0]?
  · skip
    -- region 1 (set.go:79)
    refine Go'.region [(0, 0), (1, 0), (2, 0), (3, 2), (4, 0), (5, 0), (6, 0), (7, 0), (8, 2), (9, 0), (10, 2), (11, 0)] rfl ?_
    refine O.mv rfl rfl rfl rfl rfl ?_
    refine O.nc rfl rfl rfl rfl rfl ?_
    refine O.faz rfl rfl rfl rfl ⟨_, _, _, Go.Proofs.Try.underlying142, rfl, rfl, Go.Proofs.Try.sizeOf140⟩ rfl ?_
    refine O.call rfl rfl rfl Go.Proofs.Try.call122 rfl (min_spec hU) ?_
    rintro _ H2 ⟨rfl, hF2⟩
    rw [hl0]
    unfold kz?
    refine ⟨trivial, ?_⟩
    refine O.mv rfl rfl rfl rfl rfl ?_
    refine O.ext rfl rfl rfl rfl rfl rfl ?_
    refine O.ext rfl rfl rfl rfl rfl rfl ?_
    refine O.ext rfl rfl rfl rfl rfl rfl ?_
    refine O.alloc rfl rfl rfl Go.Proofs.Try.zeroValue136 ?_
    intro H3 M3
    refine ⟨trivial, ?_⟩
    refine O.asg rfl rfl rfl rfl rfl ?_
    refine O.st0 rfl rfl Go.Proofs.Try.sizeOf136 rfl rfl rfl trivial ?_
    refine O.asg rfl rfl rfl rfl rfl ?_
    refine Pl.fin [(2, _), (3, _), (4, _), (6, _)] ⟨rfl, rfl, rfl, rfl, trivial⟩ ?_
    refine Go'.seq ?_
    -- region 2 (set.go:80)
    refine Go'.region [(0, 0), (1, 0), (2, 0), (3, 0)] rfl ?_
    refine O.mv rfl rfl rfl rfl rfl ?_
    refine O.mv rfl rfl rfl rfl rfl ?_
    refine O.asg rfl rfl rfl rfl rfl ?_
    refine O.asg rfl rfl rfl rfl rfl ?_
    refine Pl.fin [(2, _), (3, _)] ⟨rfl, rfl, trivial⟩ ?_
    refine Go'.ret (vs := [_, _]) Go.Proofs.Try.func86 Go.Proofs.Try.results86 ⟨rfl, rfl, trivial⟩ ?_
    exact ⟨rfl, hF2.trans (M3.fr nowhere)⟩
  · skip
    -- region 1 (set.go:79)
    refine Go'.region [(0, 0), (1, 0), (2, 0), (3, 2), (4, 0), (5, 0), (6, 0), (7, 0), (8, 2), (9, 0), (10, 2), (11, 0)] rfl ?_
    refine O.mv rfl rfl rfl rfl rfl ?_
    refine O.nc rfl rfl rfl rfl rfl ?_
    refine O.faz rfl rfl rfl rfl ⟨_, _, _, Go.Proofs.Try.underlying142, rfl, rfl, Go.Proofs.Try.sizeOf140⟩ rfl ?_
    refine O.call rfl rfl rfl Go.Proofs.Try.call122 rfl (min_spec hU) ?_
    rintro _ H2 ⟨rfl, hF2⟩
    rw [hl0]
    unfold kz?
    refine ⟨trivial, ?_⟩
    refine O.mv rfl rfl rfl rfl rfl ?_
    refine O.ext rfl rfl rfl rfl rfl rfl ?_
    refine O.ext rfl rfl rfl rfl rfl rfl ?_
    refine O.ext rfl rfl rfl rfl rfl rfl ?_
    refine O.alloc rfl rfl rfl Go.Proofs.Try.zeroValue136 ?_
    intro H3 M3
    refine ⟨trivial, ?_⟩
    refine O.asg rfl rfl rfl rfl rfl ?_
    refine O.st0 rfl rfl Go.Proofs.Try.sizeOf136 rfl rfl rfl trivial ?_
    refine O.asg rfl rfl rfl rfl rfl ?_
    refine Pl.fin [(2, _), (3, _), (4, _), (6, _)] ⟨rfl, rfl, rfl, rfl, trivial⟩ ?_
    refine Go'.seq ?_
    -- region 2 (set.go:80)
    refine Go'.region [(0, 0), (1, 0), (2, 0), (3, 0)] rfl ?_
    refine O.mv rfl rfl rfl rfl rfl ?_
    refine O.mv rfl rfl rfl rfl rfl ?_
    refine O.asg rfl rfl rfl rfl rfl ?_
    refine O.asg rfl rfl rfl rfl rfl ?_
    refine Pl.fin [(2, _), (3, _)] ⟨rfl, rfl, trivial⟩ ?_
    refine Go'.ret (vs := [_, _]) Go.Proofs.Try.func86 Go.Proofs.Try.results86 ⟨rfl, rfl, trivial⟩ ?_
    exact ⟨rfl, hF2.trans (M3.fr nowhere)⟩

/-- A key that was found. -/
def kvs : Option Int → List Value
  | some y => [.int .i64 y, .bool true]
  | none => [.int .i64 0, .bool false]
def KV (o : Option Int) : Value := .agg (kvs o).toArray
theorem st63 : StT Try.prog 63 [(0, 1), (1, 1)] [.int .i64 0, .bool false] := ⟨⟨_, Try.underlying63, fun w => by simp [Array.mapM_eq_mapM_toList, Try.sizeOf3, Try.sizeOf4]⟩, Try.zeroValue63⟩
def ok1 (x : Int) : Bool → Option Int
  | true => some x
  | false => none
theorem key_spec {B : World} {H : Mem} {x : Int} {ok : Bool} : Fn Try.prog B 83 [.int .i64 x, .bool ok] H (fun r H' => r = KV (ok1 x ok) ∧ Fr nowhere H H') := by
  have hF : Fr nowhere H H := Fr.refl _ _
  refine fn_of Go.Proofs.Try.func83 rfl Go.Proofs.Try.ntmps83 ?_
  refine (show Go' _ _ _ _ 10 [(0, _), (1, _)] [.code _] _ from ?_)
  refine Go'.seq ?_
  -- region 0 (set.go:101)
  refine Go'.region [(0, 2)] rfl ?_
  refine O.alloc rfl rfl rfl Go.Proofs.Try.zeroValue63 ?_
  intro H2 M2
  refine ⟨trivial, ?_⟩
  have hs2 := M2.size
  
  replace hF := hF.trans' (M2.fr nowhere) (fun _ _ _ h => h) (fun _ _ _ h => h.elim)
  have m4 : Wr H2 H.size 0 2 := M2.wr 2 (by decide)
  refine Pl.fin [(0, _), (1, _), (4, _)] ⟨rfl, rfl, rfl, trivial⟩ ?_
  refine Go'.seq ?_
  refine Go'.seq ?_
  -- region 1 (set.go:102)
  refine Go'.region [(0, 0), (1, 0)] rfl ?_
  refine O.mv rfl rfl rfl rfl rfl ?_
  refine O.not rfl rfl rfl rfl rfl ?_
  refine Pl.fin [(0, _), (4, _), (6, _)] ⟨rfl, rfl, rfl, trivial⟩ ?_
  cases ok
  · skip
    refine Go'.condT rfl ?_
    refine Go'.seq ?_
    -- region 2 (set.go:103)
    refine Go'.region [(0, 0), (1, 2)] rfl ?_
    refine O.bld (cs := (kvs none)) rfl rfl rfl rfl (st63) rfl (by kernel_rfl) ?_
    refine O.st rfl rfl Go.Proofs.Try.sizeOf63 rfl rfl rfl rfl rfl m4 ?_
    intro H5 W5
    replace hF := hF.trans' W5.fr (fun _ _ _ h => h) (fun b o hb hz => by have h1 := hz.1; omega)
    refine ⟨trivial, ?_⟩
    refine Pl.fin [(0, _), (4, _)] ⟨rfl, rfl, trivial⟩ ?_
    refine Go'.ret (vs := [_]) Go.Proofs.Try.func83 Go.Proofs.Try.results83 ⟨⟨_, _, rfl, fun _ _ => run_loadVar_agg (fun w => ⟨Go.Proofs.Try.isAgg63 w, Go.Proofs.Try.sizeOf63 w⟩) rfl W5.all⟩, trivial⟩ ?_
    exact ⟨rfl, hF⟩
  · skip
    refine Go'.condF rfl ?_
    refine Go'.skip ?_
    refine Go'.seq ?_
    -- region 3 (set.go:105)
    refine Go'.region [(0, 0), (1, 0), (2, 2)] rfl ?_
    refine O.mv rfl rfl rfl rfl rfl ?_
    refine O.bld (cs := (kvs (some x))) rfl rfl rfl rfl (st63) rfl (by kernel_rfl) ?_
    refine O.st rfl rfl Go.Proofs.Try.sizeOf63 rfl rfl rfl rfl rfl m4 ?_
    intro H5 W5
    replace hF := hF.trans' W5.fr (fun _ _ _ h => h) (fun b o hb hz => by have h1 := hz.1; omega)
    refine ⟨trivial, ?_⟩
    refine Pl.fin [(4, _)] ⟨rfl, trivial⟩ ?_
    refine Go'.ret (vs := [_]) Go.Proofs.Try.func83 Go.Proofs.Try.results83 ⟨⟨_, _, rfl, fun _ _ => run_loadVar_agg (fun w => ⟨Go.Proofs.Try.isAgg63 w, Go.Proofs.Try.sizeOf63 w⟩) rfl W5.all⟩, trivial⟩ ?_
    exact ⟨rfl, hF⟩

theorem simplMin_spec {B : World} {H : Mem} {u : Value} {l : List Int} (hi : InS EN H u l) (hll : l.length ≤ 4294967296) :
    Fn Try.prog B 40 [u] H (fun r H' => r = KV (Pl.puts OI l)[0]? ∧ Fr nowhere H H') := by
  have hF : Fr nowhere H H := Fr.refl _ _
  refine fn_of Go.Proofs.Try.func40 rfl Go.Proofs.Try.ntmps40 ?_
  refine (show Go' _ _ _ _ 9 [(0, _)] [.code _] _ from ?_)
  refine Go'.seq ?_
  -- region 0 (set.go:162)
  refine Go'.region [(0, 2)] rfl ?_
  refine O.alloc rfl rfl rfl Go.Proofs.Try.zeroValue63 ?_
  intro H1 M1
  refine ⟨trivial, ?_⟩
  have hs1 := M1.size
  replace hi := hi.fr (M1.fr nowhere)
  replace hF := hF.trans' (M1.fr nowhere) (fun _ _ _ h => h) (fun _ _ _ h => h.elim)
  have m4 : Wr H1 H.size 0 2 := M1.wr 2 (by decide)
  refine Pl.fin [(0, _), (2, _)] ⟨rfl, rfl, trivial⟩ ?_
  refine Go'.seq ?_
  cases hl0 : (Pl.puts OI l)[0]? with
  | none =>
    -- region 1 (set.go:163)
    refine Go'.region [(0, 0), (1, 2), (2, 2), (3, 0), (4, 0), (5, 2), (6, 2)] rfl ?_
    refine O.mv rfl rfl rfl rfl rfl ?_
    refine O.call rfl rfl rfl Go.Proofs.Try.call55 rfl (growSet_spec hi hll) ?_
    rintro _ H2 ⟨tr, S, rfl, hM, hF2, _⟩
    unfold ptr
    have hs2 := hF2.size
    replace m4 := hF2.wr m4
    replace hF := hF.trans' hF2 (fun _ _ _ h => h) (fun _ _ _ h => h.elim)
    refine ⟨trivial, ?_⟩
    refine O.call rfl rfl rfl Go.Proofs.Try.call86 rfl (smin_spec hM) ?_
    rintro _ H3 ⟨rfl, hF3⟩
    have hs3 := hF3.size
    replace m4 := hF3.wr m4
    replace hF := hF.trans' hF3 (fun _ _ _ h => h) (fun _ _ _ h => h.elim)
    rw [hl0]
    unfold ky?
    refine ⟨trivial, ?_⟩
    refine O.ext rfl rfl rfl rfl rfl rfl ?_
    refine O.ext rfl rfl rfl rfl rfl rfl ?_
    refine O.call rfl rfl rfl Go.Proofs.Try.call83 rfl (key_spec (x := (0 : Int)) (ok := false)) ?_
    rintro _ H4 ⟨rfl, hF4⟩
    have hs4 := hF4.size
    replace m4 := hF4.wr m4
    replace hF := hF.trans' hF4 (fun _ _ _ h => h) (fun _ _ _ h => h.elim)
    refine ⟨trivial, ?_⟩
    refine O.st (vs := (kvs none)) rfl rfl Go.Proofs.Try.sizeOf63 rfl rfl rfl rfl rfl m4 ?_
    intro H5 W5
    replace hF := hF.trans' W5.fr (fun _ _ _ h => h) (fun b o hb hz => by have h1 := hz.1; omega)
    refine ⟨trivial, ?_⟩
    refine Pl.fin [(2, _)] ⟨rfl, trivial⟩ ?_
    refine Go'.ret (vs := [_]) Go.Proofs.Try.func40 Go.Proofs.Try.results40 ⟨⟨_, _, rfl, fun _ _ => run_loadVar_agg (fun w => ⟨Go.Proofs.Try.isAgg63 w, Go.Proofs.Try.sizeOf63 w⟩) rfl W5.all⟩, trivial⟩ ?_
    exact ⟨rfl, hF⟩
  | some y =>
    -- region 1 (set.go:163)
    refine Go'.region [(0, 0), (1, 2), (2, 2), (3, 0), (4, 0), (5, 2), (6, 2)] rfl ?_
    refine O.mv rfl rfl rfl rfl rfl ?_
    refine O.call rfl rfl rfl Go.Proofs.Try.call55 rfl (growSet_spec hi hll) ?_
    rintro _ H2 ⟨tr, S, rfl, hM, hF2, _⟩
    unfold ptr
    have hs2 := hF2.size
    replace m4 := hF2.wr m4
    replace hF := hF.trans' hF2 (fun _ _ _ h => h) (fun _ _ _ h => h.elim)
    refine ⟨trivial, ?_⟩
    refine O.call rfl rfl rfl Go.Proofs.Try.call86 rfl (smin_spec hM) ?_
    rintro _ H3 ⟨rfl, hF3⟩
    have hs3 := hF3.size
    replace m4 := hF3.wr m4
    replace hF := hF.trans' hF3 (fun _ _ _ h => h) (fun _ _ _ h => h.elim)
    rw [hl0]
    unfold ky?
    refine ⟨trivial, ?_⟩
    refine O.ext rfl rfl rfl rfl rfl rfl ?_
    refine O.ext rfl rfl rfl rfl rfl rfl ?_
    refine O.call rfl rfl rfl Go.Proofs.Try.call83 rfl (key_spec (x := y) (ok := true)) ?_
    rintro _ H4 ⟨rfl, hF4⟩
    have hs4 := hF4.size
    replace m4 := hF4.wr m4
    replace hF := hF.trans' hF4 (fun _ _ _ h => h) (fun _ _ _ h => h.elim)
    refine ⟨trivial, ?_⟩
    refine O.st (vs := (kvs (some y))) rfl rfl Go.Proofs.Try.sizeOf63 rfl rfl rfl rfl rfl m4 ?_
    intro H5 W5
    replace hF := hF.trans' W5.fr (fun _ _ _ h => h) (fun b o hb hz => by have h1 := hz.1; omega)
    refine ⟨trivial, ?_⟩
    refine Pl.fin [(2, _)] ⟨rfl, trivial⟩ ?_
    refine Go'.ret (vs := [_]) Go.Proofs.Try.func40 Go.Proofs.Try.results40 ⟨⟨_, _, rfl, fun _ _ => run_loadVar_agg (fun w => ⟨Go.Proofs.Try.isAgg63 w, Go.Proofs.Try.sizeOf63 w⟩) rfl W5.all⟩, trivial⟩ ?_
    exact ⟨rfl, hF⟩

end Go.Bt.FZ