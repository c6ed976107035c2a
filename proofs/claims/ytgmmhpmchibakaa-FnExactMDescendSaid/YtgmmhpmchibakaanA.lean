/- Contracts of functions of the program, proved by walking through their code. Conditions: those that each theorem names. -/
import Derived.Test.YtgmmhpmchibakaamI
import Derived.Test.YtgmmhpmchibakaasC
namespace Go.Bt
open Go Go.Proofs
set_option maxRecDepth 20000
set_option maxHeartbeats 4000000
set_option linter.unusedVariables false

theorem OO_nil : OO [] = OI := rfl
theorem Gt.Good.some {H : Mem} {P : Ps} : ∀ {h : Nat} {t : Gt EI h}, Gt.Good H P h t → 1 ≤ (Gt.X h t).length → 1 ≤ (Gt.L h t).length
  | 0, _, _, h1 => h1
  | h + 1, (g, X, K), hg, h1 => Nat.le_trans h1 (Pl.sublist_inter X (K.map (Gt.L h)) (by have := hg.2.2.2.2.2.1; simp only at this; rw [List.length_map, this]; omega)).length_le

theorem growMap_spec {B : World} {H : Mem} {d : Nat} {u : Value} {l : List (Int × Int)} (hd : 2 ≤ d ∧ d ≤ 128) (hi : InS EJ H u l) (hll : l.length ≤ 4294967296) :
    Fn Try.prog B 52 [.int .i64 (d : Int), u] H (fun r H' => ∃ tr S, r = ptr tr ∧ MapM H' tr ⟨0, 2 * d - 1, d - 1⟩ S (Pl.puts OI l) ∧ Fr nowhere H H' ∧ ∀ b, S b → H.size ≤ b) := by
  have hP : PsOk ⟨0, 2 * d - 1, d - 1⟩ := ⟨by show 2 * d - 1 = 2 * (d - 1) + 1; omega, by show 1 ≤ d - 1; omega, by show 2 * d - 1 ≤ 255; omega⟩
  obtain ⟨a, c, hu⟩ := hi.len
  subst hu
  refine fn_of Go.Proofs.Try.func52 rfl Go.Proofs.Try.ntmps52 ?_
  refine (show Go' _ _ _ _ 24 [(0, _), (1, _)] [.code _] _ from ?_)
  refine Go'.seq ?_
  -- region 0 (map.go:12)
  refine Go'.region [(0, 0)] rfl ?_
  refine O.asg rfl rfl rfl rfl rfl ?_
  refine Pl.fin [(0, _), (1, _), (4, _)] ⟨rfl, rfl, rfl, trivial⟩ ?_
  refine Go'.seq ?_
  -- region 1 (map.go:13)
  refine Go'.region [(0, 0), (1, 2), (2, 0)] rfl ?_
  refine O.mv rfl rfl rfl rfl rfl ?_
  refine O.call rfl rfl rfl Go.Proofs.Try.call84 rfl (newMap_spec hd) ?_
  rintro _ H1 ⟨rfl, hs1, hF1, hM1⟩
  unfold ptr
  refine ⟨trivial, ?_⟩
  refine O.asg rfl rfl rfl rfl rfl ?_
  refine Pl.fin [(1, _), (4, _), (5, _)] ⟨rfl, rfl, rfl, trivial⟩ ?_
  refine Go'.seq ?_
  refine Go'.seq ?_
  -- region 2 (map.go:14)
  refine Go'.region [(0, 0), (1, 0), (2, 0)] rfl ?_
  refine O.mv rfl rfl rfl rfl rfl ?_
  refine O.len rfl rfl rfl rfl Go.Proofs.Try.underlying22 rfl ?_
  refine O.mv rfl rfl rfl rfl rfl ?_
  refine Pl.fin [(4, _), (5, _), (10, _), (11, _), (12, _)] ⟨rfl, rfl, rfl, rfl, rfl, trivial⟩ ?_
  refine Go'.block ?_
  refine Go'.loop ?_
  refine Go'.keep [(5, _), (10, _), (11, _), (12, _)] ⟨rfl, rfl, rfl, rfl, trivial⟩ ?_
  refine Go'.ind (σ := Nat) (fun j => l.length - j) (fun j H' => Fr nowhere H H' ∧ j ≤ l.length ∧ ∃ S, MapM H' H.size ⟨0, 2 * d - 1, d - 1⟩ S (Pl.puts OI (l.take j)) ∧ ∀ b, S b → H.size ≤ b)
    (fun j => [(5, .pointer (some ⟨H.size, 0, none⟩)), (10, .slice a l.length c), (11, .int .i64 (l.length : Int)), (12, .int .i64 (j : Int))]) 0 ⟨hF1, Nat.zero_le _, _, hM1, fun b hb => by omega⟩ rfl ?_
  rintro j H2 ⟨hF, hjl, S, hM, hS⟩ ih
  have hi2 := hi.fr hF
  refine Go'.seq ?_
  by_cases hlt : j < l.length
  · skip
    obtain ⟨y, hy⟩ : ∃ y, l[j]? = some y := ⟨l[j], List.getElem?_eq_getElem hlt⟩
    obtain ⟨b, o, c', e, hr⟩ := hi2.at hy
    cases e
    have hpl := Pl.puts_length OI (l.take j)
    have hSn : ∀ b, H2.size ≤ b → ¬ S b := fun b hb hs => by have := hM.lt b hs; omega
    rw [List.length_take] at hpl
    -- region 3 (map.go:14)
    refine Go'.region [(0, 0)] rfl ?_
    refine O.cmp rfl rfl rfl rfl rfl rfl (lssT (by omega)) ?_
    refine Pl.fin [(5, _), (10, _), (11, _), (12, _), (13, _)] ⟨rfl, rfl, rfl, rfl, rfl, trivial⟩ ?_
    refine Go'.seq ?_
    refine Go'.condT rfl ?_
    refine Go'.skip ?_
    refine Go'.seq ?_
    refine Go'.block ?_
    refine Go'.seq ?_
    -- region 4 (map.go:14)
    refine Go'.region [(0, 0), (1, 1), (2, 2), (3, 2)] rfl ?_
    refine O.ix (j := j) rfl rfl rfl rfl Go.Proofs.Try.underlying22 Go.Proofs.Try.sizeOf35 rfl rfl (by omega) hlt ?_
    refine O.lds rfl rfl rfl (fun w => ⟨Go.Proofs.Try.isAgg35 w, Go.Proofs.Try.sizeOf35 w⟩) rfl rfl hr ?_
    refine O.alloc rfl rfl rfl Go.Proofs.Try.zeroValue35 ?_
    intro H3 M3
    refine ⟨trivial, ?_⟩
    have hs3 := M3.size
    replace hM := hM.fr (M3.fr nowhere) (fun _ _ _ => nw)
    have m7 : Wr H3 H2.size 0 2 := M3.wr 2 (by decide)
    have hlt2 : ∀ b, S b → b < H2.size := fun b hb => by
      rcases Nat.lt_or_ge b H2.size with h | h
      · exact h
      · exact absurd hb (hSn b h)
    refine O.st rfl rfl Go.Proofs.Try.sizeOf35 rfl rfl rfl rfl rfl m7 ?_
    intro H4 W4
    have hs4 := W4.size
    replace hM := hM.fr W4.fr (fun b o hb hz => by have h1 := hz.1; have h2 := hlt2 b hb; omega)
    have hf4 : Fr nowhere H H4 := hF.trans' ((M3.fr nowhere).trans' W4.fr (Z := nowhere) (fun _ _ _ h => h) (fun b o hb hz => by have h1 := hz.1; omega)) (fun _ _ _ h => h) (fun _ _ _ h => h)
    have k0 : cl H4 H2.size 0 = some (.int .i64 y.1) := W4.all 0 _ rfl
    have k1 : cl H4 H2.size 1 = some (.int .i64 y.2) := W4.all 1 _ rfl
    refine ⟨trivial, ?_⟩
    refine Pl.fin [(5, _), (7, _), (10, _), (11, _), (12, _), (13, _)] ⟨rfl, rfl, rfl, rfl, rfl, rfl, trivial⟩ ?_
    -- region 5 (map.go:15)
    refine Go'.region [(0, 0), (1, 0), (2, 1), (3, 0), (4, 1), (5, 2)] rfl ?_
    refine O.mv rfl rfl rfl rfl rfl ?_
    refine O.faz rfl rfl rfl rfl ⟨_, _, _, Go.Proofs.Try.underlying35, rfl, rfl, Go.Proofs.Try.sizeOf3⟩ rfl ?_
    refine O.ld rfl rfl rfl (fun w => ⟨Go.Proofs.Try.isAgg3 w, Go.Proofs.Try.sizeOf3 w⟩) rfl k0 ?_
    refine O.fa0 (off := 1) rfl rfl rfl rfl ⟨_, _, _, Go.Proofs.Try.underlying35, rfl, rfl, Go.Proofs.Try.sizeOf3⟩ rfl ?_
    refine O.ld rfl rfl rfl (fun w => ⟨Go.Proofs.Try.isAgg3 w, Go.Proofs.Try.sizeOf3 w⟩) rfl k1 ?_
    refine O.call rfl rfl rfl Go.Proofs.Try.call56 rfl (mset_spec hP (x := y) hM (by omega)) ?_
    rintro _ H5 ⟨rfl, S', hM', hF', hS'⟩
    refine ⟨trivial, ?_⟩
    refine Pl.fin [(5, _), (7, _), (10, _), (11, _), (12, _), (13, _)] ⟨rfl, rfl, rfl, rfl, rfl, rfl, trivial⟩ ?_
    refine Go'.inBlock ?_
    -- region 6 (map.go:14)
    refine Go'.region [(0, 0), (1, 0)] rfl ?_
    refine O.add (((j + 1 : Nat) : Int)) rfl rfl rfl rfl rfl rfl (by omega) (by omega) ?_
    refine O.mv rfl rfl rfl rfl rfl ?_
    refine Pl.fin [(5, _), (7, _), (10, _), (11, _), (12, _), (13, _)] ⟨rfl, rfl, rfl, rfl, rfl, rfl, trivial⟩ ?_
    refine Go'.keep [(5, _), (10, _), (11, _), (12, _)] ⟨rfl, rfl, rfl, rfl, trivial⟩ ?_
    refine Go'.inLoop ?_
    exact ih (j + 1) H5 ⟨hf4.trans' hF' (fun _ _ _ h => h) (fun b o hb hz => by have h1 := hS b hz; omega), hlt, S', by
      rw [List.take_add_one, hy]
      rw [← Pl.puts_snoc] at hM'
      exact hM', fun b hb => (hS' b hb).elim (hS b) (fun h => by have := hf4.size; omega)⟩ (by omega)
  · skip
    obtain rfl : j = l.length := by omega
    -- region 3 (map.go:14)
    refine Go'.region [(0, 0)] rfl ?_
    refine O.cmp rfl rfl rfl rfl rfl rfl (lssF (by omega)) ?_
    refine Pl.fin [(5, _), (10, _), (11, _), (12, _), (13, _)] ⟨rfl, rfl, rfl, rfl, rfl, trivial⟩ ?_
    refine Go'.seq ?_
    refine Go'.condF rfl ?_
    refine Go'.exit rfl ?_
    refine Go'.seq ?_
    -- region 7 (map.go:17)
    refine Go'.region [(0, 0), (1, 0)] rfl ?_
    refine O.mv rfl rfl rfl rfl rfl ?_
    refine O.asg rfl rfl rfl rfl rfl ?_
    refine Pl.fin [(4, _)] ⟨rfl, trivial⟩ ?_
    refine Go'.ret (vs := [_]) Go.Proofs.Try.func52 Go.Proofs.Try.results52 ⟨rfl, trivial⟩ ?_
    rw [List.take_length] at hM
    exact ⟨H.size, S, rfl, hM, hF, hS⟩

def kv? : Option (Int × Int) → Value
  | some y => .tuple #[.int .i64 y.1, .int .i64 y.2, .bool true]
  | none => .tuple #[.int .i64 0, .int .i64 0, .bool false]
theorem minMut_spec {B : World} {H : Mem} {tr : Nat} {P : Ps} (hP : PsOk P) {S : Nat → Prop} {l : List (Int × Int)} (hM : MapM H tr P S l) (mt : Bool) :
    Fn Try.prog B 111 [.pointer (some ⟨tr, 0, none⟩), .bool mt] H (fun r H' => r = kv? l[0]? ∧ Fr nowhere H H') := by
  have hh1 := hP.h1
  obtain ⟨tc, srt, cnt, own, lt, hr⟩ := hM
  rcases hr with ⟨rfl, hptr⟩ | ⟨h, t, hg, hx1, e, hc, hnt, hown⟩
  · skip
    refine fn_of Go.Proofs.Try.func111 rfl Go.Proofs.Try.ntmps111 ?_
    refine (show Go' _ _ _ _ 44 [(0, _), (1, _)] [.code _] _ from ?_)
    refine Go'.seq ?_
    -- region 0 (map.go:671)
    refine Go'.region [(0, 0), (1, 0), (2, 0)] rfl ?_
    refine O.asg rfl rfl rfl rfl rfl ?_
    refine O.asg rfl rfl rfl rfl rfl ?_
    refine O.asg rfl rfl rfl rfl rfl ?_
    refine Pl.fin [(0, _), (1, _), (4, _), (5, _), (6, _)] ⟨rfl, rfl, rfl, rfl, rfl, trivial⟩ ?_
    refine Go'.seq ?_
    refine Go'.seq ?_
    -- region 1 (map.go:672)
    refine Go'.region [(0, 0), (1, 0), (2, 0), (3, 1), (4, 0)] rfl ?_
    refine O.mv rfl rfl rfl rfl rfl ?_
    refine O.nc rfl rfl rfl rfl rfl ?_
    refine O.fa0 (off := 2) rfl rfl rfl rfl ⟨_, _, _, Go.Proofs.Try.underlying105, rfl, rfl, Go.Proofs.Try.sizeOf103⟩ rfl ?_
    refine O.ld rfl rfl rfl (fun w => ⟨Go.Proofs.Try.isAgg103 w, Go.Proofs.Try.sizeOf103 w⟩) rfl hptr ?_
    refine O.isNil rfl rfl rfl rfl Go.Proofs.Try.underlying103 rfl rfl ?_
    refine Pl.fin [(0, _), (1, _), (4, _), (5, _), (6, _), (13, _)] ⟨rfl, rfl, rfl, rfl, rfl, rfl, trivial⟩ ?_
    refine Go'.condT rfl ?_
    refine Go'.seq ?_
    -- region 2 (map.go:673)
    refine Go'.region [(0, 0), (1, 0), (2, 0), (3, 0), (4, 0)] rfl ?_
    refine O.mv rfl rfl rfl rfl rfl ?_
    refine O.mv rfl rfl rfl rfl rfl ?_
    refine O.asg rfl rfl rfl rfl rfl ?_
    refine O.asg rfl rfl rfl rfl rfl ?_
    refine O.asg rfl rfl rfl rfl rfl ?_
    refine Pl.fin [(0, _), (1, _), (4, _), (5, _), (6, _)] ⟨rfl, rfl, rfl, rfl, rfl, trivial⟩ ?_
    refine Go'.ret (vs := [_, _, _]) Go.Proofs.Try.func111 Go.Proofs.Try.results111 ⟨rfl, rfl, rfl, trivial⟩ ?_
    exact ⟨rfl, Fr.refl _ _⟩
  · skip
    obtain ⟨kp, hN⟩ := hg.node
    have hiso : (Gt.g h t).iso = P.iso := hg.isoe
    have hc0 := hN.c0
    rw [hiso] at hc0
    have hptr : cl H tr 2 = some (.pointer (some ⟨Gt.p h t, 0, none⟩)) := hc
    refine fn_of Go.Proofs.Try.func111 rfl Go.Proofs.Try.ntmps111 ?_
    refine (show Go' _ _ _ _ 44 [(0, _), (1, _)] [.code _] _ from ?_)
    refine Go'.seq ?_
    -- region 0 (map.go:671)
    refine Go'.region [(0, 0), (1, 0), (2, 0)] rfl ?_
    refine O.asg rfl rfl rfl rfl rfl ?_
    refine O.asg rfl rfl rfl rfl rfl ?_
    refine O.asg rfl rfl rfl rfl rfl ?_
    refine Pl.fin [(0, _), (1, _), (4, _), (5, _), (6, _)] ⟨rfl, rfl, rfl, rfl, rfl, trivial⟩ ?_
    refine Go'.seq ?_
    refine Go'.seq ?_
    -- region 1 (map.go:672)
    refine Go'.region [(0, 0), (1, 0), (2, 0), (3, 1), (4, 0)] rfl ?_
    refine O.mv rfl rfl rfl rfl rfl ?_
    refine O.nc rfl rfl rfl rfl rfl ?_
    refine O.fa0 (off := 2) rfl rfl rfl rfl ⟨_, _, _, Go.Proofs.Try.underlying105, rfl, rfl, Go.Proofs.Try.sizeOf103⟩ rfl ?_
    refine O.ld rfl rfl rfl (fun w => ⟨Go.Proofs.Try.isAgg103 w, Go.Proofs.Try.sizeOf103 w⟩) rfl hptr ?_
    refine O.isNil rfl rfl rfl rfl Go.Proofs.Try.underlying103 rfl rfl ?_
    refine Pl.fin [(0, _), (1, _), (4, _), (5, _), (6, _), (13, _)] ⟨rfl, rfl, rfl, rfl, rfl, rfl, trivial⟩ ?_
    refine Go'.condF rfl ?_
    refine Go'.skip ?_
    refine Go'.seq ?_
    -- region 3 (map.go:675)
    refine Go'.region [(0, 0), (1, 0), (2, 0), (3, 0), (4, 0), (5, 2), (6, 0)] rfl ?_
    refine O.mv rfl rfl rfl rfl rfl ?_
    refine O.mv rfl rfl rfl rfl rfl ?_
    refine O.nc rfl rfl rfl rfl rfl ?_
    refine O.fa0 (off := 2) rfl rfl rfl rfl ⟨_, _, _, Go.Proofs.Try.underlying105, rfl, rfl, Go.Proofs.Try.sizeOf103⟩ rfl ?_
    refine O.mv rfl rfl rfl rfl rfl ?_
    refine O.callQ rfl rfl rfl Go.Proofs.Try.call85 rfl (isoLoad_spec mt hc hc0 tc.iso) trivial ?_
    refine O.asg rfl rfl rfl rfl rfl ?_
    refine Pl.fin [(0, _), (1, _), (4, _), (5, _), (6, _), (7, _)] ⟨rfl, rfl, rfl, rfl, rfl, rfl, trivial⟩ ?_
    refine Go'.block ?_
    refine Go'.loop ?_
    refine Go'.keep [(0, _), (1, _), (4, _), (5, _), (6, _), (7, _)] ⟨rfl, rfl, rfl, rfl, rfl, rfl, trivial⟩ ?_
    refine Go'.ind (σ := (h : Nat) × Gt EI h) (fun s => s.1) (fun s H' => H' = H ∧ Gt.Good H P s.1 s.2 ∧ 1 ≤ (Gt.X s.1 s.2).length ∧ (Gt.L s.1 s.2)[0]? = l[0]?)
      (fun s => [(0, .pointer (some ⟨tr, 0, none⟩)), (1, .bool mt), (4, .int .i64 0), (5, .int .i64 0), (6, .bool false), (7, .pointer (some ⟨Gt.p s.1 s.2, 0, none⟩))]) ⟨h, t⟩ ⟨rfl, hg, hx1, by rw [e]⟩ rfl ?_
    clear hg hx1 e hc hnt hown hN hiso hc0 hptr t h kp
    rintro ⟨h, t⟩ H2 ⟨hHH, hg, hx1, hL⟩ ih
    have eH : H = H2 := hHH.symm
    subst eH
    simp only at hg hx1 hL
    clear hHH
    refine Go'.block ?_
    refine Go'.seq ?_
    refine Go'.seq ?_
    rcases h with _ | h
    · -- a leaf
      obtain ⟨g, X⟩ := t
      have hN : NodeM EI H g X (.pointer none) := hg.1
      replace hx1 : 1 ≤ X.length := hx1
      replace hL : X[0]? = l[0]? := hL
      obtain ⟨y, hy⟩ : ∃ y, X[0]? = some y := ⟨X[0], List.getElem?_eq_getElem (by omega)⟩
      rw [← hL, hy]
      -- region 4 (map.go:677)
      refine Go'.region [(0, 0), (1, 2)] rfl ?_
      refine O.mv rfl rfl rfl rfl rfl ?_
      refine O.callQ rfl rfl rfl Go.Proofs.Try.call86 rfl (leaf_spec hN.c3) trivial ?_
      refine Pl.fin [(0, _), (1, _), (4, _), (5, _), (6, _), (7, _), (23, _)] ⟨rfl, rfl, rfl, rfl, rfl, rfl, rfl, trivial⟩ ?_
      refine Go'.condT rfl ?_
      refine Go'.seq ?_
      -- region 5 (map.go:678)
      refine Go'.region [(0, 0), (1, 0), (2, 0), (3, 1), (4, 0), (5, 1), (6, 2), (7, 2)] rfl ?_
      refine O.mv rfl rfl rfl rfl rfl ?_
      refine O.nc rfl rfl rfl rfl rfl ?_
      refine O.fa0 (off := 2) rfl rfl rfl rfl ⟨_, _, _, Go.Proofs.Try.underlying111, rfl, rfl, Go.Proofs.Try.sizeOf108⟩ rfl ?_
      refine O.ld rfl rfl rfl (fun w => ⟨Go.Proofs.Try.isAgg108 w, Go.Proofs.Try.sizeOf108 w⟩) rfl hN.c2 ?_
      refine O.ix (j := 0) rfl rfl rfl rfl Go.Proofs.Try.underlying108 Go.Proofs.Try.sizeOf100 rfl rfl rfl (by omega) ?_
      refine O.lds rfl rfl rfl (fun w => ⟨Go.Proofs.Try.isAgg100 w, Go.Proofs.Try.sizeOf100 w⟩) rfl rfl (hN.sl.item hy) ?_
      refine O.alloc rfl rfl rfl Go.Proofs.Try.zeroValue100 ?_
      intro H3 M3
      refine ⟨trivial, ?_⟩
      have hs3 := M3.size
      have m8 : Wr H3 H.size 0 2 := M3.wr 2 (by decide)
      refine O.st rfl rfl Go.Proofs.Try.sizeOf100 rfl rfl rfl rfl rfl m8 ?_
      intro H4 W4
      have hF4 : Fr nowhere H H4 := (M3.fr nowhere).trans' W4.fr (fun _ _ _ h => h) (fun b o hb hz => by have h1 := hz.1; omega)
      have k0 : cl H4 H.size 0 = some (.int .i64 y.2) := W4.all 0 _ rfl
      have k1 : cl H4 H.size 1 = some (.int .i64 y.1) := W4.all 1 _ rfl
      refine ⟨trivial, ?_⟩
      refine Pl.fin [(0, _), (1, _), (4, _), (5, _), (6, _), (7, _), (8, _), (23, _)] ⟨rfl, rfl, rfl, rfl, rfl, rfl, rfl, rfl, trivial⟩ ?_
      refine Go'.seq ?_
      -- region 6 (map.go:679)
      refine Go'.draw (fun _ => True) [(0, 0), (1, 1), (2, 0), (3, 1), (4, 0), (5, 0), (6, 0)] (by kernel_rfl) (by kernel_rfl) (trivial) ?_
      refine O.fa0 (off := 1) rfl rfl rfl rfl ⟨_, _, _, Go.Proofs.Try.underlying100, rfl, rfl, Go.Proofs.Try.sizeOf3⟩ rfl ?_
      refine O.ld rfl rfl rfl (fun w => ⟨Go.Proofs.Try.isAgg3 w, Go.Proofs.Try.sizeOf3 w⟩) rfl k1 ?_
      refine O.faz rfl rfl rfl rfl ⟨_, _, _, Go.Proofs.Try.underlying100, rfl, rfl, Go.Proofs.Try.sizeOf3⟩ rfl ?_
      refine O.ld rfl rfl rfl (fun w => ⟨Go.Proofs.Try.isAgg3 w, Go.Proofs.Try.sizeOf3 w⟩) rfl k0 ?_
      refine O.asg rfl rfl rfl rfl rfl ?_
      refine O.asg rfl rfl rfl rfl rfl ?_
      refine O.asg rfl rfl rfl rfl rfl ?_
      refine Pl.fin [(0, _), (1, _), (4, _), (5, _), (6, _), (7, _), (8, _), (23, _)] ⟨rfl, rfl, rfl, rfl, rfl, rfl, rfl, rfl, trivial⟩ ?_
      refine Go'.ret (vs := [_, _, _]) Go.Proofs.Try.func111 Go.Proofs.Try.results111 ⟨rfl, rfl, rfl, trivial⟩ ?_
      exact ⟨rfl, hF4⟩
    · -- an inner node
      obtain ⟨g, X, K⟩ := t
      have hI : Inn H P h g X ((Gt.ps h K).map some) K := hg.inn
      have hKl : K.length = X.length + 1 := hg.2.2.2.2.2.1
      obtain ⟨k, K', rfl⟩ : ∃ k K', K = k :: K' := by
        cases K with
        | nil => simp at hKl
        | cons k K' => exact ⟨k, K', rfl⟩
      obtain ⟨hgk, hmk, _⟩ := hI.c.1 k List.mem_cons_self
      obtain ⟨kp, hNk⟩ := hgk.node
      have hc0 := hNk.c0
      rw [hgk.isoe] at hc0
      have hck : cl H g.kb (g.ko + 0 * 1) = some (ptr (Gt.p h k)) := hI.k.at (i := 0) rfl
      have hLk : (Gt.L h k)[0]? = l[0]? := by
        rw [← hL]
        show _ = (Pl.inter X ((k :: K').map (Gt.L h)))[0]?
        rw [List.map_cons, Pl.inter_post _ _ _ (by rw [List.length_map]; simpa using hKl.symm), List.getElem?_append_left (by have := hgk.some (by omega); omega)]
      -- region 4 (map.go:677)
      refine Go'.region [(0, 0), (1, 2)] rfl ?_
      refine O.mv rfl rfl rfl rfl rfl ?_
      refine O.callQ rfl rfl rfl Go.Proofs.Try.call86 rfl (leaf_spec hI.n.c3) trivial ?_
      refine Pl.fin [(0, _), (1, _), (4, _), (5, _), (6, _), (7, _), (23, _)] ⟨rfl, rfl, rfl, rfl, rfl, rfl, rfl, trivial⟩ ?_
      refine Go'.condF rfl ?_
      refine Go'.skip ?_
      -- region 7 (map.go:681)
      refine Go'.region [(0, 0), (1, 0), (2, 0), (3, 0), (4, 1), (5, 0), (6, 1), (7, 0), (8, 0), (9, 2), (10, 0)] rfl ?_
      refine O.mv rfl rfl rfl rfl rfl ?_
      refine O.mv rfl rfl rfl rfl rfl ?_
      refine O.nc rfl rfl rfl rfl rfl ?_
      refine O.fa0 (off := 3) rfl rfl rfl rfl ⟨_, _, _, Go.Proofs.Try.underlying111, rfl, rfl, Go.Proofs.Try.sizeOf109⟩ rfl ?_
      refine O.ld rfl rfl rfl (fun w => ⟨Go.Proofs.Try.isAgg109 w, Go.Proofs.Try.sizeOf109 w⟩) rfl hI.n.c3 ?_
      refine O.nc rfl rfl rfl rfl rfl ?_
      refine O.ld rfl rfl rfl (fun w => ⟨Go.Proofs.Try.isAgg112 w, Go.Proofs.Try.sizeOf112 w⟩) rfl hI.k.c ?_
      refine O.ix (j := 0) rfl rfl rfl rfl Go.Proofs.Try.underlying112 Go.Proofs.Try.sizeOf103 rfl rfl rfl (by rw [List.length_map, Gt.ps, List.length_map]; exact Nat.succ_pos _) ?_
      refine O.mv rfl rfl rfl rfl rfl ?_
      refine O.callQ rfl rfl rfl Go.Proofs.Try.call85 rfl (isoLoad_spec mt hck hc0 tc.iso) trivial ?_
      refine O.asg rfl rfl rfl rfl rfl ?_
      refine Pl.fin [(0, _), (1, _), (4, _), (5, _), (6, _), (7, _), (23, _)] ⟨rfl, rfl, rfl, rfl, rfl, rfl, rfl, trivial⟩ ?_
      refine Go'.inBlock ?_
      refine Go'.keep [(0, _), (1, _), (4, _), (5, _), (6, _), (7, _)] ⟨rfl, rfl, rfl, rfl, rfl, rfl, trivial⟩ ?_
      refine Go'.inLoop ?_
      exact ih ⟨h, k⟩ H ⟨rfl, hgk, Nat.le_trans hh1 hmk, hLk⟩ (Nat.lt_succ_self h)

theorem min_spec {B : World} {H : Mem} {tr : Nat} {P : Ps} (hP : PsOk P) {S : Nat → Prop} {l : List (Int × Int)} (hM : MapM H tr P S l) :
    Fn Try.prog B 76 [.pointer (some ⟨tr, 0, none⟩)] H (fun r H' => r = kv? l[0]? ∧ Fr nowhere H H') := by
  refine fn_of Go.Proofs.Try.func76 rfl Go.Proofs.Try.ntmps76 ?_
  refine (show Go' _ _ _ _ 10 [(0, _)] [.code _] _ from ?_)
  refine Go'.seq ?_
  -- region 0 (map.go:663)
  refine Go'.region [(0, 0), (1, 0), (2, 0)] rfl ?_
  refine O.asg rfl rfl rfl rfl rfl ?_
  refine O.asg rfl rfl rfl rfl rfl ?_
  refine O.asg rfl rfl rfl rfl rfl ?_
  refine Pl.fin [(0, _), (2, _), (3, _), (4, _)] ⟨rfl, rfl, rfl, rfl, trivial⟩ ?_
  refine Go'.seq ?_
  cases hl0 : l[0]?
  · skip
    -- region 1 (map.go:664)
    refine Go'.region [(0, 0), (1, 2), (2, 0), (3, 0), (4, 0), (5, 0), (6, 0), (7, 0)] rfl ?_
    refine O.mv rfl rfl rfl rfl rfl ?_
    refine O.call rfl rfl rfl Go.Proofs.Try.call111 rfl (minMut_spec hP hM false) ?_
    rintro _ H2 ⟨rfl, hF2⟩
    rw [hl0]
    unfold kv?
    refine ⟨trivial, ?_⟩
    refine O.ext rfl rfl rfl rfl rfl rfl ?_
    refine O.ext rfl rfl rfl rfl rfl rfl ?_
    refine O.ext rfl rfl rfl rfl rfl rfl ?_
    refine O.asg rfl rfl rfl rfl rfl ?_
    refine O.asg rfl rfl rfl rfl rfl ?_
    refine O.asg rfl rfl rfl rfl rfl ?_
    refine Pl.fin [(2, _), (3, _), (4, _)] ⟨rfl, rfl, rfl, trivial⟩ ?_
    refine Go'.ret (vs := [_, _, _]) Go.Proofs.Try.func76 Go.Proofs.Try.results76 ⟨rfl, rfl, rfl, trivial⟩ ?_
    exact ⟨rfl, hF2⟩
  · skip
    -- region 1 (map.go:664)
    refine Go'.region [(0, 0), (1, 2), (2, 0), (3, 0), (4, 0), (5, 0), (6, 0), (7, 0)] rfl ?_
    refine O.mv rfl rfl rfl rfl rfl ?_
    refine O.call rfl rfl rfl Go.Proofs.Try.call111 rfl (minMut_spec hP hM false) ?_
    rintro _ H2 ⟨rfl, hF2⟩
    rw [hl0]
    unfold kv?
    refine ⟨trivial, ?_⟩
    refine O.ext rfl rfl rfl rfl rfl rfl ?_
    refine O.ext rfl rfl rfl rfl rfl rfl ?_
    refine O.ext rfl rfl rfl rfl rfl rfl ?_
    refine O.asg rfl rfl rfl rfl rfl ?_
    refine O.asg rfl rfl rfl rfl rfl ?_
    refine O.asg rfl rfl rfl rfl rfl ?_
    refine Pl.fin [(2, _), (3, _), (4, _)] ⟨rfl, rfl, rfl, trivial⟩ ?_
    refine Go'.ret (vs := [_, _, _]) Go.Proofs.Try.func76 Go.Proofs.Try.results76 ⟨rfl, rfl, rfl, trivial⟩ ?_
    exact ⟨rfl, hF2⟩

theorem mmin_spec {B : World} {H : Mem} {d : Nat} {u : Value} {l : List (Int × Int)} (hd : 2 ≤ d ∧ d ≤ 128) (hi : InS EJ H u l) (hll : l.length ≤ 4294967296) :
    Fn Try.prog B 44 [.int .i64 (d : Int), u] H (fun r H' => r = FV (Pl.puts OI l)[0]? ∧ Fr nowhere H H') := by
  have hP : PsOk ⟨0, 2 * d - 1, d - 1⟩ := ⟨by show 2 * d - 1 = 2 * (d - 1) + 1; omega, by show 1 ≤ d - 1; omega, by show 2 * d - 1 ≤ 255; omega⟩
  have hF : Fr nowhere H H := Fr.refl _ _
  refine fn_of Go.Proofs.Try.func44 rfl Go.Proofs.Try.ntmps44 ?_
  refine (show Go' _ _ _ _ 13 [(0, _), (1, _)] [.code _] _ from ?_)
  refine Go'.seq ?_
  -- region 0 (map.go:119)
  refine Go'.region [(0, 2)] rfl ?_
  refine O.alloc rfl rfl rfl Go.Proofs.Try.zeroValue37 ?_
  intro H1 M1
  refine ⟨trivial, ?_⟩
  have hs1 := M1.size
  replace hi := hi.fr (M1.fr nowhere)
  replace hF := hF.trans' (M1.fr nowhere) (fun _ _ _ h => h) (fun _ _ _ h => h.elim)
  have m4 : Wr H1 H.size 0 3 := M1.wr 3 (by decide)
  refine Pl.fin [(0, _), (1, _), (4, _)] ⟨rfl, rfl, rfl, trivial⟩ ?_
  refine Go'.seq ?_
  cases hl0 : (Pl.puts OI l)[0]? with
  | none =>
    -- region 1 (map.go:120)
    refine Go'.region [(0, 0), (1, 0), (2, 2), (3, 2), (4, 0), (5, 0), (6, 0), (7, 2), (8, 2)] rfl ?_
    refine O.mv rfl rfl rfl rfl rfl ?_
    refine O.mv rfl rfl rfl rfl rfl ?_
    refine O.call rfl rfl rfl Go.Proofs.Try.call52 rfl (growMap_spec hd hi hll) ?_
    rintro _ H2 ⟨tr, S, rfl, hM, hF2, _⟩
    have hs2 := hF2.size
    replace m4 := hF2.wr m4
    replace hF := hF.trans' hF2 (fun _ _ _ h => h) (fun _ _ _ h => h.elim)
    refine ⟨trivial, ?_⟩
    refine O.call rfl rfl rfl Go.Proofs.Try.call76 rfl (min_spec hP hM) ?_
    rintro _ H3 ⟨rfl, hF3⟩
    have hs3 := hF3.size
    replace m4 := hF3.wr m4
    replace hF := hF.trans' hF3 (fun _ _ _ h => h) (fun _ _ _ h => h.elim)
    rw [hl0]
    unfold kv?
    refine ⟨trivial, ?_⟩
    refine O.ext rfl rfl rfl rfl rfl rfl ?_
    refine O.ext rfl rfl rfl rfl rfl rfl ?_
    refine O.ext rfl rfl rfl rfl rfl rfl ?_
    refine O.call rfl rfl rfl Go.Proofs.Try.call54 rfl (pair_spec (x := ((0 : Int), (0 : Int))) (ok := false)) ?_
    rintro _ H4 ⟨rfl, hF4⟩
    have hs4 := hF4.size
    replace m4 := hF4.wr m4
    replace hF := hF.trans' hF4 (fun _ _ _ h => h) (fun _ _ _ h => h.elim)
    refine ⟨trivial, ?_⟩
    refine O.st (vs := (fvs none)) rfl rfl Go.Proofs.Try.sizeOf37 rfl rfl rfl rfl rfl m4 ?_
    intro H5 W5
    replace hF := hF.trans' W5.fr (fun _ _ _ h => h) (fun b o hb hz => by have h1 := hz.1; omega)
    refine ⟨trivial, ?_⟩
    refine Pl.fin [(4, _)] ⟨rfl, trivial⟩ ?_
    refine Go'.ret (vs := [_]) Go.Proofs.Try.func44 Go.Proofs.Try.results44 ⟨⟨_, _, rfl, fun _ _ => run_loadVar_agg (fun w => ⟨Go.Proofs.Try.isAgg37 w, Go.Proofs.Try.sizeOf37 w⟩) rfl W5.all⟩, trivial⟩ ?_
    exact ⟨rfl, hF⟩
  | some y =>
    -- region 1 (map.go:120)
    refine Go'.region [(0, 0), (1, 0), (2, 2), (3, 2), (4, 0), (5, 0), (6, 0), (7, 2), (8, 2)] rfl ?_
    refine O.mv rfl rfl rfl rfl rfl ?_
    refine O.mv rfl rfl rfl rfl rfl ?_
    refine O.call rfl rfl rfl Go.Proofs.Try.call52 rfl (growMap_spec hd hi hll) ?_
    rintro _ H2 ⟨tr, S, rfl, hM, hF2, _⟩
    have hs2 := hF2.size
    replace m4 := hF2.wr m4
    replace hF := hF.trans' hF2 (fun _ _ _ h => h) (fun _ _ _ h => h.elim)
    refine ⟨trivial, ?_⟩
    refine O.call rfl rfl rfl Go.Proofs.Try.call76 rfl (min_spec hP hM) ?_
    rintro _ H3 ⟨rfl, hF3⟩
    have hs3 := hF3.size
    replace m4 := hF3.wr m4
    replace hF := hF.trans' hF3 (fun _ _ _ h => h) (fun _ _ _ h => h.elim)
    rw [hl0]
    unfold kv?
    refine ⟨trivial, ?_⟩
    refine O.ext rfl rfl rfl rfl rfl rfl ?_
    refine O.ext rfl rfl rfl rfl rfl rfl ?_
    refine O.ext rfl rfl rfl rfl rfl rfl ?_
    refine O.call rfl rfl rfl Go.Proofs.Try.call54 rfl (pair_spec (x := y) (ok := true)) ?_
    rintro _ H4 ⟨rfl, hF4⟩
    have hs4 := hF4.size
    replace m4 := hF4.wr m4
    replace hF := hF.trans' hF4 (fun _ _ _ h => h) (fun _ _ _ h => h.elim)
    refine ⟨trivial, ?_⟩
    refine O.st (vs := (fvs (some y))) rfl rfl Go.Proofs.Try.sizeOf37 rfl rfl rfl rfl rfl m4 ?_
    intro H5 W5
    replace hF := hF.trans' W5.fr (fun _ _ _ h => h) (fun b o hb hz => by have h1 := hz.1; omega)
    refine ⟨trivial, ?_⟩
    refine Pl.fin [(4, _)] ⟨rfl, trivial⟩ ?_
    refine Go'.ret (vs := [_]) Go.Proofs.Try.func44 Go.Proofs.Try.results44 ⟨⟨_, _, rfl, fun _ _ => run_loadVar_agg (fun w => ⟨Go.Proofs.Try.isAgg37 w, Go.Proofs.Try.sizeOf37 w⟩) rfl W5.all⟩, trivial⟩ ?_
    exact ⟨rfl, hF⟩

end Go.Bt