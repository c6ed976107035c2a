/- Contracts of functions of the program, proved by walking through their code. Conditions: those that each theorem names. -/
import Derived.Laws.StructEq
import Derived.Test.YtgmmhpmchibakaaTosB
namespace Go.Bt
open Go Go.Proofs
set_option maxRecDepth 20000
set_option maxHeartbeats 4000000
set_option linter.unusedVariables false

end Go.Bt
namespace Go.Bt
open Go Go.Proofs
set_option maxRecDepth 20000
set_option maxHeartbeats 4000000
set_option linter.unusedVariables false

theorem Gt.Good.some {H : Mem} {P : Ps} : ∀ {h : Nat} {t : Gt EI h}, Gt.Good H P h t → 1 ≤ (Gt.X h t).length → 1 ≤ (Gt.L h t).length
  | 0, _, _, h1 => h1
  | h + 1, (g, X, K), hg, h1 => Nat.le_trans h1 (Pl.sublist_inter X (K.map (Gt.L h)) (by have := hg.2.2.2.2.2.1; simp only at this; rw [List.length_map, this]; omega)).length_le

theorem growMap_spec {B : World} {H : Mem} {d : Nat} {u : Value} {l : List (Int × Int)} (hd : 2 ≤ d ∧ d ≤ 128) (hi : InS EJ H u l) (hll : l.length ≤ 4294967296) :
    Fn Try.prog B 52 [.int .i64 (d : Int), u] H (fun r H' => ∃ tr S, r = ptr tr ∧ MapM H' tr ⟨0, 2 * d - 1, d - 1⟩ S (Pl.puts OI l) ∧ Fr nowhere H H' ∧ ∀ b, S b → H.size ≤ b) := by
  have hP : PsOk ⟨0, 2 * d - 1, d - 1⟩ := ⟨by show 2 * d - 1 = 2 * (d - 1) + 1; omega, by show 1 ≤ d - 1; omega, by show 2 * d - 1 ≤ 255; omega⟩
  obtain ⟨a, c, hu⟩ := hi.len
  subst hu
  refine fn_of Go.Proofs.Try.func52 rfl Go.Proofs.Try.ntmps52 ?_
  refine (show Go' _ _ _ _ 24 [(0, _), (1, _)] [.code _] _ from ?_)
  refine Go'.seq ?_
  -- region 0 (map.go:12)
  refine Go'.region [(0, 0)] rfl ?_
  refine O.asg rfl rfl rfl rfl rfl ?_
  refine Pl.fin [(0, _), (1, _), (4, _)] ⟨rfl, rfl, rfl, trivial⟩ ?_
  refine Go'.seq ?_
  -- region 1 (map.go:13)
  refine Go'.region [(0, 0), (1, 2), (2, 0)] rfl ?_
  refine O.mv rfl rfl rfl rfl rfl ?_
  refine O.call rfl rfl rfl Go.Proofs.Try.call84 rfl (newMap_spec hd) ?_
  rintro _ H1 ⟨rfl, hs1, hF1, hM1⟩
  unfold ptr
  refine ⟨trivial, ?_⟩
  refine O.asg rfl rfl rfl rfl rfl ?_
  refine Pl.fin [(1, _), (4, _), (5, _)] ⟨rfl, rfl, rfl, trivial⟩ ?_
  refine Go'.seq ?_
  refine Go'.seq ?_
  -- region 2 (map.go:14)
  refine Go'.region [(0, 0), (1, 0), (2, 0)] rfl ?_
  refine O.mv rfl rfl rfl rfl rfl ?_
  refine O.len rfl rfl rfl rfl Go.Proofs.Try.underlying22 rfl ?_
  refine O.mv rfl rfl rfl rfl rfl ?_
  refine Pl.fin [(4, _), (5, _), (10, _), (11, _), (12, _)] ⟨rfl, rfl, rfl, rfl, rfl, trivial⟩ ?_
  refine Go'.block ?_
  refine Go'.loop ?_
  refine Go'.keep [(5, _), (10, _), (11, _), (12, _)] ⟨rfl, rfl, rfl, rfl, trivial⟩ ?_
  refine Go'.ind (σ := Nat) (fun j => l.length - j) (fun j H' => Fr nowhere H H' ∧ j ≤ l.length ∧ ∃ S, MapM H' H.size ⟨0, 2 * d - 1, d - 1⟩ S (Pl.puts OI (l.take j)) ∧ ∀ b, S b → H.size ≤ b)
    (fun j => [(5, .pointer (some ⟨H.size, 0, none⟩)), (10, .slice a l.length c), (11, .int .i64 (l.length : Int)), (12, .int .i64 (j : Int))]) 0 ⟨hF1, Nat.zero_le _, _, hM1, fun b hb => by omega⟩ rfl ?_
  rintro j H2 ⟨hF, hjl, S, hM, hS⟩ ih
  have hi2 := hi.fr hF
  refine Go'.seq ?_
  by_cases hlt : j < l.length
  · skip
    obtain ⟨y, hy⟩ : ∃ y, l[j]? = some y := ⟨l[j], List.getElem?_eq_getElem hlt⟩
    obtain ⟨b, o, c', e, hr⟩ := hi2.at hy
    cases e
    have hpl := Pl.puts_length OI (l.take j)
    have hSn : ∀ b, H2.size ≤ b → ¬ S b := fun b hb hs => by have := hM.lt b hs; omega
    rw [List.length_take] at hpl
    -- region 3 (map.go:14)
    refine Go'.region [(0, 0)] rfl ?_
    refine O.cmp rfl rfl rfl rfl rfl rfl (lssT (by omega)) ?_
    refine Pl.fin [(5, _), (10, _), (11, _), (12, _), (13, _)] ⟨rfl, rfl, rfl, rfl, rfl, trivial⟩ ?_
    refine Go'.seq ?_
    refine Go'.condT rfl ?_
    refine Go'.skip ?_
    refine Go'.seq ?_
    refine Go'.block ?_
    refine Go'.seq ?_
    -- region 4 (map.go:14)
    refine Go'.region [(0, 0), (1, 1), (2, 2), (3, 2)] rfl ?_
    refine O.ix (j := j) rfl rfl rfl rfl Go.Proofs.Try.underlying22 Go.Proofs.Try.sizeOf35 rfl rfl (by omega) hlt ?_
    refine O.lds rfl rfl rfl (fun w => ⟨Go.Proofs.Try.isAgg35 w, Go.Proofs.Try.sizeOf35 w⟩) rfl rfl hr ?_
    refine O.alloc rfl rfl rfl Go.Proofs.Try.zeroValue35 ?_
    intro H3 M3
    refine ⟨trivial, ?_⟩
    have hs3 := M3.size
    replace hM := hM.fr (M3.fr nowhere) (fun _ _ _ => nw)
    have m7 : Wr H3 H2.size 0 2 := M3.wr 2 (by decide)
    have hlt2 : ∀ b, S b → b < H2.size := fun b hb => by
      rcases Nat.lt_or_ge b H2.size with h | h
      · exact h
      · exact absurd hb (hSn b h)
    refine O.st rfl rfl Go.Proofs.Try.sizeOf35 rfl rfl rfl rfl rfl m7 ?_
    intro H4 W4
    have hs4 := W4.size
    replace hM := hM.fr W4.fr (fun b o hb hz => by have h1 := hz.1; have h2 := hlt2 b hb; omega)
    have hf4 : Fr nowhere H H4 := hF.trans' ((M3.fr nowhere).trans' W4.fr (Z := nowhere) (fun _ _ _ h => h) (fun b o hb hz => by have h1 := hz.1; omega)) (fun _ _ _ h => h) (fun _ _ _ h => h)
    have k0 : cl H4 H2.size 0 = some (.int .i64 y.1) := W4.all 0 _ rfl
    have k1 : cl H4 H2.size 1 = some (.int .i64 y.2) := W4.all 1 _ rfl
    refine ⟨trivial, ?_⟩
    refine Pl.fin [(5, _), (7, _), (10, _), (11, _), (12, _), (13, _)] ⟨rfl, rfl, rfl, rfl, rfl, rfl, trivial⟩ ?_
    -- region 5 (map.go:15)
    refine Go'.region [(0, 0), (1, 0), (2, 1), (3, 0), (4, 1), (5, 2)] rfl ?_
    refine O.mv rfl rfl rfl rfl rfl ?_
    refine O.faz rfl rfl rfl rfl ⟨_, _, _, Go.Proofs.Try.underlying35, rfl, rfl, Go.Proofs.Try.sizeOf3⟩ rfl ?_
    refine O.ld rfl rfl rfl (fun w => ⟨Go.Proofs.Try.isAgg3 w, Go.Proofs.Try.sizeOf3 w⟩) rfl k0 ?_
    refine O.fa0 (off := 1) rfl rfl rfl rfl ⟨_, _, _, Go.Proofs.Try.underlying35, rfl, rfl, Go.Proofs.Try.sizeOf3⟩ rfl ?_
    refine O.ld rfl rfl rfl (fun w => ⟨Go.Proofs.Try.isAgg3 w, Go.Proofs.Try.sizeOf3 w⟩) rfl k1 ?_
    refine O.call rfl rfl rfl Go.Proofs.Try.call56 rfl (mset_spec hP (x := y) hM (by omega)) ?_
    rintro _ H5 ⟨rfl, S', hM', hF', hS'⟩
    refine ⟨trivial, ?_⟩
    refine Pl.fin [(5, _), (7, _), (10, _), (11, _), (12, _), (13, _)] ⟨rfl, rfl, rfl, rfl, rfl, rfl, trivial⟩ ?_
    refine Go'.inBlock ?_
    -- region 6 (map.go:14)
    refine Go'.region [(0, 0), (1, 0)] rfl ?_
    refine O.add (((j + 1 : Nat) : Int)) rfl rfl rfl rfl rfl rfl (by omega) (by omega) ?_
    refine O.mv rfl rfl rfl rfl rfl ?_
    refine Pl.fin [(5, _), (7, _), (10, _), (11, _), (12, _), (13, _)] ⟨rfl, rfl, rfl, rfl, rfl, rfl, trivial⟩ ?_
    refine Go'.keep [(5, _), (10, _), (11, _), (12, _)] ⟨rfl, rfl, rfl, rfl, trivial⟩ ?_
    refine Go'.inLoop ?_
    exact ih (j + 1) H5 ⟨hf4.trans' hF' (fun _ _ _ h => h) (fun b o hb hz => by have h1 := hS b hz; omega), hlt, S', by
      rw [List.take_add_one, hy]
      rw [← Pl.puts_snoc] at hM'
      exact hM', fun b hb => (hS' b hb).elim (hS b) (fun h => by have := hf4.size; omega)⟩ (by omega)
  · skip
    obtain rfl : j = l.length := by omega
    -- region 3 (map.go:14)
    refine Go'.region [(0, 0)] rfl ?_
    refine O.cmp rfl rfl rfl rfl rfl rfl (lssF (by omega)) ?_
    refine Pl.fin [(5, _), (10, _), (11, _), (12, _), (13, _)] ⟨rfl, rfl, rfl, rfl, rfl, trivial⟩ ?_
    refine Go'.seq ?_
    refine Go'.condF rfl ?_
    refine Go'.exit rfl ?_
    refine Go'.seq ?_
    -- region 7 (map.go:17)
    refine Go'.region [(0, 0), (1, 0)] rfl ?_
    refine O.mv rfl rfl rfl rfl rfl ?_
    refine O.asg rfl rfl rfl rfl rfl ?_
    refine Pl.fin [(4, _)] ⟨rfl, trivial⟩ ?_
    refine Go'.ret (vs := [_]) Go.Proofs.Try.func52 Go.Proofs.Try.results52 ⟨rfl, trivial⟩ ?_
    rw [List.take_length] at hM
    exact ⟨H.size, S, rfl, hM, hF, hS⟩

end Go.Bt
namespace Go.Bt
open Go Go.Proofs
set_option maxRecDepth 20000
set_option maxHeartbeats 4000000
set_option linter.unusedVariables false

namespace Pl
theorem pre_snoc {α : Type} : ∀ (X : List α) (K : List (List α)) (x : α) (k : List α), X.length = K.length → pre (X ++ [x]) (K ++ [k]) = pre X K ++ (k ++ [x])
  | [], [], x, k, _ => by simp [pre]
  | y :: X, l :: K, x, k, h => by
    simp only [List.cons_append, pre]
    rw [pre_snoc X K x k (by simpa using h)]
    simp
  | [], _ :: _, _, _, h => by simp at h
  | _ :: _, [], _, _, h => by simp at h
theorem inter_last {α : Type} {X : List α} {K : List (List α)} {k : List α} (hl : K.length = X.length + 1) (hk : K[X.length]? = some k) : inter X K = pre X (K.take X.length) ++ k := by
  have hsp : K = K.take X.length ++ [k] := by
    have h1 := (List.getElem?_eq_some_iff.1 hk)
    obtain ⟨h1, h2⟩ := h1
    conv => lhs; rw [← List.take_append_drop X.length K]
    rw [← List.getElem_cons_drop (h := h1), h2, List.drop_of_length_le (by omega)]
  have := inter_focus X [] (K.take X.length) k [] (by rw [List.length_take]; omega) rfl
  rw [List.append_nil] at this
  rw [hsp] at this ⊢
  simp only [post, List.append_nil] at this
  rw [show (List.take X.length K ++ [k]).take X.length = K.take X.length by rw [List.take_append_of_le_length (by rw [List.length_take]; omega), List.take_take, Nat.min_self]]
  rw [show (List.take X.length K ++ [k]).take X.length = K.take X.length by rw [List.take_append_of_le_length (by rw [List.length_take]; omega), List.take_take, Nat.min_self]] at this
  exact this
end Pl
/-- What a reader of a tree is called with that appends to a slice. -/
structure RPre {β : Type} (E : Elt β) (H : Mem) (tr : Nat) (P : Ps) (h : Nat) (t : Gt EI h) (bp op b o c : Nat) (acc : List β) : Prop where
  tc : TrC H tr P.iso P.mx P.mn
  g : Gt.Good H P h t
  cel : cl H bp op = some (ptr (Gt.p h t))
  nb : ∀ o, ¬ Gt.af h t b o
  np : bp ≠ b
  nt : tr ≠ b
  sl : SlE E H b o c acc
  len : acc.length + (Gt.L h t).length ≤ 4294967296
def RPost {β : Type} (E : Elt β) (H : Mem) (b : Nat) (l : List β) (r : Value) (H' : Mem) : Prop := ∃ b' o' c', r = .slice (some ⟨b', o', none⟩) l.length c' ∧ SlE E H' b' o' c' l ∧ Fr (fun b1 _ => b1 = b) H H' ∧ (b' = b ∨ H.size ≤ b')
theorem App.rp {H H' : Mem} {b o len c m s : Nat} {xs news : List Value} {b' o' c' : Nat} (ha : App H H' b o len c m s xs news b' o' c') : Fr (fun b1 _ => b1 = b) H H' ∧ (b' = b ∨ H.size ≤ b') :=
  ⟨ha.fr.mono fun b1 o1 _ hz => hz.1, by rcases ha.place with ⟨h, _⟩ | ⟨h, _⟩ <;> omega⟩
theorem Fr.rp {b b1 : Nat} {H H1 H2 : Mem} (h1 : Fr (fun x _ => x = b) H H1) (hb : b1 = b ∨ H.size ≤ b1) (h2 : Fr (fun x _ => x = b1) H1 H2) : Fr (fun x _ => x = b) H H2 :=
  h1.trans' h2 (fun _ _ _ h => h) fun x o hx h => by have h' : x = b1 := h; rcases hb with hb | hb <;> omega

theorem nval0 {B : World} {H : Mem} {tr bp op b o c : Nat} {P : Ps} {acc : List Int} {t : Gt EI 0} (mt : Bool) (hp : RPre EN H tr P 0 t bp op b o c acc) : Fn Try.prog B 118 [.pointer (some ⟨tr, 0, none⟩), .pointer (some ⟨bp, op, none⟩), .slice (some ⟨b, o, none⟩) acc.length c, .bool mt] H (RPost EN H b (acc ++ (Gt.L 0 t).map (fun x : Int × Int => x.2))) := by
  obtain ⟨g, X⟩ := t
  obtain ⟨tc, hg, hc, hnb, hnp, hnt, hsl, hlen⟩ := hp
  have hN : NodeM EI H g X (.pointer none) := hg.1
  have hiso : g.iso = P.iso := hg.2.1
  replace hlen : acc.length + X.length ≤ 4294967296 := hlen
  have hc0 := hN.c0
  rw [hiso] at hc0
  refine fn_of Go.Proofs.Try.func118 rfl Go.Proofs.Try.ntmps118 ?_
  refine (show Go' _ _ _ _ 90 [(0, _), (1, _), (2, _), (3, _)] [.code _] _ from ?_)
  refine Go'.seq ?_
  -- region 0 (map.go:1133)
  refine Go'.region [(0, 0)] rfl ?_
  refine O.asg rfl rfl rfl rfl rfl ?_
  refine Pl.fin [(0, _), (1, _), (2, _), (3, _), (8, _)] ⟨rfl, rfl, rfl, rfl, rfl, trivial⟩ ?_
  refine Go'.seq ?_
  -- region 1 (map.go:1134)
  refine Go'.region [(0, 0), (1, 0), (2, 0), (3, 2), (4, 0)] rfl ?_
  refine O.mv rfl rfl rfl rfl rfl ?_
  refine O.mv rfl rfl rfl rfl rfl ?_
  refine O.mv rfl rfl rfl rfl rfl ?_
  refine O.callQ rfl rfl rfl Go.Proofs.Try.call85 rfl (isoLoad_spec mt hc hc0 tc.iso) trivial ?_
  refine O.asg rfl rfl rfl rfl rfl ?_
  refine Pl.fin [(0, _), (2, _), (3, _), (8, _), (9, _)] ⟨rfl, rfl, rfl, rfl, rfl, trivial⟩ ?_
  refine Go'.seq ?_
  refine Go'.seq ?_
  unfold ptr
  -- region 2 (map.go:1135)
  refine Go'.region [(0, 0), (1, 2)] rfl ?_
  refine O.mv rfl rfl rfl rfl rfl ?_
  refine O.callQ rfl rfl rfl Go.Proofs.Try.call86 rfl (leaf_spec hN.c3) trivial ?_
  refine Pl.fin [(0, _), (2, _), (3, _), (8, _), (9, _), (17, _)] ⟨rfl, rfl, rfl, rfl, rfl, rfl, trivial⟩ ?_
  refine Go'.condT rfl ?_
  refine Go'.seq ?_
  refine Go'.seq ?_
  -- region 3 (map.go:1136)
  refine Go'.region [(0, 0)] rfl ?_
  refine O.asg rfl rfl rfl rfl rfl ?_
  refine Pl.fin [(0, _), (2, _), (3, _), (8, _), (9, _), (10, _)] ⟨rfl, rfl, rfl, rfl, rfl, rfl, trivial⟩ ?_
  refine Go'.block ?_
  refine Go'.loop ?_
  refine Go'.keep [(2, _), (9, _), (10, _)] ⟨rfl, rfl, rfl, trivial⟩ ?_
  refine Go'.ind (σ := Nat × Nat × Nat × Nat) (fun s => X.length - s.1) (fun s H' => s.1 ≤ X.length ∧ Fr (fun b1 _ => b1 = b) H H' ∧ (s.2.1 = b ∨ H.size ≤ s.2.1) ∧ SlE EN H' s.2.1 s.2.2.1 s.2.2.2 (acc ++ (X.take s.1).map (fun x : Int × Int => x.2)))
    (fun s => [(2, .slice (some ⟨s.2.1, s.2.2.1, none⟩) (acc ++ (X.take s.1).map (fun x : Int × Int => x.2)).length s.2.2.2), (9, .pointer (some ⟨g.p, 0, none⟩)), (10, .int .i64 (s.1 : Int))]) (0, b, o, c) ⟨Nat.zero_le _, Fr.refl _ _, .inl rfl, by simpa using hsl⟩ (by simp; rfl) ?_
  rintro ⟨j, b1, o1, c1⟩ H2 ⟨hj, hF, hb1, hs1⟩ ih
  simp only at hj hb1 hs1
  replace hN := NodeM.fr EI hN hF (fun x y hxy hz => hnb y (by have hz' : x = b := hz; rw [← hz']; exact hxy))
  refine Go'.seq ?_
  refine Go'.seq ?_
  by_cases hlt : j < X.length
  · skip
    obtain ⟨y, hy⟩ : ∃ y, X[j]? = some y := ⟨X[j], List.getElem?_eq_getElem hlt⟩
    have hal : (acc ++ (X.take j).map (fun x : Int × Int => x.2)).length = acc.length + j := by rw [List.length_append, List.length_map, List.length_take]; omega
    -- region 4 (map.go:1136)
    refine Go'.region [(0, 0), (1, 0), (2, 0), (3, 0), (4, 1), (5, 0), (6, 0)] rfl ?_
    refine O.mv rfl rfl rfl rfl rfl ?_
    refine O.mv rfl rfl rfl rfl rfl ?_
    refine O.nc rfl rfl rfl rfl rfl ?_
    refine O.fa0 (off := 2) rfl rfl rfl rfl ⟨_, _, _, Go.Proofs.Try.underlying111, rfl, rfl, Go.Proofs.Try.sizeOf108⟩ rfl ?_
    refine O.ld rfl rfl rfl (fun w => ⟨Go.Proofs.Try.isAgg108 w, Go.Proofs.Try.sizeOf108 w⟩) rfl hN.c2 ?_
    refine O.len rfl rfl rfl rfl Go.Proofs.Try.underlying108 rfl ?_
    refine O.cmp rfl rfl rfl rfl rfl rfl (lssT (by omega)) ?_
    refine Pl.fin [(2, _), (9, _), (10, _), (24, _)] ⟨rfl, rfl, rfl, rfl, trivial⟩ ?_
    refine Go'.condT rfl ?_
    refine Go'.skip ?_
    refine Go'.seq ?_
    refine Go'.block ?_
    -- region 6 (map.go:1137)
    refine Go'.region [(0, 0), (1, 0), (2, 0), (3, 0), (4, 1), (5, 0), (6, 0), (7, 0), (8, 1), (9, 2), (10, 2), (11, 0)] rfl ?_
    refine O.mv rfl rfl rfl rfl rfl ?_
    refine O.mv rfl rfl rfl rfl rfl ?_
    refine O.nc rfl rfl rfl rfl rfl ?_
    refine O.fa0 (off := 2) rfl rfl rfl rfl ⟨_, _, _, Go.Proofs.Try.underlying111, rfl, rfl, Go.Proofs.Try.sizeOf108⟩ rfl ?_
    refine O.ld rfl rfl rfl (fun w => ⟨Go.Proofs.Try.isAgg108 w, Go.Proofs.Try.sizeOf108 w⟩) rfl hN.c2 ?_
    refine O.mv rfl rfl rfl rfl rfl ?_
    refine O.ix (j := j) rfl rfl rfl rfl Go.Proofs.Try.underlying108 Go.Proofs.Try.sizeOf100 rfl rfl (by omega) hlt ?_
    refine O.faz rfl rfl rfl rfl ⟨_, _, _, Go.Proofs.Try.underlying100, rfl, rfl, Go.Proofs.Try.sizeOf3⟩ rfl ?_
    refine O.ld rfl rfl rfl (fun w => ⟨Go.Proofs.Try.isAgg3 w, Go.Proofs.Try.sizeOf3 w⟩) rfl (hN.sl.cell hy (j := 0) rfl) ?_
    refine O.bsl (cs := (EN.enc y.2)) rfl rfl rfl ⟨Go.Proofs.Try.underlying39, Go.Proofs.Try.sizeOf3, Go.Proofs.Try.zeroValue3, ⟨_, Go.Proofs.Try.typeInfo3, rfl⟩, rfl, by decide, by decide⟩ rfl (by decide) (by kernel_rfl) ?_
    intro H3 M3
    replace hs1 := hs1.fr (M3.fr nowhere) (fun _ _ _ => nw)
    have m3 : Rd H3 H2.size 0 (EN.enc y.2) := M3.rd _ [] (by simp)
    refine ⟨trivial, ?_⟩
    refine O.app (m := 1) (news := (EN.enc y.2)) rfl rfl rfl ⟨Go.Proofs.Try.underlying39, Go.Proofs.Try.sizeOf3, Go.Proofs.Try.zeroValue3, ⟨_, Go.Proofs.Try.typeInfo3, rfl⟩, rfl, by decide, by decide⟩ rfl hs1 rfl (.inl ⟨_, _, _, rfl, m3⟩) rfl rfl (Nat.le_trans (Nat.mul_le_mul_left _ (Nat.le_of_ble_eq_true (n := _) (m := 4096) rfl)) (by rw [hal]; omega)) (by rw [hal]; omega) ?_
    intro b2 o2 c2 H4 ha
    have hs2 := SlE.app (E := EN) ha
    obtain ⟨fa, pa⟩ : Fr (fun x _ => x = b1) H3 H4 ∧ (b2 = b1 ∨ H3.size ≤ b2) := ha.rp
    have hsz := hF.size
    have hsz3 := M3.size
    refine ⟨trivial, ?_⟩
    refine O.asg rfl rfl rfl rfl rfl ?_
    refine Pl.fin [(2, _), (9, _), (10, _), (24, _)] ⟨rfl, rfl, rfl, rfl, trivial⟩ ?_
    refine Go'.inBlock ?_
    -- region 5 (map.go:1136)
    refine Go'.region [(0, 0), (1, 0), (2, 0)] rfl ?_
    refine O.mv rfl rfl rfl rfl rfl ?_
    refine O.add (((j + 1 : Nat) : Int)) rfl rfl rfl rfl rfl rfl (by omega) (by omega) ?_
    refine O.asg rfl rfl rfl rfl rfl ?_
    refine Pl.fin [(2, _), (9, _), (10, _), (24, _)] ⟨rfl, rfl, rfl, rfl, trivial⟩ ?_
    have hx : X.take (j + 1) = X.take j ++ [y] := by rw [List.take_add_one, hy]; rfl
    have hx2 : acc ++ (X.take (j + 1)).map (fun x : Int × Int => x.2) = acc ++ (X.take j).map (fun x : Int × Int => x.2) ++ [y.2] := by rw [hx, List.map_append, List.append_assoc]; rfl
    have hx3 : (acc ++ (X.take j).map (fun x : Int × Int => x.2)).length + 1 = (acc ++ (X.take (j + 1)).map (fun x : Int × Int => x.2)).length := by rw [hx2, List.length_append (bs := [y.2])]; rfl
    rw [hx3]
    refine Go'.keep [(2, _), (9, _), (10, _)] ⟨rfl, rfl, rfl, trivial⟩ ?_
    refine Go'.inLoop ?_
    exact ih (j + 1, b2, o2, c2) H4 ⟨hlt, (hF.trans' (M3.fr nowhere) (fun _ _ _ h => h) (fun _ _ _ h => h.elim)).rp hb1 fa, by simp only; omega, by rw [hx2]; exact hs2⟩ (by simp only; omega)
  · skip
    obtain rfl : j = X.length := by omega
    -- region 4 (map.go:1136)
    refine Go'.region [(0, 0), (1, 0), (2, 0), (3, 0), (4, 1), (5, 0), (6, 0)] rfl ?_
    refine O.mv rfl rfl rfl rfl rfl ?_
    refine O.mv rfl rfl rfl rfl rfl ?_
    refine O.nc rfl rfl rfl rfl rfl ?_
    refine O.fa0 (off := 2) rfl rfl rfl rfl ⟨_, _, _, Go.Proofs.Try.underlying111, rfl, rfl, Go.Proofs.Try.sizeOf108⟩ rfl ?_
    refine O.ld rfl rfl rfl (fun w => ⟨Go.Proofs.Try.isAgg108 w, Go.Proofs.Try.sizeOf108 w⟩) rfl hN.c2 ?_
    refine O.len rfl rfl rfl rfl Go.Proofs.Try.underlying108 rfl ?_
    refine O.cmp rfl rfl rfl rfl rfl rfl (lssF (by omega)) ?_
    refine Pl.fin [(2, _), (9, _), (10, _), (24, _)] ⟨rfl, rfl, rfl, rfl, trivial⟩ ?_
    refine Go'.condF rfl ?_
    refine Go'.exit rfl ?_
    refine Go'.seq ?_
    -- region 7 (map.go:1139)
    refine Go'.region [(0, 0), (1, 0)] rfl ?_
    refine O.mv rfl rfl rfl rfl rfl ?_
    refine O.asg rfl rfl rfl rfl rfl ?_
    refine Pl.fin [(2, _), (8, _), (9, _)] ⟨rfl, rfl, rfl, trivial⟩ ?_
    refine Go'.ret (vs := [_]) Go.Proofs.Try.func118 Go.Proofs.Try.results118 ⟨rfl, trivial⟩ ?_
    rw [List.take_length] at hs1
    exact ⟨b1, o1, c1, by rw [List.take_length]; rfl, hs1, hF, hb1⟩

theorem nval {B : World} {tr : Nat} {P : Ps} (hP : PsOk P) (mt : Bool) : ∀ (h : Nat) {H : Mem} {bp op b o c : Nat} {acc : List Int} {t : Gt EI h}, RPre EN H tr P h t bp op b o c acc → Fn Try.prog B 118 [.pointer (some ⟨tr, 0, none⟩), .pointer (some ⟨bp, op, none⟩), .slice (some ⟨b, o, none⟩) acc.length c, .bool mt] H (RPost EN H b (acc ++ (Gt.L h t).map (fun x : Int × Int => x.2)))
  | 0, _, _, _, _, _, _, _, _, hp => nval0 mt hp
  | h + 1, H, bp, op, b, o, c, acc, (g, X, K), hp => by
    have ih := @nval B tr P hP mt h
    obtain ⟨tc, hg, hc, hnb, hnp, hnt, hsl, hlen⟩ := hp
    have hI : Inn H P h g X ((Gt.ps h K).map some) K := hg.inn
    have hKl : K.length = X.length + 1 := hg.2.2.2.2.2.1
    have hxm : X.length ≤ P.mx := hg.2.2.2.2.1
    have hx255 := hP.hx
    have hKL : (K.map (Gt.L h)).length = X.length + 1 := by rw [List.length_map]; exact hKl
    have hol : ((Gt.ps h K).map some).length = X.length + 1 := by rw [List.length_map, Gt.ps, List.length_map]; exact hKl
    replace hlen : acc.length + (Pl.inter X (K.map (Gt.L h))).length ≤ 4294967296 := hlen
    have hlt : ∀ x y, innc h g K x y → x < H.size := fun x y hb => hI.lt hb
    obtain ⟨_, _, _, hkb⟩ := hI.cells
    have hkbb : g.kb ≠ b := fun e => hnb g.ko (.inr (.inl (show kcl g b g.ko from .inr ⟨e.symm, Nat.le_refl _, by have := hI.k.kc; omega⟩)))
    have htl : tr < H.size := cl_lt tc.iso
    have hc0 := hI.n.c0
    rw [hI.iso] at hc0
    have hlj : ∀ j, j ≤ X.length → (Pl.pre (X.take j) ((K.map (Gt.L h)).take j)).length ≤ (Pl.inter X (K.map (Gt.L h))).length := fun j hj => by
      rcases Nat.lt_or_ge j X.length with hl | hl
      · have hk1 : (K.map (Gt.L h))[j]? = some (K.map (Gt.L h))[j] := List.getElem?_eq_getElem (by omega)
        have e := Pl.inter_focus (X.take j) (X.drop j) ((K.map (Gt.L h)).take j) (K.map (Gt.L h))[j] ((K.map (Gt.L h)).drop (j + 1)) (by rw [List.length_take, List.length_take]; omega) (by rw [List.length_drop, List.length_drop]; omega)
        rw [List.take_append_drop, List.getElem_cons_drop, List.take_append_drop] at e
        rw [e, List.length_append, List.length_append]; omega
      · obtain rfl : j = X.length := by omega
        rw [Pl.inter_last hKL (List.getElem?_eq_getElem (by omega)), List.length_append, List.take_length]; omega
    have hlj2 : ∀ j k, j < X.length → K[j]? = some k → (Pl.pre (X.take j) ((K.map (Gt.L h)).take j)).length + (Gt.L h k).length + 1 ≤ (Pl.inter X (K.map (Gt.L h))).length := fun j k hj hk => by
      have h1 := hlj (j + 1) hj
      obtain ⟨y, hy⟩ : ∃ y, X[j]? = some y := ⟨X[j], List.getElem?_eq_getElem hj⟩
      have e1 : X.take (j + 1) = X.take j ++ [y] := by rw [List.take_add_one, hy]; rfl
      have e2 : (K.map (Gt.L h)).take (j + 1) = (K.map (Gt.L h)).take j ++ [Gt.L h k] := by rw [List.take_add_one, List.getElem?_map, hk]; rfl
      rw [e1, e2, Pl.pre_snoc _ _ _ _ (by rw [List.length_take, List.length_take]; omega), List.length_append, List.length_append, List.length_singleton] at h1
      omega
    refine fn_of Go.Proofs.Try.func118 rfl Go.Proofs.Try.ntmps118 ?_
    refine (show Go' _ _ _ _ 90 [(0, _), (1, _), (2, _), (3, _)] [.code _] _ from ?_)
    refine Go'.seq ?_
    -- region 0 (map.go:1133)
    refine Go'.region [(0, 0)] rfl ?_
    refine O.asg rfl rfl rfl rfl rfl ?_
    refine Pl.fin [(0, _), (1, _), (2, _), (3, _), (8, _)] ⟨rfl, rfl, rfl, rfl, rfl, trivial⟩ ?_
    refine Go'.seq ?_
    -- region 1 (map.go:1134)
    refine Go'.region [(0, 0), (1, 0), (2, 0), (3, 2), (4, 0)] rfl ?_
    refine O.mv rfl rfl rfl rfl rfl ?_
    refine O.mv rfl rfl rfl rfl rfl ?_
    refine O.mv rfl rfl rfl rfl rfl ?_
    refine O.callQ rfl rfl rfl Go.Proofs.Try.call85 rfl (isoLoad_spec mt hc hc0 tc.iso) trivial ?_
    refine O.asg rfl rfl rfl rfl rfl ?_
    refine Pl.fin [(0, _), (2, _), (3, _), (8, _), (9, _)] ⟨rfl, rfl, rfl, rfl, rfl, trivial⟩ ?_
    refine Go'.seq ?_
    refine Go'.seq ?_
    unfold ptr
    -- region 2 (map.go:1135)
    refine Go'.region [(0, 0), (1, 2)] rfl ?_
    refine O.mv rfl rfl rfl rfl rfl ?_
    refine O.callQ rfl rfl rfl Go.Proofs.Try.call86 rfl (leaf_spec hI.n.c3) trivial ?_
    refine Pl.fin [(0, _), (2, _), (3, _), (8, _), (9, _), (17, _)] ⟨rfl, rfl, rfl, rfl, rfl, rfl, trivial⟩ ?_
    refine Go'.condF rfl ?_
    refine Go'.skip ?_
    refine Go'.seq ?_
    refine Go'.seq ?_
    -- region 8 (map.go:1141)
    refine Go'.region [(0, 0)] rfl ?_
    refine O.asg rfl rfl rfl rfl rfl ?_
    refine Pl.fin [(0, _), (2, _), (3, _), (8, _), (9, _), (11, _)] ⟨rfl, rfl, rfl, rfl, rfl, rfl, trivial⟩ ?_
    refine Go'.block ?_
    refine Go'.loop ?_
    refine Go'.keep [(0, _), (2, _), (3, _), (9, _), (11, _)] ⟨rfl, rfl, rfl, rfl, rfl, trivial⟩ ?_
    refine Go'.ind (σ := Nat × Nat × Nat × Nat) (fun s => X.length - s.1) (fun s H' => s.1 ≤ X.length ∧ Fr (fun b1 _ => b1 = b) H H' ∧ (s.2.1 = b ∨ H.size ≤ s.2.1) ∧ SlE EN H' s.2.1 s.2.2.1 s.2.2.2 (acc ++ (Pl.pre (X.take s.1) ((K.map (Gt.L h)).take s.1)).map (fun x : Int × Int => x.2)))
      (fun s => [(0, .pointer (some ⟨tr, 0, none⟩)), (2, .slice (some ⟨s.2.1, s.2.2.1, none⟩) (acc ++ (Pl.pre (X.take s.1) ((K.map (Gt.L h)).take s.1)).map (fun x : Int × Int => x.2)).length s.2.2.2), (3, .bool mt), (9, .pointer (some ⟨g.p, 0, none⟩)), (11, .int .i64 (s.1 : Int))]) (0, b, o, c) ⟨Nat.zero_le _, Fr.refl _ _, .inl rfl, by simpa [Pl.pre] using hsl⟩ (by simp [Pl.pre]; rfl) ?_
    rintro ⟨j, b1, o1, c1⟩ H2 ⟨hj, hF, hb1, hs1⟩ ih2
    simp only at hj hb1 hs1
    have hin : ∀ H', Fr (fun x _ => x = b) H H' → Inn H' P h g X ((Gt.ps h K).map some) K := fun H' hf => hI.fr hf (fun x y hxy hz => hnb y (by have hz' : x = b := hz; rw [← hz']; exact hxy))
    have htc : ∀ H', Fr (fun x _ => x = b) H H' → TrC H' tr P.iso P.mx P.mn := fun H' hf => tc.fr hf fun _ _ _ hz => hnt hz
    have hsz := hF.size
    have hI2 := hin H2 hF
    have hpj := hlj j hj
    obtain ⟨k, hkk⟩ : ∃ k, K[j]? = some k := ⟨K[j], List.getElem?_eq_getElem (by omega)⟩
    have hkK : k ∈ K := List.mem_of_getElem? hkk
    have hok : ((Gt.ps h K).map some)[j]? = some (some (Gt.p h k)) := by rw [Gt.ps, List.map_map, List.getElem?_map, hkk]; rfl
    have hnbk : ∀ y, ¬ Gt.af h k b1 y := fun y hy => by
      rcases hb1 with rfl | hb1
      · exact hnb y (.inr (.inr ⟨k, hkK, hy⟩))
      · have := hlt b1 y (.inr (.inr ⟨k, hkK, hy⟩)); omega
    have hal : (acc ++ (Pl.pre (X.take j) ((K.map (Gt.L h)).take j)).map (fun x : Int × Int => x.2)).length = acc.length + (Pl.pre (X.take j) ((K.map (Gt.L h)).take j)).length := by rw [List.length_append, List.length_map]
    have hpre : (Pl.pre (X.take j) ((K.map (Gt.L h)).take j)).length + (Gt.L h k).length ≤ (Pl.inter X (K.map (Gt.L h))).length := by
      rcases Nat.lt_or_ge j X.length with hl | hl
      · have := hlj2 j k hl hkk; omega
      · obtain rfl : j = X.length := by omega
        rw [Pl.inter_last hKL (by rw [List.getElem?_map, hkk]; rfl), List.length_append, List.take_length]; omega
    have hrp : RPre EN H2 tr P h k g.kb (g.ko + j * 1) b1 o1 c1 (acc ++ (Pl.pre (X.take j) ((K.map (Gt.L h)).take j)).map (fun x : Int × Int => x.2)) := ⟨htc H2 hF, (hI2.c.1 k hkK).1, hI2.k.at hok, hnbk, by omega, by omega, hs1, by rw [hal]; omega⟩
    refine Go'.seq ?_
    refine Go'.seq ?_
    by_cases hlt2 : j < X.length
    · skip
      obtain ⟨y, hy⟩ : ∃ y, X[j]? = some y := ⟨X[j], List.getElem?_eq_getElem hlt2⟩
      have hp2 := hlj2 j k hlt2 hkk
      -- region 9 (map.go:1141)
      refine Go'.region [(0, 0), (1, 0), (2, 0), (3, 0), (4, 1), (5, 0), (6, 0)] rfl ?_
      refine O.mv rfl rfl rfl rfl rfl ?_
      refine O.mv rfl rfl rfl rfl rfl ?_
      refine O.nc rfl rfl rfl rfl rfl ?_
      refine O.fa0 (off := 2) rfl rfl rfl rfl ⟨_, _, _, Go.Proofs.Try.underlying111, rfl, rfl, Go.Proofs.Try.sizeOf108⟩ rfl ?_
      refine O.ld rfl rfl rfl (fun w => ⟨Go.Proofs.Try.isAgg108 w, Go.Proofs.Try.sizeOf108 w⟩) rfl hI2.n.c2 ?_
      refine O.len rfl rfl rfl rfl Go.Proofs.Try.underlying108 rfl ?_
      refine O.cmp rfl rfl rfl rfl rfl rfl (lssT (by omega)) ?_
      refine Pl.fin [(0, _), (2, _), (3, _), (9, _), (11, _), (45, _)] ⟨rfl, rfl, rfl, rfl, rfl, rfl, trivial⟩ ?_
      refine Go'.condT rfl ?_
      refine Go'.skip ?_
      refine Go'.seq ?_
      refine Go'.block ?_
      refine Go'.seq ?_
      -- region 11 (map.go:1142)
      refine Go'.region [(0, 0), (1, 0), (2, 0), (3, 0), (4, 1), (5, 0), (6, 1), (7, 0), (8, 0), (9, 0), (10, 0), (11, 2), (12, 0)] rfl ?_
      refine O.mv rfl rfl rfl rfl rfl ?_
      refine O.mv rfl rfl rfl rfl rfl ?_
      refine O.nc rfl rfl rfl rfl rfl ?_
      refine O.fa0 (off := 3) rfl rfl rfl rfl ⟨_, _, _, Go.Proofs.Try.underlying111, rfl, rfl, Go.Proofs.Try.sizeOf109⟩ rfl ?_
      refine O.ld rfl rfl rfl (fun w => ⟨Go.Proofs.Try.isAgg109 w, Go.Proofs.Try.sizeOf109 w⟩) rfl hI2.n.c3 ?_
      refine O.nc rfl rfl rfl rfl rfl ?_
      refine O.ld rfl rfl rfl (fun w => ⟨Go.Proofs.Try.isAgg112 w, Go.Proofs.Try.sizeOf112 w⟩) rfl hI2.k.c ?_
      refine O.mv rfl rfl rfl rfl rfl ?_
      refine O.ix (j := j) rfl rfl rfl rfl Go.Proofs.Try.underlying112 Go.Proofs.Try.sizeOf103 rfl rfl (by omega) (by omega) ?_
      refine O.mv rfl rfl rfl rfl rfl ?_
      refine O.mv rfl rfl rfl rfl rfl ?_
      refine O.call rfl rfl rfl Go.Proofs.Try.call118 rfl (ih hrp) ?_
      rintro _ H3 ⟨b2, o2, c2, rfl, hs2, f2, p2⟩
      refine ⟨trivial, ?_⟩
      refine O.asg rfl rfl rfl rfl rfl ?_
      refine Pl.fin [(0, _), (2, _), (3, _), (9, _), (11, _), (45, _)] ⟨rfl, rfl, rfl, rfl, rfl, rfl, trivial⟩ ?_
      replace p2 : b2 = b1 ∨ H2.size ≤ b2 := p2
      have hF3 := hF.rp hb1 f2
      have hI3 := hin H3 hF3
      have hsz3 := f2.size
      -- region 12 (map.go:1143)
      refine Go'.region [(0, 0), (1, 0), (2, 0), (3, 0), (4, 1), (5, 0), (6, 0), (7, 0), (8, 1), (9, 2), (10, 2), (11, 0)] rfl ?_
      refine O.mv rfl rfl rfl rfl rfl ?_
      refine O.mv rfl rfl rfl rfl rfl ?_
      refine O.nc rfl rfl rfl rfl rfl ?_
      refine O.fa0 (off := 2) rfl rfl rfl rfl ⟨_, _, _, Go.Proofs.Try.underlying111, rfl, rfl, Go.Proofs.Try.sizeOf108⟩ rfl ?_
      refine O.ld rfl rfl rfl (fun w => ⟨Go.Proofs.Try.isAgg108 w, Go.Proofs.Try.sizeOf108 w⟩) rfl hI3.n.c2 ?_
      refine O.mv rfl rfl rfl rfl rfl ?_
      refine O.ix (j := j) rfl rfl rfl rfl Go.Proofs.Try.underlying108 Go.Proofs.Try.sizeOf100 rfl rfl (by omega) hlt2 ?_
      refine O.faz rfl rfl rfl rfl ⟨_, _, _, Go.Proofs.Try.underlying100, rfl, rfl, Go.Proofs.Try.sizeOf3⟩ rfl ?_
      refine O.ld rfl rfl rfl (fun w => ⟨Go.Proofs.Try.isAgg3 w, Go.Proofs.Try.sizeOf3 w⟩) rfl (hI3.n.sl.cell hy (j := 0) rfl) ?_
      refine O.bsl (cs := (EN.enc y.2)) rfl rfl rfl ⟨Go.Proofs.Try.underlying39, Go.Proofs.Try.sizeOf3, Go.Proofs.Try.zeroValue3, ⟨_, Go.Proofs.Try.typeInfo3, rfl⟩, rfl, by decide, by decide⟩ rfl (by decide) (by kernel_rfl) ?_
      intro H4 M4
      have hsz4 := M4.size
      replace hs2 := hs2.fr (M4.fr nowhere) (fun _ _ _ => nw)
      have m4 : Rd H4 H3.size 0 (EN.enc y.2) := M4.rd _ [] (by simp)
      refine ⟨trivial, ?_⟩
      refine O.app (m := 1) (news := (EN.enc y.2)) rfl rfl rfl ⟨Go.Proofs.Try.underlying39, Go.Proofs.Try.sizeOf3, Go.Proofs.Try.zeroValue3, ⟨_, Go.Proofs.Try.typeInfo3, rfl⟩, rfl, by decide, by decide⟩ rfl hs2 rfl (.inl ⟨_, _, _, rfl, m4⟩) rfl rfl (Nat.le_trans (Nat.mul_le_mul_left _ (Nat.le_of_ble_eq_true (n := _) (m := 4096) rfl)) (by rw [List.length_append, List.length_map, hal]; omega)) (by rw [List.length_append, List.length_map, hal]; omega) ?_
      intro b3 o3 c3 H5 ha
      have hs3 := SlE.app (E := EN) ha
      obtain ⟨fa, pa⟩ : Fr (fun x _ => x = b2) H4 H5 ∧ (b3 = b2 ∨ H4.size ≤ b3) := ha.rp
      refine ⟨trivial, ?_⟩
      refine O.asg rfl rfl rfl rfl rfl ?_
      refine Pl.fin [(0, _), (2, _), (3, _), (9, _), (11, _), (45, _)] ⟨rfl, rfl, rfl, rfl, rfl, rfl, trivial⟩ ?_
      refine Go'.inBlock ?_
      -- region 10 (map.go:1141)
      refine Go'.region [(0, 0), (1, 0), (2, 0)] rfl ?_
      refine O.mv rfl rfl rfl rfl rfl ?_
      refine O.add (((j + 1 : Nat) : Int)) rfl rfl rfl rfl rfl rfl (by omega) (by omega) ?_
      refine O.asg rfl rfl rfl rfl rfl ?_
      refine Pl.fin [(0, _), (2, _), (3, _), (9, _), (11, _), (45, _)] ⟨rfl, rfl, rfl, rfl, rfl, rfl, trivial⟩ ?_
      have e1 : X.take (j + 1) = X.take j ++ [y] := by rw [List.take_add_one, hy]; rfl
      have e2 : (K.map (Gt.L h)).take (j + 1) = (K.map (Gt.L h)).take j ++ [Gt.L h k] := by rw [List.take_add_one, List.getElem?_map, hkk]; rfl
      have hx2 : acc ++ (Pl.pre (X.take (j + 1)) ((K.map (Gt.L h)).take (j + 1))).map (fun x : Int × Int => x.2) = acc ++ (Pl.pre (X.take j) ((K.map (Gt.L h)).take j)).map (fun x : Int × Int => x.2) ++ (Gt.L h k).map (fun x : Int × Int => x.2) ++ [y.2] := by
        rw [e1, e2, Pl.pre_snoc _ _ _ _ (by rw [List.length_take, List.length_take]; omega), List.map_append, List.map_append]
        simp only [List.append_assoc]; rfl
      have hx3 : (acc ++ (Pl.pre (X.take j) ((K.map (Gt.L h)).take j)).map (fun x : Int × Int => x.2) ++ (Gt.L h k).map (fun x : Int × Int => x.2)).length + 1 = (acc ++ (Pl.pre (X.take (j + 1)) ((K.map (Gt.L h)).take (j + 1))).map (fun x : Int × Int => x.2)).length := by rw [hx2, List.length_append (bs := [y.2])]; rfl
      rw [hx3]
      have hb2 : b2 = b ∨ H.size ≤ b2 := by omega
      refine Go'.keep [(0, _), (2, _), (3, _), (9, _), (11, _)] ⟨rfl, rfl, rfl, rfl, rfl, trivial⟩ ?_
      refine Go'.inLoop ?_
      exact ih2 (j + 1, b3, o3, c3) H5 ⟨hlt2, (hF3.trans' (M4.fr nowhere) (fun _ _ _ h => h) (fun _ _ _ h => h.elim)).rp hb2 fa, by simp only; omega, by rw [hx2]; exact hs3⟩ (by simp only; omega)
    · skip
      obtain rfl : j = X.length := by omega
      -- region 9 (map.go:1141)
      refine Go'.region [(0, 0), (1, 0), (2, 0), (3, 0), (4, 1), (5, 0), (6, 0)] rfl ?_
      refine O.mv rfl rfl rfl rfl rfl ?_
      refine O.mv rfl rfl rfl rfl rfl ?_
      refine O.nc rfl rfl rfl rfl rfl ?_
      refine O.fa0 (off := 2) rfl rfl rfl rfl ⟨_, _, _, Go.Proofs.Try.underlying111, rfl, rfl, Go.Proofs.Try.sizeOf108⟩ rfl ?_
      refine O.ld rfl rfl rfl (fun w => ⟨Go.Proofs.Try.isAgg108 w, Go.Proofs.Try.sizeOf108 w⟩) rfl hI2.n.c2 ?_
      refine O.len rfl rfl rfl rfl Go.Proofs.Try.underlying108 rfl ?_
      refine O.cmp rfl rfl rfl rfl rfl rfl (lssF (by omega)) ?_
      refine Pl.fin [(0, _), (2, _), (3, _), (9, _), (11, _), (45, _)] ⟨rfl, rfl, rfl, rfl, rfl, rfl, trivial⟩ ?_
      refine Go'.condF rfl ?_
      refine Go'.exit rfl ?_
      refine Go'.seq ?_
      -- region 13 (map.go:1145)
      refine Go'.draw (fun _ => True) [(0, 0), (1, 0), (2, 0), (3, 0), (4, 1), (5, 0), (6, 1), (7, 0), (8, 0), (9, 0), (10, 1), (11, 0), (12, 1), (13, 0), (14, 0), (15, 0), (16, 0), (17, 0), (18, 2), (19, 0)] (by kernel_rfl) (by kernel_rfl) (trivial) ?_
      refine O.mv rfl rfl rfl rfl rfl ?_
      refine O.mv rfl rfl rfl rfl rfl ?_
      refine O.nc rfl rfl rfl rfl rfl ?_
      refine O.fa0 (off := 3) rfl rfl rfl rfl ⟨_, _, _, Go.Proofs.Try.underlying111, rfl, rfl, Go.Proofs.Try.sizeOf109⟩ rfl ?_
      refine O.ld rfl rfl rfl (fun w => ⟨Go.Proofs.Try.isAgg109 w, Go.Proofs.Try.sizeOf109 w⟩) rfl hI2.n.c3 ?_
      refine O.nc rfl rfl rfl rfl rfl ?_
      refine O.ld rfl rfl rfl (fun w => ⟨Go.Proofs.Try.isAgg112 w, Go.Proofs.Try.sizeOf112 w⟩) rfl hI2.k.c ?_
      refine O.mv rfl rfl rfl rfl rfl ?_
      refine O.nc rfl rfl rfl rfl rfl ?_
      refine O.fa0 (off := 3) rfl rfl rfl rfl ⟨_, _, _, Go.Proofs.Try.underlying111, rfl, rfl, Go.Proofs.Try.sizeOf109⟩ rfl ?_
      refine O.ld rfl rfl rfl (fun w => ⟨Go.Proofs.Try.isAgg109 w, Go.Proofs.Try.sizeOf109 w⟩) rfl hI2.n.c3 ?_
      refine O.nc rfl rfl rfl rfl rfl ?_
      refine O.ld rfl rfl rfl (fun w => ⟨Go.Proofs.Try.isAgg112 w, Go.Proofs.Try.sizeOf112 w⟩) rfl hI2.k.c ?_
      refine O.len rfl rfl rfl rfl Go.Proofs.Try.underlying112 rfl ?_
      refine O.sub (((X.length : Nat) : Int)) rfl rfl rfl rfl rfl rfl (by omega) (by omega) ?_
      refine O.ix (j := X.length) rfl rfl rfl rfl Go.Proofs.Try.underlying112 Go.Proofs.Try.sizeOf103 rfl rfl (by omega) (by omega) ?_
      refine O.mv rfl rfl rfl rfl rfl ?_
      refine O.mv rfl rfl rfl rfl rfl ?_
      refine O.call rfl rfl rfl Go.Proofs.Try.call118 rfl (ih hrp) ?_
      rintro _ H3 ⟨b2, o2, c2, rfl, hs2, f2, p2⟩
      refine ⟨trivial, ?_⟩
      refine O.asg rfl rfl rfl rfl rfl ?_
      refine Pl.fin [(8, _)] ⟨rfl, trivial⟩ ?_
      refine Go'.ret (vs := [_]) Go.Proofs.Try.func118 Go.Proofs.Try.results118 ⟨rfl, trivial⟩ ?_
      replace p2 : b2 = b1 ∨ H2.size ≤ b2 := p2
      have hL : Gt.L (h + 1) ((g, X, K) : Gt EI (h + 1)) = Pl.pre X ((K.map (Gt.L h)).take X.length) ++ Gt.L h k := Pl.inter_last hKL (by rw [List.getElem?_map, hkk]; rfl)
      rw [List.take_length, List.append_assoc, ← List.map_append, ← hL] at hs2
      exact ⟨b2, o2, c2, by rw [List.take_length, List.append_assoc, ← List.map_append, ← hL]; rfl, hs2, hF.rp hb1 f2, by omega⟩

end Go.Bt
namespace Go.Bt
open Go Go.Proofs
set_option maxRecDepth 20000
set_option maxHeartbeats 4000000
set_option linter.unusedVariables false

theorem fields35 : Try.prog.underlying 35 = some (.struct (Try.prog.fieldsOf 35)) := by unfold Program.fieldsOf; rw [Try.underlying35]
theorem item_eq (d : Nat) (x : Int × Int) (w : World) : (Op.equalIn (d + 2) 35 (.agg #[.int .i64 x.1, .int .i64 x.2]) (.agg #[.int .i64 x.1, .int .i64 x.2])).run Try.prog w = .ok true w := by
  rw [run_equalIn_agg w (d + 1) 35 _ _ fields35 Try.stoodInHeld35]
  simp [Op.eqFields, Program.fieldsOf, Try.underlying35, part, Try.isAgg3, run_equalIn_int w d 3 _ _ _ _ Try.underlying3]
def exl : List (Int × Int) := [(5, 1), (3, 2), (9, 3), (3, 4), (1, 5), (7, 6), (8, 7)]
theorem exItems_spec {B : World} {H : Mem} : Fn Try.prog B 15 [] H (fun r H' => InS EJ H' r exl ∧ Fr nowhere H H') := by
  refine fn_of Go.Proofs.Try.func15 rfl Go.Proofs.Try.ntmps15 ?_
  refine (show Go' _ _ _ _ 9 [] [.code _] _ from ?_)
  refine Go'.seq ?_
  -- region 0 (help.go:72)
  refine Go'.region [(0, 0)] rfl ?_
  refine O.asg rfl rfl rfl rfl rfl ?_
  refine Pl.fin [(0, _)] ⟨rfl, trivial⟩ ?_
  refine Go'.seq ?_
  -- region 1 (help.go:73)
  refine Go'.region [(0, 0), (1, 0), (2, 0), (3, 0), (4, 0), (5, 0), (6, 0), (7, 2), (8, 0)] rfl ?_
  refine O.bld (cs := [.int .i64 5, .int .i64 1]) rfl rfl rfl rfl (st35) rfl (by kernel_rfl) ?_
  refine O.bld (cs := [.int .i64 3, .int .i64 2]) rfl rfl rfl rfl (st35) rfl (by kernel_rfl) ?_
  refine O.bld (cs := [.int .i64 9, .int .i64 3]) rfl rfl rfl rfl (st35) rfl (by kernel_rfl) ?_
  refine O.bld (cs := [.int .i64 3, .int .i64 4]) rfl rfl rfl rfl (st35) rfl (by kernel_rfl) ?_
  refine O.bld (cs := [.int .i64 1, .int .i64 5]) rfl rfl rfl rfl (st35) rfl (by kernel_rfl) ?_
  refine O.bld (cs := [.int .i64 7, .int .i64 6]) rfl rfl rfl rfl (st35) rfl (by kernel_rfl) ?_
  refine O.bld (cs := [.int .i64 8, .int .i64 7]) rfl rfl rfl rfl (st35) rfl (by kernel_rfl) ?_
  refine O.bsl (cs := (row EJ exl)) rfl rfl rfl ⟨Go.Proofs.Try.underlying22, Go.Proofs.Try.sizeOf35, Go.Proofs.Try.zeroValue35, ⟨_, Go.Proofs.Try.typeInfo35, rfl⟩, rfl, by decide, by decide⟩ rfl (by decide) (by kernel_rfl) ?_
  intro H1 M1
  refine ⟨trivial, ?_⟩
  refine O.asg rfl rfl rfl rfl rfl ?_
  refine Pl.fin [(0, _)] ⟨rfl, trivial⟩ ?_
  refine Go'.ret (vs := [_]) Go.Proofs.Try.func15 Go.Proofs.Try.results15 ⟨rfl, trivial⟩ ?_
  exact ⟨.inl ⟨H.size, 0, 7, rfl, by decide, M1.rd _ [] (by simp)⟩, M1.fr nowhere⟩

def fitsb (z : Int) : Bool := decide (z = 0) || (decide (2 ≤ z) && decide (z ≤ 128))
theorem fits_spec {B : World} {H : Mem} {z : Int} : Fn Try.prog B 16 [.int .i64 z] H (fun r H' => r = .bool (fitsb z) ∧ H' = H) := by
  refine fn_of Go.Proofs.Try.func16 rfl Go.Proofs.Try.ntmps16 ?_
  refine (show Go' _ _ _ _ 13 [(0, _)] [.code _] _ from ?_)
  refine Go'.seq ?_
  -- region 0 (tree.go:291)
  refine Go'.region [(0, 0)] rfl ?_
  refine O.asg rfl rfl rfl rfl rfl ?_
  refine Pl.fin [(0, _), (2, _)] ⟨rfl, rfl, trivial⟩ ?_
  refine Go'.seq ?_
  by_cases h0 : z = 0
  · skip
    -- region 1 (tree.go:291)
    refine Go'.region [(0, 0), (1, 0), (2, 0), (3, 0), (4, 0), (5, 0), (6, 0), (7, 0), (8, 0), (9, 0), (10, 0)] rfl ?_
    refine O.mv rfl rfl rfl rfl rfl ?_
    refine O.cmp rfl rfl rfl rfl rfl rfl (eqlT (by omega)) ?_
    refine O.mv rfl rfl rfl rfl rfl ?_
    refine Pl.pass rfl rfl rfl rfl ?_
    refine Pl.pass rfl rfl rfl rfl ?_
    refine Pl.pass rfl rfl rfl rfl ?_
    refine Pl.pass rfl rfl rfl rfl ?_
    refine Pl.pass rfl rfl rfl rfl ?_
    refine Pl.pass rfl rfl rfl rfl ?_
    refine O.pick rfl rfl rfl rfl rfl rfl ?_
    refine O.asg rfl rfl rfl rfl rfl ?_
    refine Pl.fin [(2, _)] ⟨rfl, trivial⟩ ?_
    refine Go'.ret (vs := [_]) Go.Proofs.Try.func16 Go.Proofs.Try.results16 ⟨rfl, trivial⟩ ?_
    subst h0; exact ⟨rfl, rfl⟩
  by_cases h2 : 2 ≤ z
  · skip
    by_cases h3 : z ≤ 128
    · skip
      -- region 1 (tree.go:291)
      refine Go'.region [(0, 0), (1, 0), (2, 0), (3, 0), (4, 0), (5, 0), (6, 0), (7, 0), (8, 0), (9, 0), (10, 0)] rfl ?_
      refine O.mv rfl rfl rfl rfl rfl ?_
      refine O.cmp rfl rfl rfl rfl rfl rfl (eqlF (by omega)) ?_
      refine O.mv rfl rfl rfl rfl rfl ?_
      refine O.mv rfl rfl rfl rfl rfl ?_
      refine O.cmp rfl rfl rfl rfl rfl rfl (geqT (by omega)) ?_
      refine O.mv rfl rfl rfl rfl rfl ?_
      refine O.mv rfl rfl rfl rfl rfl ?_
      refine O.cmp rfl rfl rfl rfl rfl rfl (leqT (by omega)) ?_
      refine O.pick rfl rfl rfl rfl rfl rfl ?_
      refine O.pick rfl rfl rfl rfl rfl rfl ?_
      refine O.asg rfl rfl rfl rfl rfl ?_
      refine Pl.fin [(2, _)] ⟨rfl, trivial⟩ ?_
      refine Go'.ret (vs := [_]) Go.Proofs.Try.func16 Go.Proofs.Try.results16 ⟨rfl, trivial⟩ ?_
      exact ⟨by unfold fitsb; rw [decide_eq_false h0, decide_eq_true h2, decide_eq_true h3]; rfl, rfl⟩
    · skip
      -- region 1 (tree.go:291)
      refine Go'.region [(0, 0), (1, 0), (2, 0), (3, 0), (4, 0), (5, 0), (6, 0), (7, 0), (8, 0), (9, 0), (10, 0)] rfl ?_
      refine O.mv rfl rfl rfl rfl rfl ?_
      refine O.cmp rfl rfl rfl rfl rfl rfl (eqlF (by omega)) ?_
      refine O.mv rfl rfl rfl rfl rfl ?_
      refine O.mv rfl rfl rfl rfl rfl ?_
      refine O.cmp rfl rfl rfl rfl rfl rfl (geqT (by omega)) ?_
      refine O.mv rfl rfl rfl rfl rfl ?_
      refine O.mv rfl rfl rfl rfl rfl ?_
      refine O.cmp rfl rfl rfl rfl rfl rfl (leqF (by omega)) ?_
      refine O.pick rfl rfl rfl rfl rfl rfl ?_
      refine O.pick rfl rfl rfl rfl rfl rfl ?_
      refine O.asg rfl rfl rfl rfl rfl ?_
      refine Pl.fin [(2, _)] ⟨rfl, trivial⟩ ?_
      refine Go'.ret (vs := [_]) Go.Proofs.Try.func16 Go.Proofs.Try.results16 ⟨rfl, trivial⟩ ?_
      exact ⟨by unfold fitsb; rw [decide_eq_false h0, decide_eq_true h2, decide_eq_false h3]; rfl, rfl⟩
  · skip
    -- region 1 (tree.go:291)
    refine Go'.region [(0, 0), (1, 0), (2, 0), (3, 0), (4, 0), (5, 0), (6, 0), (7, 0), (8, 0), (9, 0), (10, 0)] rfl ?_
    refine O.mv rfl rfl rfl rfl rfl ?_
    refine O.cmp rfl rfl rfl rfl rfl rfl (eqlF (by omega)) ?_
    refine O.mv rfl rfl rfl rfl rfl ?_
    refine O.mv rfl rfl rfl rfl rfl ?_
    refine O.cmp rfl rfl rfl rfl rfl rfl (geqF (by omega)) ?_
    refine O.mv rfl rfl rfl rfl rfl ?_
    refine Pl.pass rfl rfl rfl rfl ?_
    refine Pl.pass rfl rfl rfl rfl ?_
    refine O.pick rfl rfl rfl rfl rfl rfl ?_
    refine O.pick rfl rfl rfl rfl rfl rfl ?_
    refine O.asg rfl rfl rfl rfl rfl ?_
    refine Pl.fin [(2, _)] ⟨rfl, trivial⟩ ?_
    refine Go'.ret (vs := [_]) Go.Proofs.Try.func16 Go.Proofs.Try.results16 ⟨rfl, trivial⟩ ?_
    exact ⟨by unfold fitsb; rw [decide_eq_false h0, decide_eq_false h2]; rfl, rfl⟩

end Go.Bt
namespace Go.Bt
open Go Go.Proofs
set_option maxRecDepth 20000
set_option maxHeartbeats 4000000
set_option linter.unusedVariables false

theorem fits_spec' {B : World} {H : Mem} {z : Int} {b : Bool} (h : fitsb z = b) : Fn Try.prog B 16 [.int .i64 z] H (fun r H' => r = .bool b ∧ H' = H) := h ▸ fits_spec
end Go.Bt
