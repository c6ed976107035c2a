/- Contracts of functions of the program, proved by walking through their code. Conditions: those that each theorem names. -/
import Derived.Laws.StructEq
import Derived.Test.YtgmmhpmchibakaaTosB
namespace Go.Bt
open Go Go.Proofs
set_option maxRecDepth 20000
set_option maxHeartbeats 4000000
set_option linter.unusedVariables false

end Go.Bt
namespace Go.Bt
open Go Go.Proofs
set_option maxRecDepth 20000
set_option maxHeartbeats 4000000
set_option linter.unusedVariables false

theorem Gt.Good.some {H : Mem} {P : Ps} : ∀ {h : Nat} {t : Gt EI h}, Gt.Good H P h t → 1 ≤ (Gt.X h t).length → 1 ≤ (Gt.L h t).length
  | 0, _, _, h1 => h1
  | h + 1, (g, X, K), hg, h1 => Nat.le_trans h1 (Pl.sublist_inter X (K.map (Gt.L h)) (by have := hg.2.2.2.2.2.1; simp only at this; rw [List.length_map, this]; omega)).length_le

theorem growMap_spec {B : World} {H : Mem} {d : Nat} {u : Value} {l : List (Int × Int)} (hd : 2 ≤ d ∧ d ≤ 128) (hi : InS EJ H u l) (hll : l.length ≤ 4294967296) :
    Fn Try.prog B 52 [.int .i64 (d : Int), u] H (fun r H' => ∃ tr S, r = ptr tr ∧ MapM H' tr ⟨0, 2 * d - 1, d - 1⟩ S (Pl.puts OI l) ∧ Fr nowhere H H' ∧ ∀ b, S b → H.size ≤ b) := by
  have hP : PsOk ⟨0, 2 * d - 1, d - 1⟩ := ⟨by show 2 * d - 1 = 2 * (d - 1) + 1; omega, by show 1 ≤ d - 1; omega, by show 2 * d - 1 ≤ 255; omega⟩
  obtain ⟨a, c, hu⟩ := hi.len
  subst hu
  refine fn_of Go.Proofs.Try.func52 rfl Go.Proofs.Try.ntmps52 ?_
  refine (show Go' _ _ _ _ 24 [(0, _), (1, _)] [.code _] _ from ?_)
  refine Go'.seq ?_
  -- region 0 (map.go:12)
  refine Go'.region [(0, 0)] rfl ?_
  refine O.asg rfl rfl rfl rfl rfl ?_
  refine Pl.fin [(0, _), (1, _), (4, _)] ⟨rfl, rfl, rfl, trivial⟩ ?_
  refine Go'.seq ?_
  -- region 1 (map.go:13)
  refine Go'.region [(0, 0), (1, 2), (2, 0)] rfl ?_
  refine O.mv rfl rfl rfl rfl rfl ?_
  refine O.call rfl rfl rfl Go.Proofs.Try.call84 rfl (newMap_spec hd) ?_
  rintro _ H1 ⟨rfl, hs1, hF1, hM1⟩
  unfold ptr
  refine ⟨trivial, ?_⟩
  refine O.asg rfl rfl rfl rfl rfl ?_
  refine Pl.fin [(1, _), (4, _), (5, _)] ⟨rfl, rfl, rfl, trivial⟩ ?_
  refine Go'.seq ?_
  refine Go'.seq ?_
  -- region 2 (map.go:14)
  refine Go'.region [(0, 0), (1, 0), (2, 0)] rfl ?_
  refine O.mv rfl rfl rfl rfl rfl ?_
  refine O.len rfl rfl rfl rfl Go.Proofs.Try.underlying22 rfl ?_
  refine O.mv rfl rfl rfl rfl rfl ?_
  refine Pl.fin [(4, _), (5, _), (10, _), (11, _), (12, _)] ⟨rfl, rfl, rfl, rfl, rfl, trivial⟩ ?_
  refine Go'.block ?_
  refine Go'.loop ?_
  refine Go'.keep [(5, _), (10, _), (11, _), (12, _)] ⟨rfl, rfl, rfl, rfl, trivial⟩ ?_
  refine Go'.ind (σ := Nat) (fun j => l.length - j) (fun j H' => Fr nowhere H H' ∧ j ≤ l.length ∧ ∃ S, MapM H' H.size ⟨0, 2 * d - 1, d - 1⟩ S (Pl.puts OI (l.take j)) ∧ ∀ b, S b → H.size ≤ b)
    (fun j => [(5, .pointer (some ⟨H.size, 0, none⟩)), (10, .slice a l.length c), (11, .int .i64 (l.length : Int)), (12, .int .i64 (j : Int))]) 0 ⟨hF1, Nat.zero_le _, _, hM1, fun b hb => by omega⟩ rfl ?_
  rintro j H2 ⟨hF, hjl, S, hM, hS⟩ ih
  have hi2 := hi.fr hF
  refine Go'.seq ?_
  by_cases hlt : j < l.length
  · skip
    obtain ⟨y, hy⟩ : ∃ y, l[j]? = some y := ⟨l[j], List.getElem?_eq_getElem hlt⟩
    obtain ⟨b, o, c', e, hr⟩ := hi2.at hy
    cases e
    have hpl := Pl.puts_length OI (l.take j)
    have hSn : ∀ b, H2.size ≤ b → ¬ S b := fun b hb hs => by have := hM.lt b hs; omega
    rw [List.length_take] at hpl
    -- region 3 (map.go:14)
    refine Go'.region [(0, 0)] rfl ?_
    refine O.cmp rfl rfl rfl rfl rfl rfl (lssT (by omega)) ?_
    refine Pl.fin [(5, _), (10, _), (11, _), (12, _), (13, _)] ⟨rfl, rfl, rfl, rfl, rfl, trivial⟩ ?_
    refine Go'.seq ?_
    refine Go'.condT rfl ?_
    refine Go'.skip ?_
    refine Go'.seq ?_
    refine Go'.block ?_
    refine Go'.seq ?_
    -- region 4 (map.go:14)
    refine Go'.region [(0, 0), (1, 1), (2, 2), (3, 2)] rfl ?_
    refine O.ix (j := j) rfl rfl rfl rfl Go.Proofs.Try.underlying22 Go.Proofs.Try.sizeOf35 rfl rfl (by omega) hlt ?_
    refine O.lds rfl rfl rfl (fun w => ⟨Go.Proofs.Try.isAgg35 w, Go.Proofs.Try.sizeOf35 w⟩) rfl rfl hr ?_
    refine O.alloc rfl rfl rfl Go.Proofs.Try.zeroValue35 ?_
    intro H3 M3
    refine ⟨trivial, ?_⟩
    have hs3 := M3.size
    replace hM := hM.fr (M3.fr nowhere) (fun _ _ _ => nw)
    have m7 : Wr H3 H2.size 0 2 := M3.wr 2 (by decide)
    have hlt2 : ∀ b, S b → b < H2.size := fun b hb => by
      rcases Nat.lt_or_ge b H2.size with h | h
      · exact h
      · exact absurd hb (hSn b h)
    refine O.st rfl rfl Go.Proofs.Try.sizeOf35 rfl rfl rfl rfl rfl m7 ?_
    intro H4 W4
    have hs4 := W4.size
    replace hM := hM.fr W4.fr (fun b o hb hz => by have h1 := hz.1; have h2 := hlt2 b hb; omega)
    have hf4 : Fr nowhere H H4 := hF.trans' ((M3.fr nowhere).trans' W4.fr (Z := nowhere) (fun _ _ _ h => h) (fun b o hb hz => by have h1 := hz.1; omega)) (fun _ _ _ h => h) (fun _ _ _ h => h)
    have k0 : cl H4 H2.size 0 = some (.int .i64 y.1) := W4.all 0 _ rfl
    have k1 : cl H4 H2.size 1 = some (.int .i64 y.2) := W4.all 1 _ rfl
    refine ⟨trivial, ?_⟩
    refine Pl.fin [(5, _), (7, _), (10, _), (11, _), (12, _), (13, _)] ⟨rfl, rfl, rfl, rfl, rfl, rfl, trivial⟩ ?_
    -- region 5 (map.go:15)
    refine Go'.region [(0, 0), (1, 0), (2, 1), (3, 0), (4, 1), (5, 2)] rfl ?_
    refine O.mv rfl rfl rfl rfl rfl ?_
    refine O.faz rfl rfl rfl rfl ⟨_, _, _, Go.Proofs.Try.underlying35, rfl, rfl, Go.Proofs.Try.sizeOf3⟩ rfl ?_
    refine O.ld rfl rfl rfl (fun w => ⟨Go.Proofs.Try.isAgg3 w, Go.Proofs.Try.sizeOf3 w⟩) rfl k0 ?_
    refine O.fa0 (off := 1) rfl rfl rfl rfl ⟨_, _, _, Go.Proofs.Try.underlying35, rfl, rfl, Go.Proofs.Try.sizeOf3⟩ rfl ?_
    refine O.ld rfl rfl rfl (fun w => ⟨Go.Proofs.Try.isAgg3 w, Go.Proofs.Try.sizeOf3 w⟩) rfl k1 ?_
    refine O.call rfl rfl rfl Go.Proofs.Try.call56 rfl (mset_spec hP (x := y) hM (by omega)) ?_
    rintro _ H5 ⟨rfl, S', hM', hF', hS'⟩
    refine ⟨trivial, ?_⟩
    refine Pl.fin [(5, _), (7, _), (10, _), (11, _), (12, _), (13, _)] ⟨rfl, rfl, rfl, rfl, rfl, rfl, trivial⟩ ?_
    refine Go'.inBlock ?_
    -- region 6 (map.go:14)
    refine Go'.region [(0, 0), (1, 0)] rfl ?_
    refine O.add (((j + 1 : Nat) : Int)) rfl rfl rfl rfl rfl rfl (by omega) (by omega) ?_
    refine O.mv rfl rfl rfl rfl rfl ?_
    refine Pl.fin [(5, _), (7, _), (10, _), (11, _), (12, _), (13, _)] ⟨rfl, rfl, rfl, rfl, rfl, rfl, trivial⟩ ?_
    refine Go'.keep [(5, _), (10, _), (11, _), (12, _)] ⟨rfl, rfl, rfl, rfl, trivial⟩ ?_
    refine Go'.inLoop ?_
    exact ih (j + 1) H5 ⟨hf4.trans' hF' (fun _ _ _ h => h) (fun b o hb hz => by have h1 := hS b hz; omega), hlt, S', by
      rw [List.take_add_one, hy]
      rw [← Pl.puts_snoc] at hM'
      exact hM', fun b hb => (hS' b hb).elim (hS b) (fun h => by have := hf4.size; omega)⟩ (by omega)
  · skip
    obtain rfl : j = l.length := by omega
    -- region 3 (map.go:14)
    refine Go'.region [(0, 0)] rfl ?_
    refine O.cmp rfl rfl rfl rfl rfl rfl (lssF (by omega)) ?_
    refine Pl.fin [(5, _), (10, _), (11, _), (12, _), (13, _)] ⟨rfl, rfl, rfl, rfl, rfl, trivial⟩ ?_
    refine Go'.seq ?_
    refine Go'.condF rfl ?_
    refine Go'.exit rfl ?_
    refine Go'.seq ?_
    -- region 7 (map.go:17)
    refine Go'.region [(0, 0), (1, 0)] rfl ?_
    refine O.mv rfl rfl rfl rfl rfl ?_
    refine O.asg rfl rfl rfl rfl rfl ?_
    refine Pl.fin [(4, _)] ⟨rfl, trivial⟩ ?_
    refine Go'.ret (vs := [_]) Go.Proofs.Try.func52 Go.Proofs.Try.results52 ⟨rfl, trivial⟩ ?_
    rw [List.take_length] at hM
    exact ⟨H.size, S, rfl, hM, hF, hS⟩

end Go.Bt
namespace Go.Bt
open Go Go.Proofs
set_option maxRecDepth 20000
set_option maxHeartbeats 4000000
set_option linter.unusedVariables false

namespace Pl
theorem pre_snoc {α : Type} : ∀ (X : List α) (K : List (List α)) (x : α) (k : List α), X.length = K.length → pre (X ++ [x]) (K ++ [k]) = pre X K ++ (k ++ [x])
  | [], [], x, k, _ => by simp [pre]
  | y :: X, l :: K, x, k, h => by
    simp only [List.cons_append, pre]
    rw [pre_snoc X K x k (by simpa using h)]
    simp
  | [], _ :: _, _, _, h => by simp at h
  | _ :: _, [], _, _, h => by simp at h
theorem inter_last {α : Type} {X : List α} {K : List (List α)} {k : List α} (hl : K.length = X.length + 1) (hk : K[X.length]? = some k) : inter X K = pre X (K.take X.length) ++ k := by
  have hsp : K = K.take X.length ++ [k] := by
    have h1 := (List.getElem?_eq_some_iff.1 hk)
    obtain ⟨h1, h2⟩ := h1
    conv => lhs; rw [← List.take_append_drop X.length K]
    rw [← List.getElem_cons_drop (h := h1), h2, List.drop_of_length_le (by omega)]
  have := inter_focus X [] (K.take X.length) k [] (by rw [List.length_take]; omega) rfl
  rw [List.append_nil] at this
  rw [hsp] at this ⊢
  simp only [post, List.append_nil] at this
  rw [show (List.take X.length K ++ [k]).take X.length = K.take X.length by rw [List.take_append_of_le_length (by rw [List.length_take]; omega), List.take_take, Nat.min_self]]
  rw [show (List.take X.length K ++ [k]).take X.length = K.take X.length by rw [List.take_append_of_le_length (by rw [List.length_take]; omega), List.take_take, Nat.min_self]] at this
  exact this
end Pl
/-- What a reader of a tree is called with that appends to a slice. -/
structure RPre {β : Type} (E : Elt β) (H : Mem) (tr : Nat) (P : Ps) (h : Nat) (t : Gt EI h) (bp op b o c : Nat) (acc : List β) : Prop where
  tc : TrC H tr P.iso P.mx P.mn
  g : Gt.Good H P h t
  cel : cl H bp op = some (ptr (Gt.p h t))
  nb : ∀ o, ¬ Gt.af h t b o
  np : bp ≠ b
  nt : tr ≠ b
  sl : SlE E H b o c acc
  len : acc.length + (Gt.L h t).length ≤ 4294967296
theorem App.rp {H H' : Mem} {b o len c m s : Nat} {xs news : List Value} {b' o' c' : Nat} (ha : App H H' b o len c m s xs news b' o' c') : Fr (fun b1 _ => b1 = b) H H' ∧ (b' = b ∨ H.size ≤ b') :=
  ⟨ha.fr.mono fun b1 o1 _ hz => hz.1, by rcases ha.place with ⟨h, _⟩ | ⟨h, _⟩ <;> omega⟩
theorem Fr.rp {b b1 : Nat} {H H1 H2 : Mem} (h1 : Fr (fun x _ => x = b) H H1) (hb : b1 = b ∨ H.size ≤ b1) (h2 : Fr (fun x _ => x = b1) H1 H2) : Fr (fun x _ => x = b) H H2 :=
  h1.trans' h2 (fun _ _ _ h => h) fun x o hx h => by have h' : x = b1 := h; rcases hb with hb | hb <;> omega

end Go.Bt
namespace Go.Bt
open Go Go.Proofs
set_option maxRecDepth 20000
set_option maxHeartbeats 4000000
set_option linter.unusedVariables false

theorem fields35 : Try.prog.underlying 35 = some (.struct (Try.prog.fieldsOf 35)) := by unfold Program.fieldsOf; rw [Try.underlying35]
theorem item_eq (d : Nat) (x : Int × Int) (w : World) : (Op.equalIn (d + 2) 35 (.agg #[.int .i64 x.1, .int .i64 x.2]) (.agg #[.int .i64 x.1, .int .i64 x.2])).run Try.prog w = .ok true w := by
  rw [run_equalIn_agg w (d + 1) 35 _ _ fields35 Try.stoodInHeld35]
  simp [Op.eqFields, Program.fieldsOf, Try.underlying35, part, Try.isAgg3, run_equalIn_int w d 3 _ _ _ _ Try.underlying3]
def exl : List (Int × Int) := [(5, 1), (3, 2), (9, 3), (3, 4), (1, 5), (7, 6), (8, 7)]
theorem exItems_spec {B : World} {H : Mem} : Fn Try.prog B 15 [] H (fun r H' => InS EJ H' r exl ∧ Fr nowhere H H') := by
  refine fn_of Go.Proofs.Try.func15 rfl Go.Proofs.Try.ntmps15 ?_
  refine (show Go' _ _ _ _ 9 [] [.code _] _ from ?_)
  refine Go'.seq ?_
  -- region 0 (help.go:72)
  refine Go'.region [(0, 0)] rfl ?_
  refine O.asg rfl rfl rfl rfl rfl ?_
  refine Pl.fin [(0, _)] ⟨rfl, trivial⟩ ?_
  refine Go'.seq ?_
  -- region 1 (help.go:73)
  refine Go'.region [(0, 0), (1, 0), (2, 0), (3, 0), (4, 0), (5, 0), (6, 0), (7, 2), (8, 0)] rfl ?_
  refine O.bld (cs := [.int .i64 5, .int .i64 1]) rfl rfl rfl rfl (st35) rfl (by kernel_rfl) ?_
  refine O.bld (cs := [.int .i64 3, .int .i64 2]) rfl rfl rfl rfl (st35) rfl (by kernel_rfl) ?_
  refine O.bld (cs := [.int .i64 9, .int .i64 3]) rfl rfl rfl rfl (st35) rfl (by kernel_rfl) ?_
  refine O.bld (cs := [.int .i64 3, .int .i64 4]) rfl rfl rfl rfl (st35) rfl (by kernel_rfl) ?_
  refine O.bld (cs := [.int .i64 1, .int .i64 5]) rfl rfl rfl rfl (st35) rfl (by kernel_rfl) ?_
  refine O.bld (cs := [.int .i64 7, .int .i64 6]) rfl rfl rfl rfl (st35) rfl (by kernel_rfl) ?_
  refine O.bld (cs := [.int .i64 8, .int .i64 7]) rfl rfl rfl rfl (st35) rfl (by kernel_rfl) ?_
  refine O.bsl (cs := (row EJ exl)) rfl rfl rfl ⟨Go.Proofs.Try.underlying22, Go.Proofs.Try.sizeOf35, Go.Proofs.Try.zeroValue35, ⟨_, Go.Proofs.Try.typeInfo35, rfl⟩, rfl, by decide, by decide⟩ rfl (by decide) (by kernel_rfl) ?_
  intro H1 M1
  refine ⟨trivial, ?_⟩
  refine O.asg rfl rfl rfl rfl rfl ?_
  refine Pl.fin [(0, _)] ⟨rfl, trivial⟩ ?_
  refine Go'.ret (vs := [_]) Go.Proofs.Try.func15 Go.Proofs.Try.results15 ⟨rfl, trivial⟩ ?_
  exact ⟨.inl ⟨H.size, 0, 7, rfl, by decide, M1.rd _ [] (by simp)⟩, M1.fr nowhere⟩

def fitsb (z : Int) : Bool := decide (z = 0) || (decide (2 ≤ z) && decide (z ≤ 128))
theorem fits_spec {B : World} {H : Mem} {z : Int} : Fn Try.prog B 16 [.int .i64 z] H (fun r H' => r = .bool (fitsb z) ∧ H' = H) := by
  refine fn_of Go.Proofs.Try.func16 rfl Go.Proofs.Try.ntmps16 ?_
  refine (show Go' _ _ _ _ 13 [(0, _)] [.code _] _ from ?_)
  refine Go'.seq ?_
  -- region 0 (tree.go:291)
  refine Go'.region [(0, 0)] rfl ?_
  refine O.asg rfl rfl rfl rfl rfl ?_
  refine Pl.fin [(0, _), (2, _)] ⟨rfl, rfl, trivial⟩ ?_
  refine Go'.seq ?_
  by_cases h0 : z = 0
  · skip
    -- region 1 (tree.go:291)
    refine Go'.region [(0, 0), (1, 0), (2, 0), (3, 0), (4, 0), (5, 0), (6, 0), (7, 0), (8, 0), (9, 0), (10, 0)] rfl ?_
    refine O.mv rfl rfl rfl rfl rfl ?_
    refine O.cmp rfl rfl rfl rfl rfl rfl (eqlT (by omega)) ?_
    refine O.mv rfl rfl rfl rfl rfl ?_
    refine Pl.pass rfl rfl rfl rfl ?_
    refine Pl.pass rfl rfl rfl rfl ?_
    refine Pl.pass rfl rfl rfl rfl ?_
    refine Pl.pass rfl rfl rfl rfl ?_
    refine Pl.pass rfl rfl rfl rfl ?_
    refine Pl.pass rfl rfl rfl rfl ?_
    refine O.pick rfl rfl rfl rfl rfl rfl ?_
    refine O.asg rfl rfl rfl rfl rfl ?_
    refine Pl.fin [(2, _)] ⟨rfl, trivial⟩ ?_
    refine Go'.ret (vs := [_]) Go.Proofs.Try.func16 Go.Proofs.Try.results16 ⟨rfl, trivial⟩ ?_
    subst h0; exact ⟨rfl, rfl⟩
  by_cases h2 : 2 ≤ z
  · skip
    by_cases h3 : z ≤ 128
    · skip
      -- region 1 (tree.go:291)
      refine Go'.region [(0, 0), (1, 0), (2, 0), (3, 0), (4, 0), (5, 0), (6, 0), (7, 0), (8, 0), (9, 0), (10, 0)] rfl ?_
      refine O.mv rfl rfl rfl rfl rfl ?_
      refine O.cmp rfl rfl rfl rfl rfl rfl (eqlF (by omega)) ?_
      refine O.mv rfl rfl rfl rfl rfl ?_
      refine O.mv rfl rfl rfl rfl rfl ?_
      refine O.cmp rfl rfl rfl rfl rfl rfl (geqT (by omega)) ?_
      refine O.mv rfl rfl rfl rfl rfl ?_
      refine O.mv rfl rfl rfl rfl rfl ?_
      refine O.cmp rfl rfl rfl rfl rfl rfl (leqT (by omega)) ?_
      refine O.pick rfl rfl rfl rfl rfl rfl ?_
      refine O.pick rfl rfl rfl rfl rfl rfl ?_
      refine O.asg rfl rfl rfl rfl rfl ?_
      refine Pl.fin [(2, _)] ⟨rfl, trivial⟩ ?_
      refine Go'.ret (vs := [_]) Go.Proofs.Try.func16 Go.Proofs.Try.results16 ⟨rfl, trivial⟩ ?_
      exact ⟨by unfold fitsb; rw [decide_eq_false h0, decide_eq_true h2, decide_eq_true h3]; rfl, rfl⟩
    · skip
      -- region 1 (tree.go:291)
      refine Go'.region [(0, 0), (1, 0), (2, 0), (3, 0), (4, 0), (5, 0), (6, 0), (7, 0), (8, 0), (9, 0), (10, 0)] rfl ?_
      refine O.mv rfl rfl rfl rfl rfl ?_
      refine O.cmp rfl rfl rfl rfl rfl rfl (eqlF (by omega)) ?_
      refine O.mv rfl rfl rfl rfl rfl ?_
      refine O.mv rfl rfl rfl rfl rfl ?_
      refine O.cmp rfl rfl rfl rfl rfl rfl (geqT (by omega)) ?_
      refine O.mv rfl rfl rfl rfl rfl ?_
      refine O.mv rfl rfl rfl rfl rfl ?_
      refine O.cmp rfl rfl rfl rfl rfl rfl (leqF (by omega)) ?_
      refine O.pick rfl rfl rfl rfl rfl rfl ?_
      refine O.pick rfl rfl rfl rfl rfl rfl ?_
      refine O.asg rfl rfl rfl rfl rfl ?_
      refine Pl.fin [(2, _)] ⟨rfl, trivial⟩ ?_
      refine Go'.ret (vs := [_]) Go.Proofs.Try.func16 Go.Proofs.Try.results16 ⟨rfl, trivial⟩ ?_
      exact ⟨by unfold fitsb; rw [decide_eq_false h0, decide_eq_true h2, decide_eq_false h3]; rfl, rfl⟩
  · skip
    -- region 1 (tree.go:291)
    refine Go'.region [(0, 0), (1, 0), (2, 0), (3, 0), (4, 0), (5, 0), (6, 0), (7, 0), (8, 0), (9, 0), (10, 0)] rfl ?_
    refine O.mv rfl rfl rfl rfl rfl ?_
    refine O.cmp rfl rfl rfl rfl rfl rfl (eqlF (by omega)) ?_
    refine O.mv rfl rfl rfl rfl rfl ?_
    refine O.mv rfl rfl rfl rfl rfl ?_
    refine O.cmp rfl rfl rfl rfl rfl rfl (geqF (by omega)) ?_
    refine O.mv rfl rfl rfl rfl rfl ?_
    refine Pl.pass rfl rfl rfl rfl ?_
    refine Pl.pass rfl rfl rfl rfl ?_
    refine O.pick rfl rfl rfl rfl rfl rfl ?_
    refine O.pick rfl rfl rfl rfl rfl rfl ?_
    refine O.asg rfl rfl rfl rfl rfl ?_
    refine Pl.fin [(2, _)] ⟨rfl, trivial⟩ ?_
    refine Go'.ret (vs := [_]) Go.Proofs.Try.func16 Go.Proofs.Try.results16 ⟨rfl, trivial⟩ ?_
    exact ⟨by unfold fitsb; rw [decide_eq_false h0, decide_eq_false h2]; rfl, rfl⟩

end Go.Bt
namespace Go.Bt
open Go Go.Proofs
set_option maxRecDepth 20000
set_option maxHeartbeats 4000000
set_option linter.unusedVariables false

theorem fits_spec' {B : World} {H : Mem} {z : Int} {b : Bool} (h : fitsb z = b) : Fn Try.prog B 16 [.int .i64 z] H (fun r H' => r = .bool b ∧ H' = H) := h ▸ fits_spec
end Go.Bt
