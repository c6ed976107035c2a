/- Contracts of functions of the program, proved by walking through their code. Conditions: those that each theorem names. -/
import Derived.Test.YtknkmaigdgfhlaaTowJ
import Derived.Test.YtknkmaigdgfhlaaToSo
namespace Go.Bt.FW
open Go Go.Proofs
set_option maxRecDepth 20000
set_option maxHeartbeats 4000000
set_option linter.unusedVariables false

/-- A word: its key and its value. -/
def EJ : Elt (Wk × Int) := { enc := fun x => [.string x.1, .int .i64 x.2], s := 2, len := fun _ => rfl, one := fun _ => rfl, pos := by decide }
def EB : Elt Bool := { enc := fun x => [.bool x], s := 1, len := fun _ => rfl, one := fun _ => rfl, pos := by decide }
theorem st54 : StT Try.prog 54 [(0, 1), (1, 1)] [.string ⟨#[]⟩, .int .i64 0] := ⟨⟨_, Try.underlying54, fun w => by simp [Array.mapM_eq_mapM_toList, Try.sizeOf3, Try.sizeOf9]⟩, Try.zeroValue54⟩
theorem App.rp {H H' : Mem} {b o len c m s : Nat} {xs news : List Value} {b' o' c' : Nat} (ha : App H H' b o len c m s xs news b' o' c') : Fr (fun b1 _ => b1 = b) H H' ∧ (b' = b ∨ H.size ≤ b') :=
  ⟨ha.fr.mono fun b1 o1 _ hz => hz.1, by rcases ha.place with ⟨h, _⟩ | ⟨h, _⟩ <;> omega⟩

theorem growWords_spec {B : World} {H : Mem} {d : Nat} {u : Value} {l : List (Wk × Int)} (hd : 2 ≤ d ∧ d ≤ 128) (hi : InS EJ H u l) (hll : l.length ≤ 4294967296) :
    Fn Try.prog B 71 [.int .i64 (d : Int), u] H (fun r H' => ∃ tr S, r = ptr tr ∧ MapM H' tr ⟨0, 2 * d - 1, d - 1⟩ S (Pl.puts OI l) ∧ Fr nowhere H H' ∧ ∀ b, S b → H.size ≤ b) := by
  have hP : PsOk ⟨0, 2 * d - 1, d - 1⟩ := ⟨by show 2 * d - 1 = 2 * (d - 1) + 1; omega, by show 1 ≤ d - 1; omega, by show 2 * d - 1 ≤ 255; omega⟩
  obtain ⟨a, c, hu⟩ := hi.len
  subst hu
  refine fn_of Go.Proofs.Try.func71 rfl Go.Proofs.Try.ntmps71 ?_
  refine (show Go' _ _ _ _ 24 [(0, _), (1, _)] [.code _] _ from ?_)
  refine Go'.seq ?_
  -- region 0 (set.go:12)
  refine Go'.region [(0, 0)] rfl ?_
  refine O.asg rfl rfl rfl rfl rfl ?_
  refine Pl.fin [(0, _), (1, _), (4, _)] ⟨rfl, rfl, rfl, trivial⟩ ?_
  refine Go'.seq ?_
  -- region 1 (set.go:13)
  refine Go'.region [(0, 0), (1, 2), (2, 0)] rfl ?_
  refine O.mv rfl rfl rfl rfl rfl ?_
  refine O.call rfl rfl rfl Go.Proofs.Try.call113 rfl (newMap_spec hd) ?_
  rintro _ H1 ⟨rfl, hs1, hF1, hM1⟩
  unfold ptr
  refine ⟨trivial, ?_⟩
  refine O.asg rfl rfl rfl rfl rfl ?_
  refine Pl.fin [(1, _), (4, _), (5, _)] ⟨rfl, rfl, rfl, trivial⟩ ?_
  refine Go'.seq ?_
  refine Go'.seq ?_
  -- region 2 (set.go:14)
  refine Go'.region [(0, 0), (1, 0), (2, 0)] rfl ?_
  refine O.mv rfl rfl rfl rfl rfl ?_
  refine O.len rfl rfl rfl rfl Go.Proofs.Try.underlying26 rfl ?_
  refine O.mv rfl rfl rfl rfl rfl ?_
  refine Pl.fin [(4, _), (5, _), (10, _), (11, _), (12, _)] ⟨rfl, rfl, rfl, rfl, rfl, trivial⟩ ?_
  refine Go'.block ?_
  refine Go'.loop ?_
  refine Go'.keep [(5, _), (10, _), (11, _), (12, _)] ⟨rfl, rfl, rfl, rfl, trivial⟩ ?_
  refine Go'.ind (σ := Nat) (fun j => l.length - j) (fun j H' => Fr nowhere H H' ∧ j ≤ l.length ∧ ∃ S, MapM H' H.size ⟨0, 2 * d - 1, d - 1⟩ S (Pl.puts OI (l.take j)) ∧ ∀ b, S b → H.size ≤ b)
    (fun j => [(5, .pointer (some ⟨H.size, 0, none⟩)), (10, .slice a l.length c), (11, .int .i64 (l.length : Int)), (12, .int .i64 (j : Int))]) 0 ⟨hF1, Nat.zero_le _, _, hM1, fun b hb => by omega⟩ rfl ?_
  rintro j H2 ⟨hF, hjl, S, hM, hS⟩ ih
  have hi2 := hi.fr hF
  refine Go'.seq ?_
  by_cases hlt : j < l.length
  · skip
    obtain ⟨y, hy⟩ : ∃ y, l[j]? = some y := ⟨l[j], List.getElem?_eq_getElem hlt⟩
    obtain ⟨b, o, c', e, hr⟩ := hi2.at hy
    cases e
    have hpl := Pl.puts_length OI (l.take j)
    have hSn : ∀ b, H2.size ≤ b → ¬ S b := fun b hb hs => by have := hM.lt b hs; omega
    rw [List.length_take] at hpl
    -- region 3 (set.go:14)
    refine Go'.region [(0, 0)] rfl ?_
    refine O.cmp rfl rfl rfl rfl rfl rfl (lssT (by omega)) ?_
    refine Pl.fin [(5, _), (10, _), (11, _), (12, _), (13, _)] ⟨rfl, rfl, rfl, rfl, rfl, trivial⟩ ?_
    refine Go'.seq ?_
    refine Go'.condT rfl ?_
    refine Go'.skip ?_
    refine Go'.seq ?_
    refine Go'.block ?_
    refine Go'.seq ?_
    -- region 4 (set.go:14)
    refine Go'.region [(0, 0), (1, 1), (2, 2), (3, 2)] rfl ?_
    refine O.ix (j := j) rfl rfl rfl rfl Go.Proofs.Try.underlying26 Go.Proofs.Try.sizeOf54 rfl rfl (by omega) hlt ?_
    refine O.lds rfl rfl rfl (fun w => ⟨Go.Proofs.Try.isAgg54 w, Go.Proofs.Try.sizeOf54 w⟩) rfl rfl hr ?_
    refine O.alloc rfl rfl rfl Go.Proofs.Try.zeroValue54 ?_
    intro H3 M3
    refine ⟨trivial, ?_⟩
    have hs3 := M3.size
    replace hM := hM.fr (M3.fr nowhere) (fun _ _ _ => nw)
    have m7 : Wr H3 H2.size 0 2 := M3.wr 2 (by decide)
    have hlt2 : ∀ b, S b → b < H2.size := fun b hb => by
      rcases Nat.lt_or_ge b H2.size with h | h
      · exact h
      · exact absurd hb (hSn b h)
    refine O.st rfl rfl Go.Proofs.Try.sizeOf54 rfl rfl rfl rfl rfl m7 ?_
    intro H4 W4
    have hs4 := W4.size
    replace hM := hM.fr W4.fr (fun b o hb hz => by have h1 := hz.1; have h2 := hlt2 b hb; omega)
    have hf4 : Fr nowhere H H4 := hF.trans' ((M3.fr nowhere).trans' W4.fr (Z := nowhere) (fun _ _ _ h => h) (fun b o hb hz => by have h1 := hz.1; omega)) (fun _ _ _ h => h) (fun _ _ _ h => h)
    have k0 : cl H4 H2.size 0 = some (.string y.1) := W4.all 0 _ rfl
    have k1 : cl H4 H2.size 1 = some (.int .i64 y.2) := W4.all 1 _ rfl
    refine ⟨trivial, ?_⟩
    refine Pl.fin [(5, _), (7, _), (10, _), (11, _), (12, _), (13, _)] ⟨rfl, rfl, rfl, rfl, rfl, rfl, trivial⟩ ?_
    -- region 5 (set.go:15)
    refine Go'.region [(0, 0), (1, 0), (2, 1), (3, 0), (4, 1), (5, 2)] rfl ?_
    refine O.mv rfl rfl rfl rfl rfl ?_
    refine O.faz rfl rfl rfl rfl ⟨_, _, _, Go.Proofs.Try.underlying54, rfl, rfl, Go.Proofs.Try.sizeOf9⟩ rfl ?_
    refine O.ld rfl rfl rfl (fun w => ⟨Go.Proofs.Try.isAgg9 w, Go.Proofs.Try.sizeOf9 w⟩) rfl k0 ?_
    refine O.fa0 (off := 1) rfl rfl rfl rfl ⟨_, _, _, Go.Proofs.Try.underlying54, rfl, rfl, Go.Proofs.Try.sizeOf3⟩ rfl ?_
    refine O.ld rfl rfl rfl (fun w => ⟨Go.Proofs.Try.isAgg3 w, Go.Proofs.Try.sizeOf3 w⟩) rfl k1 ?_
    refine O.call rfl rfl rfl Go.Proofs.Try.call93 rfl (mset_spec hP (x := y) hM (by omega)) ?_
    rintro _ H5 ⟨rfl, S', hM', hF', hS'⟩
    refine ⟨trivial, ?_⟩
    refine Pl.fin [(5, _), (7, _), (10, _), (11, _), (12, _), (13, _)] ⟨rfl, rfl, rfl, rfl, rfl, rfl, trivial⟩ ?_
    refine Go'.inBlock ?_
    -- region 6 (set.go:14)
    refine Go'.region [(0, 0), (1, 0)] rfl ?_
    refine O.add (((j + 1 : Nat) : Int)) rfl rfl rfl rfl rfl rfl (by omega) (by omega) ?_
    refine O.mv rfl rfl rfl rfl rfl ?_
    refine Pl.fin [(5, _), (7, _), (10, _), (11, _), (12, _), (13, _)] ⟨rfl, rfl, rfl, rfl, rfl, rfl, trivial⟩ ?_
    refine Go'.keep [(5, _), (10, _), (11, _), (12, _)] ⟨rfl, rfl, rfl, rfl, trivial⟩ ?_
    refine Go'.inLoop ?_
    exact ih (j + 1) H5 ⟨hf4.trans' hF' (fun _ _ _ h => h) (fun b o hb hz => by have h1 := hS b hz; omega), hlt, S', by
      rw [List.take_add_one, hy]
      rw [← Pl.puts_snoc] at hM'
      exact hM', fun b hb => (hS' b hb).elim (hS b) (fun h => by have := hf4.size; omega)⟩ (by omega)
  · skip
    obtain rfl : j = l.length := by omega
    -- region 3 (set.go:14)
    refine Go'.region [(0, 0)] rfl ?_
    refine O.cmp rfl rfl rfl rfl rfl rfl (lssF (by omega)) ?_
    refine Pl.fin [(5, _), (10, _), (11, _), (12, _), (13, _)] ⟨rfl, rfl, rfl, rfl, rfl, trivial⟩ ?_
    refine Go'.seq ?_
    refine Go'.condF rfl ?_
    refine Go'.exit rfl ?_
    refine Go'.seq ?_
    -- region 7 (set.go:17)
    refine Go'.region [(0, 0), (1, 0)] rfl ?_
    refine O.mv rfl rfl rfl rfl rfl ?_
    refine O.asg rfl rfl rfl rfl rfl ?_
    refine Pl.fin [(4, _)] ⟨rfl, trivial⟩ ?_
    refine Go'.ret (vs := [_]) Go.Proofs.Try.func71 Go.Proofs.Try.results71 ⟨rfl, trivial⟩ ?_
    rw [List.take_length] at hM
    exact ⟨H.size, S, rfl, hM, hF, hS⟩

/-- What the taker keeps: how many at most, and the list so far. -/
structure TkT (b2 b3 D : Nat) (n : Int) (acc : List (Wk × Int)) (Z : Nat → Prop) (H : Mem) : Prop where
  c2 : cl H b2 0 = some (ptr D)
  c3 : cl H b3 0 = some (.int .i64 n)
  wr : Wr H D 0 1
  z2 : Z b2
  z3 : Z b3
  zD : Z D
  n2 : b2 ≠ D
  n3 : b3 ≠ D
  lt : ∀ b, Z b → b < H.size
  sl : (acc = [] ∧ cl H D 0 = some (.slice none 0 0)) ∨ ∃ b o c, cl H D 0 = some (.slice (some ⟨b, o, none⟩) acc.length c) ∧ SlE EJ H b o c acc ∧ Z b ∧ b ≠ D ∧ b ≠ b2 ∧ b ≠ b3
theorem TkT.fr {b2 b3 D : Nat} {n : Int} {acc : List (Wk × Int)} {Z : Nat → Prop} {H H' : Mem} {Y : Nat → Nat → Prop} (h : TkT b2 b3 D n acc Z H) (hf : Fr Y H H') (hy : ∀ b o, Z b → ¬ Y b o) : TkT b2 b3 D n acc Z H' where
  c2 := hf.keep h.c2 (hy _ _ h.z2)
  c3 := hf.keep h.c3 (hy _ _ h.z3)
  wr := hf.wr h.wr
  z2 := h.z2
  z3 := h.z3
  zD := h.zD
  n2 := h.n2
  n3 := h.n3
  lt := fun b hb => Nat.lt_of_lt_of_le (h.lt b hb) hf.size
  sl := h.sl.elim (fun ⟨e, k⟩ => .inl ⟨e, hf.keep k (hy _ _ h.zD)⟩) fun ⟨b, o, c, k, hs, hz, r⟩ => .inr ⟨b, o, c, hf.keep k (hy _ _ h.zD), hs.fr hf (fun i _ _ => hy _ _ hz), hz, r⟩

theorem taker1_spec {B : World} {H : Mem} {b2 b3 D : Nat} {n : Int} {acc : List (Wk × Int)} {Z : Nat → Prop} {x : Wk × Int} (hT : TkT b2 b3 D n acc Z H) (hl : acc.length < 4294967296) :
    Fn Try.prog B 165 [.agg (EJ.enc x).toArray, ptr b2, ptr b3] H (fun r H' => r = .bool (goN n (acc ++ [x])) ∧ ∃ Z', TkT b2 b3 D n (acc ++ [x]) Z' H' ∧ Fr (fun b _ => Z b) H H' ∧ ∀ b, Z' b → Z b ∨ H.size ≤ b) := by
  unfold ptr
  refine fn_of Go.Proofs.Try.func165 rfl Go.Proofs.Try.ntmps165 ?_
  refine (show Go' _ _ _ _ 23 [(0, _), (1, _), (2, _)] [.code _] _ from ?_)
  refine Go'.seq ?_
  -- region 0 (impl.go:207)
  refine Go'.region [(0, 2), (1, 0)] rfl ?_
  refine O.box rfl rfl rfl rfl ?_
  intro H1 M1
  refine ⟨trivial, ?_⟩
  have hs1 := M1.size
  have mi : Rd H1 H.size 0 (EJ.enc x) := M1.rd _ [] (by simp [Value.cells])
  have hlt := hT.lt
  replace hT := hT.fr (M1.fr nowhere) (fun _ _ _ => nw)
  obtain ⟨c2, c3, hw, z2, z3, zD, n2, n3, lt, hsl⟩ := hT
  unfold ptr at c2
  have l2 := hlt _ z2
  have l3 := hlt _ z3
  have lD := hlt _ zD
  refine O.asg rfl rfl rfl rfl rfl ?_
  refine Pl.fin [(1, _), (2, _), (3, _), (4, _)] ⟨rfl, rfl, rfl, rfl, trivial⟩ ?_
  refine Go'.seq ?_
  have hacc1 : (acc ++ [x]).length = acc.length + 1 := by simp
  rcases hsl with ⟨rfl, cD⟩ | ⟨b, o, c, cD, hs, zb, nb, nb2, nb3⟩
  · skip
    -- region 1 (impl.go:208)
    refine Go'.draw (fun H' => cl H' b2 0 = some (.pointer (some ⟨D, 0, none⟩)) ∧ cl H' D 0 = some (.slice none 0 0) ∧ Rd H' H.size 0 (EJ.enc x)) [(0, 0), (1, 0), (2, 0), (3, 0), (4, 1), (5, 2), (6, 2), (7, 0), (8, 3)] (by kernel_rfl) (by kernel_rfl) (⟨c2, cD, mi⟩) ?_
    refine O.ldC rfl rfl rfl (fun w => ⟨Go.Proofs.Try.isAgg147 w, Go.Proofs.Try.sizeOf147 w⟩) rfl (fun _ h => h.1) ?_
    refine O.ldC rfl rfl rfl (fun w => ⟨Go.Proofs.Try.isAgg147 w, Go.Proofs.Try.sizeOf147 w⟩) rfl (fun _ h => h.1) ?_
    refine O.nc rfl rfl rfl rfl rfl ?_
    refine O.ldC rfl rfl rfl (fun w => ⟨Go.Proofs.Try.isAgg26 w, Go.Proofs.Try.sizeOf26 w⟩) rfl (fun _ h => h.2.1) ?_
    refine O.lds rfl rfl rfl (fun w => ⟨Go.Proofs.Try.isAgg54 w, Go.Proofs.Try.sizeOf54 w⟩) rfl rfl mi ?_
    refine O.bsl (cs := (EJ.enc x)) rfl rfl rfl ⟨Go.Proofs.Try.underlying26, Go.Proofs.Try.sizeOf54, Go.Proofs.Try.zeroValue54, ⟨_, Go.Proofs.Try.typeInfo54, rfl⟩, rfl, by decide, by decide⟩ rfl (by decide) (by kernel_rfl) ?_
    intro H2 M2
    have hs2 := M2.size
    replace c2 := M2.keep c2
    replace c3 := M2.keep c3
    replace cD := M2.keep cD
    replace mi := (M2.fr nowhere).rd mi (fun _ _ => nw)
    replace hw := (M2.fr nowhere).wr hw
    have m2 : Rd H2 H1.size 0 (EJ.enc x) := M2.rd _ [] (by simp)
    refine ⟨⟨c2, cD, mi⟩, ?_⟩
    refine O.appN (m := 1) (news := (EJ.enc x)) rfl rfl rfl ⟨Go.Proofs.Try.underlying26, Go.Proofs.Try.sizeOf54, Go.Proofs.Try.zeroValue54, ⟨_, Go.Proofs.Try.typeInfo54, rfl⟩, rfl, by decide, by decide⟩ rfl rfl ⟨_, _, _, rfl, m2⟩ rfl (Nat.le_trans (Nat.mul_le_mul_left _ (Nat.le_of_ble_eq_true (n := _) (m := 4096) rfl)) (by omega)) (by omega) (by omega) ?_
    intro cc H3 hsl3 fa hs3
    replace c2 := fa.keep c2 nw
    replace c3 := fa.keep c3 nw
    replace cD := fa.keep cD nw
    replace mi := fa.rd mi (fun _ _ => nw)
    replace hw := fa.wr hw
    refine ⟨⟨c2, cD, mi⟩, ?_⟩
    refine O.nc rfl rfl rfl rfl rfl ?_
    refine O.st3 rfl rfl Go.Proofs.Try.sizeOf26 rfl rfl rfl rfl rfl hw ?_
    intro H4 W4
    have hs4 := W4.size
    replace c2 := W4.fr.keep c2 (nr (.inl n2))
    replace c3 := W4.fr.keep c3 (nr (.inl n3))
    replace hw := W4.fr.wr hw
    clear cD
    have cD := W4.at
    refine Pl.fin [(1, _), (2, _), (4, _)] ⟨rfl, rfl, rfl, trivial⟩ ?_
    refine Go'.seq ?_
    by_cases hn : n < 1
    · skip
      -- region 2 (impl.go:209)
      refine Go'.draw (fun _ => True) [(0, 1), (1, 0), (2, 0), (3, 1), (4, 0), (5, 1), (6, 0), (7, 1), (8, 0), (9, 0), (10, 0)] (by kernel_rfl) (by kernel_rfl) (trivial) ?_
      refine O.ld rfl rfl rfl (fun w => ⟨Go.Proofs.Try.isAgg3 w, Go.Proofs.Try.sizeOf3 w⟩) rfl c3 ?_
      refine O.cmp rfl rfl rfl rfl rfl rfl (lssT (by omega)) ?_
      refine O.mv rfl rfl rfl rfl rfl ?_
      refine Pl.pass rfl rfl rfl rfl ?_
      refine Pl.pass rfl rfl rfl rfl ?_
      refine Pl.pass rfl rfl rfl rfl ?_
      refine Pl.pass rfl rfl rfl rfl ?_
      refine Pl.pass rfl rfl rfl rfl ?_
      refine Pl.pass rfl rfl rfl rfl ?_
      refine O.pick rfl rfl rfl rfl rfl rfl ?_
      refine O.asg rfl rfl rfl rfl rfl ?_
      refine Pl.fin [(4, _)] ⟨rfl, trivial⟩ ?_
      refine Go'.ret (vs := [_]) Go.Proofs.Try.func165 Go.Proofs.Try.results165 ⟨rfl, trivial⟩ ?_
      exact ⟨by unfold goN; rw [decide_eq_true hn]; rfl, fun b => Z b ∨ (H.size ≤ b ∧ b < H4.size), ⟨c2, c3, hw, .inl z2, .inl z3, .inl zD, n2, n3, fun b hb => hb.elim (fun h => by have := hlt b h; omega) (fun h => h.2), .inr ⟨H2.size, 0, cc, cD, (SlE.of (l := [x]) hsl3 (by rw [row_one]) rfl).fr W4.fr (fun _ _ _ => nr (.inl (by omega))), .inr (by omega), by omega, by omega, by omega⟩⟩, (((M1.fr nowhere).trans (M2.fr nowhere)).trans fa).trans' W4.fr (fun _ _ _ h => h.elim) (fun b o _ hz => by rw [hz.1]; exact zD), fun b hb => hb.imp id (fun h => h.1)⟩
    · skip
      by_cases hn2 : (1 : Int) < n
      · skip
        -- region 2 (impl.go:209)
        refine Go'.draw (fun _ => True) [(0, 1), (1, 0), (2, 0), (3, 1), (4, 0), (5, 1), (6, 0), (7, 1), (8, 0), (9, 0), (10, 0)] (by kernel_rfl) (by kernel_rfl) (trivial) ?_
        refine O.ld rfl rfl rfl (fun w => ⟨Go.Proofs.Try.isAgg3 w, Go.Proofs.Try.sizeOf3 w⟩) rfl c3 ?_
        refine O.cmp rfl rfl rfl rfl rfl rfl (lssF (by omega)) ?_
        refine O.mv rfl rfl rfl rfl rfl ?_
        refine O.ld rfl rfl rfl (fun w => ⟨Go.Proofs.Try.isAgg147 w, Go.Proofs.Try.sizeOf147 w⟩) rfl c2 ?_
        refine O.nc rfl rfl rfl rfl rfl ?_
        refine O.ld rfl rfl rfl (fun w => ⟨Go.Proofs.Try.isAgg26 w, Go.Proofs.Try.sizeOf26 w⟩) rfl cD ?_
        refine O.len rfl rfl rfl rfl Go.Proofs.Try.underlying26 rfl ?_
        refine O.ld rfl rfl rfl (fun w => ⟨Go.Proofs.Try.isAgg3 w, Go.Proofs.Try.sizeOf3 w⟩) rfl c3 ?_
        refine O.cmp rfl rfl rfl rfl rfl rfl (lssT (by omega)) ?_
        refine O.pick rfl rfl rfl rfl rfl rfl ?_
        refine O.asg rfl rfl rfl rfl rfl ?_
        refine Pl.fin [(4, _)] ⟨rfl, trivial⟩ ?_
        refine Go'.ret (vs := [_]) Go.Proofs.Try.func165 Go.Proofs.Try.results165 ⟨rfl, trivial⟩ ?_
        exact ⟨by unfold goN; rw [decide_eq_false hn, hacc1]; rw [decide_eq_true (by simpa using hn2)]; rfl, fun b => Z b ∨ (H.size ≤ b ∧ b < H4.size), ⟨c2, c3, hw, .inl z2, .inl z3, .inl zD, n2, n3, fun b hb => hb.elim (fun h => by have := hlt b h; omega) (fun h => h.2), .inr ⟨H2.size, 0, cc, cD, (SlE.of (l := [x]) hsl3 (by rw [row_one]) rfl).fr W4.fr (fun _ _ _ => nr (.inl (by omega))), .inr (by omega), by omega, by omega, by omega⟩⟩, (((M1.fr nowhere).trans (M2.fr nowhere)).trans fa).trans' W4.fr (fun _ _ _ h => h.elim) (fun b o _ hz => by rw [hz.1]; exact zD), fun b hb => hb.imp id (fun h => h.1)⟩
      · skip
        -- region 2 (impl.go:209)
        refine Go'.draw (fun _ => True) [(0, 1), (1, 0), (2, 0), (3, 1), (4, 0), (5, 1), (6, 0), (7, 1), (8, 0), (9, 0), (10, 0)] (by kernel_rfl) (by kernel_rfl) (trivial) ?_
        refine O.ld rfl rfl rfl (fun w => ⟨Go.Proofs.Try.isAgg3 w, Go.Proofs.Try.sizeOf3 w⟩) rfl c3 ?_
        refine O.cmp rfl rfl rfl rfl rfl rfl (lssF (by omega)) ?_
        refine O.mv rfl rfl rfl rfl rfl ?_
        refine O.ld rfl rfl rfl (fun w => ⟨Go.Proofs.Try.isAgg147 w, Go.Proofs.Try.sizeOf147 w⟩) rfl c2 ?_
        refine O.nc rfl rfl rfl rfl rfl ?_
        refine O.ld rfl rfl rfl (fun w => ⟨Go.Proofs.Try.isAgg26 w, Go.Proofs.Try.sizeOf26 w⟩) rfl cD ?_
        refine O.len rfl rfl rfl rfl Go.Proofs.Try.underlying26 rfl ?_
        refine O.ld rfl rfl rfl (fun w => ⟨Go.Proofs.Try.isAgg3 w, Go.Proofs.Try.sizeOf3 w⟩) rfl c3 ?_
        refine O.cmp rfl rfl rfl rfl rfl rfl (lssF (by omega)) ?_
        refine O.pick rfl rfl rfl rfl rfl rfl ?_
        refine O.asg rfl rfl rfl rfl rfl ?_
        refine Pl.fin [(4, _)] ⟨rfl, trivial⟩ ?_
        refine Go'.ret (vs := [_]) Go.Proofs.Try.func165 Go.Proofs.Try.results165 ⟨rfl, trivial⟩ ?_
        exact ⟨by unfold goN; rw [decide_eq_false hn, hacc1]; rw [decide_eq_false (by simpa using hn2)]; rfl, fun b => Z b ∨ (H.size ≤ b ∧ b < H4.size), ⟨c2, c3, hw, .inl z2, .inl z3, .inl zD, n2, n3, fun b hb => hb.elim (fun h => by have := hlt b h; omega) (fun h => h.2), .inr ⟨H2.size, 0, cc, cD, (SlE.of (l := [x]) hsl3 (by rw [row_one]) rfl).fr W4.fr (fun _ _ _ => nr (.inl (by omega))), .inr (by omega), by omega, by omega, by omega⟩⟩, (((M1.fr nowhere).trans (M2.fr nowhere)).trans fa).trans' W4.fr (fun _ _ _ h => h.elim) (fun b o _ hz => by rw [hz.1]; exact zD), fun b hb => hb.imp id (fun h => h.1)⟩
  · skip
    have lb := hlt _ zb
    -- region 1 (impl.go:208)
    refine Go'.draw (fun H' => cl H' b2 0 = some (.pointer (some ⟨D, 0, none⟩)) ∧ cl H' D 0 = some (.slice (some ⟨b, o, none⟩) acc.length c) ∧ Rd H' H.size 0 (EJ.enc x)) [(0, 0), (1, 0), (2, 0), (3, 0), (4, 1), (5, 2), (6, 2), (7, 0), (8, 3)] (by kernel_rfl) (by kernel_rfl) (⟨c2, cD, mi⟩) ?_
    refine O.ldC rfl rfl rfl (fun w => ⟨Go.Proofs.Try.isAgg147 w, Go.Proofs.Try.sizeOf147 w⟩) rfl (fun _ h => h.1) ?_
    refine O.ldC rfl rfl rfl (fun w => ⟨Go.Proofs.Try.isAgg147 w, Go.Proofs.Try.sizeOf147 w⟩) rfl (fun _ h => h.1) ?_
    refine O.nc rfl rfl rfl rfl rfl ?_
    refine O.ldC rfl rfl rfl (fun w => ⟨Go.Proofs.Try.isAgg26 w, Go.Proofs.Try.sizeOf26 w⟩) rfl (fun _ h => h.2.1) ?_
    refine O.lds rfl rfl rfl (fun w => ⟨Go.Proofs.Try.isAgg54 w, Go.Proofs.Try.sizeOf54 w⟩) rfl rfl mi ?_
    refine O.bsl (cs := (EJ.enc x)) rfl rfl rfl ⟨Go.Proofs.Try.underlying26, Go.Proofs.Try.sizeOf54, Go.Proofs.Try.zeroValue54, ⟨_, Go.Proofs.Try.typeInfo54, rfl⟩, rfl, by decide, by decide⟩ rfl (by decide) (by kernel_rfl) ?_
    intro H2 M2
    have hs2 := M2.size
    replace c2 := M2.keep c2
    replace c3 := M2.keep c3
    replace cD := M2.keep cD
    replace mi := (M2.fr nowhere).rd mi (fun _ _ => nw)
    replace hw := (M2.fr nowhere).wr hw
    have m2 : Rd H2 H1.size 0 (EJ.enc x) := M2.rd _ [] (by simp)
    replace hs := hs.fr (M2.fr nowhere) (fun _ _ _ => nw)
    refine ⟨⟨c2, cD, mi⟩, ?_⟩
    refine O.app (m := 1) (news := (EJ.enc x)) rfl rfl rfl ⟨Go.Proofs.Try.underlying26, Go.Proofs.Try.sizeOf54, Go.Proofs.Try.zeroValue54, ⟨_, Go.Proofs.Try.typeInfo54, rfl⟩, rfl, by decide, by decide⟩ rfl hs rfl (.inl ⟨_, _, _, rfl, m2⟩) rfl rfl (Nat.le_trans (Nat.mul_le_mul_left _ (Nat.le_of_ble_eq_true (n := _) (m := 4096) rfl)) (by omega)) (by omega) ?_
    intro bb oo cc H3 ha
    obtain ⟨fa, pa⟩ := (App.rp ha)
    have hs3 := fa.size
    have hsl3 := SlE.app (E := EJ) ha
    have hbb : bb < H3.size := Sl.lt hsl3 (by have := hsl3.hle; rw [hacc1] at this; exact Nat.mul_pos (by omega) EJ.pos)
    replace c2 := fa.keep c2 (fun e => nb2 e.symm)
    replace c3 := fa.keep c3 (fun e => nb3 e.symm)
    replace cD := fa.keep cD (fun e => nb e.symm)
    replace mi := fa.rd mi (fun _ _ e => by have e' : H.size = b := e; omega)
    replace hw := fa.wr hw
    refine ⟨⟨c2, cD, mi⟩, ?_⟩
    refine O.nc rfl rfl rfl rfl rfl ?_
    refine O.st3 rfl rfl Go.Proofs.Try.sizeOf26 rfl rfl rfl rfl rfl hw ?_
    intro H4 W4
    have hs4 := W4.size
    replace c2 := W4.fr.keep c2 (nr (.inl n2))
    replace c3 := W4.fr.keep c3 (nr (.inl n3))
    replace hw := W4.fr.wr hw
    clear cD
    have cD := W4.at
    refine Pl.fin [(1, _), (2, _), (4, _)] ⟨rfl, rfl, rfl, trivial⟩ ?_
    refine Go'.seq ?_
    by_cases hn : n < 1
    · skip
      -- region 2 (impl.go:209)
      refine Go'.draw (fun _ => True) [(0, 1), (1, 0), (2, 0), (3, 1), (4, 0), (5, 1), (6, 0), (7, 1), (8, 0), (9, 0), (10, 0)] (by kernel_rfl) (by kernel_rfl) (trivial) ?_
      refine O.ld rfl rfl rfl (fun w => ⟨Go.Proofs.Try.isAgg3 w, Go.Proofs.Try.sizeOf3 w⟩) rfl c3 ?_
      refine O.cmp rfl rfl rfl rfl rfl rfl (lssT (by omega)) ?_
      refine O.mv rfl rfl rfl rfl rfl ?_
      refine Pl.pass rfl rfl rfl rfl ?_
      refine Pl.pass rfl rfl rfl rfl ?_
      refine Pl.pass rfl rfl rfl rfl ?_
      refine Pl.pass rfl rfl rfl rfl ?_
      refine Pl.pass rfl rfl rfl rfl ?_
      refine Pl.pass rfl rfl rfl rfl ?_
      refine O.pick rfl rfl rfl rfl rfl rfl ?_
      refine O.asg rfl rfl rfl rfl rfl ?_
      refine Pl.fin [(4, _)] ⟨rfl, trivial⟩ ?_
      refine Go'.ret (vs := [_]) Go.Proofs.Try.func165 Go.Proofs.Try.results165 ⟨rfl, trivial⟩ ?_
      exact ⟨by unfold goN; rw [decide_eq_true hn]; rfl, fun b => Z b ∨ (H.size ≤ b ∧ b < H4.size), ⟨c2, c3, hw, .inl z2, .inl z3, .inl zD, n2, n3, fun b hb => hb.elim (fun h => by have := hlt b h; omega) (fun h => h.2), .inr ⟨bb, oo, cc, by rw [hacc1]; exact cD, hsl3.fr W4.fr (fun _ _ _ => nr (.inl (by omega))), (by rcases pa with h | h; exact .inl (h ▸ zb); exact .inr (by omega)), by omega, by omega, by omega⟩⟩, (((M1.fr nowhere).trans (M2.fr nowhere)).trans' fa (Z := fun b _ => Z b) (fun _ _ _ h => h.elim) (fun y o _ hz => by have hz' : y = b := hz; rw [hz']; exact zb)).trans' W4.fr (fun _ _ _ h => h) (fun b o _ hz => by rw [hz.1]; exact zD), fun b hb => hb.imp id (fun h => h.1)⟩
    · skip
      by_cases hn2 : ((acc.length + 1 : Nat) : Int) < n
      · skip
        -- region 2 (impl.go:209)
        refine Go'.draw (fun _ => True) [(0, 1), (1, 0), (2, 0), (3, 1), (4, 0), (5, 1), (6, 0), (7, 1), (8, 0), (9, 0), (10, 0)] (by kernel_rfl) (by kernel_rfl) (trivial) ?_
        refine O.ld rfl rfl rfl (fun w => ⟨Go.Proofs.Try.isAgg3 w, Go.Proofs.Try.sizeOf3 w⟩) rfl c3 ?_
        refine O.cmp rfl rfl rfl rfl rfl rfl (lssF (by omega)) ?_
        refine O.mv rfl rfl rfl rfl rfl ?_
        refine O.ld rfl rfl rfl (fun w => ⟨Go.Proofs.Try.isAgg147 w, Go.Proofs.Try.sizeOf147 w⟩) rfl c2 ?_
        refine O.nc rfl rfl rfl rfl rfl ?_
        refine O.ld rfl rfl rfl (fun w => ⟨Go.Proofs.Try.isAgg26 w, Go.Proofs.Try.sizeOf26 w⟩) rfl cD ?_
        refine O.len rfl rfl rfl rfl Go.Proofs.Try.underlying26 rfl ?_
        refine O.ld rfl rfl rfl (fun w => ⟨Go.Proofs.Try.isAgg3 w, Go.Proofs.Try.sizeOf3 w⟩) rfl c3 ?_
        refine O.cmp rfl rfl rfl rfl rfl rfl (lssT (by omega)) ?_
        refine O.pick rfl rfl rfl rfl rfl rfl ?_
        refine O.asg rfl rfl rfl rfl rfl ?_
        refine Pl.fin [(4, _)] ⟨rfl, trivial⟩ ?_
        refine Go'.ret (vs := [_]) Go.Proofs.Try.func165 Go.Proofs.Try.results165 ⟨rfl, trivial⟩ ?_
        exact ⟨by unfold goN; rw [decide_eq_false hn, hacc1]; rw [decide_eq_true (by simpa using hn2)]; rfl, fun b => Z b ∨ (H.size ≤ b ∧ b < H4.size), ⟨c2, c3, hw, .inl z2, .inl z3, .inl zD, n2, n3, fun b hb => hb.elim (fun h => by have := hlt b h; omega) (fun h => h.2), .inr ⟨bb, oo, cc, by rw [hacc1]; exact cD, hsl3.fr W4.fr (fun _ _ _ => nr (.inl (by omega))), (by rcases pa with h | h; exact .inl (h ▸ zb); exact .inr (by omega)), by omega, by omega, by omega⟩⟩, (((M1.fr nowhere).trans (M2.fr nowhere)).trans' fa (Z := fun b _ => Z b) (fun _ _ _ h => h.elim) (fun y o _ hz => by have hz' : y = b := hz; rw [hz']; exact zb)).trans' W4.fr (fun _ _ _ h => h) (fun b o _ hz => by rw [hz.1]; exact zD), fun b hb => hb.imp id (fun h => h.1)⟩
      · skip
        -- region 2 (impl.go:209)
        refine Go'.draw (fun _ => True) [(0, 1), (1, 0), (2, 0), (3, 1), (4, 0), (5, 1), (6, 0), (7, 1), (8, 0), (9, 0), (10, 0)] (by kernel_rfl) (by kernel_rfl) (trivial) ?_
        refine O.ld rfl rfl rfl (fun w => ⟨Go.Proofs.Try.isAgg3 w, Go.Proofs.Try.sizeOf3 w⟩) rfl c3 ?_
        refine O.cmp rfl rfl rfl rfl rfl rfl (lssF (by omega)) ?_
        refine O.mv rfl rfl rfl rfl rfl ?_
        refine O.ld rfl rfl rfl (fun w => ⟨Go.Proofs.Try.isAgg147 w, Go.Proofs.Try.sizeOf147 w⟩) rfl c2 ?_
        refine O.nc rfl rfl rfl rfl rfl ?_
        refine O.ld rfl rfl rfl (fun w => ⟨Go.Proofs.Try.isAgg26 w, Go.Proofs.Try.sizeOf26 w⟩) rfl cD ?_
        refine O.len rfl rfl rfl rfl Go.Proofs.Try.underlying26 rfl ?_
        refine O.ld rfl rfl rfl (fun w => ⟨Go.Proofs.Try.isAgg3 w, Go.Proofs.Try.sizeOf3 w⟩) rfl c3 ?_
        refine O.cmp rfl rfl rfl rfl rfl rfl (lssF (by omega)) ?_
        refine O.pick rfl rfl rfl rfl rfl rfl ?_
        refine O.asg rfl rfl rfl rfl rfl ?_
        refine Pl.fin [(4, _)] ⟨rfl, trivial⟩ ?_
        refine Go'.ret (vs := [_]) Go.Proofs.Try.func165 Go.Proofs.Try.results165 ⟨rfl, trivial⟩ ?_
        exact ⟨by unfold goN; rw [decide_eq_false hn, hacc1]; rw [decide_eq_false (by simpa using hn2)]; rfl, fun b => Z b ∨ (H.size ≤ b ∧ b < H4.size), ⟨c2, c3, hw, .inl z2, .inl z3, .inl zD, n2, n3, fun b hb => hb.elim (fun h => by have := hlt b h; omega) (fun h => h.2), .inr ⟨bb, oo, cc, by rw [hacc1]; exact cD, hsl3.fr W4.fr (fun _ _ _ => nr (.inl (by omega))), (by rcases pa with h | h; exact .inl (h ▸ zb); exact .inr (by omega)), by omega, by omega, by omega⟩⟩, (((M1.fr nowhere).trans (M2.fr nowhere)).trans' fa (Z := fun b _ => Z b) (fun _ _ _ h => h.elim) (fun y o _ hz => by have hz' : y = b := hz; rw [hz']; exact zb)).trans' W4.fr (fun _ _ _ h => h) (fun b o _ hz => by rw [hz.1]; exact zD), fun b hb => hb.imp id (fun h => h.1)⟩


/-- What the function of pairs keeps: the taker, and what that one keeps. -/
def PrT (pb b2 b3 D : Nat) (n : Int) (acc : List (Wk × Int)) (Z : Nat → Prop) (H : Mem) : Prop :=
  ∃ Z0, TkT b2 b3 D n acc Z0 H ∧ cl H pb 0 = some (.func (.func 165) #[] #[ptr b2, ptr b3]) ∧ ¬ Z0 pb ∧ (∀ b, Z0 b → Z b) ∧ Z pb ∧ ∀ b, Z b → b < H.size
theorem pairs1_spec {B : World} {H : Mem} {pb b2 b3 D : Nat} {n : Int} {acc : List (Wk × Int)} {Z : Nat → Prop} (x : Wk × Int) (hT : PrT pb b2 b3 D n acc Z H) (hl : acc.length < 4294967296) :
    Fn Try.prog B 140 [.string x.1, .int .i64 x.2, ptr pb] H (fun r H' => r = .bool (goN n (acc ++ [x])) ∧ ∃ Z', PrT pb b2 b3 D n (acc ++ [x]) Z' H' ∧ Fr (fun b _ => Z b) H H' ∧ ∀ b, Z' b → Z b ∨ H.size ≤ b) := by
  obtain ⟨Z0, hT, cp, n0, h0, zp, lt⟩ := hT
  unfold ptr
  refine fn_of Go.Proofs.Try.func140 rfl Go.Proofs.Try.ntmps140 ?_
  refine (show Go' _ _ _ _ 11 [(0, _), (1, _), (2, _)] [.code _] _ from ?_)
  refine Go'.seq ?_
  -- region 0 (set.go:23)
  refine Go'.region [(0, 0)] rfl ?_
  refine O.asg rfl rfl rfl rfl rfl ?_
  refine Pl.fin [(0, _), (1, _), (2, _), (5, _)] ⟨rfl, rfl, rfl, rfl, trivial⟩ ?_
  refine Go'.seq ?_
  -- region 1 (set.go:23)
  refine Go'.region [(0, 1), (1, 0), (2, 0), (3, 0), (4, 2), (5, 0)] rfl ?_
  refine O.ld rfl rfl rfl (fun w => ⟨Go.Proofs.Try.isAgg84 w, Go.Proofs.Try.sizeOf84 w⟩) rfl cp ?_
  refine O.mv rfl rfl rfl rfl rfl ?_
  refine O.mv rfl rfl rfl rfl rfl ?_
  refine O.bld (cs := (EJ.enc x)) rfl rfl rfl rfl (st54) rfl (by kernel_rfl) ?_
  refine O.callC (us := []) (caps := [ptr b2, ptr b3]) rfl rfl rfl rfl Go.Proofs.Try.call165 rfl (taker1_spec hT hl) ?_
  rintro _ H2 ⟨rfl, Z2, hT2, hF2, hZ2⟩
  refine ⟨trivial, ?_⟩
  refine O.asg rfl rfl rfl rfl rfl ?_
  refine Pl.fin [(5, _)] ⟨rfl, trivial⟩ ?_
  refine Go'.ret (vs := [_]) Go.Proofs.Try.func140 Go.Proofs.Try.results140 ⟨rfl, trivial⟩ ?_
  have hsz := hF2.size
  have hpb := lt pb zp
  exact ⟨rfl, fun b => Z b ∨ (H.size ≤ b ∧ b < H2.size), ⟨Z2, hT2, hF2.keep cp n0, fun hz => (hZ2 _ hz).elim n0 (fun h => by omega), fun b hb => (hZ2 b hb).imp (h0 b) (fun h => ⟨h, hT2.lt b hb⟩), .inl zp, fun b hb => hb.elim (fun h => by have := lt b h; omega) (fun h => h.2)⟩,
    hF2.mono (fun b o _ h => h0 b h), fun b hb => hb.imp id (fun h => h.1)⟩

/-- The function of pairs, as a reader takes it. -/
def cbPairs (B : World) (pb b2 b3 D : Nat) (n : Int) : Cb Try.prog B encKV 140 [] [ptr pb] (goN n) 4294967296 where
  T := PrT pb b2 b3 D n
  fr := fun ⟨Z0, hT, cp, n0, h0, zp, lt⟩ hf hy => ⟨Z0, hT.fr hf (fun b o hb => hy b o (h0 b hb)), hf.keep cp (hy _ _ zp), n0, h0, zp, fun b hb => Nat.lt_of_lt_of_le (lt b hb) hf.size⟩
  lt := fun ⟨_, _, _, _, _, _, lt⟩ hb => lt _ hb
  call := fun x hT hl => pairs1_spec x hT hl

theorem taker_spec {B : World} {H : Mem} {D : Nat} {n : Int} (hD : cl H D 0 = some (.slice none 0 0)) (hw : Wr H D 0 1) :
    Fn Try.prog B 139 [ptr D, .int .i64 n] H (fun r H' => ∃ b2 b3 Z, r = .func (.func 165) #[] #[ptr b2, ptr b3] ∧ TkT b2 b3 D n [] Z H' ∧ Fr nowhere H H' ∧ ∀ b, Z b → b = D ∨ H.size ≤ b) := by
  have hl := cl_lt hD
  refine fn_of Go.Proofs.Try.func139 rfl Go.Proofs.Try.ntmps139 ?_
  refine (show Go' _ _ _ _ 6 [(0, _), (1, _)] [.code _] _ from ?_)
  refine Go'.seq ?_
  -- region 0 (impl.go:206)
  refine Go'.region [(0, 2), (1, 2), (2, 0)] rfl ?_
  refine O.box rfl rfl rfl rfl ?_
  intro H1 M1
  refine ⟨trivial, ?_⟩
  have hs1 := M1.size
  have c2 : cl H1 H.size 0 = some (ptr D) := (M1.cl 0).trans rfl
  refine O.box rfl rfl rfl rfl ?_
  intro H2 M2
  refine ⟨trivial, ?_⟩
  have hs2 := M2.size
  have c3 : cl H2 H1.size 0 = some (.int .i64 n) := (M2.cl 0).trans rfl
  refine O.asg rfl rfl rfl rfl rfl ?_
  refine Pl.fin [(2, _), (3, _), (4, _)] ⟨rfl, rfl, rfl, trivial⟩ ?_
  refine Go'.seq ?_
  -- region 1 (impl.go:207)
  refine Go'.region [(0, 0), (1, 0)] rfl ?_
  refine O.mkf rfl rfl rfl rfl rfl rfl ?_
  refine O.asg rfl rfl rfl rfl rfl ?_
  refine Pl.fin [(4, _)] ⟨rfl, trivial⟩ ?_
  refine Go'.ret (vs := [_]) Go.Proofs.Try.func139 Go.Proofs.Try.results139 ⟨rfl, trivial⟩ ?_
  exact ⟨H.size, H1.size, fun b => b = D ∨ b = H.size ∨ b = H1.size, rfl, ⟨M2.keep c2, c3, (M2.fr nowhere).wr ((M1.fr nowhere).wr hw), .inr (.inl rfl), .inr (.inr rfl), .inl rfl, by omega, by omega, fun b hb => by omega, .inl ⟨rfl, M2.keep (M1.keep hD)⟩⟩, (M1.fr nowhere).trans (M2.fr nowhere), fun b hb => by omega⟩

theorem pairs_spec {B : World} {H : Mem} {D : Nat} {n : Int} (hD : cl H D 0 = some (.slice none 0 0)) (hw : Wr H D 0 1) :
    Fn Try.prog B 99 [ptr D, .int .i64 n] H (fun r H' => ∃ pb b2 b3 Z, r = .func (.func 140) #[] #[ptr pb] ∧ PrT pb b2 b3 D n [] Z H' ∧ Fr nowhere H H' ∧ ∀ b, Z b → b = D ∨ H.size ≤ b) := by
  have hl := cl_lt hD
  refine fn_of Go.Proofs.Try.func99 rfl Go.Proofs.Try.ntmps99 ?_
  refine (show Go' _ _ _ _ 10 [(0, _), (1, _)] [.code _] _ from ?_)
  refine Go'.seq ?_
  -- region 0 (set.go:21)
  refine Go'.region [(0, 0)] rfl ?_
  refine O.asg rfl rfl rfl rfl rfl ?_
  refine Pl.fin [(0, _), (1, _), (4, _)] ⟨rfl, rfl, rfl, trivial⟩ ?_
  refine Go'.seq ?_
  -- region 1 (set.go:22)
  refine Go'.region [(0, 0), (1, 0), (2, 2), (3, 2), (4, 2)] rfl ?_
  refine O.mv rfl rfl rfl rfl rfl ?_
  refine O.mv rfl rfl rfl rfl rfl ?_
  refine O.call rfl rfl rfl Go.Proofs.Try.call139 rfl (taker_spec hD hw) ?_
  rintro _ H1 ⟨b2, b3, Z, rfl, hT, hF, hZ⟩
  have hs1 := hF.size
  refine ⟨trivial, ?_⟩
  refine O.alloc rfl rfl rfl Go.Proofs.Try.zeroValue84 ?_
  intro H2 M2
  refine ⟨trivial, ?_⟩
  have hs2 := M2.size
  have lt0 := hT.lt
  replace hT := hT.fr (M2.fr nowhere) (fun _ _ _ => nw)
  have m5 : Wr H2 H1.size 0 1 := M2.wr 1 (by decide)
  refine O.st rfl rfl Go.Proofs.Try.sizeOf84 rfl rfl rfl rfl rfl m5 ?_
  intro H3 W3
  have hs3 := W3.size
  replace hT := hT.fr W3.fr (fun b o hb hz => by have := lt0 b hb; have h1 := hz.1; omega)
  have cp := W3.at
  refine ⟨trivial, ?_⟩
  refine Pl.fin [(4, _), (5, _)] ⟨rfl, rfl, trivial⟩ ?_
  refine Go'.seq ?_
  -- region 2 (set.go:23)
  refine Go'.region [(0, 0), (1, 0)] rfl ?_
  refine O.mkf rfl rfl rfl rfl rfl rfl ?_
  refine O.asg rfl rfl rfl rfl rfl ?_
  refine Pl.fin [(4, _)] ⟨rfl, trivial⟩ ?_
  refine Go'.ret (vs := [_]) Go.Proofs.Try.func99 Go.Proofs.Try.results99 ⟨rfl, trivial⟩ ?_
  exact ⟨H1.size, b2, b3, fun b => Z b ∨ b = H1.size, rfl, ⟨Z, hT, cp, fun hz => by have := lt0 _ hz; omega, fun b hb => .inl hb, .inr rfl, fun b hb => hb.elim (fun h => by have := lt0 b h; omega) (fun h => by omega)⟩, (hF.trans (M2.fr nowhere)).trans' W3.fr (fun _ _ _ h => h) (fun b o hb hz => by have h1 := hz.1; omega), fun b hb => hb.elim (hZ b) (fun h => .inr (by omega))⟩


theorem PrT.out {pb b2 b3 D : Nat} {n : Int} {acc : List (Wk × Int)} {Z : Nat → Prop} {H : Mem} (h : PrT pb b2 b3 D n acc Z H) : ∃ v, cl H D 0 = some v ∧ OutS EJ H v acc := by
  obtain ⟨Z0, hT, _⟩ := h
  rcases hT.sl with ⟨e, k⟩ | ⟨b, o, c, k, hs, _⟩
  · exact ⟨_, k, .inl ⟨rfl, e⟩⟩
  · exact ⟨_, k, .inr ⟨b, o, c, rfl, hs⟩⟩
theorem allWords_spec {B : World} {H : Mem} {tr : Nat} {P : Ps} (hP : PsOk P) {S : Nat → Prop} {l : List (Wk × Int)} (hM : MapM H tr P S l) (hll : l.length ≤ 4294967296) :
    Fn Try.prog B 94 [.pointer (some ⟨tr, 0, none⟩)] H (fun r H' => OutS EJ H' r l ∧ Fr nowhere H H') := by
  have hSl := hM.lt
  refine fn_of Go.Proofs.Try.func94 rfl Go.Proofs.Try.ntmps94 ?_
  refine (show Go' _ _ _ _ 8 [(0, _)] [.code _] _ from ?_)
  refine Go'.seq ?_
  -- region 0 (set.go:27)
  refine Go'.region [(0, 0)] rfl ?_
  refine O.asg rfl rfl rfl rfl rfl ?_
  refine Pl.fin [(0, _), (2, _)] ⟨rfl, rfl, trivial⟩ ?_
  refine Go'.seq ?_
  -- region 1 (set.go:28)
  refine Go'.region [(0, 2)] rfl ?_
  refine O.alloc rfl rfl rfl Go.Proofs.Try.zeroValue26 ?_
  intro H1 M1
  refine ⟨trivial, ?_⟩
  have hs1 := M1.size
  have hD : cl H1 H.size 0 = some (.slice none 0 0) := (M1.cl 0).trans rfl
  have hw := M1.wr 1 (by decide)
  replace hM := hM.fr (M1.fr nowhere) (fun _ _ _ => nw)
  refine Pl.fin [(0, _), (2, _), (3, _)] ⟨rfl, rfl, rfl, trivial⟩ ?_
  refine Go'.seq ?_
  -- region 2 (set.go:29)
  refine Go'.region [(0, 0), (1, 2), (2, 2)] rfl ?_
  refine O.mv rfl rfl rfl rfl rfl ?_
  refine O.call rfl rfl rfl Go.Proofs.Try.call99 rfl (pairs_spec (n := 0) hD hw) ?_
  rintro _ H3 ⟨pb, b2, b3, Z, rfl, hT, hF3, hZ⟩
  replace hM := hM.fr hF3 (fun _ _ _ => nw)
  refine ⟨trivial, ?_⟩
  refine O.call rfl rfl rfl Go.Proofs.Try.call134 rfl (Scan_spec (cbPairs B pb b2 b3 H.size 0) Try.call140 hP hM hT (fun b hb hz => (hZ b hz).elim (fun h => by have := hSl b hb; omega) (fun h => by have := hSl b hb; omega)) (by omega)) ?_
  rintro _ H4 ⟨Z4, hT4, hF4, hZ4⟩
  obtain ⟨v, hv, hov⟩ := PrT.out hT4
  rw [takes_first, firstN, if_pos (.inl (by decide))] at hov
  refine ⟨trivial, ?_⟩
  refine Pl.fin [(2, _), (3, _)] ⟨rfl, rfl, trivial⟩ ?_
  refine Go'.seq ?_
  -- region 3 (set.go:30)
  refine Go'.region [(0, 1), (1, 0)] rfl ?_
  refine O.ld rfl rfl rfl (fun w => ⟨Go.Proofs.Try.isAgg26 w, Go.Proofs.Try.sizeOf26 w⟩) rfl hv ?_
  refine O.asg rfl rfl rfl rfl rfl ?_
  refine Pl.fin [(2, _)] ⟨rfl, trivial⟩ ?_
  refine Go'.ret (vs := [_]) Go.Proofs.Try.func94 Go.Proofs.Try.results94 ⟨rfl, trivial⟩ ?_
  exact ⟨hov, ((M1.fr nowhere).trans hF3).trans' hF4 (fun _ _ _ h => h) (fun b o hb hz => (hZ b hz).elim (fun h => by omega) (fun h => by omega))⟩

theorem wdescend_spec {B : World} {H : Mem} {d : Nat} {u : Value} {l : List (Wk × Int)} {x : Wk × Int} {n : Int} (hd : 2 ≤ d ∧ d ≤ 128) (hi : InS EJ H u l) (hll : l.length ≤ 4294967296) :
    Fn Try.prog B 60 [.int .i64 (d : Int), u, .string x.1, .int .i64 n] H (fun r H' => OutS EJ H' r (firstN (Pl.dn OI x (Pl.puts OI l)).reverse n) ∧ Fr nowhere H H') := by
  have hP : PsOk ⟨0, 2 * d - 1, d - 1⟩ := ⟨by show 2 * d - 1 = 2 * (d - 1) + 1; omega, by show 1 ≤ d - 1; omega, by show 2 * d - 1 ≤ 255; omega⟩
  have hpl := Pl.puts_length OI l
  refine fn_of Go.Proofs.Try.func60 rfl Go.Proofs.Try.ntmps60 ?_
  refine (show Go' _ _ _ _ 18 [(0, _), (1, _), (2, _), (3, _)] [.code _] _ from ?_)
  refine Go'.seq ?_
  -- region 0 (set.go:77)
  refine Go'.region [(0, 0)] rfl ?_
  refine O.asg rfl rfl rfl rfl rfl ?_
  refine Pl.fin [(0, _), (1, _), (2, _), (3, _), (8, _)] ⟨rfl, rfl, rfl, rfl, rfl, trivial⟩ ?_
  refine Go'.seq ?_
  -- region 1 (set.go:78)
  refine Go'.region [(0, 2)] rfl ?_
  refine O.alloc rfl rfl rfl Go.Proofs.Try.zeroValue26 ?_
  intro H1 M1
  refine ⟨trivial, ?_⟩
  have hs1 := M1.size
  have hD : cl H1 H.size 0 = some (.slice none 0 0) := (M1.cl 0).trans rfl
  have hw := M1.wr 1 (by decide)
  replace hi := hi.fr (M1.fr nowhere)
  refine Pl.fin [(0, _), (1, _), (2, _), (3, _), (8, _), (9, _)] ⟨rfl, rfl, rfl, rfl, rfl, rfl, trivial⟩ ?_
  refine Go'.seq ?_
  -- region 2 (set.go:79)
  refine Go'.region [(0, 0), (1, 0), (2, 2), (3, 0), (4, 0), (5, 2), (6, 2)] rfl ?_
  refine O.mv rfl rfl rfl rfl rfl ?_
  refine O.mv rfl rfl rfl rfl rfl ?_
  refine O.call rfl rfl rfl Go.Proofs.Try.call71 rfl (growWords_spec hd hi hll) ?_
  rintro _ H2 ⟨tr, S, rfl, hM, hF2, hS⟩
  have hs2 := hF2.size
  replace hD := hF2.keep hD nw
  replace hw := hF2.wr hw
  have hSl := hM.lt
  refine ⟨trivial, ?_⟩
  refine O.mv rfl rfl rfl rfl rfl ?_
  refine O.mv rfl rfl rfl rfl rfl ?_
  refine O.call rfl rfl rfl Go.Proofs.Try.call99 rfl (pairs_spec (n := n) hD hw) ?_
  rintro _ H3 ⟨pb, b2, b3, Z, rfl, hT, hF3, hZ⟩
  replace hM := hM.fr hF3 (fun _ _ _ => nw)
  refine ⟨trivial, ?_⟩
  refine O.call rfl rfl rfl Go.Proofs.Try.call98 rfl (Descend_spec (cbPairs B pb b2 b3 H.size n) Try.call140 hP x hM hT (fun b hb hz => (hZ b hz).elim (fun h => by have := hS b hb; omega) (fun h => by have := hSl b hb; omega)) (by omega)) ?_
  rintro _ H4 ⟨Z4, hT4, hF4, hZ4⟩
  obtain ⟨v, hv, hov⟩ := PrT.out hT4
  rw [takes_first] at hov
  refine ⟨trivial, ?_⟩
  refine Pl.fin [(8, _), (9, _)] ⟨rfl, rfl, trivial⟩ ?_
  refine Go'.seq ?_
  -- region 3 (set.go:80)
  refine Go'.region [(0, 1), (1, 0)] rfl ?_
  refine O.ld rfl rfl rfl (fun w => ⟨Go.Proofs.Try.isAgg26 w, Go.Proofs.Try.sizeOf26 w⟩) rfl hv ?_
  refine O.asg rfl rfl rfl rfl rfl ?_
  refine Pl.fin [(8, _)] ⟨rfl, trivial⟩ ?_
  refine Go'.ret (vs := [_]) Go.Proofs.Try.func60 Go.Proofs.Try.results60 ⟨rfl, trivial⟩ ?_
  exact ⟨hov, (((M1.fr nowhere).trans hF2).trans hF3).trans' hF4 (fun _ _ _ h => h) (fun b o hb hz => (hZ b hz).elim (fun h => by omega) (fun h => by omega))⟩

end Go.Bt.FW
namespace Go.Bt.FW
open Go Go.Proofs
set_option maxRecDepth 20000
set_option maxHeartbeats 4000000
set_option linter.unusedVariables false

/-- What a setting tells of what was there before: the key with the value, 0 if there was none. -/
def wold (x : Wk × Int) (l : List (Wk × Int)) : Wk × Int := (x.1, match Pl.got OI x l with | some y => y.2 | none => 0)
abbrev wolds (l : List (Wk × Int)) : List (Wk × Int) := Pl.trace OI wold l
abbrev woks (l : List (Wk × Int)) : List Bool := Pl.trace OI (fun x l => Pl.fnd OI x l) l
theorem wsnoc {β : Type} (f : Wk × Int → List (Wk × Int) → β) {l : List (Wk × Int)} {j : Nat} {y : Wk × Int} (hy : l[j]? = some y) : Pl.trace OI f (l.take (j + 1)) = Pl.trace OI f (l.take j) ++ [f y (Pl.puts OI (l.take j))] := by
  rw [List.take_add_one, hy]; exact Pl.trace_snoc _ _ _ _
theorem wputs {l : List (Wk × Int)} {j : Nat} {y : Wk × Int} (hy : l[j]? = some y) : Pl.puts OI (l.take (j + 1)) = Pl.put OI y (Pl.puts OI (l.take j)) := by
  rw [List.take_add_one, hy]; exact Pl.puts_snoc _ _ _

theorem wsets_spec {B : World} {H : Mem} {d : Nat} {u : Value} {l : List (Wk × Int)} (hd : 2 ≤ d ∧ d ≤ 128) (hi : InS EJ H u l) (hll : l.length ≤ 4294967296) :
    Fn Try.prog B 52 [.int .i64 (d : Int), u] H (fun r H' => ∃ v1 v2 v3, r = .tuple #[v1, v2, v3] ∧ OutS EJ H' v1 (wolds l) ∧ OutS EB H' v2 (woks l) ∧ OutS EJ H' v3 (Pl.puts OI l) ∧ Fr nowhere H H') := by
  have hP : PsOk ⟨0, 2 * d - 1, d - 1⟩ := ⟨by show 2 * d - 1 = 2 * (d - 1) + 1; omega, by show 1 ≤ d - 1; omega, by show 2 * d - 1 ≤ 255; omega⟩
  have hpl0 := Pl.puts_length OI l
  obtain ⟨a, c, hu⟩ := hi.len
  subst hu
  refine fn_of Go.Proofs.Try.func52 rfl Go.Proofs.Try.ntmps52 ?_
  refine (show Go' _ _ _ _ 47 [(0, _), (1, _)] [.code _] _ from ?_)
  refine Go'.seq ?_
  -- region 0 (set.go:34)
  refine Go'.region [(0, 0), (1, 0), (2, 0)] rfl ?_
  refine O.asg rfl rfl rfl rfl rfl ?_
  refine O.asg rfl rfl rfl rfl rfl ?_
  refine O.asg rfl rfl rfl rfl rfl ?_
  refine Pl.fin [(0, _), (1, _), (4, _), (5, _), (6, _)] ⟨rfl, rfl, rfl, rfl, rfl, trivial⟩ ?_
  refine Go'.seq ?_
  -- region 1 (set.go:35)
  refine Go'.region [(0, 0), (1, 2), (2, 0)] rfl ?_
  refine O.mv rfl rfl rfl rfl rfl ?_
  refine O.call rfl rfl rfl Go.Proofs.Try.call71 rfl (growWords_spec (l := []) hd (InS.nil EJ H) (by decide)) ?_
  rintro _ H1 ⟨tr, S0, rfl, hM1, hF1, hS0⟩
  unfold ptr
  refine ⟨trivial, ?_⟩
  refine O.asg rfl rfl rfl rfl rfl ?_
  refine Pl.fin [(1, _), (4, _), (5, _), (6, _), (7, _)] ⟨rfl, rfl, rfl, rfl, rfl, trivial⟩ ?_
  refine Go'.seq ?_
  -- region 2 (set.go:36)
  refine Go'.region [(0, 0)] rfl ?_
  refine O.asg rfl rfl rfl rfl rfl ?_
  refine Pl.fin [(1, _), (4, _), (5, _), (6, _), (7, _), (8, _)] ⟨rfl, rfl, rfl, rfl, rfl, rfl, trivial⟩ ?_
  refine Go'.seq ?_
  -- region 3 (set.go:37)
  refine Go'.region [(0, 0)] rfl ?_
  refine O.asg rfl rfl rfl rfl rfl ?_
  refine Pl.fin [(1, _), (4, _), (5, _), (6, _), (7, _), (8, _), (9, _)] ⟨rfl, rfl, rfl, rfl, rfl, rfl, rfl, trivial⟩ ?_
  refine Go'.seq ?_
  refine Go'.seq ?_
  -- region 4 (set.go:38)
  refine Go'.region [(0, 0), (1, 0), (2, 0)] rfl ?_
  refine O.mv rfl rfl rfl rfl rfl ?_
  refine O.len rfl rfl rfl rfl Go.Proofs.Try.underlying26 rfl ?_
  refine O.mv rfl rfl rfl rfl rfl ?_
  refine Pl.fin [(4, _), (5, _), (6, _), (7, _), (8, _), (9, _), (16, _), (17, _), (18, _)] ⟨rfl, rfl, rfl, rfl, rfl, rfl, rfl, rfl, rfl, trivial⟩ ?_
  refine Go'.block ?_
  refine Go'.loop ?_
  refine Go'.keep [(7, _), (8, _), (9, _), (16, _), (17, _), (18, _)] ⟨rfl, rfl, rfl, rfl, rfl, rfl, trivial⟩ ?_
  refine Go'.ind (σ := Nat × Value × Value) (fun s => l.length - s.1) (fun s H' => Fr nowhere H H' ∧ s.1 ≤ l.length ∧ ∃ S Zo Zb, MapM H' tr ⟨0, 2 * d - 1, d - 1⟩ S (Pl.puts OI (l.take s.1)) ∧ (∀ b, S b → H.size ≤ b) ∧ Acc EJ Zo H' s.2.1 (wolds (l.take s.1)) ∧ Acc EB Zb H' s.2.2 (woks (l.take s.1)) ∧ (∀ b, Zo b → H.size ≤ b ∧ b < H'.size ∧ ¬ S b ∧ ¬ Zb b) ∧ ∀ b, Zb b → H.size ≤ b ∧ b < H'.size ∧ ¬ S b)
    (fun s => [(7, .pointer (some ⟨tr, 0, none⟩)), (8, s.2.1), (9, s.2.2), (16, .slice a l.length c), (17, .int .i64 (l.length : Int)), (18, .int .i64 (s.1 : Int))]) (0, .slice none 0 0, .slice none 0 0) ⟨hF1, Nat.zero_le _, S0, fun _ => False, fun _ => False, hM1, hS0, Acc.nil _ _ _, Acc.nil _ _ _, fun _ h => h.elim, fun _ h => h.elim⟩ rfl ?_
  rintro ⟨j, sv, bv⟩ H2 ⟨hF, hjl, S, Zo, Zb, hM, hS, hA, hB, hZ, hY⟩ ih
  simp only at hjl hM hA hB
  have hi2 := hi.fr hF
  refine Go'.seq ?_
  by_cases hlt : j < l.length
  · skip
    obtain ⟨y, hy⟩ : ∃ y, l[j]? = some y := ⟨l[j], List.getElem?_eq_getElem hlt⟩
    obtain ⟨b, o, c', e, hr⟩ := hi2.at hy
    cases e
    have hpl := Pl.puts_length OI (l.take j)
    have hlo := Pl.trace_length OI wold (l.take j)
    have hlb := Pl.trace_length OI (fun x l => Pl.fnd OI x l) (l.take j)
    have hSn : ∀ b, H2.size ≤ b → ¬ S b := fun b hb hs => by have := hM.lt b hs; omega
    have hsz := hF.size
    have eput := wputs hy
    have eold := wsnoc wold hy
    have eok := wsnoc (fun x l => Pl.fnd OI x l) hy
    rw [List.length_take] at hpl hlo hlb
    -- region 5 (set.go:38)
    refine Go'.region [(0, 0)] rfl ?_
    refine O.cmp rfl rfl rfl rfl rfl rfl (lssT (by omega)) ?_
    refine Pl.fin [(7, _), (8, _), (9, _), (16, _), (17, _), (18, _), (19, _)] ⟨rfl, rfl, rfl, rfl, rfl, rfl, rfl, trivial⟩ ?_
    refine Go'.seq ?_
    refine Go'.condT rfl ?_
    refine Go'.skip ?_
    refine Go'.seq ?_
    refine Go'.block ?_
    refine Go'.seq ?_
    -- region 6 (set.go:38)
    refine Go'.region [(0, 0), (1, 1), (2, 2), (3, 2)] rfl ?_
    refine O.ix (j := j) rfl rfl rfl rfl Go.Proofs.Try.underlying26 Go.Proofs.Try.sizeOf54 rfl rfl (by omega) hlt ?_
    refine O.lds rfl rfl rfl (fun w => ⟨Go.Proofs.Try.isAgg54 w, Go.Proofs.Try.sizeOf54 w⟩) rfl rfl hr ?_
    refine O.alloc rfl rfl rfl Go.Proofs.Try.zeroValue54 ?_
    intro H3 M3
    refine ⟨trivial, ?_⟩
    have hs3 := M3.size
    replace hM := hM.fr (M3.fr nowhere) (fun _ _ _ => nw)
    replace hA := hA.fr (M3.fr nowhere) (fun _ _ _ _ => nw)
    replace hB := hB.fr (M3.fr nowhere) (fun _ _ _ _ => nw)
    have m7 : Wr H3 H2.size 0 2 := M3.wr 2 (by decide)
    have hlt2 : ∀ b, S b → b < H2.size := fun b hb => by
      rcases Nat.lt_or_ge b H2.size with h | h
      · exact h
      · exact absurd hb (hSn b h)
    refine O.st rfl rfl Go.Proofs.Try.sizeOf54 rfl rfl rfl rfl rfl m7 ?_
    intro H4 W4
    have hs4 := W4.size
    replace hM := hM.fr W4.fr (fun b o hb hz => by have h1 := hz.1; have h2 := hlt2 b hb; omega)
    replace hA := hA.fr W4.fr (fun b o hb hb2 hz => by have h1 := hz.1; have h2 := hZ b hb2; omega)
    replace hB := hB.fr W4.fr (fun b o hb hb2 hz => by have h1 := hz.1; have h2 := hY b hb2; omega)
    have hf4 : Fr nowhere H H4 := hF.trans' ((M3.fr nowhere).trans' W4.fr (Z := nowhere) (fun _ _ _ h => h) (fun b o hb hz => by have h1 := hz.1; omega)) (fun _ _ _ h => h) (fun _ _ _ h => h)
    have k0 : cl H4 H2.size 0 = some (.string y.1) := W4.all 0 _ rfl
    have k1 : cl H4 H2.size 1 = some (.int .i64 y.2) := W4.all 1 _ rfl
    refine ⟨trivial, ?_⟩
    refine Pl.fin [(7, _), (8, _), (9, _), (11, _), (16, _), (17, _), (18, _), (19, _)] ⟨rfl, rfl, rfl, rfl, rfl, rfl, rfl, rfl, trivial⟩ ?_
    refine Go'.seq ?_
    -- region 7 (set.go:39)
    refine Go'.region [(0, 0), (1, 0), (2, 1), (3, 0), (4, 1), (5, 2), (6, 0), (7, 0), (8, 0), (9, 0), (10, 0)] rfl ?_
    refine O.mv rfl rfl rfl rfl rfl ?_
    refine O.faz rfl rfl rfl rfl ⟨_, _, _, Go.Proofs.Try.underlying54, rfl, rfl, Go.Proofs.Try.sizeOf9⟩ rfl ?_
    refine O.ld rfl rfl rfl (fun w => ⟨Go.Proofs.Try.isAgg9 w, Go.Proofs.Try.sizeOf9 w⟩) rfl k0 ?_
    refine O.fa0 (off := 1) rfl rfl rfl rfl ⟨_, _, _, Go.Proofs.Try.underlying54, rfl, rfl, Go.Proofs.Try.sizeOf3⟩ rfl ?_
    refine O.ld rfl rfl rfl (fun w => ⟨Go.Proofs.Try.isAgg3 w, Go.Proofs.Try.sizeOf3 w⟩) rfl k1 ?_
    refine O.call rfl rfl rfl Go.Proofs.Try.call93 rfl (mset_spec hP (x := y) hM (by omega)) ?_
    rintro _ H5 ⟨rfl, S', hM', hF', hS'⟩
    have hs5 := hF'.size
    replace hA := hA.fr hF' (fun b o hb hb2 hz => (hZ b hb2).2.2.1 hz)
    replace hB := hB.fr hF' (fun b o hb hb2 hz => (hY b hb2).2.2 hz)
    replace k0 := hF'.keep k0 (hSn _ (Nat.le_refl _))
    refine ⟨trivial, ?_⟩
    refine O.mv rfl rfl rfl rfl rfl ?_
    refine O.ext rfl rfl rfl rfl rfl rfl ?_
    refine O.ext rfl rfl rfl rfl rfl rfl ?_
    refine O.asg rfl rfl rfl rfl rfl ?_
    refine O.asg rfl rfl rfl rfl rfl ?_
    refine Pl.fin [(7, _), (8, _), (9, _), (11, _), (12, _), (13, _), (16, _), (17, _), (18, _), (19, _)] ⟨rfl, rfl, rfl, rfl, rfl, rfl, rfl, rfl, rfl, rfl, trivial⟩ ?_
    -- region 8 (set.go:40)
    refine Go'.region [(0, 0), (1, 0), (2, 1), (3, 0), (4, 0), (5, 2), (6, 2), (7, 0), (8, 0), (9, 2), (10, 2), (11, 0), (12, 0)] rfl ?_
    refine O.mv rfl rfl rfl rfl rfl ?_
    refine O.faz rfl rfl rfl rfl ⟨_, _, _, Go.Proofs.Try.underlying54, rfl, rfl, Go.Proofs.Try.sizeOf9⟩ rfl ?_
    refine O.ld rfl rfl rfl (fun w => ⟨Go.Proofs.Try.isAgg9 w, Go.Proofs.Try.sizeOf9 w⟩) rfl k0 ?_
    refine O.mv rfl rfl rfl rfl rfl ?_
    refine O.bld (cs := (EJ.enc (wold y (Pl.puts OI (l.take j))))) rfl rfl rfl rfl (st54) rfl (by kernel_rfl) ?_
    refine O.bsl (cs := (EJ.enc (wold y (Pl.puts OI (l.take j))))) rfl rfl rfl ⟨Go.Proofs.Try.underlying26, Go.Proofs.Try.sizeOf54, Go.Proofs.Try.zeroValue54, ⟨_, Go.Proofs.Try.typeInfo54, rfl⟩, rfl, by decide, by decide⟩ rfl (by decide) (by kernel_rfl) ?_
    intro H6 M6
    have hs6 := M6.size
    replace hM' := hM'.fr (M6.fr nowhere) (fun _ _ _ => nw)
    replace hA := hA.fr (M6.fr nowhere) (fun _ _ _ _ => nw)
    replace hB := hB.fr (M6.fr nowhere) (fun _ _ _ _ => nw)
    have m6 : Rd H6 H5.size 0 (row EJ [wold y (Pl.puts OI (l.take j))]) := M6.rd _ [] (by simp [row, EJ])
    refine ⟨trivial, ?_⟩
    refine O.appA (E := EJ) (Y := [wold y (Pl.puts OI (l.take j))]) rfl rfl rfl ⟨Go.Proofs.Try.underlying26, Go.Proofs.Try.sizeOf54, Go.Proofs.Try.zeroValue54, ⟨_, Go.Proofs.Try.typeInfo54, rfl⟩, rfl, by decide, by decide⟩ rfl hA rfl ⟨_, _, _, rfl, m6⟩ (Nat.succ_pos _) (Nat.le_trans (Nat.mul_le_mul_left _ (Nat.le_of_ble_eq_true (n := _) (m := 4096) rfl)) (by rw [hlo]; simp only [List.length_cons, List.length_nil]; omega)) (by rw [hlo]; simp only [List.length_cons, List.length_nil]; omega) ?_
    intro v7 H7 hA7 hF7 hs7
    have hg7 := hF7.size
    have hSo : ∀ b, S' b → ¬ Zo b := fun b hb hz => (hS' b hb).elim (hZ b hz).2.2.1 (fun h => by have := (hZ b hz).2.1; omega)
    have hSb : ∀ b, S' b → ¬ Zb b := fun b hb hz => (hS' b hb).elim (hY b hz).2.2 (fun h => by have := (hY b hz).2.1; omega)
    have hltS : ∀ b, S' b → b < H6.size := hM'.lt
    have hM7 := hM'.fr hF7 (fun b _ hb => hSo b hb)
    have hB7 := hB.fr hF7 (fun b _ _ hb hz => (hZ b hz).2.2.2 hb)
    refine ⟨trivial, ?_⟩
    refine O.mv rfl rfl rfl rfl rfl ?_
    refine O.mv rfl rfl rfl rfl rfl ?_
    refine O.bsl (cs := (EB.enc (Pl.fnd OI y (Pl.puts OI (l.take j))))) rfl rfl rfl ⟨Go.Proofs.Try.underlying50, Go.Proofs.Try.sizeOf4, Go.Proofs.Try.zeroValue4, ⟨_, Go.Proofs.Try.typeInfo4, rfl⟩, rfl, by decide, by decide⟩ rfl (by decide) (by kernel_rfl) ?_
    intro H8 M8
    have hs8 := M8.size
    have hM8 := hM7.fr (M8.fr nowhere) (fun _ _ _ => nw)
    have hA8 := hA7.fr (M8.fr nowhere) (fun _ _ _ _ => nw)
    have hB8 := hB7.fr (M8.fr nowhere) (fun _ _ _ _ => nw)
    have m8 : Rd H8 H7.size 0 (row EB [Pl.fnd OI y (Pl.puts OI (l.take j))]) := M8.rd _ [] (by simp [row, EB])
    refine ⟨trivial, ?_⟩
    refine O.appA (E := EB) (Y := [Pl.fnd OI y (Pl.puts OI (l.take j))]) rfl rfl rfl ⟨Go.Proofs.Try.underlying50, Go.Proofs.Try.sizeOf4, Go.Proofs.Try.zeroValue4, ⟨_, Go.Proofs.Try.typeInfo4, rfl⟩, rfl, by decide, by decide⟩ rfl hB8 rfl ⟨_, _, _, rfl, m8⟩ (Nat.succ_pos _) (Nat.le_trans (Nat.mul_le_mul_left _ (Nat.le_of_ble_eq_true (n := _) (m := 4096) rfl)) (by rw [hlb]; simp only [List.length_cons, List.length_nil]; omega)) (by rw [hlb]; simp only [List.length_cons, List.length_nil]; omega) ?_
    intro v9 H9 hB9 hF9 hs9
    have hg9 := hF9.size
    have hM9 := hM8.fr hF9 (fun b _ hb => hSb b hb)
    have hA9 := hA8.fr hF9 (fun b _ _ hb hz => hb.elim (fun h => (hZ b h).2.2.2 hz) (fun h => by have := (hY b hz).2.1; omega))
    refine ⟨trivial, ?_⟩
    refine O.asg rfl rfl rfl rfl rfl ?_
    refine O.asg rfl rfl rfl rfl rfl ?_
    refine Pl.fin [(7, _), (8, _), (9, _), (11, _), (12, _), (13, _), (16, _), (17, _), (18, _), (19, _)] ⟨rfl, rfl, rfl, rfl, rfl, rfl, rfl, rfl, rfl, rfl, trivial⟩ ?_
    refine Go'.inBlock ?_
    -- region 9 (set.go:38)
    refine Go'.region [(0, 0), (1, 0)] rfl ?_
    refine O.add (((j + 1 : Nat) : Int)) rfl rfl rfl rfl rfl rfl (by omega) (by omega) ?_
    refine O.mv rfl rfl rfl rfl rfl ?_
    refine Pl.fin [(7, _), (8, _), (9, _), (11, _), (12, _), (13, _), (16, _), (17, _), (18, _), (19, _)] ⟨rfl, rfl, rfl, rfl, rfl, rfl, rfl, rfl, rfl, rfl, trivial⟩ ?_
    refine Go'.keep [(7, _), (8, _), (9, _), (16, _), (17, _), (18, _)] ⟨rfl, rfl, rfl, rfl, rfl, rfl, trivial⟩ ?_
    refine Go'.inLoop ?_
    refine ih (j + 1, v7, v9) H9 ⟨((((hf4.trans' hF' (fun _ _ _ h => h) (fun b o hb hz => by have h1 := hS b hz; omega)).trans (M6.fr nowhere)).trans' hF7 (fun _ _ _ h => h) (fun b o hb hz => by have h1 := (hZ b hz).1; omega)).trans (M8.fr nowhere)).trans' hF9 (fun _ _ _ h => h) (fun b o hb hz => by have h1 := (hY b hz).1; omega), hlt, S', (fun b => Zo b ∨ (b = H6.size ∧ b < H7.size)), (fun b => Zb b ∨ (b = H8.size ∧ b < H9.size)), ?_, fun b hb => (hS' b hb).elim (hS b) (fun h => by have := hf4.size; omega), ?_, ?_, fun b hb => ?_, fun b hb => ?_⟩ (by simp only; omega)
    · simp only
      rw [eput]
      exact hM9
    · simp only
      show Acc EJ _ _ _ (Pl.trace OI wold _)
      rw [eold]
      exact hA9
    · simp only
      show Acc EB _ _ _ (Pl.trace OI _ _)
      rw [eok]
      exact hB9
    · rcases hb with h | h
      · exact ⟨(hZ b h).1, by have := (hZ b h).2.1; omega, fun hs => hSo b hs h, fun hz => hz.elim (hZ b h).2.2.2 (fun k => by have := (hZ b h).2.1; omega)⟩
      · exact ⟨by omega, by omega, fun hs => by have := hltS b hs; omega, fun hz => hz.elim (fun k => by have := (hY b k).2.1; omega) (fun k => by omega)⟩
    · rcases hb with h | h
      · exact ⟨(hY b h).1, by have := (hY b h).2.1; omega, fun hs => hSb b hs h⟩
      · exact ⟨by omega, by omega, fun hs => by have := hltS b hs; omega⟩
  · skip
    obtain rfl : j = l.length := by omega
    rw [List.take_length] at hM hA hB
    -- region 5 (set.go:38)
    refine Go'.region [(0, 0)] rfl ?_
    refine O.cmp rfl rfl rfl rfl rfl rfl (lssF (by omega)) ?_
    refine Pl.fin [(7, _), (8, _), (9, _), (16, _), (17, _), (18, _), (19, _)] ⟨rfl, rfl, rfl, rfl, rfl, rfl, rfl, trivial⟩ ?_
    refine Go'.seq ?_
    refine Go'.condF rfl ?_
    refine Go'.exit rfl ?_
    refine Go'.seq ?_
    -- region 10 (set.go:42)
    refine Go'.region [(0, 0), (1, 0), (2, 0), (3, 2), (4, 0), (5, 0), (6, 0)] rfl ?_
    refine O.mv rfl rfl rfl rfl rfl ?_
    refine O.mv rfl rfl rfl rfl rfl ?_
    refine O.mv rfl rfl rfl rfl rfl ?_
    refine O.call rfl rfl rfl Go.Proofs.Try.call94 rfl (allWords_spec hP hM (by omega)) ?_
    rintro v9 H9 ⟨hv9, hF9⟩
    refine ⟨trivial, ?_⟩
    refine O.asg rfl rfl rfl rfl rfl ?_
    refine O.asg rfl rfl rfl rfl rfl ?_
    refine O.asg rfl rfl rfl rfl rfl ?_
    refine Pl.fin [(4, _), (5, _), (6, _)] ⟨rfl, rfl, rfl, trivial⟩ ?_
    refine Go'.ret (vs := [_, _, _]) Go.Proofs.Try.func52 Go.Proofs.Try.results52 ⟨rfl, rfl, rfl, trivial⟩ ?_
    exact ⟨_, _, _, rfl, (hA.fr hF9 (fun _ _ _ _ => nw)).out, (hB.fr hF9 (fun _ _ _ _ => nw)).out, hv9, hF.trans hF9⟩

theorem spot_spec {B : World} {H : Mem} {u : Value} {l : List (Wk × Int)} (x : Wk × Int) (hi : InS EJ H u l) (hs : Pl.Srt OI l) (hll : l.length ≤ 4294967296) :
    Fn Try.prog B 95 [u, .string x.1] H (fun r H' => r = .tuple #[.int .i64 ((Pl.pos OI x l : Nat) : Int), .bool (Pl.fnd OI x l)] ∧ H' = H) := by
  obtain ⟨a, c, hu⟩ := hi.len
  subst hu
  refine fn_of Go.Proofs.Try.func95 rfl Go.Proofs.Try.ntmps95 ?_
  refine (show Go' _ _ _ _ 36 [(0, _), (1, _)] [.code _] _ from ?_)
  refine Go'.seq ?_
  -- region 0 (words.go:6)
  refine Go'.region [(0, 0), (1, 0)] rfl ?_
  refine O.asg rfl rfl rfl rfl rfl ?_
  refine O.asg rfl rfl rfl rfl rfl ?_
  refine Pl.fin [(0, _), (1, _), (4, _), (5, _)] ⟨rfl, rfl, rfl, rfl, trivial⟩ ?_
  refine Go'.seq ?_
  -- region 1 (words.go:7)
  refine Go'.region [(0, 0)] rfl ?_
  refine O.asg rfl rfl rfl rfl rfl ?_
  refine Pl.fin [(0, _), (1, _), (4, _), (5, _), (6, _)] ⟨rfl, rfl, rfl, rfl, rfl, trivial⟩ ?_
  refine Go'.seq ?_
  refine Go'.block ?_
  refine Go'.loop ?_
  refine Go'.keep [(0, _), (1, _), (6, _)] ⟨rfl, rfl, rfl, trivial⟩ ?_
  refine Go'.ind (σ := Nat) (fun j => l.length - j) (fun j H' => H' = H ∧ j ≤ l.length ∧ ∀ i y, l[i]? = some y → i < j → OI.lt y x = true)
    (fun j => [(0, .slice a l.length c), (1, .string x.1), (6, .int .i64 (j : Int))]) 0 ⟨rfl, Nat.zero_le _, fun i y _ h => by omega⟩ rfl ?_
  rintro j H2 ⟨hHH, hjl, hlo⟩ ih
  have eH : H = H2 := hHH.symm
  subst eH
  clear hHH
  refine Go'.seq ?_
  refine Go'.seq ?_
  by_cases hlt : j < l.length
  · skip
    obtain ⟨y, hy⟩ : ∃ y, l[j]? = some y := ⟨l[j], List.getElem?_eq_getElem hlt⟩
    obtain ⟨b, o, c', e, hr⟩ := hi.at hy
    cases e
    cases hyx : OI.lt y x
    · -- the place
      -- region 2 (words.go:8)
      refine Go'.region [(0, 0), (1, 0), (2, 0), (3, 0), (4, 0), (5, 0), (6, 0), (7, 0), (8, 0), (9, 1), (10, 0), (11, 0), (12, 0)] rfl ?_
      refine O.mv rfl rfl rfl rfl rfl ?_
      refine O.mv rfl rfl rfl rfl rfl ?_
      refine O.len rfl rfl rfl rfl Go.Proofs.Try.underlying26 rfl ?_
      refine O.cmp rfl rfl rfl rfl rfl rfl (lssT (by omega)) ?_
      refine O.mv rfl rfl rfl rfl rfl ?_
      refine O.mv rfl rfl rfl rfl rfl ?_
      refine O.mv rfl rfl rfl rfl rfl ?_
      refine O.ix (j := j) rfl rfl rfl rfl Go.Proofs.Try.underlying26 Go.Proofs.Try.sizeOf54 rfl rfl (by omega) hlt ?_
      refine O.faz rfl rfl rfl rfl ⟨_, _, _, Go.Proofs.Try.underlying54, rfl, rfl, Go.Proofs.Try.sizeOf9⟩ rfl ?_
      refine O.ld rfl rfl rfl (fun w => ⟨Go.Proofs.Try.isAgg9 w, Go.Proofs.Try.sizeOf9 w⟩) rfl (hr 0 _ rfl) ?_
      refine O.mv rfl rfl rfl rfl rfl ?_
      refine O.slss rfl rfl rfl rfl rfl rfl hyx ?_
      refine O.pick rfl rfl rfl rfl rfl rfl ?_
      refine Pl.fin [(0, _), (1, _), (6, _), (19, _)] ⟨rfl, rfl, rfl, rfl, trivial⟩ ?_
      refine Go'.condF rfl ?_
      refine Go'.exit rfl ?_
      refine Go'.seq ?_
      have hpos : Pl.pos OI x l = j := by
        have e : l = l.take j ++ y :: l.drop (j + 1) := Bt.split_item hy
        have h2 := Pl.pos_eq OI (x := x) (a := l.take j) (b := y :: l.drop (j + 1)) (fun z hz => by
          obtain ⟨i, hi2, rfl⟩ := List.mem_iff_getElem.1 hz
          rw [List.length_take] at hi2
          exact hlo i _ (by rw [List.getElem?_eq_getElem (by omega), List.getElem_take]) (by omega)) (fun z hz => by simp only [List.head?_cons, Option.some.injEq] at hz; subst hz; exact hyx)
        rw [← e, List.length_take] at h2
        omega
      have hfnd : Pl.fnd OI x l = !OI.lt x y := by unfold Pl.fnd; rw [hpos, hy]
      -- region 4 (words.go:11)
      refine Go'.draw (fun _ => True) [(0, 0), (1, 0), (2, 0), (3, 0), (4, 0), (5, 0), (6, 0), (7, 0), (8, 0), (9, 0), (10, 1), (11, 0), (12, 0), (13, 0), (14, 0), (15, 0)] (by kernel_rfl) (by kernel_rfl) (trivial) ?_
      refine O.mv rfl rfl rfl rfl rfl ?_
      refine O.mv rfl rfl rfl rfl rfl ?_
      refine O.mv rfl rfl rfl rfl rfl ?_
      refine O.len rfl rfl rfl rfl Go.Proofs.Try.underlying26 rfl ?_
      refine O.cmp rfl rfl rfl rfl rfl rfl (lssT (by omega)) ?_
      refine O.mv rfl rfl rfl rfl rfl ?_
      refine O.mv rfl rfl rfl rfl rfl ?_
      refine O.mv rfl rfl rfl rfl rfl ?_
      refine O.ix (j := j) rfl rfl rfl rfl Go.Proofs.Try.underlying26 Go.Proofs.Try.sizeOf54 rfl rfl (by omega) hlt ?_
      refine O.faz rfl rfl rfl rfl ⟨_, _, _, Go.Proofs.Try.underlying54, rfl, rfl, Go.Proofs.Try.sizeOf9⟩ rfl ?_
      refine O.ld rfl rfl rfl (fun w => ⟨Go.Proofs.Try.isAgg9 w, Go.Proofs.Try.sizeOf9 w⟩) rfl (hr 0 _ rfl) ?_
      refine O.mv rfl rfl rfl rfl rfl ?_
      refine O.seql rfl rfl rfl rfl rfl rfl (bl_beq hyx) ?_
      refine O.pick rfl rfl rfl rfl rfl rfl ?_
      refine O.asg rfl rfl rfl rfl rfl ?_
      refine O.asg rfl rfl rfl rfl rfl ?_
      refine Pl.fin [(4, _), (5, _)] ⟨rfl, rfl, trivial⟩ ?_
      refine Go'.ret (vs := [_, _]) Go.Proofs.Try.func95 Go.Proofs.Try.results95 ⟨rfl, rfl, trivial⟩ ?_
      exact ⟨by rw [hpos, hfnd]; rfl, rfl⟩
    · -- on
      -- region 2 (words.go:8)
      refine Go'.region [(0, 0), (1, 0), (2, 0), (3, 0), (4, 0), (5, 0), (6, 0), (7, 0), (8, 0), (9, 1), (10, 0), (11, 0), (12, 0)] rfl ?_
      refine O.mv rfl rfl rfl rfl rfl ?_
      refine O.mv rfl rfl rfl rfl rfl ?_
      refine O.len rfl rfl rfl rfl Go.Proofs.Try.underlying26 rfl ?_
      refine O.cmp rfl rfl rfl rfl rfl rfl (lssT (by omega)) ?_
      refine O.mv rfl rfl rfl rfl rfl ?_
      refine O.mv rfl rfl rfl rfl rfl ?_
      refine O.mv rfl rfl rfl rfl rfl ?_
      refine O.ix (j := j) rfl rfl rfl rfl Go.Proofs.Try.underlying26 Go.Proofs.Try.sizeOf54 rfl rfl (by omega) hlt ?_
      refine O.faz rfl rfl rfl rfl ⟨_, _, _, Go.Proofs.Try.underlying54, rfl, rfl, Go.Proofs.Try.sizeOf9⟩ rfl ?_
      refine O.ld rfl rfl rfl (fun w => ⟨Go.Proofs.Try.isAgg9 w, Go.Proofs.Try.sizeOf9 w⟩) rfl (hr 0 _ rfl) ?_
      refine O.mv rfl rfl rfl rfl rfl ?_
      refine O.slss rfl rfl rfl rfl rfl rfl hyx ?_
      refine O.pick rfl rfl rfl rfl rfl rfl ?_
      refine Pl.fin [(0, _), (1, _), (6, _), (19, _)] ⟨rfl, rfl, rfl, rfl, trivial⟩ ?_
      refine Go'.condT rfl ?_
      refine Go'.skip ?_
      refine Go'.block ?_
      -- region 3 (words.go:9)
      refine Go'.region [(0, 0), (1, 0), (2, 0)] rfl ?_
      refine O.mv rfl rfl rfl rfl rfl ?_
      refine O.add (((j + 1 : Nat) : Int)) rfl rfl rfl rfl rfl rfl (by omega) (by omega) ?_
      refine O.asg rfl rfl rfl rfl rfl ?_
      refine Pl.fin [(0, _), (1, _), (6, _), (19, _)] ⟨rfl, rfl, rfl, rfl, trivial⟩ ?_
      refine Go'.inBlock ?_
      refine Go'.keep [(0, _), (1, _), (6, _)] ⟨rfl, rfl, rfl, trivial⟩ ?_
      refine Go'.inLoop ?_
      exact ih (j + 1) H ⟨rfl, hlt, fun i z hz hij => by
        rcases Nat.lt_or_ge i j with h | h
        · exact hlo i z hz h
        · obtain rfl : i = j := by omega
          rw [hy] at hz; cases hz; exact hyx⟩ (by omega)
  · -- behind all
    obtain rfl : j = l.length := by omega
    have hpos : Pl.pos OI x l = l.length := by
      have h2 := Pl.pos_eq OI (x := x) (a := l) (b := []) (fun z hz => by
        obtain ⟨i, hi2, rfl⟩ := List.mem_iff_getElem.1 hz
        exact hlo i _ (List.getElem?_eq_getElem hi2) hi2) (fun z hz => by simp at hz)
      rw [List.append_nil] at h2
      exact h2
    have hfnd : Pl.fnd OI x l = false := by unfold Pl.fnd; rw [hpos, List.getElem?_eq_none (Nat.le_refl _)]
    -- region 2 (words.go:8)
    refine Go'.region [(0, 0), (1, 0), (2, 0), (3, 0), (4, 0), (5, 0), (6, 0), (7, 0), (8, 0), (9, 1), (10, 0), (11, 0), (12, 0)] rfl ?_
    refine O.mv rfl rfl rfl rfl rfl ?_
    refine O.mv rfl rfl rfl rfl rfl ?_
    refine O.len rfl rfl rfl rfl Go.Proofs.Try.underlying26 rfl ?_
    refine O.cmp rfl rfl rfl rfl rfl rfl (lssF (by omega)) ?_
    refine O.mv rfl rfl rfl rfl rfl ?_
    refine Pl.pass rfl rfl rfl rfl ?_
    refine Pl.pass rfl rfl rfl rfl ?_
    refine Pl.pass rfl rfl rfl rfl ?_
    refine Pl.pass rfl rfl rfl rfl ?_
    refine Pl.pass rfl rfl rfl rfl ?_
    refine Pl.pass rfl rfl rfl rfl ?_
    refine Pl.pass rfl rfl rfl rfl ?_
    refine O.pick rfl rfl rfl rfl rfl rfl ?_
    refine Pl.fin [(0, _), (1, _), (6, _), (19, _)] ⟨rfl, rfl, rfl, rfl, trivial⟩ ?_
    refine Go'.condF rfl ?_
    refine Go'.exit rfl ?_
    refine Go'.seq ?_
    -- region 4 (words.go:11)
    refine Go'.draw (fun _ => True) [(0, 0), (1, 0), (2, 0), (3, 0), (4, 0), (5, 0), (6, 0), (7, 0), (8, 0), (9, 0), (10, 1), (11, 0), (12, 0), (13, 0), (14, 0), (15, 0)] (by kernel_rfl) (by kernel_rfl) (trivial) ?_
    refine O.mv rfl rfl rfl rfl rfl ?_
    refine O.mv rfl rfl rfl rfl rfl ?_
    refine O.mv rfl rfl rfl rfl rfl ?_
    refine O.len rfl rfl rfl rfl Go.Proofs.Try.underlying26 rfl ?_
    refine O.cmp rfl rfl rfl rfl rfl rfl (lssF (by omega)) ?_
    refine O.mv rfl rfl rfl rfl rfl ?_
    refine Pl.pass rfl rfl rfl rfl ?_
    refine Pl.pass rfl rfl rfl rfl ?_
    refine Pl.pass rfl rfl rfl rfl ?_
    refine Pl.pass rfl rfl rfl rfl ?_
    refine Pl.pass rfl rfl rfl rfl ?_
    refine Pl.pass rfl rfl rfl rfl ?_
    refine Pl.pass rfl rfl rfl rfl ?_
    refine O.pick rfl rfl rfl rfl rfl rfl ?_
    refine O.asg rfl rfl rfl rfl rfl ?_
    refine O.asg rfl rfl rfl rfl rfl ?_
    refine Pl.fin [(4, _), (5, _)] ⟨rfl, rfl, trivial⟩ ?_
    refine Go'.ret (vs := [_, _]) Go.Proofs.Try.func95 Go.Proofs.Try.results95 ⟨rfl, rfl, trivial⟩ ?_
    exact ⟨by rw [hpos, hfnd]; rfl, rfl⟩

theorem specWSet_spec {B : World} {H : Mem} {u : Value} {l : List (Wk × Int)} (hi : InS EJ H u l) (hll : l.length ≤ 4294967296) :
    Fn Try.prog B 53 [u] H (fun r H' => ∃ v1 v2 v3, r = .tuple #[v1, v2, v3] ∧ OutS EJ H' v1 (wolds l) ∧ OutS EB H' v2 (woks l) ∧ OutS EJ H' v3 (Pl.puts OI l) ∧ Fr nowhere H H') := by
  obtain ⟨a, c, hu⟩ := hi.len
  subst hu
  refine fn_of Go.Proofs.Try.func53 rfl Go.Proofs.Try.ntmps53 ?_
  refine (show Go' _ _ _ _ 65 [(0, _)] [.code _] _ from ?_)
  refine Go'.seq ?_
  -- region 0 (words.go:15)
  refine Go'.region [(0, 0), (1, 0), (2, 0)] rfl ?_
  refine O.asg rfl rfl rfl rfl rfl ?_
  refine O.asg rfl rfl rfl rfl rfl ?_
  refine O.asg rfl rfl rfl rfl rfl ?_
  refine Pl.fin [(0, _), (2, _), (3, _), (4, _)] ⟨rfl, rfl, rfl, rfl, trivial⟩ ?_
  refine Go'.seq ?_
  -- region 1 (words.go:16)
  refine Go'.region [(0, 0), (1, 0)] rfl ?_
  refine O.asg rfl rfl rfl rfl rfl ?_
  refine O.asg rfl rfl rfl rfl rfl ?_
  refine Pl.fin [(0, _), (2, _), (3, _), (4, _), (5, _), (6, _)] ⟨rfl, rfl, rfl, rfl, rfl, rfl, trivial⟩ ?_
  refine Go'.seq ?_
  -- region 2 (words.go:17)
  refine Go'.region [(0, 0)] rfl ?_
  refine O.asg rfl rfl rfl rfl rfl ?_
  refine Pl.fin [(0, _), (2, _), (3, _), (4, _), (5, _), (6, _), (7, _)] ⟨rfl, rfl, rfl, rfl, rfl, rfl, rfl, trivial⟩ ?_
  refine Go'.seq ?_
  refine Go'.seq ?_
  -- region 3 (words.go:18)
  refine Go'.region [(0, 0), (1, 0), (2, 0)] rfl ?_
  refine O.mv rfl rfl rfl rfl rfl ?_
  refine O.len rfl rfl rfl rfl Go.Proofs.Try.underlying26 rfl ?_
  refine O.mv rfl rfl rfl rfl rfl ?_
  refine Pl.fin [(2, _), (3, _), (4, _), (5, _), (6, _), (7, _), (14, _), (15, _), (16, _)] ⟨rfl, rfl, rfl, rfl, rfl, rfl, rfl, rfl, rfl, trivial⟩ ?_
  refine Go'.block ?_
  refine Go'.loop ?_
  refine Go'.keep [(5, _), (6, _), (7, _), (14, _), (15, _), (16, _)] ⟨rfl, rfl, rfl, rfl, rfl, rfl, trivial⟩ ?_
  refine Go'.ind (σ := Nat × Value × Value × Value) (fun s => l.length - s.1) (fun s H' => Fr nowhere H H' ∧ s.1 ≤ l.length ∧ ∃ Zo Zb, Acc EJ Zo H' s.2.1 (wolds (l.take s.1)) ∧ Acc EJ (fun b => ¬ Zo b ∧ ¬ Zb b) H' s.2.2.1 (Pl.puts OI (l.take s.1)) ∧ Acc EB Zb H' s.2.2.2 (woks (l.take s.1)) ∧ (∀ b, Zo b → H.size ≤ b ∧ b < H'.size ∧ ¬ Zb b) ∧ ∀ b, Zb b → H.size ≤ b ∧ b < H'.size)
    (fun s => [(5, s.2.1), (6, s.2.2.1), (7, s.2.2.2), (14, .slice a l.length c), (15, .int .i64 (l.length : Int)), (16, .int .i64 (s.1 : Int))]) (0, .slice none 0 0, .slice none 0 0, .slice none 0 0) ⟨Fr.refl _ _, Nat.zero_le _, fun _ => False, fun _ => False, Acc.nil _ _ _, Acc.nil _ _ _, Acc.nil _ _ _, fun _ h => h.elim, fun _ h => h.elim⟩ rfl ?_
  rintro ⟨j, sv, iv, bv⟩ H2 ⟨hF, hjl, Zo, Zb, hA, hI, hB, hZ, hY⟩ ih
  simp only at hjl hA hI hB
  have hi2 := hi.fr hF
  refine Go'.seq ?_
  by_cases hlt : j < l.length
  · skip
    obtain ⟨y, hy⟩ : ∃ y, l[j]? = some y := ⟨l[j], List.getElem?_eq_getElem hlt⟩
    obtain ⟨b, o, c', e, hr⟩ := hi2.at hy
    cases e
    have hpl := Pl.puts_length OI (l.take j)
    have hlo := Pl.trace_length OI wold (l.take j)
    have hlb := Pl.trace_length OI (fun x l => Pl.fnd OI x l) (l.take j)
    have hsrt := Pl.puts_srt OI (l.take j)
    have hsz := hF.size
    have eput := wputs hy
    have eold := wsnoc wold hy
    have eok := wsnoc (fun x l => Pl.fnd OI x l) hy
    rw [List.length_take] at hpl hlo hlb
    generalize hT : Pl.puts OI (l.take j) = T at *
    have hple := Pl.pos_le OI y T
    have hIin := hI.inS
    -- region 4 (words.go:18)
    refine Go'.region [(0, 0)] rfl ?_
    refine O.cmp rfl rfl rfl rfl rfl rfl (lssT (by omega)) ?_
    refine Pl.fin [(5, _), (6, _), (7, _), (14, _), (15, _), (16, _), (17, _)] ⟨rfl, rfl, rfl, rfl, rfl, rfl, rfl, trivial⟩ ?_
    refine Go'.seq ?_
    refine Go'.condT rfl ?_
    refine Go'.skip ?_
    refine Go'.seq ?_
    refine Go'.block ?_
    refine Go'.seq ?_
    -- region 5 (words.go:18)
    refine Go'.region [(0, 0), (1, 1), (2, 2), (3, 2)] rfl ?_
    refine O.ix (j := j) rfl rfl rfl rfl Go.Proofs.Try.underlying26 Go.Proofs.Try.sizeOf54 rfl rfl (by omega) hlt ?_
    refine O.lds rfl rfl rfl (fun w => ⟨Go.Proofs.Try.isAgg54 w, Go.Proofs.Try.sizeOf54 w⟩) rfl rfl hr ?_
    refine O.alloc rfl rfl rfl Go.Proofs.Try.zeroValue54 ?_
    intro H3 M3
    refine ⟨trivial, ?_⟩
    have hs3 := M3.size
    have m3 : Wr H3 H2.size 0 2 := M3.wr 2 (by decide)
    refine O.st rfl rfl Go.Proofs.Try.sizeOf54 rfl rfl rfl rfl rfl m3 ?_
    intro H4 W4
    have hs4 := W4.size
    have hf4 : Fr nowhere H2 H4 := (M3.fr nowhere).trans' W4.fr (fun _ _ _ h => h) (fun b o hb hz => by have h1 := hz.1; omega)
    have mi : Rd H4 H2.size 0 (EJ.enc y) := W4.all
    refine ⟨trivial, ?_⟩
    refine Pl.fin [(5, _), (6, _), (7, _), (9, _), (14, _), (15, _), (16, _), (17, _)] ⟨rfl, rfl, rfl, rfl, rfl, rfl, rfl, rfl, trivial⟩ ?_
    refine Go'.seq ?_
    -- region 6 (words.go:19)
    refine Go'.region [(0, 0), (1, 0), (2, 1), (3, 2), (4, 0), (5, 0), (6, 0), (7, 0), (8, 0)] rfl ?_
    refine O.mv rfl rfl rfl rfl rfl ?_
    refine O.faz rfl rfl rfl rfl ⟨_, _, _, Go.Proofs.Try.underlying54, rfl, rfl, Go.Proofs.Try.sizeOf9⟩ rfl ?_
    refine O.ld rfl rfl rfl (fun w => ⟨Go.Proofs.Try.isAgg9 w, Go.Proofs.Try.sizeOf9 w⟩) rfl (mi 0 _ rfl) ?_
    refine O.callQ rfl rfl rfl Go.Proofs.Try.call95 rfl (spot_spec y (hIin.fr hf4) hsrt (by omega)) trivial ?_
    refine O.mv rfl rfl rfl rfl rfl ?_
    refine O.ext rfl rfl rfl rfl rfl rfl ?_
    refine O.ext rfl rfl rfl rfl rfl rfl ?_
    refine O.asg rfl rfl rfl rfl rfl ?_
    refine O.asg rfl rfl rfl rfl rfl ?_
    refine Pl.fin [(5, _), (6, _), (7, _), (9, _), (10, _), (11, _), (14, _), (15, _), (16, _), (17, _)] ⟨rfl, rfl, rfl, rfl, rfl, rfl, rfl, rfl, rfl, rfl, trivial⟩ ?_
    refine Go'.seq ?_
    -- region 7 (words.go:20)
    refine Go'.region [(0, 0), (1, 1), (2, 0), (3, 2), (4, 2)] rfl ?_
    refine O.faz rfl rfl rfl rfl ⟨_, _, _, Go.Proofs.Try.underlying54, rfl, rfl, Go.Proofs.Try.sizeOf9⟩ rfl ?_
    refine O.ld rfl rfl rfl (fun w => ⟨Go.Proofs.Try.isAgg9 w, Go.Proofs.Try.sizeOf9 w⟩) rfl (mi 0 _ rfl) ?_
    refine O.bld (cs := (EJ.enc (y.1, 0))) rfl rfl rfl rfl (st54) rfl (by kernel_rfl) ?_
    refine O.alloc rfl rfl rfl Go.Proofs.Try.zeroValue54 ?_
    intro H5 M5
    refine ⟨trivial, ?_⟩
    have hs5 := M5.size
    have m5 : Wr H5 H4.size 0 2 := M5.wr 2 (by decide)
    replace mi := (M5.fr nowhere).rd mi (fun _ _ => nw)
    refine O.st (vs := (EJ.enc (y.1, 0))) rfl rfl Go.Proofs.Try.sizeOf54 rfl rfl rfl rfl rfl m5 ?_
    intro H6 W6
    have hs6 := W6.size
    have hf6 : Fr nowhere H2 H6 := (hf4.trans (M5.fr nowhere)).trans' W6.fr (fun _ _ _ h => h) (fun b o hb hz => by have h1 := hz.1; omega)
    replace mi := W6.fr.rd mi (fun _ _ => nr (.inl (by omega)))
    replace m5 := W6.fr.wr m5
    have o6 : Rd H6 H4.size 0 (EJ.enc (y.1, 0)) := W6.all
    refine ⟨trivial, ?_⟩
    refine Pl.fin [(5, _), (6, _), (7, _), (9, _), (10, _), (11, _), (12, _), (14, _), (15, _), (16, _), (17, _)] ⟨rfl, rfl, rfl, rfl, rfl, rfl, rfl, rfl, rfl, rfl, rfl, trivial⟩ ?_
    refine Go'.seq ?_
    generalize hpi : Pl.pos OI y T = i at *
    -- region 8 (words.go:21)
    refine Go'.region [(0, 2), (1, 0), (2, 0), (3, 0), (4, 2), (5, 0)] rfl ?_
    refine O.bsl (cs := []) rfl rfl rfl ⟨Go.Proofs.Try.underlying26, Go.Proofs.Try.sizeOf54, Go.Proofs.Try.zeroValue54, ⟨_, Go.Proofs.Try.typeInfo54, rfl⟩, rfl, by decide, by decide⟩ rfl (by decide) (by kernel_rfl) ?_
    intro H7 M7
    have hs7 := M7.size
    have hf7 := hf6.trans (M7.fr nowhere)
    replace mi := (M7.fr nowhere).rd mi (fun _ _ => nw)
    replace o6 := (M7.fr nowhere).rd o6 (fun _ _ => nw)
    replace m5 := (M7.fr nowhere).wr m5
    have hN7 : AccN EJ (fun b => H6.size ≤ b) H7 _ [] := AccN.made M7
    refine ⟨trivial, ?_⟩
    refine O.mv rfl rfl rfl rfl rfl ?_
    refine O.mv rfl rfl rfl rfl rfl ?_
    refine O.slcIn (E := EJ) (jl := 0) (jh := i) rfl rfl rfl rfl Go.Proofs.Try.underlying26 Go.Proofs.Try.sizeOf54 rfl (hIin.fr hf7) ⟨_, by rfl⟩ rfl (by omega) (by omega) ?_
    intro v8 hv8
    rw [List.drop_zero, Nat.sub_zero] at hv8
    have hl8 : (T.take i).length = i := by rw [List.length_take]; omega
    refine O.appI (E := EJ) rfl rfl rfl ⟨Go.Proofs.Try.underlying26, Go.Proofs.Try.sizeOf54, Go.Proofs.Try.zeroValue54, ⟨_, Go.Proofs.Try.typeInfo54, rfl⟩, rfl, by decide, by decide⟩ rfl hN7 rfl hv8 (Nat.le_trans (Nat.mul_le_mul_left _ (Nat.le_of_ble_eq_true (n := _) (m := 4096) rfl)) (by rw [hl8, List.length_nil]; omega)) (by rw [hl8, List.length_nil]; omega) ?_
    intro v9 H9 hN9 hF9 hs9
    have hg9 := hF9.size
    have hf9 : Fr nowhere H2 H9 := hf7.trans' hF9 (fun _ _ _ h => h) (fun b o hb hz => by have hz' : H6.size ≤ b := hz; omega)
    replace mi := hF9.rd mi (fun _ _ hz => by have hz' : H6.size ≤ H2.size := hz; omega)
    replace o6 := hF9.rd o6 (fun _ _ hz => by have hz' : H6.size ≤ H4.size := hz; omega)
    replace m5 := hF9.wr m5
    replace hN9 := hN9.mono (Y := fun b => H6.size ≤ b) (fun b hb hz => hz.elim id (fun h => by omega))
    rw [List.nil_append] at hN9
    refine ⟨trivial, ?_⟩
    refine O.asg rfl rfl rfl rfl rfl ?_
    refine Pl.fin [(5, _), (6, _), (7, _), (9, _), (10, _), (11, _), (12, _), (13, _), (14, _), (15, _), (16, _), (17, _)] ⟨rfl, rfl, rfl, rfl, rfl, rfl, rfl, rfl, rfl, rfl, rfl, rfl, trivial⟩ ?_
    refine Go'.seq ?_
    -- region 9 (words.go:22)
    refine Go'.region [(0, 0), (1, 1), (2, 2), (3, 2), (4, 0)] rfl ?_
    refine O.mv rfl rfl rfl rfl rfl ?_
    refine O.lds rfl rfl rfl (fun w => ⟨Go.Proofs.Try.isAgg54 w, Go.Proofs.Try.sizeOf54 w⟩) rfl rfl mi ?_
    refine O.bsl (cs := (EJ.enc y)) rfl rfl rfl ⟨Go.Proofs.Try.underlying26, Go.Proofs.Try.sizeOf54, Go.Proofs.Try.zeroValue54, ⟨_, Go.Proofs.Try.typeInfo54, rfl⟩, rfl, by decide, by decide⟩ rfl (by decide) (by kernel_rfl) ?_
    intro H10 M10
    have hs10 := M10.size
    have hf10 := hf9.trans (M10.fr nowhere)
    replace mi := (M10.fr nowhere).rd mi (fun _ _ => nw)
    replace o6 := (M10.fr nowhere).rd o6 (fun _ _ => nw)
    replace m5 := (M10.fr nowhere).wr m5
    have hN10 := hN9.fr (M10.fr nowhere) (fun _ _ _ _ => nw)
    have hv10 : InS EJ H10 (.slice (some ⟨H9.size, 0, none⟩) 1 1) [y] := .inl ⟨_, _, _, rfl, Nat.le_refl _, M10.rd _ [] (by simp [row, EJ])⟩
    refine ⟨trivial, ?_⟩
    refine O.appI (E := EJ) rfl rfl rfl ⟨Go.Proofs.Try.underlying26, Go.Proofs.Try.sizeOf54, Go.Proofs.Try.zeroValue54, ⟨_, Go.Proofs.Try.typeInfo54, rfl⟩, rfl, by decide, by decide⟩ rfl hN10 rfl hv10 (Nat.le_trans (Nat.mul_le_mul_left _ (Nat.le_of_ble_eq_true (n := _) (m := 4096) rfl)) (by rw [hl8, List.length_singleton]; omega)) (by rw [hl8, List.length_singleton]; omega) ?_
    intro v11 H11 hN11 hF11 hs11
    have hg11 := hF11.size
    have hf11 : Fr nowhere H2 H11 := hf10.trans' hF11 (fun _ _ _ h => h) (fun b o hb hz => by have hz' : H6.size ≤ b := hz; omega)
    replace mi := hF11.rd mi (fun _ _ hz => by have hz' : H6.size ≤ H2.size := hz; omega)
    replace o6 := hF11.rd o6 (fun _ _ hz => by have hz' : H6.size ≤ H4.size := hz; omega)
    replace m5 := hF11.wr m5
    replace hN11 := hN11.mono (Y := fun b => H6.size ≤ b) (fun b hb hz => hz.elim id (fun h => by omega))
    refine ⟨trivial, ?_⟩
    refine O.asg rfl rfl rfl rfl rfl ?_
    refine Pl.fin [(5, _), (6, _), (7, _), (9, _), (10, _), (11, _), (12, _), (13, _), (14, _), (15, _), (16, _), (17, _)] ⟨rfl, rfl, rfl, rfl, rfl, rfl, rfl, rfl, rfl, rfl, rfl, rfl, trivial⟩ ?_
    refine Go'.seq ?_
    refine Go'.seq ?_
    -- region 10 (words.go:23)
    refine Go'.region [(0, 0)] rfl ?_
    refine O.mv rfl rfl rfl rfl rfl ?_
    refine Pl.fin [(5, _), (6, _), (7, _), (9, _), (10, _), (11, _), (12, _), (13, _), (14, _), (15, _), (16, _), (17, _), (39, _)] ⟨rfl, rfl, rfl, rfl, rfl, rfl, rfl, rfl, rfl, rfl, rfl, rfl, rfl, trivial⟩ ?_
    cases hfd : Pl.fnd OI y T
    · skip
      have hput : Pl.put OI y T = T.take i ++ [y] ++ T.drop i := by unfold Pl.put; rw [hpi, hfd]; simp
      have hwold : wold y T = (y.1, 0) := by unfold wold; rw [Pl.got_none _ hfd]
      refine Go'.condF rfl ?_
      refine Go'.skip ?_
      refine Go'.seq ?_
      have hG := hf11
      have hNg := hN11
      have og := o6
      have hgz : H11.size = H11.size := rfl
      have hld : (T.drop (i)).length = T.length - (i) := List.length_drop
      have hl11 : (T.take i ++ [y]).length = i + 1 := by rw [List.length_append, hl8, List.length_singleton]
      -- region 13 (words.go:27)
      refine Go'.region [(0, 0), (1, 0), (2, 0), (3, 0), (4, 2), (5, 0)] rfl ?_
      refine O.mv rfl rfl rfl rfl rfl ?_
      refine O.mv rfl rfl rfl rfl rfl ?_
      refine O.mv rfl rfl rfl rfl rfl ?_
      refine O.slcIn (E := EJ) (jl := i) (jh := T.length) rfl rfl rfl rfl Go.Proofs.Try.underlying26 Go.Proofs.Try.sizeOf54 rfl (hIin.fr hG) rfl ⟨_, by rfl⟩ (by omega) (by omega) ?_
      intro v13 hv13
      rw [List.take_of_length_le (by rw [List.length_drop]; omega)] at hv13
      refine O.appI (E := EJ) rfl rfl rfl ⟨Go.Proofs.Try.underlying26, Go.Proofs.Try.sizeOf54, Go.Proofs.Try.zeroValue54, ⟨_, Go.Proofs.Try.typeInfo54, rfl⟩, rfl, by decide, by decide⟩ rfl hNg rfl hv13 (Nat.le_trans (Nat.mul_le_mul_left _ (Nat.le_of_ble_eq_true (n := _) (m := 4096) rfl)) (by rw [hl11, hld]; omega)) (by rw [hl11, hld]; omega) ?_
      intro v14 H14 hN14 hF14 hs14
      have hg14 := hF14.size
      have hf14 : Fr nowhere H2 H14 := hG.trans' hF14 (fun _ _ _ h => h) (fun b o hb hz => by have hz' : H6.size ≤ b := hz; omega)
      replace og := hF14.rd og (fun _ _ hz => by have hz' : H6.size ≤ H4.size := hz; omega)
      replace hN14 := hN14.mono (Y := fun b => H6.size ≤ b ∧ b < H14.size) (fun b hb hz => ⟨hz.elim id (fun h => by omega), hb⟩)
      rw [← hput, ← eput] at hN14
      have hA14 := hA.fr hf14 (fun _ _ _ _ => nw)
      have hB14 := hB.fr hf14 (fun _ _ _ _ => nw)
      refine ⟨trivial, ?_⟩
      refine O.asg rfl rfl rfl rfl rfl ?_
      refine Pl.fin [(5, _), (6, _), (7, _), (9, _), (10, _), (11, _), (12, _), (13, _), (14, _), (15, _), (16, _), (17, _), (39, _)] ⟨rfl, rfl, rfl, rfl, rfl, rfl, rfl, rfl, rfl, rfl, rfl, rfl, rfl, trivial⟩ ?_
      -- region 14 (words.go:28)
      refine Go'.region [(0, 0), (1, 1), (2, 2), (3, 2), (4, 0), (5, 0), (6, 2), (7, 2), (8, 0), (9, 0)] rfl ?_
      refine O.mv rfl rfl rfl rfl rfl ?_
      refine O.lds rfl rfl rfl (fun w => ⟨Go.Proofs.Try.isAgg54 w, Go.Proofs.Try.sizeOf54 w⟩) rfl rfl og ?_
      refine O.bsl (cs := (EJ.enc (y.1, 0))) rfl rfl rfl ⟨Go.Proofs.Try.underlying26, Go.Proofs.Try.sizeOf54, Go.Proofs.Try.zeroValue54, ⟨_, Go.Proofs.Try.typeInfo54, rfl⟩, rfl, by decide, by decide⟩ rfl (by decide) (by kernel_rfl) ?_
      intro H15 M15
      have hs15 := M15.size
      have hA15 := hA14.fr (M15.fr nowhere) (fun _ _ _ _ => nw)
      have hB15 := hB14.fr (M15.fr nowhere) (fun _ _ _ _ => nw)
      have hN15 := hN14.fr (M15.fr nowhere) (fun _ _ _ _ => nw)
      have m15 : Rd H15 H14.size 0 (row EJ [wold y T]) := M15.rd _ [] (by rw [hwold]; simp [row, EJ])
      refine ⟨trivial, ?_⟩
      refine O.appA (E := EJ) (Y := [wold y T]) rfl rfl rfl ⟨Go.Proofs.Try.underlying26, Go.Proofs.Try.sizeOf54, Go.Proofs.Try.zeroValue54, ⟨_, Go.Proofs.Try.typeInfo54, rfl⟩, rfl, by decide, by decide⟩ rfl hA15 rfl ⟨_, _, _, rfl, m15⟩ (Nat.succ_pos _) (Nat.le_trans (Nat.mul_le_mul_left _ (Nat.le_of_ble_eq_true (n := _) (m := 4096) rfl)) (by rw [hlo]; simp only [List.length_cons, List.length_nil]; omega)) (by rw [hlo]; simp only [List.length_cons, List.length_nil]; omega) ?_
      intro v16 H16 hA16 hF16 hs16
      have hg16 := hF16.size
      have hB16 := hB15.fr hF16 (fun b _ _ hb hz => (hZ b hz).2.2 hb)
      have hN16 := hN15.fr hF16 (fun b _ _ hb hz => by have h1 := (hZ b hz).2.1; omega)
      refine ⟨trivial, ?_⟩
      refine O.mv rfl rfl rfl rfl rfl ?_
      refine O.mv rfl rfl rfl rfl rfl ?_
      refine O.bsl (cs := (EB.enc (Pl.fnd OI y T))) rfl rfl rfl ⟨Go.Proofs.Try.underlying50, Go.Proofs.Try.sizeOf4, Go.Proofs.Try.zeroValue4, ⟨_, Go.Proofs.Try.typeInfo4, rfl⟩, rfl, by decide, by decide⟩ rfl (by decide) (by rw [hfd]; kernel_rfl) ?_
      intro H17 M17
      have hs17 := M17.size
      have hA17 := hA16.fr (M17.fr nowhere) (fun _ _ _ _ => nw)
      have hB17 := hB16.fr (M17.fr nowhere) (fun _ _ _ _ => nw)
      have hN17 := hN16.fr (M17.fr nowhere) (fun _ _ _ _ => nw)
      have m17 : Rd H17 H16.size 0 (row EB [Pl.fnd OI y T]) := M17.rd _ [] (by rw [hfd]; simp [row, EB])
      refine ⟨trivial, ?_⟩
      refine O.appA (E := EB) (Y := [Pl.fnd OI y T]) rfl rfl rfl ⟨Go.Proofs.Try.underlying50, Go.Proofs.Try.sizeOf4, Go.Proofs.Try.zeroValue4, ⟨_, Go.Proofs.Try.typeInfo4, rfl⟩, rfl, by decide, by decide⟩ rfl hB17 rfl ⟨_, _, _, rfl, m17⟩ (Nat.succ_pos _) (Nat.le_trans (Nat.mul_le_mul_left _ (Nat.le_of_ble_eq_true (n := _) (m := 4096) rfl)) (by rw [hlb]; simp only [List.length_cons, List.length_nil]; omega)) (by rw [hlb]; simp only [List.length_cons, List.length_nil]; omega) ?_
      intro v18 H18 hB18 hF18 hs18
      have hg18 := hF18.size
      have hA18 := hA17.fr hF18 (fun b _ _ hb hz => hb.elim (fun h => (hZ b h).2.2 hz) (fun h => by have := (hY b hz).2; omega))
      have hN18 := hN17.fr hF18 (fun b _ _ hb hz => by have h1 := (hY b hz).2; omega)
      refine ⟨trivial, ?_⟩
      refine O.asg rfl rfl rfl rfl rfl ?_
      refine O.asg rfl rfl rfl rfl rfl ?_
      refine Pl.fin [(5, _), (6, _), (7, _), (9, _), (10, _), (11, _), (12, _), (13, _), (14, _), (15, _), (16, _), (17, _), (39, _)] ⟨rfl, rfl, rfl, rfl, rfl, rfl, rfl, rfl, rfl, rfl, rfl, rfl, rfl, trivial⟩ ?_
      refine Go'.inBlock ?_
      -- region 15 (words.go:18)
      refine Go'.region [(0, 0), (1, 0)] rfl ?_
      refine O.add (((j + 1 : Nat) : Int)) rfl rfl rfl rfl rfl rfl (by omega) (by omega) ?_
      refine O.mv rfl rfl rfl rfl rfl ?_
      refine Pl.fin [(5, _), (6, _), (7, _), (9, _), (10, _), (11, _), (12, _), (13, _), (14, _), (15, _), (16, _), (17, _), (39, _)] ⟨rfl, rfl, rfl, rfl, rfl, rfl, rfl, rfl, rfl, rfl, rfl, rfl, rfl, trivial⟩ ?_
      refine Go'.keep [(5, _), (6, _), (7, _), (14, _), (15, _), (16, _)] ⟨rfl, rfl, rfl, rfl, rfl, rfl, trivial⟩ ?_
      refine Go'.inLoop ?_
      refine ih (j + 1, v16, v14, v18) H18 ⟨((((hF.trans hf14).trans (M15.fr nowhere)).trans' hF16 (fun _ _ _ h => h) (fun b o hb hz => by have h1 := (hZ b hz).1; omega)).trans (M17.fr nowhere)).trans' hF18 (fun _ _ _ h => h) (fun b o hb hz => by have h1 := (hY b hz).1; omega), hlt, (fun b => Zo b ∨ (b = H15.size ∧ b < H16.size)), (fun b => Zb b ∨ (b = H17.size ∧ b < H18.size)), ?_, ?_, ?_, fun b hb => ?_, fun b hb => ?_⟩ (by simp only; omega)
      · simp only
        show Acc EJ _ _ _ (Pl.trace OI wold _)
        rw [eold]
        exact hA18
      · simp only
        refine (hN18.acc).mono fun b hb hz => ?_
        exact ⟨fun h => h.elim (fun h => by have := (hZ b h).2.1; omega) (fun h => by omega), fun h => h.elim (fun h => by have := (hY b h).2; omega) (fun h => by omega)⟩
      · simp only
        show Acc EB _ _ _ (Pl.trace OI _ _)
        rw [eok]
        exact hB18
      · rcases hb with h | h
        · exact ⟨(hZ b h).1, by have := (hZ b h).2.1; omega, fun hz => hz.elim (hZ b h).2.2 (fun k => by have := (hZ b h).2.1; omega)⟩
        · exact ⟨by omega, by omega, fun hz => hz.elim (fun k => by have := (hY b k).2; omega) (fun k => by omega)⟩
      · rcases hb with h | h
        · exact ⟨(hY b h).1, by have := (hY b h).2; omega⟩
        · exact ⟨by omega, by omega⟩
    · skip
      obtain ⟨z, hz, _, _⟩ := Pl.fnd_at OI hsrt hfd
      rw [hpi] at hz
      have hil : i < T.length := (List.getElem?_eq_some_iff.1 hz).1
      have hput : Pl.put OI y T = T.take i ++ [y] ++ T.drop (i + 1) := by unfold Pl.put; rw [hpi, hfd]; simp
      have hwold : wold y T = (y.1, z.2) := by unfold wold; rw [Pl.got_some _ hfd, hpi, hz]
      obtain ⟨bz, oz, cz, ez, hrz⟩ := (hIin.fr hf11).at hz
      subst ez
      refine Go'.condT rfl ?_
      refine Go'.seq ?_
      -- region 11 (words.go:24)
      refine Go'.region [(0, 0), (1, 0), (2, 0), (3, 0), (4, 1), (5, 0), (6, 2)] rfl ?_
      refine O.mv rfl rfl rfl rfl rfl ?_
      refine O.mv rfl rfl rfl rfl rfl ?_
      refine O.ix (j := i) rfl rfl rfl rfl Go.Proofs.Try.underlying26 Go.Proofs.Try.sizeOf54 rfl rfl (by omega) hil ?_
      refine O.fa (off := 1) rfl rfl rfl rfl ⟨_, _, _, Go.Proofs.Try.underlying54, rfl, rfl, Go.Proofs.Try.sizeOf3⟩ rfl ?_
      refine O.ld rfl rfl rfl (fun w => ⟨Go.Proofs.Try.isAgg3 w, Go.Proofs.Try.sizeOf3 w⟩) rfl (hrz 1 _ rfl) ?_
      refine O.fa0 (off := 1) rfl rfl rfl rfl ⟨_, _, _, Go.Proofs.Try.underlying54, rfl, rfl, Go.Proofs.Try.sizeOf3⟩ rfl ?_
      refine O.st (vs := [.int .i64 z.2]) rfl rfl Go.Proofs.Try.sizeOf3 rfl rfl rfl rfl rfl (m5.at0 1 1 (by omega)) ?_
      intro H12 W12
      have hs12 := W12.size
      have hG : Fr nowhere H2 H12 := hf11.trans' W12.fr (fun _ _ _ h => h) (fun b o hb hz => by have h1 := hz.1; omega)
      have hNg := hN11.fr W12.fr (fun b o hb hb2 hz => by have h1 := hz.1; omega)
      have og : Rd H12 H4.size 0 (EJ.enc (y.1, z.2)) := fun i v hv => by
        match i, hv with
        | 0, hv => exact W12.keep1 (o6 0 _ rfl) (by omega) |>.trans hv
        | 1, hv => exact W12.at.trans hv
        | i + 2, hv => simp [EJ] at hv
      refine ⟨trivial, ?_⟩
      refine Pl.fin [(5, _), (6, _), (7, _), (9, _), (10, _), (11, _), (12, _), (13, _), (14, _), (15, _), (16, _), (17, _), (39, _)] ⟨rfl, rfl, rfl, rfl, rfl, rfl, rfl, rfl, rfl, rfl, rfl, rfl, rfl, trivial⟩ ?_
      -- region 12 (words.go:25)
      refine Go'.region [(0, 0), (1, 0), (2, 0)] rfl ?_
      refine O.mv rfl rfl rfl rfl rfl ?_
      refine O.add (((i + 1 : Nat) : Int)) rfl rfl rfl rfl rfl rfl (by omega) (by omega) ?_
      refine O.asg rfl rfl rfl rfl rfl ?_
      refine Pl.fin [(5, _), (6, _), (7, _), (9, _), (10, _), (11, _), (12, _), (13, _), (14, _), (15, _), (16, _), (17, _), (39, _)] ⟨rfl, rfl, rfl, rfl, rfl, rfl, rfl, rfl, rfl, rfl, rfl, rfl, rfl, trivial⟩ ?_
      refine Go'.seq ?_
      have hld : (T.drop (i + 1)).length = T.length - (i + 1) := List.length_drop
      have hl11 : (T.take i ++ [y]).length = i + 1 := by rw [List.length_append, hl8, List.length_singleton]
      -- region 13 (words.go:27)
      refine Go'.region [(0, 0), (1, 0), (2, 0), (3, 0), (4, 2), (5, 0)] rfl ?_
      refine O.mv rfl rfl rfl rfl rfl ?_
      refine O.mv rfl rfl rfl rfl rfl ?_
      refine O.mv rfl rfl rfl rfl rfl ?_
      refine O.slcIn (E := EJ) (jl := i + 1) (jh := T.length) rfl rfl rfl rfl Go.Proofs.Try.underlying26 Go.Proofs.Try.sizeOf54 rfl (hIin.fr hG) rfl ⟨_, by rfl⟩ (by omega) (by omega) ?_
      intro v13 hv13
      rw [List.take_of_length_le (by rw [List.length_drop]; omega)] at hv13
      refine O.appI (E := EJ) rfl rfl rfl ⟨Go.Proofs.Try.underlying26, Go.Proofs.Try.sizeOf54, Go.Proofs.Try.zeroValue54, ⟨_, Go.Proofs.Try.typeInfo54, rfl⟩, rfl, by decide, by decide⟩ rfl hNg rfl hv13 (Nat.le_trans (Nat.mul_le_mul_left _ (Nat.le_of_ble_eq_true (n := _) (m := 4096) rfl)) (by rw [hl11, hld]; omega)) (by rw [hl11, hld]; omega) ?_
      intro v14 H14 hN14 hF14 hs14
      have hg14 := hF14.size
      have hf14 : Fr nowhere H2 H14 := hG.trans' hF14 (fun _ _ _ h => h) (fun b o hb hz => by have hz' : H6.size ≤ b := hz; omega)
      replace og := hF14.rd og (fun _ _ hz => by have hz' : H6.size ≤ H4.size := hz; omega)
      replace hN14 := hN14.mono (Y := fun b => H6.size ≤ b ∧ b < H14.size) (fun b hb hz => ⟨hz.elim id (fun h => by omega), hb⟩)
      rw [← hput, ← eput] at hN14
      have hA14 := hA.fr hf14 (fun _ _ _ _ => nw)
      have hB14 := hB.fr hf14 (fun _ _ _ _ => nw)
      refine ⟨trivial, ?_⟩
      refine O.asg rfl rfl rfl rfl rfl ?_
      refine Pl.fin [(5, _), (6, _), (7, _), (9, _), (10, _), (11, _), (12, _), (13, _), (14, _), (15, _), (16, _), (17, _), (39, _)] ⟨rfl, rfl, rfl, rfl, rfl, rfl, rfl, rfl, rfl, rfl, rfl, rfl, rfl, trivial⟩ ?_
      -- region 14 (words.go:28)
      refine Go'.region [(0, 0), (1, 1), (2, 2), (3, 2), (4, 0), (5, 0), (6, 2), (7, 2), (8, 0), (9, 0)] rfl ?_
      refine O.mv rfl rfl rfl rfl rfl ?_
      refine O.lds rfl rfl rfl (fun w => ⟨Go.Proofs.Try.isAgg54 w, Go.Proofs.Try.sizeOf54 w⟩) rfl rfl og ?_
      refine O.bsl (cs := (EJ.enc (y.1, z.2))) rfl rfl rfl ⟨Go.Proofs.Try.underlying26, Go.Proofs.Try.sizeOf54, Go.Proofs.Try.zeroValue54, ⟨_, Go.Proofs.Try.typeInfo54, rfl⟩, rfl, by decide, by decide⟩ rfl (by decide) (by kernel_rfl) ?_
      intro H15 M15
      have hs15 := M15.size
      have hA15 := hA14.fr (M15.fr nowhere) (fun _ _ _ _ => nw)
      have hB15 := hB14.fr (M15.fr nowhere) (fun _ _ _ _ => nw)
      have hN15 := hN14.fr (M15.fr nowhere) (fun _ _ _ _ => nw)
      have m15 : Rd H15 H14.size 0 (row EJ [wold y T]) := M15.rd _ [] (by rw [hwold]; simp [row, EJ])
      refine ⟨trivial, ?_⟩
      refine O.appA (E := EJ) (Y := [wold y T]) rfl rfl rfl ⟨Go.Proofs.Try.underlying26, Go.Proofs.Try.sizeOf54, Go.Proofs.Try.zeroValue54, ⟨_, Go.Proofs.Try.typeInfo54, rfl⟩, rfl, by decide, by decide⟩ rfl hA15 rfl ⟨_, _, _, rfl, m15⟩ (Nat.succ_pos _) (Nat.le_trans (Nat.mul_le_mul_left _ (Nat.le_of_ble_eq_true (n := _) (m := 4096) rfl)) (by rw [hlo]; simp only [List.length_cons, List.length_nil]; omega)) (by rw [hlo]; simp only [List.length_cons, List.length_nil]; omega) ?_
      intro v16 H16 hA16 hF16 hs16
      have hg16 := hF16.size
      have hB16 := hB15.fr hF16 (fun b _ _ hb hz => (hZ b hz).2.2 hb)
      have hN16 := hN15.fr hF16 (fun b _ _ hb hz => by have h1 := (hZ b hz).2.1; omega)
      refine ⟨trivial, ?_⟩
      refine O.mv rfl rfl rfl rfl rfl ?_
      refine O.mv rfl rfl rfl rfl rfl ?_
      refine O.bsl (cs := (EB.enc (Pl.fnd OI y T))) rfl rfl rfl ⟨Go.Proofs.Try.underlying50, Go.Proofs.Try.sizeOf4, Go.Proofs.Try.zeroValue4, ⟨_, Go.Proofs.Try.typeInfo4, rfl⟩, rfl, by decide, by decide⟩ rfl (by decide) (by rw [hfd]; kernel_rfl) ?_
      intro H17 M17
      have hs17 := M17.size
      have hA17 := hA16.fr (M17.fr nowhere) (fun _ _ _ _ => nw)
      have hB17 := hB16.fr (M17.fr nowhere) (fun _ _ _ _ => nw)
      have hN17 := hN16.fr (M17.fr nowhere) (fun _ _ _ _ => nw)
      have m17 : Rd H17 H16.size 0 (row EB [Pl.fnd OI y T]) := M17.rd _ [] (by rw [hfd]; simp [row, EB])
      refine ⟨trivial, ?_⟩
      refine O.appA (E := EB) (Y := [Pl.fnd OI y T]) rfl rfl rfl ⟨Go.Proofs.Try.underlying50, Go.Proofs.Try.sizeOf4, Go.Proofs.Try.zeroValue4, ⟨_, Go.Proofs.Try.typeInfo4, rfl⟩, rfl, by decide, by decide⟩ rfl hB17 rfl ⟨_, _, _, rfl, m17⟩ (Nat.succ_pos _) (Nat.le_trans (Nat.mul_le_mul_left _ (Nat.le_of_ble_eq_true (n := _) (m := 4096) rfl)) (by rw [hlb]; simp only [List.length_cons, List.length_nil]; omega)) (by rw [hlb]; simp only [List.length_cons, List.length_nil]; omega) ?_
      intro v18 H18 hB18 hF18 hs18
      have hg18 := hF18.size
      have hA18 := hA17.fr hF18 (fun b _ _ hb hz => hb.elim (fun h => (hZ b h).2.2 hz) (fun h => by have := (hY b hz).2; omega))
      have hN18 := hN17.fr hF18 (fun b _ _ hb hz => by have h1 := (hY b hz).2; omega)
      refine ⟨trivial, ?_⟩
      refine O.asg rfl rfl rfl rfl rfl ?_
      refine O.asg rfl rfl rfl rfl rfl ?_
      refine Pl.fin [(5, _), (6, _), (7, _), (9, _), (10, _), (11, _), (12, _), (13, _), (14, _), (15, _), (16, _), (17, _), (39, _)] ⟨rfl, rfl, rfl, rfl, rfl, rfl, rfl, rfl, rfl, rfl, rfl, rfl, rfl, trivial⟩ ?_
      refine Go'.inBlock ?_
      -- region 15 (words.go:18)
      refine Go'.region [(0, 0), (1, 0)] rfl ?_
      refine O.add (((j + 1 : Nat) : Int)) rfl rfl rfl rfl rfl rfl (by omega) (by omega) ?_
      refine O.mv rfl rfl rfl rfl rfl ?_
      refine Pl.fin [(5, _), (6, _), (7, _), (9, _), (10, _), (11, _), (12, _), (13, _), (14, _), (15, _), (16, _), (17, _), (39, _)] ⟨rfl, rfl, rfl, rfl, rfl, rfl, rfl, rfl, rfl, rfl, rfl, rfl, rfl, trivial⟩ ?_
      refine Go'.keep [(5, _), (6, _), (7, _), (14, _), (15, _), (16, _)] ⟨rfl, rfl, rfl, rfl, rfl, rfl, trivial⟩ ?_
      refine Go'.inLoop ?_
      refine ih (j + 1, v16, v14, v18) H18 ⟨((((hF.trans hf14).trans (M15.fr nowhere)).trans' hF16 (fun _ _ _ h => h) (fun b o hb hz => by have h1 := (hZ b hz).1; omega)).trans (M17.fr nowhere)).trans' hF18 (fun _ _ _ h => h) (fun b o hb hz => by have h1 := (hY b hz).1; omega), hlt, (fun b => Zo b ∨ (b = H15.size ∧ b < H16.size)), (fun b => Zb b ∨ (b = H17.size ∧ b < H18.size)), ?_, ?_, ?_, fun b hb => ?_, fun b hb => ?_⟩ (by simp only; omega)
      · simp only
        show Acc EJ _ _ _ (Pl.trace OI wold _)
        rw [eold]
        exact hA18
      · simp only
        refine (hN18.acc).mono fun b hb hz => ?_
        exact ⟨fun h => h.elim (fun h => by have := (hZ b h).2.1; omega) (fun h => by omega), fun h => h.elim (fun h => by have := (hY b h).2; omega) (fun h => by omega)⟩
      · simp only
        show Acc EB _ _ _ (Pl.trace OI _ _)
        rw [eok]
        exact hB18
      · rcases hb with h | h
        · exact ⟨(hZ b h).1, by have := (hZ b h).2.1; omega, fun hz => hz.elim (hZ b h).2.2 (fun k => by have := (hZ b h).2.1; omega)⟩
        · exact ⟨by omega, by omega, fun hz => hz.elim (fun k => by have := (hY b k).2; omega) (fun k => by omega)⟩
      · rcases hb with h | h
        · exact ⟨(hY b h).1, by have := (hY b h).2; omega⟩
        · exact ⟨by omega, by omega⟩
  · skip
    obtain rfl : j = l.length := by omega
    rw [List.take_length] at hA hI hB
    -- region 4 (words.go:18)
    refine Go'.region [(0, 0)] rfl ?_
    refine O.cmp rfl rfl rfl rfl rfl rfl (lssF (by omega)) ?_
    refine Pl.fin [(5, _), (6, _), (7, _), (14, _), (15, _), (16, _), (17, _)] ⟨rfl, rfl, rfl, rfl, rfl, rfl, rfl, trivial⟩ ?_
    refine Go'.seq ?_
    refine Go'.condF rfl ?_
    refine Go'.exit rfl ?_
    refine Go'.seq ?_
    -- region 16 (words.go:30)
    refine Go'.region [(0, 0), (1, 0), (2, 0), (3, 0), (4, 0), (5, 0)] rfl ?_
    refine O.mv rfl rfl rfl rfl rfl ?_
    refine O.mv rfl rfl rfl rfl rfl ?_
    refine O.mv rfl rfl rfl rfl rfl ?_
    refine O.asg rfl rfl rfl rfl rfl ?_
    refine O.asg rfl rfl rfl rfl rfl ?_
    refine O.asg rfl rfl rfl rfl rfl ?_
    refine Pl.fin [(2, _), (3, _), (4, _)] ⟨rfl, rfl, rfl, trivial⟩ ?_
    refine Go'.ret (vs := [_, _, _]) Go.Proofs.Try.func53 Go.Proofs.Try.results53 ⟨rfl, rfl, rfl, trivial⟩ ?_
    exact ⟨_, _, _, rfl, hA.out, hB.out, hI.out, hF⟩

end Go.Bt.FW
