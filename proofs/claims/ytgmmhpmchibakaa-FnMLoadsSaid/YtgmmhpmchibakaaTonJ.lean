/- Contracts of functions of the program, proved by walking through their code. Conditions: those that each theorem names. -/
import Derived.Test.YtgmmhpmchibakaaTonC
import Derived.Test.YtgmmhpmchibakaaToZr
namespace Go.Bt
open Go Go.Proofs
set_option maxRecDepth 20000
set_option maxHeartbeats 4000000
set_option linter.unusedVariables false

theorem len_spec {B : World} {H : Mem} {tr : Nat} {P : Ps} {S : Nat → Prop} {l : List (Int × Int)} (hM : MapM H tr P S l) :
    Fn Try.prog B 97 [.pointer (some ⟨tr, 0, none⟩)] H (fun r H' => r = .int .i64 (l.length : Int) ∧ H' = H) := by
  refine fn_of Go.Proofs.Try.func97 rfl Go.Proofs.Try.ntmps97 ?_
  refine (show Go' _ _ _ _ 7 [(0, _)] [.code _] _ from ?_)
  refine Go'.seq ?_
  -- region 0 (map.go:335)
  refine Go'.region [(0, 0)] rfl ?_
  refine O.asg rfl rfl rfl rfl rfl ?_
  refine Pl.fin [(0, _), (2, _)] ⟨rfl, rfl, trivial⟩ ?_
  refine Go'.seq ?_
  -- region 1 (map.go:336)
  refine Go'.region [(0, 0), (1, 0), (2, 0), (3, 1), (4, 0)] rfl ?_
  refine O.mv rfl rfl rfl rfl rfl ?_
  refine O.nc rfl rfl rfl rfl rfl ?_
  refine O.fa0 (off := 3) rfl rfl rfl rfl ⟨_, _, _, Go.Proofs.Try.underlying105, rfl, rfl, Go.Proofs.Try.sizeOf3⟩ rfl ?_
  refine O.ld rfl rfl rfl (fun w => ⟨Go.Proofs.Try.isAgg3 w, Go.Proofs.Try.sizeOf3 w⟩) rfl hM.cnt ?_
  refine O.asg rfl rfl rfl rfl rfl ?_
  refine Pl.fin [(2, _)] ⟨rfl, trivial⟩ ?_
  refine Go'.ret (vs := [_]) Go.Proofs.Try.func97 Go.Proofs.Try.results97 ⟨rfl, trivial⟩ ?_
  exact ⟨rfl, rfl⟩

end Go.Bt
namespace Go.Bt
open Go Go.Proofs
set_option maxRecDepth 20000
set_option maxHeartbeats 4000000
set_option linter.unusedVariables false

namespace Pl
theorem inter_drop1 {α : Type} {X : List α} {K : List (List α)} {x : α} {k : List α} {j : Nat} (hx : X[j]? = some x) (hk : K[j]? = some k) : inter (X.drop j) (K.drop j) = k ++ x :: inter (X.drop (j + 1)) (K.drop (j + 1)) := by
  obtain ⟨h1, h2⟩ := List.getElem?_eq_some_iff.1 hx
  obtain ⟨h3, h4⟩ := List.getElem?_eq_some_iff.1 hk
  rw [← List.getElem_cons_drop (h := h1), ← List.getElem_cons_drop (h := h3), h2, h4]
  rfl
end Pl
def encKV (x : Int × Int) : List Value := [.int .i64 x.1, .int .i64 x.2]
theorem takes_stop {go : List (Int × Int) → Bool} {acc l r : List (Int × Int)} (h : (takes go acc l).2 = false) : takes go acc (l ++ r) = takes go acc l := by rw [takes_append, h]; rfl
theorem takes_on {go : List (Int × Int) → Bool} {acc l r : List (Int × Int)} (h : (takes go acc l).2 = true) : takes go acc (l ++ r) = takes go (takes go acc l).1 r := by rw [takes_append, h]; rfl
/-- What a reader with a function is called with. -/
structure VPre {P' : Program} {B : World} {g : FuncId} {us cs : List Value} {go : List (Int × Int) → Bool} {M : Nat} (cb : Cb P' B encKV g us cs go M) (H : Mem) (tr : Nat) (P : Ps) (h : Nat) (t : Gt EI h) (bp op : Nat) (acc : List (Int × Int)) (Z : Nat → Prop) : Prop where
  tc : TrC H tr P.iso P.mx P.mn
  g : Gt.Good H P h t
  cel : cl H bp op = some (ptr (Gt.p h t))
  nz : ∀ b o, Gt.af h t b o → ¬ Z b
  ntr : ¬ Z tr
  st : cb.T acc Z H
  len : acc.length + (Gt.L h t).length ≤ M

end Go.Bt
namespace Go.Bt
open Go Go.Proofs
set_option maxRecDepth 20000
set_option maxHeartbeats 4000000
set_option linter.unusedVariables false

/-- What the taker keeps: how many at most, and the list so far. -/
structure TkT (b2 b3 D : Nat) (n : Int) (acc : List (Int × Int)) (Z : Nat → Prop) (H : Mem) : Prop where
  c2 : cl H b2 0 = some (ptr D)
  c3 : cl H b3 0 = some (.int .i64 n)
  wr : Wr H D 0 1
  z2 : Z b2
  z3 : Z b3
  zD : Z D
  n2 : b2 ≠ D
  n3 : b3 ≠ D
  lt : ∀ b, Z b → b < H.size
  sl : (acc = [] ∧ cl H D 0 = some (.slice none 0 0)) ∨ ∃ b o c, cl H D 0 = some (.slice (some ⟨b, o, none⟩) acc.length c) ∧ SlE EJ H b o c acc ∧ Z b ∧ b ≠ D ∧ b ≠ b2 ∧ b ≠ b3
theorem TkT.fr {b2 b3 D : Nat} {n : Int} {acc : List (Int × Int)} {Z : Nat → Prop} {H H' : Mem} {Y : Nat → Nat → Prop} (h : TkT b2 b3 D n acc Z H) (hf : Fr Y H H') (hy : ∀ b o, Z b → ¬ Y b o) : TkT b2 b3 D n acc Z H' where
  c2 := hf.keep h.c2 (hy _ _ h.z2)
  c3 := hf.keep h.c3 (hy _ _ h.z3)
  wr := hf.wr h.wr
  z2 := h.z2
  z3 := h.z3
  zD := h.zD
  n2 := h.n2
  n3 := h.n3
  lt := fun b hb => Nat.lt_of_lt_of_le (h.lt b hb) hf.size
  sl := h.sl.elim (fun ⟨e, k⟩ => .inl ⟨e, hf.keep k (hy _ _ h.zD)⟩) fun ⟨b, o, c, k, hs, hz, r⟩ => .inr ⟨b, o, c, hf.keep k (hy _ _ h.zD), hs.fr hf (fun i _ _ => hy _ _ hz), hz, r⟩

theorem taker1_spec {B : World} {H : Mem} {b2 b3 D : Nat} {n : Int} {acc : List (Int × Int)} {Z : Nat → Prop} {x : Int × Int} (hT : TkT b2 b3 D n acc Z H) (hl : acc.length < 4294967296) :
    Fn Try.prog B 117 [.agg (EJ.enc x).toArray, ptr b2, ptr b3] H (fun r H' => r = .bool (goN n (acc ++ [x])) ∧ ∃ Z', TkT b2 b3 D n (acc ++ [x]) Z' H' ∧ Fr (fun b _ => Z b) H H' ∧ ∀ b, Z' b → Z b ∨ H.size ≤ b) := by
  unfold ptr
  refine fn_of Go.Proofs.Try.func117 rfl Go.Proofs.Try.ntmps117 ?_
  refine (show Go' _ _ _ _ 23 [(0, _), (1, _), (2, _)] [.code _] _ from ?_)
  refine Go'.seq ?_
  -- region 0 (impl.go:207)
  refine Go'.region [(0, 2), (1, 0)] rfl ?_
  refine O.box rfl rfl rfl rfl ?_
  intro H1 M1
  refine ⟨trivial, ?_⟩
  have hs1 := M1.size
  have mi : Rd H1 H.size 0 (EJ.enc x) := M1.rd _ [] (by simp [Value.cells])
  have hlt := hT.lt
  replace hT := hT.fr (M1.fr nowhere) (fun _ _ _ => nw)
  obtain ⟨c2, c3, hw, z2, z3, zD, n2, n3, lt, hsl⟩ := hT
  unfold ptr at c2
  have l2 := hlt _ z2
  have l3 := hlt _ z3
  have lD := hlt _ zD
  refine O.asg rfl rfl rfl rfl rfl ?_
  refine Pl.fin [(1, _), (2, _), (3, _), (4, _)] ⟨rfl, rfl, rfl, rfl, trivial⟩ ?_
  refine Go'.seq ?_
  have hacc1 : (acc ++ [x]).length = acc.length + 1 := by simp
  rcases hsl with ⟨rfl, cD⟩ | ⟨b, o, c, cD, hs, zb, nb, nb2, nb3⟩
  · skip
    -- region 1 (impl.go:208)
    refine Go'.draw (fun H' => cl H' b2 0 = some (.pointer (some ⟨D, 0, none⟩)) ∧ cl H' D 0 = some (.slice none 0 0) ∧ Rd H' H.size 0 (EJ.enc x)) [(0, 0), (1, 0), (2, 0), (3, 0), (4, 1), (5, 2), (6, 2), (7, 0), (8, 3)] (by kernel_rfl) (by kernel_rfl) (⟨c2, cD, mi⟩) ?_
    refine O.ldC rfl rfl rfl (fun w => ⟨Go.Proofs.Try.isAgg74 w, Go.Proofs.Try.sizeOf74 w⟩) rfl (fun _ h => h.1) ?_
    refine O.ldC rfl rfl rfl (fun w => ⟨Go.Proofs.Try.isAgg74 w, Go.Proofs.Try.sizeOf74 w⟩) rfl (fun _ h => h.1) ?_
    refine O.nc rfl rfl rfl rfl rfl ?_
    refine O.ldC rfl rfl rfl (fun w => ⟨Go.Proofs.Try.isAgg22 w, Go.Proofs.Try.sizeOf22 w⟩) rfl (fun _ h => h.2.1) ?_
    refine O.lds rfl rfl rfl (fun w => ⟨Go.Proofs.Try.isAgg35 w, Go.Proofs.Try.sizeOf35 w⟩) rfl rfl mi ?_
    refine O.bsl (cs := (EJ.enc x)) rfl rfl rfl ⟨Go.Proofs.Try.underlying22, Go.Proofs.Try.sizeOf35, Go.Proofs.Try.zeroValue35, ⟨_, Go.Proofs.Try.typeInfo35, rfl⟩, rfl, by decide, by decide⟩ rfl (by decide) (by kernel_rfl) ?_
    intro H2 M2
    have hs2 := M2.size
    replace c2 := M2.keep c2
    replace c3 := M2.keep c3
    replace cD := M2.keep cD
    replace mi := (M2.fr nowhere).rd mi (fun _ _ => nw)
    replace hw := (M2.fr nowhere).wr hw
    have m2 : Rd H2 H1.size 0 (EJ.enc x) := M2.rd _ [] (by simp)
    refine ⟨⟨c2, cD, mi⟩, ?_⟩
    refine O.appN (m := 1) (news := (EJ.enc x)) rfl rfl rfl ⟨Go.Proofs.Try.underlying22, Go.Proofs.Try.sizeOf35, Go.Proofs.Try.zeroValue35, ⟨_, Go.Proofs.Try.typeInfo35, rfl⟩, rfl, by decide, by decide⟩ rfl rfl ⟨_, _, _, rfl, m2⟩ rfl (Nat.le_trans (Nat.mul_le_mul_left _ (Nat.le_of_ble_eq_true (n := _) (m := 4096) rfl)) (by omega)) (by omega) (by omega) ?_
    intro cc H3 hsl3 fa hs3
    replace c2 := fa.keep c2 nw
    replace c3 := fa.keep c3 nw
    replace cD := fa.keep cD nw
    replace mi := fa.rd mi (fun _ _ => nw)
    replace hw := fa.wr hw
    refine ⟨⟨c2, cD, mi⟩, ?_⟩
    refine O.nc rfl rfl rfl rfl rfl ?_
    refine O.st3 rfl rfl Go.Proofs.Try.sizeOf22 rfl rfl rfl rfl rfl hw ?_
    intro H4 W4
    have hs4 := W4.size
    replace c2 := W4.fr.keep c2 (nr (.inl n2))
    replace c3 := W4.fr.keep c3 (nr (.inl n3))
    replace hw := W4.fr.wr hw
    clear cD
    have cD := W4.at
    refine Pl.fin [(1, _), (2, _), (4, _)] ⟨rfl, rfl, rfl, trivial⟩ ?_
    refine Go'.seq ?_
    by_cases hn : n < 1
    · skip
      -- region 2 (impl.go:209)
      refine Go'.draw (fun _ => True) [(0, 1), (1, 0), (2, 0), (3, 1), (4, 0), (5, 1), (6, 0), (7, 1), (8, 0), (9, 0), (10, 0)] (by kernel_rfl) (by kernel_rfl) (trivial) ?_
      refine O.ld rfl rfl rfl (fun w => ⟨Go.Proofs.Try.isAgg3 w, Go.Proofs.Try.sizeOf3 w⟩) rfl c3 ?_
      refine O.cmp rfl rfl rfl rfl rfl rfl (lssT (by omega)) ?_
      refine O.mv rfl rfl rfl rfl rfl ?_
      refine Pl.pass rfl rfl rfl rfl ?_
      refine Pl.pass rfl rfl rfl rfl ?_
      refine Pl.pass rfl rfl rfl rfl ?_
      refine Pl.pass rfl rfl rfl rfl ?_
      refine Pl.pass rfl rfl rfl rfl ?_
      refine Pl.pass rfl rfl rfl rfl ?_
      refine O.pick rfl rfl rfl rfl rfl rfl ?_
      refine O.asg rfl rfl rfl rfl rfl ?_
      refine Pl.fin [(4, _)] ⟨rfl, trivial⟩ ?_
      refine Go'.ret (vs := [_]) Go.Proofs.Try.func117 Go.Proofs.Try.results117 ⟨rfl, trivial⟩ ?_
      exact ⟨by unfold goN; rw [decide_eq_true hn]; rfl, fun b => Z b ∨ (H.size ≤ b ∧ b < H4.size), ⟨c2, c3, hw, .inl z2, .inl z3, .inl zD, n2, n3, fun b hb => hb.elim (fun h => by have := hlt b h; omega) (fun h => h.2), .inr ⟨H2.size, 0, cc, cD, (SlE.of (l := [x]) hsl3 (by rw [row_one]) rfl).fr W4.fr (fun _ _ _ => nr (.inl (by omega))), .inr (by omega), by omega, by omega, by omega⟩⟩, (((M1.fr nowhere).trans (M2.fr nowhere)).trans fa).trans' W4.fr (fun _ _ _ h => h.elim) (fun b o _ hz => by rw [hz.1]; exact zD), fun b hb => hb.imp id (fun h => h.1)⟩
    · skip
      by_cases hn2 : (1 : Int) < n
      · skip
        -- region 2 (impl.go:209)
        refine Go'.draw (fun _ => True) [(0, 1), (1, 0), (2, 0), (3, 1), (4, 0), (5, 1), (6, 0), (7, 1), (8, 0), (9, 0), (10, 0)] (by kernel_rfl) (by kernel_rfl) (trivial) ?_
        refine O.ld rfl rfl rfl (fun w => ⟨Go.Proofs.Try.isAgg3 w, Go.Proofs.Try.sizeOf3 w⟩) rfl c3 ?_
        refine O.cmp rfl rfl rfl rfl rfl rfl (lssF (by omega)) ?_
        refine O.mv rfl rfl rfl rfl rfl ?_
        refine O.ld rfl rfl rfl (fun w => ⟨Go.Proofs.Try.isAgg74 w, Go.Proofs.Try.sizeOf74 w⟩) rfl c2 ?_
        refine O.nc rfl rfl rfl rfl rfl ?_
        refine O.ld rfl rfl rfl (fun w => ⟨Go.Proofs.Try.isAgg22 w, Go.Proofs.Try.sizeOf22 w⟩) rfl cD ?_
        refine O.len rfl rfl rfl rfl Go.Proofs.Try.underlying22 rfl ?_
        refine O.ld rfl rfl rfl (fun w => ⟨Go.Proofs.Try.isAgg3 w, Go.Proofs.Try.sizeOf3 w⟩) rfl c3 ?_
        refine O.cmp rfl rfl rfl rfl rfl rfl (lssT (by omega)) ?_
        refine O.pick rfl rfl rfl rfl rfl rfl ?_
        refine O.asg rfl rfl rfl rfl rfl ?_
        refine Pl.fin [(4, _)] ⟨rfl, trivial⟩ ?_
        refine Go'.ret (vs := [_]) Go.Proofs.Try.func117 Go.Proofs.Try.results117 ⟨rfl, trivial⟩ ?_
        exact ⟨by unfold goN; rw [decide_eq_false hn, hacc1]; rw [decide_eq_true (by simpa using hn2)]; rfl, fun b => Z b ∨ (H.size ≤ b ∧ b < H4.size), ⟨c2, c3, hw, .inl z2, .inl z3, .inl zD, n2, n3, fun b hb => hb.elim (fun h => by have := hlt b h; omega) (fun h => h.2), .inr ⟨H2.size, 0, cc, cD, (SlE.of (l := [x]) hsl3 (by rw [row_one]) rfl).fr W4.fr (fun _ _ _ => nr (.inl (by omega))), .inr (by omega), by omega, by omega, by omega⟩⟩, (((M1.fr nowhere).trans (M2.fr nowhere)).trans fa).trans' W4.fr (fun _ _ _ h => h.elim) (fun b o _ hz => by rw [hz.1]; exact zD), fun b hb => hb.imp id (fun h => h.1)⟩
      · skip
        -- region 2 (impl.go:209)
        refine Go'.draw (fun _ => True) [(0, 1), (1, 0), (2, 0), (3, 1), (4, 0), (5, 1), (6, 0), (7, 1), (8, 0), (9, 0), (10, 0)] (by kernel_rfl) (by kernel_rfl) (trivial) ?_
        refine O.ld rfl rfl rfl (fun w => ⟨Go.Proofs.Try.isAgg3 w, Go.Proofs.Try.sizeOf3 w⟩) rfl c3 ?_
        refine O.cmp rfl rfl rfl rfl rfl rfl (lssF (by omega)) ?_
        refine O.mv rfl rfl rfl rfl rfl ?_
        refine O.ld rfl rfl rfl (fun w => ⟨Go.Proofs.Try.isAgg74 w, Go.Proofs.Try.sizeOf74 w⟩) rfl c2 ?_
        refine O.nc rfl rfl rfl rfl rfl ?_
        refine O.ld rfl rfl rfl (fun w => ⟨Go.Proofs.Try.isAgg22 w, Go.Proofs.Try.sizeOf22 w⟩) rfl cD ?_
        refine O.len rfl rfl rfl rfl Go.Proofs.Try.underlying22 rfl ?_
        refine O.ld rfl rfl rfl (fun w => ⟨Go.Proofs.Try.isAgg3 w, Go.Proofs.Try.sizeOf3 w⟩) rfl c3 ?_
        refine O.cmp rfl rfl rfl rfl rfl rfl (lssF (by omega)) ?_
        refine O.pick rfl rfl rfl rfl rfl rfl ?_
        refine O.asg rfl rfl rfl rfl rfl ?_
        refine Pl.fin [(4, _)] ⟨rfl, trivial⟩ ?_
        refine Go'.ret (vs := [_]) Go.Proofs.Try.func117 Go.Proofs.Try.results117 ⟨rfl, trivial⟩ ?_
        exact ⟨by unfold goN; rw [decide_eq_false hn, hacc1]; rw [decide_eq_false (by simpa using hn2)]; rfl, fun b => Z b ∨ (H.size ≤ b ∧ b < H4.size), ⟨c2, c3, hw, .inl z2, .inl z3, .inl zD, n2, n3, fun b hb => hb.elim (fun h => by have := hlt b h; omega) (fun h => h.2), .inr ⟨H2.size, 0, cc, cD, (SlE.of (l := [x]) hsl3 (by rw [row_one]) rfl).fr W4.fr (fun _ _ _ => nr (.inl (by omega))), .inr (by omega), by omega, by omega, by omega⟩⟩, (((M1.fr nowhere).trans (M2.fr nowhere)).trans fa).trans' W4.fr (fun _ _ _ h => h.elim) (fun b o _ hz => by rw [hz.1]; exact zD), fun b hb => hb.imp id (fun h => h.1)⟩
  · skip
    have lb := hlt _ zb
    -- region 1 (impl.go:208)
    refine Go'.draw (fun H' => cl H' b2 0 = some (.pointer (some ⟨D, 0, none⟩)) ∧ cl H' D 0 = some (.slice (some ⟨b, o, none⟩) acc.length c) ∧ Rd H' H.size 0 (EJ.enc x)) [(0, 0), (1, 0), (2, 0), (3, 0), (4, 1), (5, 2), (6, 2), (7, 0), (8, 3)] (by kernel_rfl) (by kernel_rfl) (⟨c2, cD, mi⟩) ?_
    refine O.ldC rfl rfl rfl (fun w => ⟨Go.Proofs.Try.isAgg74 w, Go.Proofs.Try.sizeOf74 w⟩) rfl (fun _ h => h.1) ?_
    refine O.ldC rfl rfl rfl (fun w => ⟨Go.Proofs.Try.isAgg74 w, Go.Proofs.Try.sizeOf74 w⟩) rfl (fun _ h => h.1) ?_
    refine O.nc rfl rfl rfl rfl rfl ?_
    refine O.ldC rfl rfl rfl (fun w => ⟨Go.Proofs.Try.isAgg22 w, Go.Proofs.Try.sizeOf22 w⟩) rfl (fun _ h => h.2.1) ?_
    refine O.lds rfl rfl rfl (fun w => ⟨Go.Proofs.Try.isAgg35 w, Go.Proofs.Try.sizeOf35 w⟩) rfl rfl mi ?_
    refine O.bsl (cs := (EJ.enc x)) rfl rfl rfl ⟨Go.Proofs.Try.underlying22, Go.Proofs.Try.sizeOf35, Go.Proofs.Try.zeroValue35, ⟨_, Go.Proofs.Try.typeInfo35, rfl⟩, rfl, by decide, by decide⟩ rfl (by decide) (by kernel_rfl) ?_
    intro H2 M2
    have hs2 := M2.size
    replace c2 := M2.keep c2
    replace c3 := M2.keep c3
    replace cD := M2.keep cD
    replace mi := (M2.fr nowhere).rd mi (fun _ _ => nw)
    replace hw := (M2.fr nowhere).wr hw
    have m2 : Rd H2 H1.size 0 (EJ.enc x) := M2.rd _ [] (by simp)
    replace hs := hs.fr (M2.fr nowhere) (fun _ _ _ => nw)
    refine ⟨⟨c2, cD, mi⟩, ?_⟩
    refine O.app (m := 1) (news := (EJ.enc x)) rfl rfl rfl ⟨Go.Proofs.Try.underlying22, Go.Proofs.Try.sizeOf35, Go.Proofs.Try.zeroValue35, ⟨_, Go.Proofs.Try.typeInfo35, rfl⟩, rfl, by decide, by decide⟩ rfl hs rfl (.inl ⟨_, _, _, rfl, m2⟩) rfl rfl (Nat.le_trans (Nat.mul_le_mul_left _ (Nat.le_of_ble_eq_true (n := _) (m := 4096) rfl)) (by omega)) (by omega) ?_
    intro bb oo cc H3 ha
    obtain ⟨fa, pa⟩ := ha.rp
    have hs3 := fa.size
    have hsl3 := SlE.app (E := EJ) ha
    have hbb : bb < H3.size := Sl.lt hsl3 (by have := hsl3.hle; rw [hacc1] at this; exact Nat.mul_pos (by omega) EJ.pos)
    replace c2 := fa.keep c2 (fun e => nb2 e.symm)
    replace c3 := fa.keep c3 (fun e => nb3 e.symm)
    replace cD := fa.keep cD (fun e => nb e.symm)
    replace mi := fa.rd mi (fun _ _ e => by have e' : H.size = b := e; omega)
    replace hw := fa.wr hw
    refine ⟨⟨c2, cD, mi⟩, ?_⟩
    refine O.nc rfl rfl rfl rfl rfl ?_
    refine O.st3 rfl rfl Go.Proofs.Try.sizeOf22 rfl rfl rfl rfl rfl hw ?_
    intro H4 W4
    have hs4 := W4.size
    replace c2 := W4.fr.keep c2 (nr (.inl n2))
    replace c3 := W4.fr.keep c3 (nr (.inl n3))
    replace hw := W4.fr.wr hw
    clear cD
    have cD := W4.at
    refine Pl.fin [(1, _), (2, _), (4, _)] ⟨rfl, rfl, rfl, trivial⟩ ?_
    refine Go'.seq ?_
    by_cases hn : n < 1
    · skip
      -- region 2 (impl.go:209)
      refine Go'.draw (fun _ => True) [(0, 1), (1, 0), (2, 0), (3, 1), (4, 0), (5, 1), (6, 0), (7, 1), (8, 0), (9, 0), (10, 0)] (by kernel_rfl) (by kernel_rfl) (trivial) ?_
      refine O.ld rfl rfl rfl (fun w => ⟨Go.Proofs.Try.isAgg3 w, Go.Proofs.Try.sizeOf3 w⟩) rfl c3 ?_
      refine O.cmp rfl rfl rfl rfl rfl rfl (lssT (by omega)) ?_
      refine O.mv rfl rfl rfl rfl rfl ?_
      refine Pl.pass rfl rfl rfl rfl ?_
      refine Pl.pass rfl rfl rfl rfl ?_
      refine Pl.pass rfl rfl rfl rfl ?_
      refine Pl.pass rfl rfl rfl rfl ?_
      refine Pl.pass rfl rfl rfl rfl ?_
      refine Pl.pass rfl rfl rfl rfl ?_
      refine O.pick rfl rfl rfl rfl rfl rfl ?_
      refine O.asg rfl rfl rfl rfl rfl ?_
      refine Pl.fin [(4, _)] ⟨rfl, trivial⟩ ?_
      refine Go'.ret (vs := [_]) Go.Proofs.Try.func117 Go.Proofs.Try.results117 ⟨rfl, trivial⟩ ?_
      exact ⟨by unfold goN; rw [decide_eq_true hn]; rfl, fun b => Z b ∨ (H.size ≤ b ∧ b < H4.size), ⟨c2, c3, hw, .inl z2, .inl z3, .inl zD, n2, n3, fun b hb => hb.elim (fun h => by have := hlt b h; omega) (fun h => h.2), .inr ⟨bb, oo, cc, by rw [hacc1]; exact cD, hsl3.fr W4.fr (fun _ _ _ => nr (.inl (by omega))), (by rcases pa with h | h; exact .inl (h ▸ zb); exact .inr (by omega)), by omega, by omega, by omega⟩⟩, (((M1.fr nowhere).trans (M2.fr nowhere)).trans' fa (Z := fun b _ => Z b) (fun _ _ _ h => h.elim) (fun y o _ hz => by have hz' : y = b := hz; rw [hz']; exact zb)).trans' W4.fr (fun _ _ _ h => h) (fun b o _ hz => by rw [hz.1]; exact zD), fun b hb => hb.imp id (fun h => h.1)⟩
    · skip
      by_cases hn2 : ((acc.length + 1 : Nat) : Int) < n
      · skip
        -- region 2 (impl.go:209)
        refine Go'.draw (fun _ => True) [(0, 1), (1, 0), (2, 0), (3, 1), (4, 0), (5, 1), (6, 0), (7, 1), (8, 0), (9, 0), (10, 0)] (by kernel_rfl) (by kernel_rfl) (trivial) ?_
        refine O.ld rfl rfl rfl (fun w => ⟨Go.Proofs.Try.isAgg3 w, Go.Proofs.Try.sizeOf3 w⟩) rfl c3 ?_
        refine O.cmp rfl rfl rfl rfl rfl rfl (lssF (by omega)) ?_
        refine O.mv rfl rfl rfl rfl rfl ?_
        refine O.ld rfl rfl rfl (fun w => ⟨Go.Proofs.Try.isAgg74 w, Go.Proofs.Try.sizeOf74 w⟩) rfl c2 ?_
        refine O.nc rfl rfl rfl rfl rfl ?_
        refine O.ld rfl rfl rfl (fun w => ⟨Go.Proofs.Try.isAgg22 w, Go.Proofs.Try.sizeOf22 w⟩) rfl cD ?_
        refine O.len rfl rfl rfl rfl Go.Proofs.Try.underlying22 rfl ?_
        refine O.ld rfl rfl rfl (fun w => ⟨Go.Proofs.Try.isAgg3 w, Go.Proofs.Try.sizeOf3 w⟩) rfl c3 ?_
        refine O.cmp rfl rfl rfl rfl rfl rfl (lssT (by omega)) ?_
        refine O.pick rfl rfl rfl rfl rfl rfl ?_
        refine O.asg rfl rfl rfl rfl rfl ?_
        refine Pl.fin [(4, _)] ⟨rfl, trivial⟩ ?_
        refine Go'.ret (vs := [_]) Go.Proofs.Try.func117 Go.Proofs.Try.results117 ⟨rfl, trivial⟩ ?_
        exact ⟨by unfold goN; rw [decide_eq_false hn, hacc1]; rw [decide_eq_true (by simpa using hn2)]; rfl, fun b => Z b ∨ (H.size ≤ b ∧ b < H4.size), ⟨c2, c3, hw, .inl z2, .inl z3, .inl zD, n2, n3, fun b hb => hb.elim (fun h => by have := hlt b h; omega) (fun h => h.2), .inr ⟨bb, oo, cc, by rw [hacc1]; exact cD, hsl3.fr W4.fr (fun _ _ _ => nr (.inl (by omega))), (by rcases pa with h | h; exact .inl (h ▸ zb); exact .inr (by omega)), by omega, by omega, by omega⟩⟩, (((M1.fr nowhere).trans (M2.fr nowhere)).trans' fa (Z := fun b _ => Z b) (fun _ _ _ h => h.elim) (fun y o _ hz => by have hz' : y = b := hz; rw [hz']; exact zb)).trans' W4.fr (fun _ _ _ h => h) (fun b o _ hz => by rw [hz.1]; exact zD), fun b hb => hb.imp id (fun h => h.1)⟩
      · skip
        -- region 2 (impl.go:209)
        refine Go'.draw (fun _ => True) [(0, 1), (1, 0), (2, 0), (3, 1), (4, 0), (5, 1), (6, 0), (7, 1), (8, 0), (9, 0), (10, 0)] (by kernel_rfl) (by kernel_rfl) (trivial) ?_
        refine O.ld rfl rfl rfl (fun w => ⟨Go.Proofs.Try.isAgg3 w, Go.Proofs.Try.sizeOf3 w⟩) rfl c3 ?_
        refine O.cmp rfl rfl rfl rfl rfl rfl (lssF (by omega)) ?_
        refine O.mv rfl rfl rfl rfl rfl ?_
        refine O.ld rfl rfl rfl (fun w => ⟨Go.Proofs.Try.isAgg74 w, Go.Proofs.Try.sizeOf74 w⟩) rfl c2 ?_
        refine O.nc rfl rfl rfl rfl rfl ?_
        refine O.ld rfl rfl rfl (fun w => ⟨Go.Proofs.Try.isAgg22 w, Go.Proofs.Try.sizeOf22 w⟩) rfl cD ?_
        refine O.len rfl rfl rfl rfl Go.Proofs.Try.underlying22 rfl ?_
        refine O.ld rfl rfl rfl (fun w => ⟨Go.Proofs.Try.isAgg3 w, Go.Proofs.Try.sizeOf3 w⟩) rfl c3 ?_
        refine O.cmp rfl rfl rfl rfl rfl rfl (lssF (by omega)) ?_
        refine O.pick rfl rfl rfl rfl rfl rfl ?_
        refine O.asg rfl rfl rfl rfl rfl ?_
        refine Pl.fin [(4, _)] ⟨rfl, trivial⟩ ?_
        refine Go'.ret (vs := [_]) Go.Proofs.Try.func117 Go.Proofs.Try.results117 ⟨rfl, trivial⟩ ?_
        exact ⟨by unfold goN; rw [decide_eq_false hn, hacc1]; rw [decide_eq_false (by simpa using hn2)]; rfl, fun b => Z b ∨ (H.size ≤ b ∧ b < H4.size), ⟨c2, c3, hw, .inl z2, .inl z3, .inl zD, n2, n3, fun b hb => hb.elim (fun h => by have := hlt b h; omega) (fun h => h.2), .inr ⟨bb, oo, cc, by rw [hacc1]; exact cD, hsl3.fr W4.fr (fun _ _ _ => nr (.inl (by omega))), (by rcases pa with h | h; exact .inl (h ▸ zb); exact .inr (by omega)), by omega, by omega, by omega⟩⟩, (((M1.fr nowhere).trans (M2.fr nowhere)).trans' fa (Z := fun b _ => Z b) (fun _ _ _ h => h.elim) (fun y o _ hz => by have hz' : y = b := hz; rw [hz']; exact zb)).trans' W4.fr (fun _ _ _ h => h) (fun b o _ hz => by rw [hz.1]; exact zD), fun b hb => hb.imp id (fun h => h.1)⟩

end Go.Bt
namespace Go.Bt
open Go Go.Proofs
set_option maxRecDepth 20000
set_option maxHeartbeats 4000000
set_option linter.unusedVariables false

/-- What the function of pairs keeps: the taker, and what that one keeps. -/
def PrT (pb b2 b3 D : Nat) (n : Int) (acc : List (Int × Int)) (Z : Nat → Prop) (H : Mem) : Prop :=
  ∃ Z0, TkT b2 b3 D n acc Z0 H ∧ cl H pb 0 = some (.func (.func 117) #[] #[ptr b2, ptr b3]) ∧ ¬ Z0 pb ∧ (∀ b, Z0 b → Z b) ∧ Z pb ∧ ∀ b, Z b → b < H.size
theorem pairs1_spec {B : World} {H : Mem} {pb b2 b3 D : Nat} {n : Int} {acc : List (Int × Int)} {Z : Nat → Prop} (x : Int × Int) (hT : PrT pb b2 b3 D n acc Z H) (hl : acc.length < 4294967296) :
    Fn Try.prog B 96 [.int .i64 x.1, .int .i64 x.2, ptr pb] H (fun r H' => r = .bool (goN n (acc ++ [x])) ∧ ∃ Z', PrT pb b2 b3 D n (acc ++ [x]) Z' H' ∧ Fr (fun b _ => Z b) H H' ∧ ∀ b, Z' b → Z b ∨ H.size ≤ b) := by
  obtain ⟨Z0, hT, cp, n0, h0, zp, lt⟩ := hT
  unfold ptr
  refine fn_of Go.Proofs.Try.func96 rfl Go.Proofs.Try.ntmps96 ?_
  refine (show Go' _ _ _ _ 11 [(0, _), (1, _), (2, _)] [.code _] _ from ?_)
  refine Go'.seq ?_
  -- region 0 (map.go:30)
  refine Go'.region [(0, 0)] rfl ?_
  refine O.asg rfl rfl rfl rfl rfl ?_
  refine Pl.fin [(0, _), (1, _), (2, _), (5, _)] ⟨rfl, rfl, rfl, rfl, trivial⟩ ?_
  refine Go'.seq ?_
  -- region 1 (map.go:30)
  refine Go'.region [(0, 1), (1, 0), (2, 0), (3, 0), (4, 2), (5, 0)] rfl ?_
  refine O.ld rfl rfl rfl (fun w => ⟨Go.Proofs.Try.isAgg122 w, Go.Proofs.Try.sizeOf122 w⟩) rfl cp ?_
  refine O.mv rfl rfl rfl rfl rfl ?_
  refine O.mv rfl rfl rfl rfl rfl ?_
  refine O.bld (cs := (EJ.enc x)) rfl rfl rfl rfl (st35) rfl (by kernel_rfl) ?_
  refine O.callC (us := []) (caps := [ptr b2, ptr b3]) rfl rfl rfl rfl Go.Proofs.Try.call117 rfl (taker1_spec hT hl) ?_
  rintro _ H2 ⟨rfl, Z2, hT2, hF2, hZ2⟩
  refine ⟨trivial, ?_⟩
  refine O.asg rfl rfl rfl rfl rfl ?_
  refine Pl.fin [(5, _)] ⟨rfl, trivial⟩ ?_
  refine Go'.ret (vs := [_]) Go.Proofs.Try.func96 Go.Proofs.Try.results96 ⟨rfl, trivial⟩ ?_
  have hsz := hF2.size
  have hpb := lt pb zp
  exact ⟨rfl, fun b => Z b ∨ (H.size ≤ b ∧ b < H2.size), ⟨Z2, hT2, hF2.keep cp n0, fun hz => (hZ2 _ hz).elim n0 (fun h => by omega), fun b hb => (hZ2 b hb).imp (h0 b) (fun h => ⟨h, hT2.lt b hb⟩), .inl zp, fun b hb => hb.elim (fun h => by have := lt b h; omega) (fun h => h.2)⟩,
    hF2.mono (fun b o _ h => h0 b h), fun b hb => hb.imp id (fun h => h.1)⟩

/-- The function of pairs, as a reader takes it. -/
def cbPairs (B : World) (pb b2 b3 D : Nat) (n : Int) : Cb Try.prog B encKV 96 [] [ptr pb] (goN n) 4294967296 where
  T := PrT pb b2 b3 D n
  fr := fun ⟨Z0, hT, cp, n0, h0, zp, lt⟩ hf hy => ⟨Z0, hT.fr hf (fun b o hb => hy b o (h0 b hb)), hf.keep cp (hy _ _ zp), n0, h0, zp, fun b hb => Nat.lt_of_lt_of_le (lt b hb) hf.size⟩
  lt := fun ⟨_, _, _, _, _, _, lt⟩ hb => lt _ hb
  call := fun x hT hl => pairs1_spec x hT hl

theorem taker_spec {B : World} {H : Mem} {D : Nat} {n : Int} (hD : cl H D 0 = some (.slice none 0 0)) (hw : Wr H D 0 1) :
    Fn Try.prog B 95 [ptr D, .int .i64 n] H (fun r H' => ∃ b2 b3 Z, r = .func (.func 117) #[] #[ptr b2, ptr b3] ∧ TkT b2 b3 D n [] Z H' ∧ Fr nowhere H H' ∧ ∀ b, Z b → b = D ∨ H.size ≤ b) := by
  have hl := cl_lt hD
  refine fn_of Go.Proofs.Try.func95 rfl Go.Proofs.Try.ntmps95 ?_
  refine (show Go' _ _ _ _ 6 [(0, _), (1, _)] [.code _] _ from ?_)
  refine Go'.seq ?_
  -- region 0 (impl.go:206)
  refine Go'.region [(0, 2), (1, 2), (2, 0)] rfl ?_
  refine O.box rfl rfl rfl rfl ?_
  intro H1 M1
  refine ⟨trivial, ?_⟩
  have hs1 := M1.size
  have c2 : cl H1 H.size 0 = some (ptr D) := (M1.cl 0).trans rfl
  refine O.box rfl rfl rfl rfl ?_
  intro H2 M2
  refine ⟨trivial, ?_⟩
  have hs2 := M2.size
  have c3 : cl H2 H1.size 0 = some (.int .i64 n) := (M2.cl 0).trans rfl
  refine O.asg rfl rfl rfl rfl rfl ?_
  refine Pl.fin [(2, _), (3, _), (4, _)] ⟨rfl, rfl, rfl, trivial⟩ ?_
  refine Go'.seq ?_
  -- region 1 (impl.go:207)
  refine Go'.region [(0, 0), (1, 0)] rfl ?_
  refine O.mkf rfl rfl rfl rfl rfl rfl ?_
  refine O.asg rfl rfl rfl rfl rfl ?_
  refine Pl.fin [(4, _)] ⟨rfl, trivial⟩ ?_
  refine Go'.ret (vs := [_]) Go.Proofs.Try.func95 Go.Proofs.Try.results95 ⟨rfl, trivial⟩ ?_
  exact ⟨H.size, H1.size, fun b => b = D ∨ b = H.size ∨ b = H1.size, rfl, ⟨M2.keep c2, c3, (M2.fr nowhere).wr ((M1.fr nowhere).wr hw), .inr (.inl rfl), .inr (.inr rfl), .inl rfl, by omega, by omega, fun b hb => by omega, .inl ⟨rfl, M2.keep (M1.keep hD)⟩⟩, (M1.fr nowhere).trans (M2.fr nowhere), fun b hb => by omega⟩

theorem pairs_spec {B : World} {H : Mem} {D : Nat} {n : Int} (hD : cl H D 0 = some (.slice none 0 0)) (hw : Wr H D 0 1) :
    Fn Try.prog B 59 [ptr D, .int .i64 n] H (fun r H' => ∃ pb b2 b3 Z, r = .func (.func 96) #[] #[ptr pb] ∧ PrT pb b2 b3 D n [] Z H' ∧ Fr nowhere H H' ∧ ∀ b, Z b → b = D ∨ H.size ≤ b) := by
  have hl := cl_lt hD
  refine fn_of Go.Proofs.Try.func59 rfl Go.Proofs.Try.ntmps59 ?_
  refine (show Go' _ _ _ _ 10 [(0, _), (1, _)] [.code _] _ from ?_)
  refine Go'.seq ?_
  -- region 0 (map.go:28)
  refine Go'.region [(0, 0)] rfl ?_
  refine O.asg rfl rfl rfl rfl rfl ?_
  refine Pl.fin [(0, _), (1, _), (4, _)] ⟨rfl, rfl, rfl, trivial⟩ ?_
  refine Go'.seq ?_
  -- region 1 (map.go:29)
  refine Go'.region [(0, 0), (1, 0), (2, 2), (3, 2), (4, 2)] rfl ?_
  refine O.mv rfl rfl rfl rfl rfl ?_
  refine O.mv rfl rfl rfl rfl rfl ?_
  refine O.call rfl rfl rfl Go.Proofs.Try.call95 rfl (taker_spec hD hw) ?_
  rintro _ H1 ⟨b2, b3, Z, rfl, hT, hF, hZ⟩
  have hs1 := hF.size
  refine ⟨trivial, ?_⟩
  refine O.alloc rfl rfl rfl Go.Proofs.Try.zeroValue122 ?_
  intro H2 M2
  refine ⟨trivial, ?_⟩
  have hs2 := M2.size
  have lt0 := hT.lt
  replace hT := hT.fr (M2.fr nowhere) (fun _ _ _ => nw)
  have m5 : Wr H2 H1.size 0 1 := M2.wr 1 (by decide)
  refine O.st rfl rfl Go.Proofs.Try.sizeOf122 rfl rfl rfl rfl rfl m5 ?_
  intro H3 W3
  have hs3 := W3.size
  replace hT := hT.fr W3.fr (fun b o hb hz => by have := lt0 b hb; have h1 := hz.1; omega)
  have cp := W3.at
  refine ⟨trivial, ?_⟩
  refine Pl.fin [(4, _), (5, _)] ⟨rfl, rfl, trivial⟩ ?_
  refine Go'.seq ?_
  -- region 2 (map.go:30)
  refine Go'.region [(0, 0), (1, 0)] rfl ?_
  refine O.mkf rfl rfl rfl rfl rfl rfl ?_
  refine O.asg rfl rfl rfl rfl rfl ?_
  refine Pl.fin [(4, _)] ⟨rfl, trivial⟩ ?_
  refine Go'.ret (vs := [_]) Go.Proofs.Try.func59 Go.Proofs.Try.results59 ⟨rfl, trivial⟩ ?_
  exact ⟨H1.size, b2, b3, fun b => Z b ∨ b = H1.size, rfl, ⟨Z, hT, cp, fun hz => by have := lt0 _ hz; omega, fun b hb => .inl hb, .inr rfl, fun b hb => hb.elim (fun h => by have := lt0 b h; omega) (fun h => by omega)⟩, (hF.trans (M2.fr nowhere)).trans' W3.fr (fun _ _ _ h => h) (fun b o hb hz => by have h1 := hz.1; omega), fun b hb => hb.elim (hZ b) (fun h => .inr (by omega))⟩

end Go.Bt
namespace Go.Bt
open Go Go.Proofs
set_option maxRecDepth 20000
set_option maxHeartbeats 4000000
set_option linter.unusedVariables false

theorem PrT.out {pb b2 b3 D : Nat} {n : Int} {acc : List (Int × Int)} {Z : Nat → Prop} {H : Mem} (h : PrT pb b2 b3 D n acc Z H) : ∃ v, cl H D 0 = some v ∧ OutS EJ H v acc := by
  obtain ⟨Z0, hT, _⟩ := h
  rcases hT.sl with ⟨e, k⟩ | ⟨b, o, c, k, hs, _⟩
  · exact ⟨_, k, .inl ⟨rfl, e⟩⟩
  · exact ⟨_, k, .inr ⟨b, o, c, rfl, hs⟩⟩
end Go.Bt
