/- Contracts of functions of the program, proved by walking through their code. Conditions: those that each theorem names. -/
import Derived.Test.YtknkmaigdgfhlaazJ
import Derived.Test.YtknkmaigdgfhlaavD
namespace Go.Bt.FZ
open Go Go.Proofs
set_option maxRecDepth 20000
set_option maxHeartbeats 4000000
set_option linter.unusedVariables false

theorem scan_spec {B : World} {g : FuncId} {us cs : List Value} {go : List Int → Bool} {M : Nat} (cb : Cb Try.prog B encKV g us cs go M) (hcall : ∀ (args : Array Value) (w : World), (callFunc g args).run Try.prog w = .ok (.enter g args) w) {tr : Nat} (mt : Bool) {H : Mem} {S : Nat → Prop} {l : List Int} {Z : Nat → Prop} (hU : MapU H tr S l) (hT : cb.T [] Z H) (hd : ∀ b, S b → ¬ Z b) (hl : l.length ≤ M) :
    Fn Try.prog B 156 [.pointer (some ⟨tr, 0, none⟩), .func (.func g) us.toArray cs.toArray, .bool mt] H (fun _ H' => CbPost cb [] Z H l H') := by
  have own := hU.own
  rcases hU.cases with ⟨rfl, hptr⟩ | ⟨tc, srt, h, t, hg, hx1, e, hc, hnt, hown⟩
  · skip
    refine fn_of Go.Proofs.Try.func156 rfl Go.Proofs.Try.ntmps156 ?_
    refine (show Go' _ _ _ _ 18 [(0, _), (1, _), (2, _)] [.code _] _ from ?_)
    refine Go'.seq ?_
    refine Go'.seq ?_
    -- region 0 (map.go:268)
    refine Go'.region [(0, 0), (1, 0), (2, 0), (3, 1), (4, 0)] rfl ?_
    refine O.mv rfl rfl rfl rfl rfl ?_
    refine O.nc rfl rfl rfl rfl rfl ?_
    refine O.fa0 (off := 2) rfl rfl rfl rfl ⟨_, _, _, Go.Proofs.Try.underlying140, rfl, rfl, Go.Proofs.Try.sizeOf135⟩ rfl ?_
    refine O.ld rfl rfl rfl (fun w => ⟨Go.Proofs.Try.isAgg135 w, Go.Proofs.Try.sizeOf135 w⟩) rfl hptr ?_
    refine O.isNil rfl rfl rfl rfl Go.Proofs.Try.underlying135 rfl rfl ?_
    refine Pl.fin [(0, _), (1, _), (2, _), (10, _)] ⟨rfl, rfl, rfl, rfl, trivial⟩ ?_
    refine Go'.condT rfl ?_
    refine Go'.ret Go.Proofs.Try.func156 Go.Proofs.Try.results156 (vs := []) trivial ?_
    exact ⟨Z, hT, Fr.refl _ _, fun b hb => .inl hb⟩
  · skip
    have hptr : cl H tr 2 = some (.pointer (some ⟨Gt.p h t, 0, none⟩)) := hc
    refine fn_of Go.Proofs.Try.func156 rfl Go.Proofs.Try.ntmps156 ?_
    refine (show Go' _ _ _ _ 18 [(0, _), (1, _), (2, _)] [.code _] _ from ?_)
    refine Go'.seq ?_
    refine Go'.seq ?_
    -- region 0 (map.go:268)
    refine Go'.region [(0, 0), (1, 0), (2, 0), (3, 1), (4, 0)] rfl ?_
    refine O.mv rfl rfl rfl rfl rfl ?_
    refine O.nc rfl rfl rfl rfl rfl ?_
    refine O.fa0 (off := 2) rfl rfl rfl rfl ⟨_, _, _, Go.Proofs.Try.underlying140, rfl, rfl, Go.Proofs.Try.sizeOf135⟩ rfl ?_
    refine O.ld rfl rfl rfl (fun w => ⟨Go.Proofs.Try.isAgg135 w, Go.Proofs.Try.sizeOf135 w⟩) rfl hptr ?_
    refine O.isNil rfl rfl rfl rfl Go.Proofs.Try.underlying135 rfl rfl ?_
    refine Pl.fin [(0, _), (1, _), (2, _), (10, _)] ⟨rfl, rfl, rfl, rfl, trivial⟩ ?_
    refine Go'.condF rfl ?_
    refine Go'.skip ?_
    -- region 1 (map.go:271)
    refine Go'.region [(0, 0), (1, 0), (2, 0), (3, 0), (4, 0), (5, 0), (6, 2)] rfl ?_
    refine O.mv rfl rfl rfl rfl rfl ?_
    refine O.mv rfl rfl rfl rfl rfl ?_
    refine O.nc rfl rfl rfl rfl rfl ?_
    refine O.fa0 (off := 2) rfl rfl rfl rfl ⟨_, _, _, Go.Proofs.Try.underlying140, rfl, rfl, Go.Proofs.Try.sizeOf135⟩ rfl ?_
    refine O.mv rfl rfl rfl rfl rfl ?_
    refine O.mv rfl rfl rfl rfl rfl ?_
    refine O.call rfl rfl rfl Go.Proofs.Try.call170 rfl (nscan cb hcall P0_ok mt h ⟨tc, hg, hc, fun b o hb => hd b (hown b o hb), hd _ own, hT, by rw [e]; simpa using hl⟩) ?_
    rintro _ H2 ⟨rfl, hpost⟩
    refine ⟨trivial, ?_⟩
    refine Pl.fin [] trivial ?_
    refine Go'.fall Go.Proofs.Try.func156 Go.Proofs.Try.results156 (vs := []) trivial ?_
    rw [e] at hpost
    exact hpost

theorem Scan_spec {B : World} {g : FuncId} {us cs : List Value} {go : List Int → Bool} {M : Nat} (cb : Cb Try.prog B encKV g us cs go M) (hcall : ∀ (args : Array Value) (w : World), (callFunc g args).run Try.prog w = .ok (.enter g args) w) {tr : Nat} {H : Mem} {S : Nat → Prop} {l : List Int} {Z : Nat → Prop} (hU : MapU H tr S l) (hT : cb.T [] Z H) (hd : ∀ b, S b → ¬ Z b) (hl : l.length ≤ M) :
    Fn Try.prog B 126 [.pointer (some ⟨tr, 0, none⟩), .func (.func g) us.toArray cs.toArray] H (fun _ H' => CbPost cb [] Z H l H') := by
  refine fn_of Go.Proofs.Try.func126 rfl Go.Proofs.Try.ntmps126 ?_
  refine (show Go' _ _ _ _ 7 [(0, _), (1, _)] [.code _] _ from ?_)
  -- region 0 (map.go:260)
  refine Go'.region [(0, 0), (1, 0), (2, 2)] rfl ?_
  refine O.mv rfl rfl rfl rfl rfl ?_
  refine O.mv rfl rfl rfl rfl rfl ?_
  refine O.call rfl rfl rfl Go.Proofs.Try.call156 rfl (scan_spec cb hcall false hU hT hd hl) ?_
  rintro _ H2 hpost
  refine ⟨trivial, ?_⟩
  refine Pl.fin [] trivial ?_
  refine Go'.fall Go.Proofs.Try.func126 Go.Proofs.Try.results126 (vs := []) trivial ?_
  exact hpost

theorem App.rp {H H' : Mem} {b o len c m s : Nat} {xs news : List Value} {b' o' c' : Nat} (ha : App H H' b o len c m s xs news b' o' c') : Fr (fun b1 _ => b1 = b) H H' ∧ (b' = b ∨ H.size ≤ b') :=
  ⟨ha.fr.mono fun b1 o1 _ hz => hz.1, by rcases ha.place with ⟨h, _⟩ | ⟨h, _⟩ <;> omega⟩
/-- What the taker keeps: how many at most, and the list so far. -/
structure TkT (b2 b3 D : Nat) (n : Int) (acc : List Int) (Z : Nat → Prop) (H : Mem) : Prop where
  c2 : cl H b2 0 = some (ptr D)
  c3 : cl H b3 0 = some (.int .i64 n)
  wr : Wr H D 0 1
  z2 : Z b2
  z3 : Z b3
  zD : Z D
  n2 : b2 ≠ D
  n3 : b3 ≠ D
  lt : ∀ b, Z b → b < H.size
  sl : (acc = [] ∧ cl H D 0 = some (.slice none 0 0)) ∨ ∃ b o c, cl H D 0 = some (.slice (some ⟨b, o, none⟩) acc.length c) ∧ SlE EN H b o c acc ∧ Z b ∧ b ≠ D ∧ b ≠ b2 ∧ b ≠ b3
theorem TkT.fr {b2 b3 D : Nat} {n : Int} {acc : List Int} {Z : Nat → Prop} {H H' : Mem} {Y : Nat → Nat → Prop} (h : TkT b2 b3 D n acc Z H) (hf : Fr Y H H') (hy : ∀ b o, Z b → ¬ Y b o) : TkT b2 b3 D n acc Z H' where
  c2 := hf.keep h.c2 (hy _ _ h.z2)
  c3 := hf.keep h.c3 (hy _ _ h.z3)
  wr := hf.wr h.wr
  z2 := h.z2
  z3 := h.z3
  zD := h.zD
  n2 := h.n2
  n3 := h.n3
  lt := fun b hb => Nat.lt_of_lt_of_le (h.lt b hb) hf.size
  sl := h.sl.elim (fun ⟨e, k⟩ => .inl ⟨e, hf.keep k (hy _ _ h.zD)⟩) fun ⟨b, o, c, k, hs, hz, r⟩ => .inr ⟨b, o, c, hf.keep k (hy _ _ h.zD), hs.fr hf (fun i _ _ => hy _ _ hz), hz, r⟩

theorem taker1_spec {B : World} {H : Mem} {b2 b3 D : Nat} {n : Int} {acc : List Int} {Z : Nat → Prop} {x : Int} (hT : TkT b2 b3 D n acc Z H) (hl : acc.length < 4294967296) :
    Fn Try.prog B 128 [.int .i64 x, ptr b2, ptr b3] H (fun r H' => r = .bool (goN n (acc ++ [x])) ∧ ∃ Z', TkT b2 b3 D n (acc ++ [x]) Z' H' ∧ Fr (fun b _ => Z b) H H' ∧ ∀ b, Z' b → Z b ∨ H.size ≤ b) := by
  unfold ptr
  refine fn_of Go.Proofs.Try.func128 rfl Go.Proofs.Try.ntmps128 ?_
  refine (show Go' _ _ _ _ 23 [(0, _), (1, _), (2, _)] [.code _] _ from ?_)
  refine Go'.seq ?_
  have hlt := hT.lt
  obtain ⟨c2, c3, hw, z2, z3, zD, n2, n3, lt, hsl⟩ := hT
  unfold ptr at c2
  have l2 := hlt _ z2
  have l3 := hlt _ z3
  have lD := hlt _ zD
  -- region 0 (impl.go:207)
  refine Go'.region [(0, 0)] rfl ?_
  refine O.asg rfl rfl rfl rfl rfl ?_
  refine Pl.fin [(0, _), (1, _), (2, _), (4, _)] ⟨rfl, rfl, rfl, rfl, trivial⟩ ?_
  refine Go'.seq ?_
  have hacc1 : (acc ++ [x]).length = acc.length + 1 := by simp
  rcases hsl with ⟨rfl, cD⟩ | ⟨b, o, c, cD, hs, zb, nb, nb2, nb3⟩
  · skip
    -- region 1 (impl.go:208)
    refine Go'.draw (fun H' => cl H' b2 0 = some (.pointer (some ⟨D, 0, none⟩)) ∧ cl H' D 0 = some (.slice none 0 0)) [(0, 0), (1, 0), (2, 0), (3, 0), (4, 0), (5, 2), (6, 2), (7, 0), (8, 3)] (by kernel_rfl) (by kernel_rfl) (⟨c2, cD⟩) ?_
    refine O.ldC rfl rfl rfl (fun w => ⟨Go.Proofs.Try.isAgg128 w, Go.Proofs.Try.sizeOf128 w⟩) rfl (fun _ h => h.1) ?_
    refine O.ldC rfl rfl rfl (fun w => ⟨Go.Proofs.Try.isAgg128 w, Go.Proofs.Try.sizeOf128 w⟩) rfl (fun _ h => h.1) ?_
    refine O.nc rfl rfl rfl rfl rfl ?_
    refine O.ldC rfl rfl rfl (fun w => ⟨Go.Proofs.Try.isAgg22 w, Go.Proofs.Try.sizeOf22 w⟩) rfl (fun _ h => h.2) ?_
    refine O.mv rfl rfl rfl rfl rfl ?_
    refine O.bsl (cs := (EN.enc x)) rfl rfl rfl ⟨Go.Proofs.Try.underlying22, Go.Proofs.Try.sizeOf3, Go.Proofs.Try.zeroValue3, ⟨_, Go.Proofs.Try.typeInfo3, rfl⟩, rfl, by decide, by decide⟩ rfl (by decide) (by kernel_rfl) ?_
    intro H2 M2
    have hs2 := M2.size
    replace c2 := M2.keep c2
    replace c3 := M2.keep c3
    replace cD := M2.keep cD
    replace hw := (M2.fr nowhere).wr hw
    have m2 : Rd H2 H.size 0 (EN.enc x) := M2.rd _ [] (by simp)
    refine ⟨⟨c2, cD⟩, ?_⟩
    refine O.appN (m := 1) (news := (EN.enc x)) rfl rfl rfl ⟨Go.Proofs.Try.underlying22, Go.Proofs.Try.sizeOf3, Go.Proofs.Try.zeroValue3, ⟨_, Go.Proofs.Try.typeInfo3, rfl⟩, rfl, by decide, by decide⟩ rfl rfl ⟨_, _, _, rfl, m2⟩ rfl (Nat.le_trans (Nat.mul_le_mul_left _ (Nat.le_of_ble_eq_true (n := _) (m := 4096) rfl)) (by omega)) (by omega) (by omega) ?_
    intro cc H3 hsl3 fa hs3
    replace c2 := fa.keep c2 nw
    replace c3 := fa.keep c3 nw
    replace cD := fa.keep cD nw
    replace hw := fa.wr hw
    refine ⟨⟨c2, cD⟩, ?_⟩
    refine O.nc rfl rfl rfl rfl rfl ?_
    refine O.st3 rfl rfl Go.Proofs.Try.sizeOf22 rfl rfl rfl rfl rfl hw ?_
    intro H4 W4
    have hs4 := W4.size
    replace c2 := W4.fr.keep c2 (nr (.inl n2))
    replace c3 := W4.fr.keep c3 (nr (.inl n3))
    replace hw := W4.fr.wr hw
    clear cD
    have cD := W4.at
    refine Pl.fin [(1, _), (2, _), (4, _)] ⟨rfl, rfl, rfl, trivial⟩ ?_
    refine Go'.seq ?_
    by_cases hn : n < 1
    · skip
      -- region 2 (impl.go:209)
      refine Go'.draw (fun _ => True) [(0, 1), (1, 0), (2, 0), (3, 1), (4, 0), (5, 1), (6, 0), (7, 1), (8, 0), (9, 0), (10, 0)] (by kernel_rfl) (by kernel_rfl) (trivial) ?_
      refine O.ld rfl rfl rfl (fun w => ⟨Go.Proofs.Try.isAgg3 w, Go.Proofs.Try.sizeOf3 w⟩) rfl c3 ?_
      refine O.cmp rfl rfl rfl rfl rfl rfl (lssT (by omega)) ?_
      refine O.mv rfl rfl rfl rfl rfl ?_
      refine Pl.pass rfl rfl rfl rfl ?_
      refine Pl.pass rfl rfl rfl rfl ?_
      refine Pl.pass rfl rfl rfl rfl ?_
      refine Pl.pass rfl rfl rfl rfl ?_
      refine Pl.pass rfl rfl rfl rfl ?_
      refine Pl.pass rfl rfl rfl rfl ?_
      refine O.pick rfl rfl rfl rfl rfl rfl ?_
      refine O.asg rfl rfl rfl rfl rfl ?_
      refine Pl.fin [(4, _)] ⟨rfl, trivial⟩ ?_
      refine Go'.ret (vs := [_]) Go.Proofs.Try.func128 Go.Proofs.Try.results128 ⟨rfl, trivial⟩ ?_
      exact ⟨by unfold goN; rw [decide_eq_true hn]; rfl, fun b => Z b ∨ (H.size ≤ b ∧ b < H4.size), ⟨c2, c3, hw, .inl z2, .inl z3, .inl zD, n2, n3, fun b hb => hb.elim (fun h => by have := hlt b h; omega) (fun h => h.2), .inr ⟨H2.size, 0, cc, cD, (SlE.of (l := [x]) hsl3 (by rw [row_one]) rfl).fr W4.fr (fun _ _ _ => nr (.inl (by omega))), .inr (by omega), by omega, by omega, by omega⟩⟩, ((M2.fr nowhere).trans fa).trans' W4.fr (fun _ _ _ h => h.elim) (fun b o _ hz => by rw [hz.1]; exact zD), fun b hb => hb.imp id (fun h => h.1)⟩
    · skip
      by_cases hn2 : (1 : Int) < n
      · skip
        -- region 2 (impl.go:209)
        refine Go'.draw (fun _ => True) [(0, 1), (1, 0), (2, 0), (3, 1), (4, 0), (5, 1), (6, 0), (7, 1), (8, 0), (9, 0), (10, 0)] (by kernel_rfl) (by kernel_rfl) (trivial) ?_
        refine O.ld rfl rfl rfl (fun w => ⟨Go.Proofs.Try.isAgg3 w, Go.Proofs.Try.sizeOf3 w⟩) rfl c3 ?_
        refine O.cmp rfl rfl rfl rfl rfl rfl (lssF (by omega)) ?_
        refine O.mv rfl rfl rfl rfl rfl ?_
        refine O.ld rfl rfl rfl (fun w => ⟨Go.Proofs.Try.isAgg128 w, Go.Proofs.Try.sizeOf128 w⟩) rfl c2 ?_
        refine O.nc rfl rfl rfl rfl rfl ?_
        refine O.ld rfl rfl rfl (fun w => ⟨Go.Proofs.Try.isAgg22 w, Go.Proofs.Try.sizeOf22 w⟩) rfl cD ?_
        refine O.len rfl rfl rfl rfl Go.Proofs.Try.underlying22 rfl ?_
        refine O.ld rfl rfl rfl (fun w => ⟨Go.Proofs.Try.isAgg3 w, Go.Proofs.Try.sizeOf3 w⟩) rfl c3 ?_
        refine O.cmp rfl rfl rfl rfl rfl rfl (lssT (by omega)) ?_
        refine O.pick rfl rfl rfl rfl rfl rfl ?_
        refine O.asg rfl rfl rfl rfl rfl ?_
        refine Pl.fin [(4, _)] ⟨rfl, trivial⟩ ?_
        refine Go'.ret (vs := [_]) Go.Proofs.Try.func128 Go.Proofs.Try.results128 ⟨rfl, trivial⟩ ?_
        exact ⟨by unfold goN; rw [decide_eq_false hn, hacc1]; rw [decide_eq_true (by simpa using hn2)]; rfl, fun b => Z b ∨ (H.size ≤ b ∧ b < H4.size), ⟨c2, c3, hw, .inl z2, .inl z3, .inl zD, n2, n3, fun b hb => hb.elim (fun h => by have := hlt b h; omega) (fun h => h.2), .inr ⟨H2.size, 0, cc, cD, (SlE.of (l := [x]) hsl3 (by rw [row_one]) rfl).fr W4.fr (fun _ _ _ => nr (.inl (by omega))), .inr (by omega), by omega, by omega, by omega⟩⟩, ((M2.fr nowhere).trans fa).trans' W4.fr (fun _ _ _ h => h.elim) (fun b o _ hz => by rw [hz.1]; exact zD), fun b hb => hb.imp id (fun h => h.1)⟩
      · skip
        -- region 2 (impl.go:209)
        refine Go'.draw (fun _ => True) [(0, 1), (1, 0), (2, 0), (3, 1), (4, 0), (5, 1), (6, 0), (7, 1), (8, 0), (9, 0), (10, 0)] (by kernel_rfl) (by kernel_rfl) (trivial) ?_
        refine O.ld rfl rfl rfl (fun w => ⟨Go.Proofs.Try.isAgg3 w, Go.Proofs.Try.sizeOf3 w⟩) rfl c3 ?_
        refine O.cmp rfl rfl rfl rfl rfl rfl (lssF (by omega)) ?_
        refine O.mv rfl rfl rfl rfl rfl ?_
        refine O.ld rfl rfl rfl (fun w => ⟨Go.Proofs.Try.isAgg128 w, Go.Proofs.Try.sizeOf128 w⟩) rfl c2 ?_
        refine O.nc rfl rfl rfl rfl rfl ?_
        refine O.ld rfl rfl rfl (fun w => ⟨Go.Proofs.Try.isAgg22 w, Go.Proofs.Try.sizeOf22 w⟩) rfl cD ?_
        refine O.len rfl rfl rfl rfl Go.Proofs.Try.underlying22 rfl ?_
        refine O.ld rfl rfl rfl (fun w => ⟨Go.Proofs.Try.isAgg3 w, Go.Proofs.Try.sizeOf3 w⟩) rfl c3 ?_
        refine O.cmp rfl rfl rfl rfl rfl rfl (lssF (by omega)) ?_
        refine O.pick rfl rfl rfl rfl rfl rfl ?_
        refine O.asg rfl rfl rfl rfl rfl ?_
        refine Pl.fin [(4, _)] ⟨rfl, trivial⟩ ?_
        refine Go'.ret (vs := [_]) Go.Proofs.Try.func128 Go.Proofs.Try.results128 ⟨rfl, trivial⟩ ?_
        exact ⟨by unfold goN; rw [decide_eq_false hn, hacc1]; rw [decide_eq_false (by simpa using hn2)]; rfl, fun b => Z b ∨ (H.size ≤ b ∧ b < H4.size), ⟨c2, c3, hw, .inl z2, .inl z3, .inl zD, n2, n3, fun b hb => hb.elim (fun h => by have := hlt b h; omega) (fun h => h.2), .inr ⟨H2.size, 0, cc, cD, (SlE.of (l := [x]) hsl3 (by rw [row_one]) rfl).fr W4.fr (fun _ _ _ => nr (.inl (by omega))), .inr (by omega), by omega, by omega, by omega⟩⟩, ((M2.fr nowhere).trans fa).trans' W4.fr (fun _ _ _ h => h.elim) (fun b o _ hz => by rw [hz.1]; exact zD), fun b hb => hb.imp id (fun h => h.1)⟩
  · skip
    have lb := hlt _ zb
    -- region 1 (impl.go:208)
    refine Go'.draw (fun H' => cl H' b2 0 = some (.pointer (some ⟨D, 0, none⟩)) ∧ cl H' D 0 = some (.slice (some ⟨b, o, none⟩) acc.length c)) [(0, 0), (1, 0), (2, 0), (3, 0), (4, 0), (5, 2), (6, 2), (7, 0), (8, 3)] (by kernel_rfl) (by kernel_rfl) (⟨c2, cD⟩) ?_
    refine O.ldC rfl rfl rfl (fun w => ⟨Go.Proofs.Try.isAgg128 w, Go.Proofs.Try.sizeOf128 w⟩) rfl (fun _ h => h.1) ?_
    refine O.ldC rfl rfl rfl (fun w => ⟨Go.Proofs.Try.isAgg128 w, Go.Proofs.Try.sizeOf128 w⟩) rfl (fun _ h => h.1) ?_
    refine O.nc rfl rfl rfl rfl rfl ?_
    refine O.ldC rfl rfl rfl (fun w => ⟨Go.Proofs.Try.isAgg22 w, Go.Proofs.Try.sizeOf22 w⟩) rfl (fun _ h => h.2) ?_
    refine O.mv rfl rfl rfl rfl rfl ?_
    refine O.bsl (cs := (EN.enc x)) rfl rfl rfl ⟨Go.Proofs.Try.underlying22, Go.Proofs.Try.sizeOf3, Go.Proofs.Try.zeroValue3, ⟨_, Go.Proofs.Try.typeInfo3, rfl⟩, rfl, by decide, by decide⟩ rfl (by decide) (by kernel_rfl) ?_
    intro H2 M2
    have hs2 := M2.size
    replace c2 := M2.keep c2
    replace c3 := M2.keep c3
    replace cD := M2.keep cD
    replace hw := (M2.fr nowhere).wr hw
    have m2 : Rd H2 H.size 0 (EN.enc x) := M2.rd _ [] (by simp)
    replace hs := hs.fr (M2.fr nowhere) (fun _ _ _ => nw)
    refine ⟨⟨c2, cD⟩, ?_⟩
    refine O.app (m := 1) (news := (EN.enc x)) rfl rfl rfl ⟨Go.Proofs.Try.underlying22, Go.Proofs.Try.sizeOf3, Go.Proofs.Try.zeroValue3, ⟨_, Go.Proofs.Try.typeInfo3, rfl⟩, rfl, by decide, by decide⟩ rfl hs rfl (.inl ⟨_, _, _, rfl, m2⟩) rfl rfl (Nat.le_trans (Nat.mul_le_mul_left _ (Nat.le_of_ble_eq_true (n := _) (m := 4096) rfl)) (by omega)) (by omega) ?_
    intro bb oo cc H3 ha
    obtain ⟨fa, pa⟩ := (App.rp ha)
    have hs3 := fa.size
    have hsl3 := SlE.app (E := EN) ha
    have hbb : bb < H3.size := Sl.lt hsl3 (by have := hsl3.hle; rw [hacc1] at this; exact Nat.mul_pos (by omega) EN.pos)
    replace c2 := fa.keep c2 (fun e => nb2 e.symm)
    replace c3 := fa.keep c3 (fun e => nb3 e.symm)
    replace cD := fa.keep cD (fun e => nb e.symm)
    replace hw := fa.wr hw
    refine ⟨⟨c2, cD⟩, ?_⟩
    refine O.nc rfl rfl rfl rfl rfl ?_
    refine O.st3 rfl rfl Go.Proofs.Try.sizeOf22 rfl rfl rfl rfl rfl hw ?_
    intro H4 W4
    have hs4 := W4.size
    replace c2 := W4.fr.keep c2 (nr (.inl n2))
    replace c3 := W4.fr.keep c3 (nr (.inl n3))
    replace hw := W4.fr.wr hw
    clear cD
    have cD := W4.at
    refine Pl.fin [(1, _), (2, _), (4, _)] ⟨rfl, rfl, rfl, trivial⟩ ?_
    refine Go'.seq ?_
    by_cases hn : n < 1
    · skip
      -- region 2 (impl.go:209)
      refine Go'.draw (fun _ => True) [(0, 1), (1, 0), (2, 0), (3, 1), (4, 0), (5, 1), (6, 0), (7, 1), (8, 0), (9, 0), (10, 0)] (by kernel_rfl) (by kernel_rfl) (trivial) ?_
      refine O.ld rfl rfl rfl (fun w => ⟨Go.Proofs.Try.isAgg3 w, Go.Proofs.Try.sizeOf3 w⟩) rfl c3 ?_
      refine O.cmp rfl rfl rfl rfl rfl rfl (lssT (by omega)) ?_
      refine O.mv rfl rfl rfl rfl rfl ?_
      refine Pl.pass rfl rfl rfl rfl ?_
      refine Pl.pass rfl rfl rfl rfl ?_
      refine Pl.pass rfl rfl rfl rfl ?_
      refine Pl.pass rfl rfl rfl rfl ?_
      refine Pl.pass rfl rfl rfl rfl ?_
      refine Pl.pass rfl rfl rfl rfl ?_
      refine O.pick rfl rfl rfl rfl rfl rfl ?_
      refine O.asg rfl rfl rfl rfl rfl ?_
      refine Pl.fin [(4, _)] ⟨rfl, trivial⟩ ?_
      refine Go'.ret (vs := [_]) Go.Proofs.Try.func128 Go.Proofs.Try.results128 ⟨rfl, trivial⟩ ?_
      exact ⟨by unfold goN; rw [decide_eq_true hn]; rfl, fun b => Z b ∨ (H.size ≤ b ∧ b < H4.size), ⟨c2, c3, hw, .inl z2, .inl z3, .inl zD, n2, n3, fun b hb => hb.elim (fun h => by have := hlt b h; omega) (fun h => h.2), .inr ⟨bb, oo, cc, by rw [hacc1]; exact cD, hsl3.fr W4.fr (fun _ _ _ => nr (.inl (by omega))), (by rcases pa with h | h; exact .inl (h ▸ zb); exact .inr (by omega)), by omega, by omega, by omega⟩⟩, ((M2.fr nowhere).trans' fa (Z := fun b _ => Z b) (fun _ _ _ h => h.elim) (fun y o _ hz => by have hz' : y = b := hz; rw [hz']; exact zb)).trans' W4.fr (fun _ _ _ h => h) (fun b o _ hz => by rw [hz.1]; exact zD), fun b hb => hb.imp id (fun h => h.1)⟩
    · skip
      by_cases hn2 : ((acc.length + 1 : Nat) : Int) < n
      · skip
        -- region 2 (impl.go:209)
        refine Go'.draw (fun _ => True) [(0, 1), (1, 0), (2, 0), (3, 1), (4, 0), (5, 1), (6, 0), (7, 1), (8, 0), (9, 0), (10, 0)] (by kernel_rfl) (by kernel_rfl) (trivial) ?_
        refine O.ld rfl rfl rfl (fun w => ⟨Go.Proofs.Try.isAgg3 w, Go.Proofs.Try.sizeOf3 w⟩) rfl c3 ?_
        refine O.cmp rfl rfl rfl rfl rfl rfl (lssF (by omega)) ?_
        refine O.mv rfl rfl rfl rfl rfl ?_
        refine O.ld rfl rfl rfl (fun w => ⟨Go.Proofs.Try.isAgg128 w, Go.Proofs.Try.sizeOf128 w⟩) rfl c2 ?_
        refine O.nc rfl rfl rfl rfl rfl ?_
        refine O.ld rfl rfl rfl (fun w => ⟨Go.Proofs.Try.isAgg22 w, Go.Proofs.Try.sizeOf22 w⟩) rfl cD ?_
        refine O.len rfl rfl rfl rfl Go.Proofs.Try.underlying22 rfl ?_
        refine O.ld rfl rfl rfl (fun w => ⟨Go.Proofs.Try.isAgg3 w, Go.Proofs.Try.sizeOf3 w⟩) rfl c3 ?_
        refine O.cmp rfl rfl rfl rfl rfl rfl (lssT (by omega)) ?_
        refine O.pick rfl rfl rfl rfl rfl rfl ?_
        refine O.asg rfl rfl rfl rfl rfl ?_
        refine Pl.fin [(4, _)] ⟨rfl, trivial⟩ ?_
        refine Go'.ret (vs := [_]) Go.Proofs.Try.func128 Go.Proofs.Try.results128 ⟨rfl, trivial⟩ ?_
        exact ⟨by unfold goN; rw [decide_eq_false hn, hacc1]; rw [decide_eq_true (by simpa using hn2)]; rfl, fun b => Z b ∨ (H.size ≤ b ∧ b < H4.size), ⟨c2, c3, hw, .inl z2, .inl z3, .inl zD, n2, n3, fun b hb => hb.elim (fun h => by have := hlt b h; omega) (fun h => h.2), .inr ⟨bb, oo, cc, by rw [hacc1]; exact cD, hsl3.fr W4.fr (fun _ _ _ => nr (.inl (by omega))), (by rcases pa with h | h; exact .inl (h ▸ zb); exact .inr (by omega)), by omega, by omega, by omega⟩⟩, ((M2.fr nowhere).trans' fa (Z := fun b _ => Z b) (fun _ _ _ h => h.elim) (fun y o _ hz => by have hz' : y = b := hz; rw [hz']; exact zb)).trans' W4.fr (fun _ _ _ h => h) (fun b o _ hz => by rw [hz.1]; exact zD), fun b hb => hb.imp id (fun h => h.1)⟩
      · skip
        -- region 2 (impl.go:209)
        refine Go'.draw (fun _ => True) [(0, 1), (1, 0), (2, 0), (3, 1), (4, 0), (5, 1), (6, 0), (7, 1), (8, 0), (9, 0), (10, 0)] (by kernel_rfl) (by kernel_rfl) (trivial) ?_
        refine O.ld rfl rfl rfl (fun w => ⟨Go.Proofs.Try.isAgg3 w, Go.Proofs.Try.sizeOf3 w⟩) rfl c3 ?_
        refine O.cmp rfl rfl rfl rfl rfl rfl (lssF (by omega)) ?_
        refine O.mv rfl rfl rfl rfl rfl ?_
        refine O.ld rfl rfl rfl (fun w => ⟨Go.Proofs.Try.isAgg128 w, Go.Proofs.Try.sizeOf128 w⟩) rfl c2 ?_
        refine O.nc rfl rfl rfl rfl rfl ?_
        refine O.ld rfl rfl rfl (fun w => ⟨Go.Proofs.Try.isAgg22 w, Go.Proofs.Try.sizeOf22 w⟩) rfl cD ?_
        refine O.len rfl rfl rfl rfl Go.Proofs.Try.underlying22 rfl ?_
        refine O.ld rfl rfl rfl (fun w => ⟨Go.Proofs.Try.isAgg3 w, Go.Proofs.Try.sizeOf3 w⟩) rfl c3 ?_
        refine O.cmp rfl rfl rfl rfl rfl rfl (lssF (by omega)) ?_
        refine O.pick rfl rfl rfl rfl rfl rfl ?_
        refine O.asg rfl rfl rfl rfl rfl ?_
        refine Pl.fin [(4, _)] ⟨rfl, trivial⟩ ?_
        refine Go'.ret (vs := [_]) Go.Proofs.Try.func128 Go.Proofs.Try.results128 ⟨rfl, trivial⟩ ?_
        exact ⟨by unfold goN; rw [decide_eq_false hn, hacc1]; rw [decide_eq_false (by simpa using hn2)]; rfl, fun b => Z b ∨ (H.size ≤ b ∧ b < H4.size), ⟨c2, c3, hw, .inl z2, .inl z3, .inl zD, n2, n3, fun b hb => hb.elim (fun h => by have := hlt b h; omega) (fun h => h.2), .inr ⟨bb, oo, cc, by rw [hacc1]; exact cD, hsl3.fr W4.fr (fun _ _ _ => nr (.inl (by omega))), (by rcases pa with h | h; exact .inl (h ▸ zb); exact .inr (by omega)), by omega, by omega, by omega⟩⟩, ((M2.fr nowhere).trans' fa (Z := fun b _ => Z b) (fun _ _ _ h => h.elim) (fun y o _ hz => by have hz' : y = b := hz; rw [hz']; exact zb)).trans' W4.fr (fun _ _ _ h => h) (fun b o _ hz => by rw [hz.1]; exact zD), fun b hb => hb.imp id (fun h => h.1)⟩

/-- What the function of Set.Scan keeps: the taker, and what that one keeps. -/
def PrT (pb b2 b3 D : Nat) (n : Int) (acc : List Int) (Z : Nat → Prop) (H : Mem) : Prop :=
  ∃ Z0, TkT b2 b3 D n acc Z0 H ∧ cl H pb 0 = some (.func (.func 128) #[] #[ptr b2, ptr b3]) ∧ ¬ Z0 pb ∧ (∀ b, Z0 b → Z b) ∧ Z pb ∧ ∀ b, Z b → b < H.size
theorem scan1_spec {B : World} {H : Mem} {pb b2 b3 D : Nat} {n : Int} {acc : List Int} {Z : Nat → Prop} (x : Int) (hT : PrT pb b2 b3 D n acc Z H) (hl : acc.length < 4294967296) :
    Fn Try.prog B 127 [.int .i64 x, .agg #[], ptr pb] H (fun r H' => r = .bool (goN n (acc ++ [x])) ∧ ∃ Z', PrT pb b2 b3 D n (acc ++ [x]) Z' H' ∧ Fr (fun b _ => Z b) H H' ∧ ∀ b, Z' b → Z b ∨ H.size ≤ b) := by
  obtain ⟨Z0, hT, cp, n0, h0, zp, lt⟩ := hT
  unfold ptr
  refine fn_of Go.Proofs.Try.func127 rfl Go.Proofs.Try.ntmps127 ?_
  refine (show Go' _ _ _ _ 9 [(0, _), (1, _), (2, _)] [.code _] _ from ?_)
  refine Go'.seq ?_
  -- region 0 (set.go:26)
  refine Go'.region [(0, 2), (1, 0)] rfl ?_
  refine O.box rfl rfl rfl rfl ?_
  intro H1 M1
  refine ⟨trivial, ?_⟩
  have hs1 := M1.size
  replace hT := hT.fr (M1.fr nowhere) (fun _ _ _ => nw)
  replace cp := M1.keep cp
  refine O.asg rfl rfl rfl rfl rfl ?_
  refine Pl.fin [(0, _), (2, _), (5, _)] ⟨rfl, rfl, rfl, trivial⟩ ?_
  refine Go'.seq ?_
  -- region 1 (set.go:27)
  refine Go'.region [(0, 1), (1, 0), (2, 2), (3, 0)] rfl ?_
  refine O.ld rfl rfl rfl (fun w => ⟨Go.Proofs.Try.isAgg30 w, Go.Proofs.Try.sizeOf30 w⟩) rfl cp ?_
  refine O.mv rfl rfl rfl rfl rfl ?_
  refine O.callC (us := []) (caps := [ptr b2, ptr b3]) rfl rfl rfl rfl Go.Proofs.Try.call128 rfl (taker1_spec hT hl) ?_
  rintro _ H2 ⟨rfl, Z2, hT2, hF2, hZ2⟩
  refine ⟨trivial, ?_⟩
  refine O.asg rfl rfl rfl rfl rfl ?_
  refine Pl.fin [(5, _)] ⟨rfl, trivial⟩ ?_
  refine Go'.ret (vs := [_]) Go.Proofs.Try.func127 Go.Proofs.Try.results127 ⟨rfl, trivial⟩ ?_
  have hsz := hF2.size
  have hpb := lt pb zp
  exact ⟨rfl, fun b => Z b ∨ (H.size ≤ b ∧ b < H2.size), ⟨Z2, hT2, hF2.keep cp n0, fun hz => (hZ2 _ hz).elim n0 (fun h => by omega), fun b hb => (hZ2 b hb).imp (h0 b) (fun h => ⟨by omega, hT2.lt b hb⟩), .inl zp, fun b hb => hb.elim (fun h => by have := lt b h; omega) (fun h => h.2)⟩,
    (M1.fr nowhere).trans' hF2 (fun _ _ _ h => h.elim) (fun b o _ h => h0 b h), fun b hb => hb.imp id (fun h => h.1)⟩

def cbScan (B : World) (pb b2 b3 D : Nat) (n : Int) : Cb Try.prog B encKV 127 [] [ptr pb] (goN n) 4294967296 where
  T := PrT pb b2 b3 D n
  fr := fun ⟨Z0, hT, cp, n0, h0, zp, lt⟩ hf hy => ⟨Z0, hT.fr hf (fun b o hb => hy b o (h0 b hb)), hf.keep cp (hy _ _ zp), n0, h0, zp, fun b hb => Nat.lt_of_lt_of_le (lt b hb) hf.size⟩
  lt := fun ⟨_, _, _, _, _, _, lt⟩ hb => lt _ hb
  call := fun x hT hl => scan1_spec x hT hl
theorem PrT.out {pb b2 b3 D : Nat} {n : Int} {acc : List Int} {Z : Nat → Prop} {H : Mem} (h : PrT pb b2 b3 D n acc Z H) : ∃ v, cl H D 0 = some v ∧ OutS EN H v acc := by
  obtain ⟨Z0, hT, _⟩ := h
  rcases hT.sl with ⟨e, k⟩ | ⟨b, o, c, k, hs, _⟩
  · exact ⟨_, k, .inl ⟨rfl, e⟩⟩
  · exact ⟨_, k, .inr ⟨b, o, c, rfl, hs⟩⟩

theorem taker_spec {B : World} {H : Mem} {D : Nat} {n : Int} (hD : cl H D 0 = some (.slice none 0 0)) (hw : Wr H D 0 1) :
    Fn Try.prog B 91 [ptr D, .int .i64 n] H (fun r H' => ∃ b2 b3 Z, r = .func (.func 128) #[] #[ptr b2, ptr b3] ∧ TkT b2 b3 D n [] Z H' ∧ Fr nowhere H H' ∧ ∀ b, Z b → b = D ∨ H.size ≤ b) := by
  have hl := cl_lt hD
  refine fn_of Go.Proofs.Try.func91 rfl Go.Proofs.Try.ntmps91 ?_
  refine (show Go' _ _ _ _ 6 [(0, _), (1, _)] [.code _] _ from ?_)
  refine Go'.seq ?_
  -- region 0 (impl.go:206)
  refine Go'.region [(0, 2), (1, 2), (2, 0)] rfl ?_
  refine O.box rfl rfl rfl rfl ?_
  intro H1 M1
  refine ⟨trivial, ?_⟩
  have hs1 := M1.size
  have c2 : cl H1 H.size 0 = some (ptr D) := (M1.cl 0).trans rfl
  refine O.box rfl rfl rfl rfl ?_
  intro H2 M2
  refine ⟨trivial, ?_⟩
  have hs2 := M2.size
  have c3 : cl H2 H1.size 0 = some (.int .i64 n) := (M2.cl 0).trans rfl
  refine O.asg rfl rfl rfl rfl rfl ?_
  refine Pl.fin [(2, _), (3, _), (4, _)] ⟨rfl, rfl, rfl, trivial⟩ ?_
  refine Go'.seq ?_
  -- region 1 (impl.go:207)
  refine Go'.region [(0, 0), (1, 0)] rfl ?_
  refine O.mkf rfl rfl rfl rfl rfl rfl ?_
  refine O.asg rfl rfl rfl rfl rfl ?_
  refine Pl.fin [(4, _)] ⟨rfl, trivial⟩ ?_
  refine Go'.ret (vs := [_]) Go.Proofs.Try.func91 Go.Proofs.Try.results91 ⟨rfl, trivial⟩ ?_
  exact ⟨H.size, H1.size, fun b => b = D ∨ b = H.size ∨ b = H1.size, rfl, ⟨M2.keep c2, c3, (M2.fr nowhere).wr ((M1.fr nowhere).wr hw), .inr (.inl rfl), .inr (.inr rfl), .inl rfl, by omega, by omega, fun b hb => by omega, .inl ⟨rfl, M2.keep (M1.keep hD)⟩⟩, (M1.fr nowhere).trans (M2.fr nowhere), fun b hb => by omega⟩

theorem sScan_spec {B : World} {H : Mem} {tr b2 b3 D : Nat} {n : Int} {S Z0 : Nat → Prop} {l : List Int} (hU : MapU H tr S l) (hT : TkT b2 b3 D n [] Z0 H) (hd : ∀ b, S b → ¬ Z0 b) (hl : l.length ≤ 4294967296) :
    Fn Try.prog B 90 [.pointer (some ⟨tr, 0, none⟩), .func (.func 128) #[] #[ptr b2, ptr b3]] H (fun _ H' => (∃ v, cl H' D 0 = some v ∧ OutS EN H' v (firstN l n)) ∧ Fr (fun b _ => Z0 b) H H') := by
  have hSl := hU.lt
  have hlt := hT.lt
  refine fn_of Go.Proofs.Try.func90 rfl Go.Proofs.Try.ntmps90 ?_
  refine (show Go' _ _ _ _ 9 [(0, _), (1, _)] [.code _] _ from ?_)
  refine Go'.seq ?_
  -- region 0 (set.go:25)
  refine Go'.region [(0, 2)] rfl ?_
  refine O.box rfl rfl rfl rfl ?_
  intro H1 M1
  refine ⟨trivial, ?_⟩
  have hs1 := M1.size
  have hU1 := hU.fr (M1.fr nowhere) (fun _ _ _ => nw)
  have cp : cl H1 H.size 0 = some (.func (.func 128) #[] #[ptr b2, ptr b3]) := (M1.cl 0).trans rfl
  have hP : PrT H.size b2 b3 D n [] (fun b => Z0 b ∨ b = H.size) H1 := ⟨Z0, hT.fr (M1.fr nowhere) (fun _ _ _ => nw), cp, fun hz => by have := hlt _ hz; omega, fun b hb => .inl hb, .inr rfl, fun b hb => hb.elim (fun h => by have := hlt b h; omega) (fun h => by omega)⟩
  refine Pl.fin [(0, _), (3, _)] ⟨rfl, rfl, trivial⟩ ?_
  -- region 1 (set.go:26)
  refine Go'.region [(0, 0), (1, 0), (2, 0), (3, 0), (4, 2)] rfl ?_
  refine O.mv rfl rfl rfl rfl rfl ?_
  refine O.nc rfl rfl rfl rfl rfl ?_
  refine O.faz rfl rfl rfl rfl ⟨_, _, _, Go.Proofs.Try.underlying142, rfl, rfl, Go.Proofs.Try.sizeOf140⟩ rfl ?_
  refine O.mkf rfl rfl rfl rfl rfl rfl ?_
  refine O.call rfl rfl rfl Go.Proofs.Try.call126 rfl (Scan_spec (cbScan B H.size b2 b3 D n) Try.call127 hU1 hP (fun b hb hz => hz.elim (hd b hb) (fun h => by have := hSl b hb; omega)) hl) ?_
  rintro _ H4 ⟨Z4, hT4, hF4, hZ4⟩
  obtain ⟨v, hv, hov⟩ := PrT.out hT4
  rw [takes_first] at hov
  refine ⟨trivial, ?_⟩
  refine Pl.fin [] trivial ?_
  refine Go'.fall Go.Proofs.Try.func90 Go.Proofs.Try.results90 (vs := []) trivial ?_
  exact ⟨⟨v, hv, hov⟩, (M1.fr nowhere).trans' hF4 (fun _ _ _ h => h.elim) (fun b o hb hz => hz.elim id (fun h => by omega))⟩

theorem simplScan_spec {B : World} {H : Mem} {u : Value} {l : List Int} {n : Int} (hi : InS EN H u l) (hll : l.length ≤ 4294967296) :
    Fn Try.prog B 48 [u, .int .i64 n] H (fun r H' => OutS EN H' r (firstN (Pl.puts OI l) n) ∧ Fr nowhere H H') := by
  have hpl := Pl.puts_length OI l
  refine fn_of Go.Proofs.Try.func48 rfl Go.Proofs.Try.ntmps48 ?_
  refine (show Go' _ _ _ _ 12 [(0, _), (1, _)] [.code _] _ from ?_)
  refine Go'.seq ?_
  -- region 0 (set.go:196)
  refine Go'.region [(0, 0)] rfl ?_
  refine O.asg rfl rfl rfl rfl rfl ?_
  refine Pl.fin [(0, _), (1, _), (4, _)] ⟨rfl, rfl, rfl, trivial⟩ ?_
  refine Go'.seq ?_
  -- region 1 (set.go:197)
  refine Go'.region [(0, 2)] rfl ?_
  refine O.alloc rfl rfl rfl Go.Proofs.Try.zeroValue22 ?_
  intro H1 M1
  refine ⟨trivial, ?_⟩
  have hs1 := M1.size
  have hD : cl H1 H.size 0 = some (.slice none 0 0) := (M1.cl 0).trans rfl
  have hw := M1.wr 1 (by decide)
  replace hi := hi.fr (M1.fr nowhere)
  refine Pl.fin [(0, _), (1, _), (4, _), (5, _)] ⟨rfl, rfl, rfl, rfl, trivial⟩ ?_
  refine Go'.seq ?_
  -- region 2 (set.go:198)
  refine Go'.region [(0, 0), (1, 2), (2, 0), (3, 2), (4, 2)] rfl ?_
  refine O.mv rfl rfl rfl rfl rfl ?_
  refine O.call rfl rfl rfl Go.Proofs.Try.call55 rfl (growSet_spec hi hll) ?_
  rintro _ H2 ⟨tr, S, rfl, hM, hF2, hS⟩
  unfold ptr
  have hs2 := hF2.size
  replace hD := hF2.keep hD nw
  replace hw := hF2.wr hw
  have hSl := hM.lt
  refine ⟨trivial, ?_⟩
  refine O.mv rfl rfl rfl rfl rfl ?_
  refine O.call rfl rfl rfl Go.Proofs.Try.call91 rfl (taker_spec (n := n) hD hw) ?_
  rintro _ H3 ⟨b2, b3, Z, rfl, hT, hF3, hZ⟩
  replace hM := hM.fr hF3 (fun _ _ _ => nw)
  unfold ptr
  refine ⟨trivial, ?_⟩
  refine O.call rfl rfl rfl Go.Proofs.Try.call90 rfl (sScan_spec hM hT (fun b hb hz => (hZ b hz).elim (fun h => by have := hS b hb; omega) (fun h => by have := hSl b hb; omega)) (by omega)) ?_
  rintro _ H4 ⟨⟨v, hv, hov⟩, hF4⟩
  refine ⟨trivial, ?_⟩
  refine Pl.fin [(4, _), (5, _)] ⟨rfl, rfl, trivial⟩ ?_
  refine Go'.seq ?_
  -- region 3 (set.go:199)
  refine Go'.region [(0, 1), (1, 0)] rfl ?_
  refine O.ld rfl rfl rfl (fun w => ⟨Go.Proofs.Try.isAgg22 w, Go.Proofs.Try.sizeOf22 w⟩) rfl hv ?_
  refine O.asg rfl rfl rfl rfl rfl ?_
  refine Pl.fin [(4, _)] ⟨rfl, trivial⟩ ?_
  refine Go'.ret (vs := [_]) Go.Proofs.Try.func48 Go.Proofs.Try.results48 ⟨rfl, trivial⟩ ?_
  exact ⟨hov, (((M1.fr nowhere).trans hF2).trans hF3).trans' hF4 (fun _ _ _ h => h) (fun b o hb hz => (hZ b hz).elim (fun h => by omega) (fun h => by omega))⟩

end Go.Bt.FZ