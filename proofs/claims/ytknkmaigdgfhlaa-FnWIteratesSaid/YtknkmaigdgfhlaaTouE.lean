/- Contracts of functions of the program, proved by walking through their code. Conditions: those that each theorem names. -/
import Derived.Test.YtknkmaigdgfhlaaTouD
import Derived.Test.YtknkmaigdgfhlaaTowM
namespace Go.Bt.FW
open Go Go.Proofs
set_option maxRecDepth 20000
set_option maxHeartbeats 4000000
set_option linter.unusedVariables false

/-- A move: its number, its key. -/
def EWm : Elt (Int × Wk) := { enc := fun m => [.int .i64 m.1, .string m.2], s := 2, len := fun _ => rfl, one := fun _ => rfl, pos := by decide }
theorem EWm.of (vs : List Value) (h : AllOk [.int .i64, .str] vs) : ∃ y, EWm.enc y = vs := by
  obtain ⟨x1, v1, e1, ⟨a, e2, _⟩, h1⟩ := h.get1
  obtain ⟨x2, v2, e3, ⟨b, e4, _⟩, h2⟩ := h1.get1
  rw [e1, e3, e2, e4, h2.nil']
  exact ⟨(a, b), rfl⟩
def wmv1 (m : Int × Wk) : Int × Wk × Int := (m.1, (m.2, 0))
def wmv (ms : List (Int × Wk)) : List (Int × Wk × Int) := ms.map wmv1
def wod (o : Option (Wk × Int)) : Wk × Int := o.getD kv0
theorem st40 : StT Try.prog 40 [(0, 1), (1, 1)] [.int .i64 0, .string ⟨#[]⟩] := ⟨⟨_, Try.underlying40, fun w => by simp [Array.mapM_eq_mapM_toList, Try.sizeOf3, Try.sizeOf9]⟩, Try.zeroValue40⟩
theorem wmv_snoc {T : List (Wk × Int)} {ms : List (Int × Wk)} {j : Nat} {y : Int × Wk} (hy : ms[j]? = some y) : Pl.itRun OI T (wmv (ms.take (j + 1))) = Pl.itStep OI T (Pl.itRun OI T (wmv (ms.take j))) (wmv1 y) := by
  rw [List.take_add_one, hy]
  unfold wmv
  rw [List.map_append]
  exact Pl.itRun_snoc _ _ _ _

theorem witer_spec {B : World} {H : Mem} {d : Nat} {u um : Value} {l : List (Wk × Int)} {ms : List (Int × Wk)} (hd : 2 ≤ d ∧ d ≤ 128) (hi : InS EJ H u l) (hll : l.length ≤ 4294967296) (hu : InS EWm H um ms) (hml : ms.length ≤ 4294967296) :
    Fn Try.prog B 36 [.int .i64 (d : Int), u, um] H (fun v H' => ∃ outs v1 v2, v = .tuple #[v1, v2] ∧ OutS EJ H' v1 (outs.map wod) ∧ OutS EB H' v2 (outs.map Option.isSome) ∧ Pl.Agree outs (Pl.itRun OI (Pl.puts OI l) (wmv ms)).2.1 (Pl.itRun OI (Pl.puts OI l) (wmv ms)).2.2 ∧ Fr nowhere H H') := by
  have hP : PsOk ⟨0, 2 * d - 1, d - 1⟩ := ⟨by show 2 * d - 1 = 2 * (d - 1) + 1; omega, by show 1 ≤ d - 1; omega, by show 2 * d - 1 ≤ 255; omega⟩
  have hpl := Pl.puts_length OI l
  have hsrt := Pl.puts_srt OI l
  have hmx : (⟨0, 2 * d - 1, d - 1⟩ : Ps).mx ≤ 255 := by show 2 * d - 1 ≤ 255; omega
  obtain ⟨a, c, hue⟩ := hu.len
  subst hue
  refine fn_of Go.Proofs.Try.func36 rfl Go.Proofs.Try.ntmps36 ?_
  refine (show Go' _ _ _ _ 58 [(0, _), (1, _), (2, _)] [.code _] _ from ?_)
  refine Go'.seq ?_
  -- region 0 (set.go:317)
  refine Go'.region [(0, 0), (1, 0)] rfl ?_
  refine O.asg rfl rfl rfl rfl rfl ?_
  refine O.asg rfl rfl rfl rfl rfl ?_
  refine Pl.fin [(0, _), (1, _), (2, _), (6, _), (7, _)] ⟨rfl, rfl, rfl, rfl, rfl, trivial⟩ ?_
  refine Go'.seq ?_
  -- region 1 (set.go:318)
  refine Go'.region [(0, 0), (1, 0), (2, 2), (3, 2), (4, 2), (5, 2)] rfl ?_
  refine O.mv rfl rfl rfl rfl rfl ?_
  refine O.mv rfl rfl rfl rfl rfl ?_
  refine O.call rfl rfl rfl Go.Proofs.Try.call71 rfl (growWords_spec hd hi hll) ?_
  rintro _ H1 ⟨tr, S0, rfl, hM, hF1, hS0⟩
  unfold ptr
  refine ⟨trivial, ?_⟩
  refine O.call rfl rfl rfl Go.Proofs.Try.call73 rfl Iter_spec ?_
  rintro _ H2 ⟨rfl, hF2⟩
  have hs2 := hF2.size
  replace hM := hM.fr hF2 (fun _ _ _ => nw)
  refine ⟨trivial, ?_⟩
  refine O.alloc rfl rfl rfl Go.Proofs.Try.zeroValue115 ?_
  intro H3 M3
  refine ⟨trivial, ?_⟩
  have hs3 := M3.size
  have hlt := hM.lt
  replace hM := hM.fr (M3.fr nowhere) (fun _ _ _ => nw)
  have m7 : Wr H3 H2.size 0 8 := M3.wr 8 (by decide)
  refine O.st (vs := (itv tr false)) rfl rfl Go.Proofs.Try.sizeOf115 rfl rfl rfl rfl rfl m7 ?_
  intro H4 W4
  have hs4 := W4.size
  have hs1 := hF1.size
  replace hM := hM.fr W4.fr (fun b o hs hz => by have h1 := hz.1; have := hlt b hs; omega)
  have hI := itr_new W4 m7
  obtain ⟨r, hT⟩ := hM.treeR hP (by omega)
  have hF4 : Fr nowhere H H4 := ((hF1.trans hF2).trans (M3.fr nowhere)).trans' W4.fr (fun _ _ _ h => h) (fun b o hb hz => by have h1 := hz.1; omega)
  have hsi : ¬ S0 H2.size := fun hs => by have := hlt _ hs; omega
  have hit : H.size ≤ H2.size := by omega
  clear hM hF1 hF2 hs2 hs3 hlt hs1 hS0 m7 W4 M3 hi
  generalize H2.size = it at *
  generalize hT0 : Pl.puts OI l = T at *
  clear hs4 H2 H3
  refine ⟨trivial, ?_⟩
  refine Pl.fin [(2, _), (6, _), (7, _), (8, _)] ⟨rfl, rfl, rfl, rfl, trivial⟩ ?_
  refine Go'.seq ?_
  -- region 2 (set.go:319)
  refine Go'.region [(0, 0)] rfl ?_
  refine O.asg rfl rfl rfl rfl rfl ?_
  refine Pl.fin [(2, _), (6, _), (7, _), (8, _), (9, _)] ⟨rfl, rfl, rfl, rfl, rfl, trivial⟩ ?_
  refine Go'.seq ?_
  -- region 3 (set.go:320)
  refine Go'.region [(0, 0)] rfl ?_
  refine O.asg rfl rfl rfl rfl rfl ?_
  refine Pl.fin [(2, _), (6, _), (7, _), (8, _), (9, _), (10, _)] ⟨rfl, rfl, rfl, rfl, rfl, rfl, trivial⟩ ?_
  refine Go'.seq ?_
  refine Go'.seq ?_
  -- region 4 (set.go:321)
  refine Go'.region [(0, 0), (1, 0), (2, 0)] rfl ?_
  refine O.mv rfl rfl rfl rfl rfl ?_
  refine O.len rfl rfl rfl rfl Go.Proofs.Try.underlying36 rfl ?_
  refine O.mv rfl rfl rfl rfl rfl ?_
  refine Pl.fin [(6, _), (7, _), (8, _), (9, _), (10, _), (19, _), (20, _), (21, _)] ⟨rfl, rfl, rfl, rfl, rfl, rfl, rfl, rfl, trivial⟩ ?_
  refine Go'.block ?_
  refine Go'.loop ?_
  refine Go'.keep [(8, _), (9, _), (10, _), (19, _), (20, _), (21, _)] ⟨rfl, rfl, rfl, rfl, rfl, rfl, trivial⟩ ?_
  refine Go'.ind (σ := Nat × Value × Value) (fun s => ms.length - s.1) (fun s H' => Fr nowhere H H' ∧ s.1 ≤ ms.length ∧ ∃ sk sa se Z fr kv st Zo Zt outs, Itr EI H' H' it tr false Z sk sa se Z fr kv ∧ StI r T sk fr kv st ∧ TreeR H' tr ⟨0, 2 * d - 1, d - 1⟩ S0 T r ∧ (∀ b, Z b → H.size ≤ b ∧ ¬ S0 b) ∧ (∀ q, (Pl.itRun OI T (wmv (ms.take s.1))).1 = some q → st = some q) ∧ Acc EJ Zo H' s.2.1 (outs.map wod) ∧ Acc EB Zt H' s.2.2 (outs.map Option.isSome) ∧ (∀ b, Zo b → H.size ≤ b ∧ b < H'.size ∧ ¬ S0 b ∧ ¬ Z b ∧ b ≠ it ∧ ¬ Zt b) ∧ (∀ b, Zt b → H.size ≤ b ∧ b < H'.size ∧ ¬ S0 b ∧ ¬ Z b ∧ b ≠ it) ∧ Pl.Agree outs (Pl.itRun OI T (wmv (ms.take s.1))).2.1 (Pl.itRun OI T (wmv (ms.take s.1))).2.2)
    (fun s => [(8, .pointer (some ⟨it, 0, none⟩)), (9, s.2.1), (10, s.2.2), (19, .slice a ms.length c), (20, .int .i64 (ms.length : Int)), (21, .int .i64 (s.1 : Int))]) (0, .slice none 0 0, .slice none 0 0)
    ⟨hF4, Nat.zero_le _, false, false, false, fun _ => False, [], kv0, none, fun _ => False, fun _ => False, [], hI, rfl, hT, fun _ h => h.elim, (fun q h => by simp [Pl.itRun, wmv] at h), Acc.nil _ _ _, Acc.nil _ _ _, fun _ h => h.elim, fun _ h => h.elim, Pl.Agree.nil⟩ rfl ?_
  clear hI hT hF4
  rintro ⟨j, sv, tv⟩ H2 ⟨hF, hjl, sk, sa, se, Z, fr, kv, st, Zo, Zt, outs, hI, hSt, hT, hZ, hsim, hA, hB, hZo, hZt, hag⟩ ih
  simp only at hjl hsim hA hB hag
  refine Go'.seq ?_
  by_cases hlt : j < ms.length
  · skip
    obtain ⟨y, hy⟩ : ∃ y, ms[j]? = some y := ⟨ms[j], List.getElem?_eq_getElem hlt⟩
    obtain ⟨b, o, c', e, hr⟩ := (hu.fr hF).at hy
    cases e
    have hsz0 := hF.size
    have erun := wmv_snoc (T := T) hy
    have hlo : outs.length = j := by rw [hag.1, (Pl.itRun_len OI T (wmv (ms.take j))).1]; unfold wmv; rw [List.length_map, List.length_take]; omega
    have hlA : (outs.map wod).length = j := by rw [List.length_map]; exact hlo
    have hlB : (outs.map Option.isSome).length = j := by rw [List.length_map]; exact hlo
    -- region 5 (set.go:321)
    refine Go'.region [(0, 0)] rfl ?_
    refine O.cmp rfl rfl rfl rfl rfl rfl (lssT (by omega)) ?_
    refine Pl.fin [(8, _), (9, _), (10, _), (19, _), (20, _), (21, _), (22, _)] ⟨rfl, rfl, rfl, rfl, rfl, rfl, rfl, trivial⟩ ?_
    refine Go'.seq ?_
    refine Go'.condT rfl ?_
    refine Go'.skip ?_
    refine Go'.seq ?_
    refine Go'.block ?_
    refine Go'.seq ?_
    -- region 6 (set.go:321)
    refine Go'.region [(0, 0), (1, 1), (2, 2), (3, 2)] rfl ?_
    refine O.ix (j := j) rfl rfl rfl rfl Go.Proofs.Try.underlying36 Go.Proofs.Try.sizeOf40 rfl rfl (by omega) hlt ?_
    refine O.lds rfl rfl rfl (fun w => ⟨Go.Proofs.Try.isAgg40 w, Go.Proofs.Try.sizeOf40 w⟩) rfl rfl hr ?_
    refine O.alloc rfl rfl rfl Go.Proofs.Try.zeroValue40 ?_
    intro H3 M3
    refine ⟨trivial, ?_⟩
    have hs3 := M3.size
    have m7 : Wr H3 H2.size 0 2 := M3.wr 2 (by decide)
    refine O.st rfl rfl Go.Proofs.Try.sizeOf40 rfl rfl rfl rfl rfl m7 ?_
    intro H4 W4
    have hs4 := W4.size
    have hf4 : Fr nowhere H2 H4 := (M3.fr nowhere).trans' W4.fr (fun _ _ _ h => h) (fun b o hb hz => by have h1 := hz.1; omega)
    replace hI := hI.away hf4 (fun _ _ _ => nw)
    replace hT := hT.keep hf4 (fun _ _ _ => nw)
    replace hA := hA.fr hf4 (fun _ _ _ _ => nw)
    replace hB := hB.fr hf4 (fun _ _ _ _ => nw)
    have hSZ : ∀ b, S0 b → ¬ Z b := fun b hs hz => (hZ b hz).2 hs
    have hSlt := hT.lt
    have k0 : cl H4 H2.size 0 = some (.int .i64 y.1) := W4.all 0 _ rfl
    have k1 : cl H4 H2.size 1 = some (.string y.2) := W4.all 1 _ rfl
    clear hr hu m7 M3
    refine ⟨trivial, ?_⟩
    refine Pl.fin [(8, _), (9, _), (10, _), (12, _), (19, _), (20, _), (21, _), (22, _)] ⟨rfl, rfl, rfl, rfl, rfl, rfl, rfl, rfl, trivial⟩ ?_
    refine Go'.seq ?_
    -- region 7 (set.go:322)
    refine Go'.region [(0, 0)] rfl ?_
    refine O.asg rfl rfl rfl rfl rfl ?_
    refine Pl.fin [(8, _), (9, _), (10, _), (12, _), (13, _), (19, _), (20, _), (21, _), (22, _)] ⟨rfl, rfl, rfl, rfl, rfl, rfl, rfl, rfl, rfl, trivial⟩ ?_
    refine Go'.seq ?_
    refine Go'.seq ?_
    -- region 8 (set.go:323)
    refine Go'.region [(0, 0), (1, 1)] rfl ?_
    refine O.faz rfl rfl rfl rfl ⟨_, _, _, Go.Proofs.Try.underlying40, rfl, rfl, Go.Proofs.Try.sizeOf3⟩ rfl ?_
    refine O.ld rfl rfl rfl (fun w => ⟨Go.Proofs.Try.isAgg3 w, Go.Proofs.Try.sizeOf3 w⟩) rfl k0 ?_
    refine Pl.fin [(8, _), (9, _), (10, _), (12, _), (13, _), (19, _), (20, _), (21, _), (22, _), (26, _)] ⟨rfl, rfl, rfl, rfl, rfl, rfl, rfl, rfl, rfl, rfl, trivial⟩ ?_
    refine Go'.block ?_
    refine Go'.seq ?_
    refine Go'.cut3 (σ := Bool × Option Nat) (fun s H' => ItPost EI H4 H' it tr false Z r T s.2 ∧ Pl.Res OI T (wmv1 y) (Pl.itRun OI T (wmv (ms.take j))).1 s.1 s.2) (fun s => [(8, .pointer (some ⟨it, 0, none⟩)), (9, sv), (10, tv), (13, .bool s.1), (19, .slice (some ⟨b, o, none⟩) ms.length c), (20, .int .i64 (ms.length : Int)), (21, .int .i64 (j : Int))]) ?_ ?_
    · rintro ⟨ok, st2⟩ H5 ⟨⟨sk5, sa5, se5, Z5, fr5, kv5, hI5, hS5⟩, hres⟩
      simp only at hres hS5
      have hs5 := hI5.f.size
      have hitlt := cl_lt hI.c0
      have hzz := hI5.zz
      have hkv5 : ∀ q, st2 = some q → T[q]? = some kv5 := fun q e => by subst e; exact hS5.2.1
      have hT5 := hT.keep hI5.f (fun b o hs hz => hz.elim (fun e => hsi (e ▸ hs)) (hSZ b hs))
      have hA5 := hA.fr hI5.f (fun b o hb hz hx => hx.elim (fun e => (hZo b hz).2.2.2.2.1 e) (hZo b hz).2.2.2.1)
      have hB5 := hB.fr hI5.f (fun b o hb hz hx => hx.elim (fun e => (hZt b hz).2.2.2.2 e) (hZt b hz).2.2.2.1)
      have hF5 : Fr nowhere H H5 := (hF.trans hf4).trans' hI5.f (fun _ _ _ h => h) (fun b o hb hz => hz.elim (fun e => by omega) (fun h => by have := (hZ b h).1; omega))
      replace hI5 := hI5.low
      refine Go'.seq ?_
      -- region 19 (set.go:335)
      refine Go'.region [(0, 2)] rfl ?_
      refine O.alloc rfl rfl rfl Go.Proofs.Try.zeroValue54 ?_
      intro H6 M6
      refine ⟨trivial, ?_⟩
      have hs6 := M6.size
      have m14 : Wr H6 H5.size 0 2 := M6.wr 2 (by decide)
      have x6 : Rd H6 H5.size 0 (EJ.enc kv0) := M6.rd _ [] rfl
      replace hI5 := hI5.away (M6.fr nowhere) (fun _ _ _ => nw)
      replace hT5 := hT5.keep (M6.fr nowhere) (fun _ _ _ => nw)
      replace hA5 := hA5.fr (M6.fr nowhere) (fun _ _ _ _ => nw)
      replace hB5 := hB5.fr (M6.fr nowhere) (fun _ _ _ _ => nw)
      refine Pl.fin [(8, _), (9, _), (10, _), (13, _), (14, _), (19, _), (20, _), (21, _)] ⟨rfl, rfl, rfl, rfl, rfl, rfl, rfl, rfl, trivial⟩ ?_
      refine Go'.seq ?_
      refine Go'.seq ?_
      -- region 20 (set.go:336)
      refine Go'.region [(0, 0)] rfl ?_
      refine O.mv rfl rfl rfl rfl rfl ?_
      refine Pl.fin [(8, _), (9, _), (10, _), (13, _), (14, _), (19, _), (20, _), (21, _), (43, _)] ⟨rfl, rfl, rfl, rfl, rfl, rfl, rfl, rfl, rfl, trivial⟩ ?_
      cases ok
      · skip
        refine Go'.condF rfl ?_
        refine Go'.skip ?_
        have hs7 : H6.size = H6.size := rfl
        have x7 : Rd H6 H5.size 0 (EJ.enc (wod none)) := x6
        have hF7 : Fr nowhere H H6 := hF5.trans (M6.fr nowhere)
        -- region 22 (set.go:339)
        refine Go'.region [(0, 0), (1, 1), (2, 2), (3, 2), (4, 0), (5, 0), (6, 2), (7, 2), (8, 0), (9, 0)] rfl ?_
        refine O.mv rfl rfl rfl rfl rfl ?_
        refine O.lds rfl rfl rfl (fun w => ⟨Go.Proofs.Try.isAgg54 w, Go.Proofs.Try.sizeOf54 w⟩) rfl rfl x7 ?_
        refine O.bsl (cs := (EJ.enc (wod none))) rfl rfl rfl ⟨Go.Proofs.Try.underlying26, Go.Proofs.Try.sizeOf54, Go.Proofs.Try.zeroValue54, ⟨_, Go.Proofs.Try.typeInfo54, rfl⟩, rfl, by decide, by decide⟩ rfl (by decide) (by kernel_rfl) ?_
        intro H8 M8
        have hs8 := M8.size
        replace hI5 := hI5.away (M8.fr nowhere) (fun _ _ _ => nw)
        replace hT5 := hT5.keep (M8.fr nowhere) (fun _ _ _ => nw)
        replace hA5 := hA5.fr (M8.fr nowhere) (fun _ _ _ _ => nw)
        replace hB5 := hB5.fr (M8.fr nowhere) (fun _ _ _ _ => nw)
        have m5 : Rd H8 H6.size 0 (row EJ [wod none]) := M8.rd _ [] (by simp [row])
        refine ⟨trivial, ?_⟩
        refine O.appA (E := EJ) (Y := [wod none]) rfl rfl rfl ⟨Go.Proofs.Try.underlying26, Go.Proofs.Try.sizeOf54, Go.Proofs.Try.zeroValue54, ⟨_, Go.Proofs.Try.typeInfo54, rfl⟩, rfl, by decide, by decide⟩ rfl hA5 rfl ⟨_, _, _, rfl, m5⟩ (Nat.succ_pos _) (Nat.le_trans (Nat.mul_le_mul_left _ (Nat.le_of_ble_eq_true (n := _) (m := 4096) rfl)) (by rw [hlA]; simp only [List.length_cons, List.length_nil]; omega)) (by rw [hlA]; simp only [List.length_cons, List.length_nil]; omega) ?_
        intro v9 H9 hA9 hF9 hs9
        have hg9 := hF9.size
        replace hB5 := hB5.fr hF9 (fun b o hb hz hx => (hZo b hx).2.2.2.2.2 hz)
        replace hI5 := hI5.away hF9 (fun b o hz hb => by
          have h1 := hZo b hb
          rcases hz with e | hz
          · exact h1.2.2.2.2.1 e
          · exact (hzz b hz.1).elim h1.2.2.2.1 (fun h => by have := h1.2.1; omega))
        replace hT5 := hT5.keep hF9 (fun b o hs hb => (hZo b hb).2.2.1 hs)
        refine ⟨trivial, ?_⟩
        refine O.mv rfl rfl rfl rfl rfl ?_
        refine O.mv rfl rfl rfl rfl rfl ?_
        refine O.bsl (cs := [.bool false]) rfl rfl rfl ⟨Go.Proofs.Try.underlying50, Go.Proofs.Try.sizeOf4, Go.Proofs.Try.zeroValue4, ⟨_, Go.Proofs.Try.typeInfo4, rfl⟩, rfl, by decide, by decide⟩ rfl (by decide) (by kernel_rfl) ?_
        intro H10 M10
        have hs10 := M10.size
        replace hA9 := hA9.fr (M10.fr nowhere) (fun _ _ _ _ => nw)
        replace hI5 := hI5.away (M10.fr nowhere) (fun _ _ _ => nw)
        replace hT5 := hT5.keep (M10.fr nowhere) (fun _ _ _ => nw)
        replace hB5 := hB5.fr (M10.fr nowhere) (fun _ _ _ _ => nw)
        have m6 : Rd H10 H9.size 0 (row EB [false]) := M10.rd _ [] (by simp [row, EB])
        refine ⟨trivial, ?_⟩
        refine O.appA (E := EB) (Y := [false]) rfl rfl rfl ⟨Go.Proofs.Try.underlying50, Go.Proofs.Try.sizeOf4, Go.Proofs.Try.zeroValue4, ⟨_, Go.Proofs.Try.typeInfo4, rfl⟩, rfl, by decide, by decide⟩ rfl hB5 rfl ⟨_, _, _, rfl, m6⟩ (Nat.succ_pos _) (Nat.le_trans (Nat.mul_le_mul_left _ (Nat.le_of_ble_eq_true (n := _) (m := 4096) rfl)) (by rw [hlB]; simp only [List.length_cons, List.length_nil]; omega)) (by rw [hlB]; simp only [List.length_cons, List.length_nil]; omega) ?_
        intro v11 H11 hB11 hF11 hs11
        have hg11 := hF11.size
        have hA11 := hA9.fr hF11 (fun b o hb hz hx => by
          rcases hz with hz | hz
          · exact (hZo b hz).2.2.2.2.2 hx
          · have := (hZt b hx).2.1; omega)
        replace hI5 := hI5.away hF11 (fun b o hz hb => by
          have h1 := hZt b hb
          rcases hz with e | hz
          · exact h1.2.2.2.2 e
          · exact (hzz b hz.1).elim h1.2.2.2.1 (fun h => by have := h1.2.1; omega))
        replace hT5 := hT5.keep hF11 (fun b o hs hb => (hZt b hb).2.2.1 hs)
        refine ⟨trivial, ?_⟩
        refine O.asg rfl rfl rfl rfl rfl ?_
        refine O.asg rfl rfl rfl rfl rfl ?_
        refine Pl.fin [(8, _), (9, _), (10, _), (13, _), (14, _), (19, _), (20, _), (21, _), (43, _)] ⟨rfl, rfl, rfl, rfl, rfl, rfl, rfl, rfl, rfl, trivial⟩ ?_
        refine Go'.inBlock ?_
        -- region 23 (set.go:321)
        refine Go'.region [(0, 0), (1, 0)] rfl ?_
        refine O.add (((j + 1 : Nat) : Int)) rfl rfl rfl rfl rfl rfl (by omega) (by omega) ?_
        refine O.mv rfl rfl rfl rfl rfl ?_
        refine Pl.fin [(8, _), (9, _), (10, _), (13, _), (14, _), (19, _), (20, _), (21, _), (43, _)] ⟨rfl, rfl, rfl, rfl, rfl, rfl, rfl, rfl, rfl, trivial⟩ ?_
        refine Go'.keep [(8, _), (9, _), (10, _), (19, _), (20, _), (21, _)] ⟨rfl, rfl, rfl, rfl, rfl, rfl, trivial⟩ ?_
        refine Go'.inLoop ?_
        exact ih (j + 1, v9, v11) H11 ⟨(((hF7.trans (M8.fr nowhere)).trans' hF9 (fun _ _ _ h => h) (fun b o hb hz => by have := (hZo b hz).1; omega)).trans (M10.fr nowhere)).trans' hF11 (fun _ _ _ h => h) (fun b o hb hz => by have := (hZt b hz).1; omega), hlt, sk5, sa5, se5, _, fr5, kv5, st2, (fun b => Zo b ∨ (b = H8.size ∧ b < H9.size)), (fun b => Zt b ∨ (b = H10.size ∧ b < H11.size)), outs ++ [none], hI5, hS5, hT5,
          fun b hb => (hzz b hb.1).elim (hZ b) (fun h => ⟨by omega, fun hs => by have := hSlt b hs; omega⟩),
          (fun q hq => hres.sim q (by rw [← hq, erun]; rfl)), by rw [List.map_append]; exact hA11, by rw [List.map_append]; exact hB11,
          fun b hb => hb.elim (fun h => have h1 := hZo b h; ⟨h1.1, by have := h1.2.1; omega, h1.2.2.1, fun hz => (hzz b hz.1).elim h1.2.2.2.1 (fun h => by have := h1.2.1; omega), h1.2.2.2.2.1, fun hx => hx.elim h1.2.2.2.2.2 (fun h2 => by have := h1.2.1; omega)⟩) (fun h => ⟨by omega, by omega, fun hs => by have := hSlt b hs; omega, fun hz => by have := hz.2; omega, fun e => by omega, fun hx => hx.elim (fun h2 => by have := (hZt b h2).2.1; omega) (fun h2 => by omega)⟩),
          fun b hb => hb.elim (fun h => have h1 := hZt b h; ⟨h1.1, by have := h1.2.1; omega, h1.2.2.1, fun hz => (hzz b hz.1).elim h1.2.2.2.1 (fun h => by have := h1.2.1; omega), h1.2.2.2.2⟩) (fun h => ⟨by omega, h.2, fun hs => by have := hSlt b hs; omega, fun hz => by have := hz.2; omega, fun e => by omega⟩), by
            simp only
            rw [erun]
            exact hag.snoc (fun ht => by rw [← hres.out hkv5 ht]; rfl)⟩ (by simp only; omega)
      · skip
        refine Go'.condT rfl ?_
        -- region 21 (set.go:337)
        refine Go'.region [(0, 2), (1, 2), (2, 0), (3, 2)] rfl ?_
        refine O.callQ rfl rfl rfl Go.Proofs.Try.call79 rfl (iKey_spec hI5.kv) trivial ?_
        refine O.callQ rfl rfl rfl Go.Proofs.Try.call80 rfl (iValue_spec hI5.kv) trivial ?_
        refine O.bld (cs := (EJ.enc kv5)) rfl rfl rfl rfl (st54) rfl (by kernel_rfl) ?_
        refine O.st rfl rfl Go.Proofs.Try.sizeOf54 rfl rfl rfl rfl rfl m14 ?_
        intro H7 W7
        have hs7 := W7.size
        have x7 : Rd H7 H5.size 0 (EJ.enc (wod (some kv5))) := W7.all
        replace hI5 := hI5.away W7.fr (fun b o hz hx => by
          have h1 := hx.1
          rcases hz with e | hz
          · omega
          · have := hz.2; omega)
        replace hT5 := hT5.keep W7.fr (fun b o hs hx => by have h1 := hx.1; have := hSlt b hs; omega)
        replace hA5 := hA5.fr W7.fr (fun b o hb hz hx => by have h1 := hx.1; have := (hZo b hz).2.1; omega)
        replace hB5 := hB5.fr W7.fr (fun b o hb hz hx => by have h1 := hx.1; have := (hZt b hz).2.1; omega)
        have hF7 : Fr nowhere H H7 := (hF5.trans (M6.fr nowhere)).trans' W7.fr (fun _ _ _ h => h) (fun b o hb hz => by have h1 := hz.1; omega)
        refine ⟨trivial, ?_⟩
        refine Pl.fin [(8, _), (9, _), (10, _), (13, _), (14, _), (19, _), (20, _), (21, _), (43, _)] ⟨rfl, rfl, rfl, rfl, rfl, rfl, rfl, rfl, rfl, trivial⟩ ?_
        -- region 22 (set.go:339)
        refine Go'.region [(0, 0), (1, 1), (2, 2), (3, 2), (4, 0), (5, 0), (6, 2), (7, 2), (8, 0), (9, 0)] rfl ?_
        refine O.mv rfl rfl rfl rfl rfl ?_
        refine O.lds rfl rfl rfl (fun w => ⟨Go.Proofs.Try.isAgg54 w, Go.Proofs.Try.sizeOf54 w⟩) rfl rfl x7 ?_
        refine O.bsl (cs := (EJ.enc (wod (some kv5)))) rfl rfl rfl ⟨Go.Proofs.Try.underlying26, Go.Proofs.Try.sizeOf54, Go.Proofs.Try.zeroValue54, ⟨_, Go.Proofs.Try.typeInfo54, rfl⟩, rfl, by decide, by decide⟩ rfl (by decide) (by kernel_rfl) ?_
        intro H8 M8
        have hs8 := M8.size
        replace hI5 := hI5.away (M8.fr nowhere) (fun _ _ _ => nw)
        replace hT5 := hT5.keep (M8.fr nowhere) (fun _ _ _ => nw)
        replace hA5 := hA5.fr (M8.fr nowhere) (fun _ _ _ _ => nw)
        replace hB5 := hB5.fr (M8.fr nowhere) (fun _ _ _ _ => nw)
        have m5 : Rd H8 H7.size 0 (row EJ [wod (some kv5)]) := M8.rd _ [] (by simp [row])
        refine ⟨trivial, ?_⟩
        refine O.appA (E := EJ) (Y := [wod (some kv5)]) rfl rfl rfl ⟨Go.Proofs.Try.underlying26, Go.Proofs.Try.sizeOf54, Go.Proofs.Try.zeroValue54, ⟨_, Go.Proofs.Try.typeInfo54, rfl⟩, rfl, by decide, by decide⟩ rfl hA5 rfl ⟨_, _, _, rfl, m5⟩ (Nat.succ_pos _) (Nat.le_trans (Nat.mul_le_mul_left _ (Nat.le_of_ble_eq_true (n := _) (m := 4096) rfl)) (by rw [hlA]; simp only [List.length_cons, List.length_nil]; omega)) (by rw [hlA]; simp only [List.length_cons, List.length_nil]; omega) ?_
        intro v9 H9 hA9 hF9 hs9
        have hg9 := hF9.size
        replace hB5 := hB5.fr hF9 (fun b o hb hz hx => (hZo b hx).2.2.2.2.2 hz)
        replace hI5 := hI5.away hF9 (fun b o hz hb => by
          have h1 := hZo b hb
          rcases hz with e | hz
          · exact h1.2.2.2.2.1 e
          · exact (hzz b hz.1).elim h1.2.2.2.1 (fun h => by have := h1.2.1; omega))
        replace hT5 := hT5.keep hF9 (fun b o hs hb => (hZo b hb).2.2.1 hs)
        refine ⟨trivial, ?_⟩
        refine O.mv rfl rfl rfl rfl rfl ?_
        refine O.mv rfl rfl rfl rfl rfl ?_
        refine O.bsl (cs := [.bool true]) rfl rfl rfl ⟨Go.Proofs.Try.underlying50, Go.Proofs.Try.sizeOf4, Go.Proofs.Try.zeroValue4, ⟨_, Go.Proofs.Try.typeInfo4, rfl⟩, rfl, by decide, by decide⟩ rfl (by decide) (by kernel_rfl) ?_
        intro H10 M10
        have hs10 := M10.size
        replace hA9 := hA9.fr (M10.fr nowhere) (fun _ _ _ _ => nw)
        replace hI5 := hI5.away (M10.fr nowhere) (fun _ _ _ => nw)
        replace hT5 := hT5.keep (M10.fr nowhere) (fun _ _ _ => nw)
        replace hB5 := hB5.fr (M10.fr nowhere) (fun _ _ _ _ => nw)
        have m6 : Rd H10 H9.size 0 (row EB [true]) := M10.rd _ [] (by simp [row, EB])
        refine ⟨trivial, ?_⟩
        refine O.appA (E := EB) (Y := [true]) rfl rfl rfl ⟨Go.Proofs.Try.underlying50, Go.Proofs.Try.sizeOf4, Go.Proofs.Try.zeroValue4, ⟨_, Go.Proofs.Try.typeInfo4, rfl⟩, rfl, by decide, by decide⟩ rfl hB5 rfl ⟨_, _, _, rfl, m6⟩ (Nat.succ_pos _) (Nat.le_trans (Nat.mul_le_mul_left _ (Nat.le_of_ble_eq_true (n := _) (m := 4096) rfl)) (by rw [hlB]; simp only [List.length_cons, List.length_nil]; omega)) (by rw [hlB]; simp only [List.length_cons, List.length_nil]; omega) ?_
        intro v11 H11 hB11 hF11 hs11
        have hg11 := hF11.size
        have hA11 := hA9.fr hF11 (fun b o hb hz hx => by
          rcases hz with hz | hz
          · exact (hZo b hz).2.2.2.2.2 hx
          · have := (hZt b hx).2.1; omega)
        replace hI5 := hI5.away hF11 (fun b o hz hb => by
          have h1 := hZt b hb
          rcases hz with e | hz
          · exact h1.2.2.2.2 e
          · exact (hzz b hz.1).elim h1.2.2.2.1 (fun h => by have := h1.2.1; omega))
        replace hT5 := hT5.keep hF11 (fun b o hs hb => (hZt b hb).2.2.1 hs)
        refine ⟨trivial, ?_⟩
        refine O.asg rfl rfl rfl rfl rfl ?_
        refine O.asg rfl rfl rfl rfl rfl ?_
        refine Pl.fin [(8, _), (9, _), (10, _), (13, _), (14, _), (19, _), (20, _), (21, _), (43, _)] ⟨rfl, rfl, rfl, rfl, rfl, rfl, rfl, rfl, rfl, trivial⟩ ?_
        refine Go'.inBlock ?_
        -- region 23 (set.go:321)
        refine Go'.region [(0, 0), (1, 0)] rfl ?_
        refine O.add (((j + 1 : Nat) : Int)) rfl rfl rfl rfl rfl rfl (by omega) (by omega) ?_
        refine O.mv rfl rfl rfl rfl rfl ?_
        refine Pl.fin [(8, _), (9, _), (10, _), (13, _), (14, _), (19, _), (20, _), (21, _), (43, _)] ⟨rfl, rfl, rfl, rfl, rfl, rfl, rfl, rfl, rfl, trivial⟩ ?_
        refine Go'.keep [(8, _), (9, _), (10, _), (19, _), (20, _), (21, _)] ⟨rfl, rfl, rfl, rfl, rfl, rfl, trivial⟩ ?_
        refine Go'.inLoop ?_
        exact ih (j + 1, v9, v11) H11 ⟨(((hF7.trans (M8.fr nowhere)).trans' hF9 (fun _ _ _ h => h) (fun b o hb hz => by have := (hZo b hz).1; omega)).trans (M10.fr nowhere)).trans' hF11 (fun _ _ _ h => h) (fun b o hb hz => by have := (hZt b hz).1; omega), hlt, sk5, sa5, se5, _, fr5, kv5, st2, (fun b => Zo b ∨ (b = H8.size ∧ b < H9.size)), (fun b => Zt b ∨ (b = H10.size ∧ b < H11.size)), outs ++ [some kv5], hI5, hS5, hT5,
          fun b hb => (hzz b hb.1).elim (hZ b) (fun h => ⟨by omega, fun hs => by have := hSlt b hs; omega⟩),
          (fun q hq => hres.sim q (by rw [← hq, erun]; rfl)), by rw [List.map_append]; exact hA11, by rw [List.map_append]; exact hB11,
          fun b hb => hb.elim (fun h => have h1 := hZo b h; ⟨h1.1, by have := h1.2.1; omega, h1.2.2.1, fun hz => (hzz b hz.1).elim h1.2.2.2.1 (fun h => by have := h1.2.1; omega), h1.2.2.2.2.1, fun hx => hx.elim h1.2.2.2.2.2 (fun h2 => by have := h1.2.1; omega)⟩) (fun h => ⟨by omega, by omega, fun hs => by have := hSlt b hs; omega, fun hz => by have := hz.2; omega, fun e => by omega, fun hx => hx.elim (fun h2 => by have := (hZt b h2).2.1; omega) (fun h2 => by omega)⟩),
          fun b hb => hb.elim (fun h => have h1 := hZt b h; ⟨h1.1, by have := h1.2.1; omega, h1.2.2.1, fun hz => (hzz b hz.1).elim h1.2.2.2.1 (fun h => by have := h1.2.1; omega), h1.2.2.2.2⟩) (fun h => ⟨by omega, h.2, fun hs => by have := hSlt b hs; omega, fun hz => by have := hz.2; omega, fun e => by omega⟩), by
            simp only
            rw [erun]
            exact hag.snoc (fun ht => by rw [← hres.out hkv5 ht]; rfl)⟩ (by simp only; omega)
    · intro tail
      by_cases h1 : y.1 = 1
      · skip
        -- region 10 (set.go:324)
        refine Go'.region [(0, 0), (1, 0)] rfl ?_
        refine O.cmp rfl rfl rfl rfl rfl rfl (eqlT (by omega)) ?_
        refine O.asg rfl rfl rfl rfl rfl ?_
        refine Pl.fin [(8, _), (9, _), (10, _), (12, _), (13, _), (19, _), (20, _), (21, _), (22, _), (26, _), (28, _)] ⟨rfl, rfl, rfl, rfl, rfl, rfl, rfl, rfl, rfl, rfl, rfl, trivial⟩ ?_
        refine Go'.condT rfl ?_
        -- region 11 (set.go:325)
        refine Go'.region [(0, 2), (1, 0)] rfl ?_
        refine O.call rfl rfl rfl Go.Proofs.Try.call74 rfl (iLast_spec hI hT hsi hSZ) ?_
        rintro _ H5 ⟨rfl, hp⟩
        refine ⟨trivial, ?_⟩
        refine O.asg rfl rfl rfl rfl rfl ?_
        refine Pl.fin [(8, _), (9, _), (10, _), (12, _), (13, _), (19, _), (20, _), (21, _), (22, _), (26, _), (28, _)] ⟨rfl, rfl, rfl, rfl, rfl, rfl, rfl, rfl, rfl, rfl, rfl, trivial⟩ ?_
        refine Go'.inBlock ?_
        refine Go'.keep [(8, _), (9, _), (10, _), (13, _), (19, _), (20, _), (21, _)] ⟨rfl, rfl, rfl, rfl, rfl, rfl, rfl, trivial⟩ ?_
        exact tail (_, _) _ ⟨hp, Pl.Res.last h1⟩
      -- region 10 (set.go:324)
      refine Go'.region [(0, 0), (1, 0)] rfl ?_
      refine O.cmp rfl rfl rfl rfl rfl rfl (eqlF (by omega)) ?_
      refine O.asg rfl rfl rfl rfl rfl ?_
      refine Pl.fin [(8, _), (9, _), (10, _), (12, _), (13, _), (19, _), (20, _), (21, _), (22, _), (26, _), (28, _)] ⟨rfl, rfl, rfl, rfl, rfl, rfl, rfl, rfl, rfl, rfl, rfl, trivial⟩ ?_
      refine Go'.condF rfl ?_
      refine Go'.seq ?_
      by_cases h2 : y.1 = 2
      · skip
        -- region 12 (set.go:326)
        refine Go'.region [(0, 0), (1, 0)] rfl ?_
        refine O.cmp rfl rfl rfl rfl rfl rfl (eqlT (by omega)) ?_
        refine O.asg rfl rfl rfl rfl rfl ?_
        refine Pl.fin [(8, _), (9, _), (10, _), (12, _), (13, _), (19, _), (20, _), (21, _), (22, _), (26, _), (28, _), (31, _)] ⟨rfl, rfl, rfl, rfl, rfl, rfl, rfl, rfl, rfl, rfl, rfl, rfl, trivial⟩ ?_
        refine Go'.condT rfl ?_
        -- region 13 (set.go:327)
        refine Go'.region [(0, 2), (1, 0)] rfl ?_
        refine O.call rfl rfl rfl Go.Proofs.Try.call75 rfl (iNext_spec hI hT hsi hSZ hSt) ?_
        rintro _ H5 ⟨ok, st2, rfl, hp, hq, hn⟩
        refine ⟨trivial, ?_⟩
        refine O.asg rfl rfl rfl rfl rfl ?_
        refine Pl.fin [(8, _), (9, _), (10, _), (12, _), (13, _), (19, _), (20, _), (21, _), (22, _), (26, _), (28, _), (31, _)] ⟨rfl, rfl, rfl, rfl, rfl, rfl, rfl, rfl, rfl, rfl, rfl, rfl, trivial⟩ ?_
        refine Go'.inBlock ?_
        refine Go'.keep [(8, _), (9, _), (10, _), (13, _), (19, _), (20, _), (21, _)] ⟨rfl, rfl, rfl, rfl, rfl, rfl, rfl, trivial⟩ ?_
        exact tail (_, _) _ ⟨hp, Pl.Res.next h2 hsim hq hn⟩
      -- region 12 (set.go:326)
      refine Go'.region [(0, 0), (1, 0)] rfl ?_
      refine O.cmp rfl rfl rfl rfl rfl rfl (eqlF (by omega)) ?_
      refine O.asg rfl rfl rfl rfl rfl ?_
      refine Pl.fin [(8, _), (9, _), (10, _), (12, _), (13, _), (19, _), (20, _), (21, _), (22, _), (26, _), (28, _), (31, _)] ⟨rfl, rfl, rfl, rfl, rfl, rfl, rfl, rfl, rfl, rfl, rfl, rfl, trivial⟩ ?_
      refine Go'.condF rfl ?_
      refine Go'.seq ?_
      by_cases h3 : y.1 = 3
      · skip
        -- region 14 (set.go:328)
        refine Go'.region [(0, 0), (1, 0)] rfl ?_
        refine O.cmp rfl rfl rfl rfl rfl rfl (eqlT (by omega)) ?_
        refine O.asg rfl rfl rfl rfl rfl ?_
        refine Pl.fin [(8, _), (9, _), (10, _), (12, _), (13, _), (19, _), (20, _), (21, _), (22, _), (26, _), (28, _), (31, _), (34, _)] ⟨rfl, rfl, rfl, rfl, rfl, rfl, rfl, rfl, rfl, rfl, rfl, rfl, rfl, trivial⟩ ?_
        refine Go'.condT rfl ?_
        -- region 15 (set.go:329)
        refine Go'.region [(0, 2), (1, 0)] rfl ?_
        refine O.call rfl rfl rfl Go.Proofs.Try.call76 rfl (iPrev_spec hI hT hsi hSZ hSt) ?_
        rintro _ H5 ⟨ok, st2, rfl, hp, hq, hn⟩
        refine ⟨trivial, ?_⟩
        refine O.asg rfl rfl rfl rfl rfl ?_
        refine Pl.fin [(8, _), (9, _), (10, _), (12, _), (13, _), (19, _), (20, _), (21, _), (22, _), (26, _), (28, _), (31, _), (34, _)] ⟨rfl, rfl, rfl, rfl, rfl, rfl, rfl, rfl, rfl, rfl, rfl, rfl, rfl, trivial⟩ ?_
        refine Go'.inBlock ?_
        refine Go'.keep [(8, _), (9, _), (10, _), (13, _), (19, _), (20, _), (21, _)] ⟨rfl, rfl, rfl, rfl, rfl, rfl, rfl, trivial⟩ ?_
        exact tail (_, _) _ ⟨hp, Pl.Res.prev h3 (fun q h => Pl.itRun_lt OI T _ h) hsim hq hn⟩
      -- region 14 (set.go:328)
      refine Go'.region [(0, 0), (1, 0)] rfl ?_
      refine O.cmp rfl rfl rfl rfl rfl rfl (eqlF (by omega)) ?_
      refine O.asg rfl rfl rfl rfl rfl ?_
      refine Pl.fin [(8, _), (9, _), (10, _), (12, _), (13, _), (19, _), (20, _), (21, _), (22, _), (26, _), (28, _), (31, _), (34, _)] ⟨rfl, rfl, rfl, rfl, rfl, rfl, rfl, rfl, rfl, rfl, rfl, rfl, rfl, trivial⟩ ?_
      refine Go'.condF rfl ?_
      refine Go'.seq ?_
      refine Go'.seq ?_
      by_cases h4 : y.1 = 4
      · skip
        -- region 16 (set.go:330)
        refine Go'.region [(0, 0), (1, 0)] rfl ?_
        refine O.cmp rfl rfl rfl rfl rfl rfl (eqlT (by omega)) ?_
        refine O.asg rfl rfl rfl rfl rfl ?_
        refine Pl.fin [(8, _), (9, _), (10, _), (12, _), (13, _), (19, _), (20, _), (21, _), (22, _), (26, _), (28, _), (31, _), (34, _), (37, _)] ⟨rfl, rfl, rfl, rfl, rfl, rfl, rfl, rfl, rfl, rfl, rfl, rfl, rfl, rfl, trivial⟩ ?_
        refine Go'.condT rfl ?_
        refine Go'.skip ?_
        refine Go'.condT rfl ?_
        -- region 18 (set.go:331)
        refine Go'.region [(0, 0), (1, 1), (2, 2), (3, 0)] rfl ?_
        refine O.fa0 (off := 1) rfl rfl rfl rfl ⟨_, _, _, Go.Proofs.Try.underlying40, rfl, rfl, Go.Proofs.Try.sizeOf9⟩ rfl ?_
        refine O.ld rfl rfl rfl (fun w => ⟨Go.Proofs.Try.isAgg9 w, Go.Proofs.Try.sizeOf9 w⟩) rfl k1 ?_
        refine O.call rfl rfl rfl Go.Proofs.Try.call77 rfl (iSeek_spec hI hT hsi hSZ hsrt hmx (y.2, 0)) ?_
        rintro _ H5 ⟨rfl, hp⟩
        refine ⟨trivial, ?_⟩
        refine O.asg rfl rfl rfl rfl rfl ?_
        refine Pl.fin [(8, _), (9, _), (10, _), (12, _), (13, _), (19, _), (20, _), (21, _), (22, _), (26, _), (28, _), (31, _), (34, _), (37, _)] ⟨rfl, rfl, rfl, rfl, rfl, rfl, rfl, rfl, rfl, rfl, rfl, rfl, rfl, rfl, trivial⟩ ?_
        refine Go'.inBlock ?_
        refine Go'.keep [(8, _), (9, _), (10, _), (13, _), (19, _), (20, _), (21, _)] ⟨rfl, rfl, rfl, rfl, rfl, rfl, rfl, trivial⟩ ?_
        exact tail (_, _) _ ⟨hp, Pl.Res.seek (.inl h4)⟩
      -- region 16 (set.go:330)
      refine Go'.region [(0, 0), (1, 0)] rfl ?_
      refine O.cmp rfl rfl rfl rfl rfl rfl (eqlF (by omega)) ?_
      refine O.asg rfl rfl rfl rfl rfl ?_
      refine Pl.fin [(8, _), (9, _), (10, _), (12, _), (13, _), (19, _), (20, _), (21, _), (22, _), (26, _), (28, _), (31, _), (34, _), (37, _)] ⟨rfl, rfl, rfl, rfl, rfl, rfl, rfl, rfl, rfl, rfl, rfl, rfl, rfl, rfl, trivial⟩ ?_
      refine Go'.condF rfl ?_
      by_cases h5 : y.1 = 5
      · skip
        -- region 17 (set.go:330)
        refine Go'.region [(0, 0), (1, 0)] rfl ?_
        refine O.cmp rfl rfl rfl rfl rfl rfl (eqlT (by omega)) ?_
        refine O.asg rfl rfl rfl rfl rfl ?_
        refine Pl.fin [(8, _), (9, _), (10, _), (12, _), (13, _), (19, _), (20, _), (21, _), (22, _), (26, _), (28, _), (31, _), (34, _), (37, _)] ⟨rfl, rfl, rfl, rfl, rfl, rfl, rfl, rfl, rfl, rfl, rfl, rfl, rfl, rfl, trivial⟩ ?_
        refine Go'.condT rfl ?_
        -- region 18 (set.go:331)
        refine Go'.region [(0, 0), (1, 1), (2, 2), (3, 0)] rfl ?_
        refine O.fa0 (off := 1) rfl rfl rfl rfl ⟨_, _, _, Go.Proofs.Try.underlying40, rfl, rfl, Go.Proofs.Try.sizeOf9⟩ rfl ?_
        refine O.ld rfl rfl rfl (fun w => ⟨Go.Proofs.Try.isAgg9 w, Go.Proofs.Try.sizeOf9 w⟩) rfl k1 ?_
        refine O.call rfl rfl rfl Go.Proofs.Try.call77 rfl (iSeek_spec hI hT hsi hSZ hsrt hmx (y.2, 0)) ?_
        rintro _ H5 ⟨rfl, hp⟩
        refine ⟨trivial, ?_⟩
        refine O.asg rfl rfl rfl rfl rfl ?_
        refine Pl.fin [(8, _), (9, _), (10, _), (12, _), (13, _), (19, _), (20, _), (21, _), (22, _), (26, _), (28, _), (31, _), (34, _), (37, _)] ⟨rfl, rfl, rfl, rfl, rfl, rfl, rfl, rfl, rfl, rfl, rfl, rfl, rfl, rfl, trivial⟩ ?_
        refine Go'.inBlock ?_
        refine Go'.keep [(8, _), (9, _), (10, _), (13, _), (19, _), (20, _), (21, _)] ⟨rfl, rfl, rfl, rfl, rfl, rfl, rfl, trivial⟩ ?_
        exact tail (_, _) _ ⟨hp, Pl.Res.seek (.inr h5)⟩
      · skip
        -- region 17 (set.go:330)
        refine Go'.region [(0, 0), (1, 0)] rfl ?_
        refine O.cmp rfl rfl rfl rfl rfl rfl (eqlF (by omega)) ?_
        refine O.asg rfl rfl rfl rfl rfl ?_
        refine Pl.fin [(8, _), (9, _), (10, _), (12, _), (13, _), (19, _), (20, _), (21, _), (22, _), (26, _), (28, _), (31, _), (34, _), (37, _)] ⟨rfl, rfl, rfl, rfl, rfl, rfl, rfl, rfl, rfl, rfl, rfl, rfl, rfl, rfl, trivial⟩ ?_
        refine Go'.condF rfl ?_
        -- region 9 (set.go:333)
        refine Go'.region [(0, 2), (1, 0)] rfl ?_
        refine O.call rfl rfl rfl Go.Proofs.Try.call78 rfl (iFirst_spec hI hT hsi hSZ) ?_
        rintro _ H5 ⟨rfl, hp⟩
        refine ⟨trivial, ?_⟩
        refine O.asg rfl rfl rfl rfl rfl ?_
        refine Pl.fin [(8, _), (9, _), (10, _), (12, _), (13, _), (19, _), (20, _), (21, _), (22, _), (26, _), (28, _), (31, _), (34, _), (37, _)] ⟨rfl, rfl, rfl, rfl, rfl, rfl, rfl, rfl, rfl, rfl, rfl, rfl, rfl, rfl, trivial⟩ ?_
        refine Go'.inBlock ?_
        refine Go'.keep [(8, _), (9, _), (10, _), (13, _), (19, _), (20, _), (21, _)] ⟨rfl, rfl, rfl, rfl, rfl, rfl, rfl, trivial⟩ ?_
        exact tail (_, _) _ ⟨hp, Pl.Res.first h1 h2 h3 h4 h5⟩
  · skip
    obtain rfl : j = ms.length := by omega
    rw [List.take_length] at hag
    -- region 5 (set.go:321)
    refine Go'.region [(0, 0)] rfl ?_
    refine O.cmp rfl rfl rfl rfl rfl rfl (lssF (by omega)) ?_
    refine Pl.fin [(8, _), (9, _), (10, _), (19, _), (20, _), (21, _), (22, _)] ⟨rfl, rfl, rfl, rfl, rfl, rfl, rfl, trivial⟩ ?_
    refine Go'.seq ?_
    refine Go'.condF rfl ?_
    refine Go'.exit rfl ?_
    refine Go'.seq ?_
    -- region 24 (set.go:341)
    refine Go'.region [(0, 0), (1, 0), (2, 0), (3, 0)] rfl ?_
    refine O.mv rfl rfl rfl rfl rfl ?_
    refine O.mv rfl rfl rfl rfl rfl ?_
    refine O.asg rfl rfl rfl rfl rfl ?_
    refine O.asg rfl rfl rfl rfl rfl ?_
    refine Pl.fin [(6, _), (7, _)] ⟨rfl, rfl, trivial⟩ ?_
    refine Go'.ret (vs := [_, _]) Go.Proofs.Try.func36 Go.Proofs.Try.results36 ⟨rfl, rfl, trivial⟩ ?_
    exact ⟨outs, _, _, rfl, hA.out, hB.out, hag, hF⟩

theorem specWIter_spec {B : World} {H : Mem} {u um : Value} {l : List (Wk × Int)} {ms : List (Int × Wk)} (hi : InS EJ H u l) (hll : l.length ≤ 4294967296) (hu : InS EWm H um ms) (hml : ms.length ≤ 4294967296) :
    Fn Try.prog B 63 [u, um] H (fun r H' => ∃ v1 v2 v3, r = .tuple #[v1, v2, v3] ∧ OutS EJ H' v1 ((Pl.itRun OI (Pl.puts OI l) (wmv ms)).2.1.map wod) ∧ OutS EB H' v2 ((Pl.itRun OI (Pl.puts OI l) (wmv ms)).2.1.map Option.isSome) ∧ OutS EB H' v3 (Pl.itRun OI (Pl.puts OI l) (wmv ms)).2.2 ∧ Fr nowhere H H') := by
  have hpl := Pl.puts_length OI l
  have hsrt := Pl.puts_srt OI l
  obtain ⟨am, cm, hue⟩ := hu.len
  subst hue
  refine fn_of Go.Proofs.Try.func63 rfl Go.Proofs.Try.ntmps63 ?_
  refine (show Go' _ _ _ _ 95 [(0, _), (1, _)] [.code _] _ from ?_)
  refine Go'.seq ?_
  -- region 0 (words.go:131)
  refine Go'.region [(0, 0), (1, 0), (2, 0)] rfl ?_
  refine O.asg rfl rfl rfl rfl rfl ?_
  refine O.asg rfl rfl rfl rfl rfl ?_
  refine O.asg rfl rfl rfl rfl rfl ?_
  refine Pl.fin [(0, _), (1, _), (4, _), (5, _), (6, _)] ⟨rfl, rfl, rfl, rfl, rfl, trivial⟩ ?_
  refine Go'.seq ?_
  -- region 1 (words.go:132)
  refine Go'.region [(0, 0), (1, 2), (2, 0)] rfl ?_
  refine O.mv rfl rfl rfl rfl rfl ?_
  refine O.call rfl rfl rfl Go.Proofs.Try.call100 rfl (words_spec hi hll) ?_
  rintro xv H1 ⟨htv, hF1⟩
  replace htv := htv.inS
  generalize hT0 : Pl.puts OI l = T at *
  obtain ⟨a, c, hue⟩ := htv.len
  subst hue
  clear hi
  replace hu := hu.fr hF1
  refine ⟨trivial, ?_⟩
  refine O.asg rfl rfl rfl rfl rfl ?_
  refine Pl.fin [(1, _), (4, _), (5, _), (6, _), (7, _)] ⟨rfl, rfl, rfl, rfl, rfl, trivial⟩ ?_
  refine Go'.seq ?_
  -- region 2 (words.go:133)
  refine Go'.region [(0, 0)] rfl ?_
  refine O.asg rfl rfl rfl rfl rfl ?_
  refine Pl.fin [(1, _), (4, _), (5, _), (6, _), (7, _), (8, _)] ⟨rfl, rfl, rfl, rfl, rfl, rfl, trivial⟩ ?_
  refine Go'.seq ?_
  -- region 3 (words.go:134)
  refine Go'.region [(0, 0), (1, 0)] rfl ?_
  refine O.asg rfl rfl rfl rfl rfl ?_
  refine O.asg rfl rfl rfl rfl rfl ?_
  refine Pl.fin [(1, _), (4, _), (5, _), (6, _), (7, _), (8, _), (9, _), (10, _)] ⟨rfl, rfl, rfl, rfl, rfl, rfl, rfl, rfl, trivial⟩ ?_
  refine Go'.seq ?_
  -- region 4 (words.go:135)
  refine Go'.region [(0, 0)] rfl ?_
  refine O.asg rfl rfl rfl rfl rfl ?_
  refine Pl.fin [(1, _), (4, _), (5, _), (6, _), (7, _), (8, _), (9, _), (10, _), (11, _)] ⟨rfl, rfl, rfl, rfl, rfl, rfl, rfl, rfl, rfl, trivial⟩ ?_
  refine Go'.seq ?_
  refine Go'.seq ?_
  -- region 5 (words.go:136)
  refine Go'.region [(0, 0), (1, 0), (2, 0)] rfl ?_
  refine O.mv rfl rfl rfl rfl rfl ?_
  refine O.len rfl rfl rfl rfl Go.Proofs.Try.underlying36 rfl ?_
  refine O.mv rfl rfl rfl rfl rfl ?_
  refine Pl.fin [(4, _), (5, _), (6, _), (7, _), (8, _), (9, _), (10, _), (11, _), (19, _), (20, _), (21, _)] ⟨rfl, rfl, rfl, rfl, rfl, rfl, rfl, rfl, rfl, rfl, rfl, trivial⟩ ?_
  refine Go'.block ?_
  refine Go'.loop ?_
  refine Go'.keep [(7, _), (8, _), (9, _), (10, _), (11, _), (19, _), (20, _), (21, _)] ⟨rfl, rfl, rfl, rfl, rfl, rfl, rfl, rfl, trivial⟩ ?_
  refine Go'.ind (σ := Nat × Value × Value × Value) (fun s => ms.length - s.1) (fun s H' => Fr nowhere H1 H' ∧ s.1 ≤ ms.length ∧ ∃ Zo Zt Zu, Acc EJ Zo H' s.2.1 ((Pl.itRun OI T (wmv (ms.take s.1))).2.1.map wod) ∧ Acc EB Zt H' s.2.2.1 ((Pl.itRun OI T (wmv (ms.take s.1))).2.1.map Option.isSome) ∧ Acc EB Zu H' s.2.2.2 (Pl.itRun OI T (wmv (ms.take s.1))).2.2 ∧ (∀ b, Zo b → H1.size ≤ b ∧ b < H'.size ∧ ¬ Zt b ∧ ¬ Zu b) ∧ (∀ b, Zt b → H1.size ≤ b ∧ b < H'.size ∧ ¬ Zu b) ∧ ∀ b, Zu b → H1.size ≤ b ∧ b < H'.size)
    (fun s => [(7, .slice a T.length c), (8, s.2.1), (9, s.2.2.1), (10, s.2.2.2), (11, .int .i64 (Pl.atz (Pl.itRun OI T (wmv (ms.take s.1))).1)), (19, .slice am ms.length cm), (20, .int .i64 (ms.length : Int)), (21, .int .i64 (s.1 : Int))]) (0, .slice none 0 0, .slice none 0 0, .slice none 0 0)
    ⟨Fr.refl _ _, Nat.zero_le _, fun _ => False, fun _ => False, fun _ => False, Acc.nil _ _ _, Acc.nil _ _ _, Acc.nil _ _ _, fun _ h => h.elim, fun _ h => h.elim, fun _ h => h.elim⟩ rfl ?_
  rintro ⟨j, sv, tv, uv⟩ H2 ⟨hF, hjl, Zo, Zt, Zu, hA, hB, hC, hZo, hZt, hZu⟩ ih
  simp only at hjl hA hB hC
  have hi2 := htv.fr hF
  refine Go'.seq ?_
  by_cases hlt : j < ms.length
  · skip
    obtain ⟨y, hy⟩ : ∃ y, ms[j]? = some y := ⟨ms[j], List.getElem?_eq_getElem hlt⟩
    obtain ⟨b, o, c', e, hr⟩ := (hu.fr hF).at hy
    cases e
    have hsz0 := hF.size
    have erun := wmv_snoc (T := T) hy
    have hlw : (wmv (ms.take j)).length = j := by unfold wmv; rw [List.length_map, List.length_take]; omega
    have hl1 := Pl.itRun_len OI T (wmv (ms.take j))
    rw [hlw] at hl1
    have hlA : ((Pl.itRun OI T (wmv (ms.take j))).2.1.map wod).length = j := by rw [List.length_map]; exact hl1.1
    have hlB : ((Pl.itRun OI T (wmv (ms.take j))).2.1.map Option.isSome).length = j := by rw [List.length_map]; exact hl1.1
    have hlC := hl1.2
    -- region 6 (words.go:136)
    refine Go'.region [(0, 0)] rfl ?_
    refine O.cmp rfl rfl rfl rfl rfl rfl (lssT (by omega)) ?_
    refine Pl.fin [(7, _), (8, _), (9, _), (10, _), (11, _), (19, _), (20, _), (21, _), (22, _)] ⟨rfl, rfl, rfl, rfl, rfl, rfl, rfl, rfl, rfl, trivial⟩ ?_
    refine Go'.seq ?_
    refine Go'.condT rfl ?_
    refine Go'.skip ?_
    refine Go'.seq ?_
    refine Go'.block ?_
    refine Go'.seq ?_
    -- region 7 (words.go:136)
    refine Go'.region [(0, 0), (1, 1), (2, 2), (3, 2)] rfl ?_
    refine O.ix (j := j) rfl rfl rfl rfl Go.Proofs.Try.underlying36 Go.Proofs.Try.sizeOf40 rfl rfl (by omega) hlt ?_
    refine O.lds rfl rfl rfl (fun w => ⟨Go.Proofs.Try.isAgg40 w, Go.Proofs.Try.sizeOf40 w⟩) rfl rfl hr ?_
    refine O.alloc rfl rfl rfl Go.Proofs.Try.zeroValue40 ?_
    intro H3 M3
    refine ⟨trivial, ?_⟩
    have hs3 := M3.size
    have m7 : Wr H3 H2.size 0 2 := M3.wr 2 (by decide)
    refine O.st rfl rfl Go.Proofs.Try.sizeOf40 rfl rfl rfl rfl rfl m7 ?_
    intro H4 W4
    have hs4 := W4.size
    have hf4 : Fr nowhere H2 H4 := (M3.fr nowhere).trans' W4.fr (fun _ _ _ h => h) (fun b o hb hz => by have h1 := hz.1; omega)
    replace hi2 := hi2.fr hf4
    replace hA := hA.fr hf4 (fun _ _ _ _ => nw)
    replace hB := hB.fr hf4 (fun _ _ _ _ => nw)
    replace hC := hC.fr hf4 (fun _ _ _ _ => nw)
    have k0 : cl H4 H2.size 0 = some (.int .i64 y.1) := W4.all 0 _ rfl
    have k1 : cl H4 H2.size 1 = some (.string y.2) := W4.all 1 _ rfl
    clear hr m7 M3
    refine ⟨trivial, ?_⟩
    refine Pl.fin [(7, _), (8, _), (9, _), (10, _), (11, _), (13, _), (19, _), (20, _), (21, _), (22, _)] ⟨rfl, rfl, rfl, rfl, rfl, rfl, rfl, rfl, rfl, rfl, trivial⟩ ?_
    refine Go'.seq ?_
    -- region 8 (words.go:137)
    refine Go'.region [(0, 0)] rfl ?_
    refine O.asg rfl rfl rfl rfl rfl ?_
    refine Pl.fin [(7, _), (8, _), (9, _), (10, _), (11, _), (13, _), (14, _), (19, _), (20, _), (21, _), (22, _)] ⟨rfl, rfl, rfl, rfl, rfl, rfl, rfl, rfl, rfl, rfl, rfl, trivial⟩ ?_
    refine Go'.seq ?_
    refine Go'.seq ?_
    -- region 9 (words.go:138)
    refine Go'.region [(0, 0), (1, 1)] rfl ?_
    refine O.faz rfl rfl rfl rfl ⟨_, _, _, Go.Proofs.Try.underlying40, rfl, rfl, Go.Proofs.Try.sizeOf3⟩ rfl ?_
    refine O.ld rfl rfl rfl (fun w => ⟨Go.Proofs.Try.isAgg3 w, Go.Proofs.Try.sizeOf3 w⟩) rfl k0 ?_
    refine Pl.fin [(7, _), (8, _), (9, _), (10, _), (11, _), (13, _), (14, _), (19, _), (20, _), (21, _), (22, _), (26, _)] ⟨rfl, rfl, rfl, rfl, rfl, rfl, rfl, rfl, rfl, rfl, rfl, rfl, trivial⟩ ?_
    refine Go'.block ?_
    refine Go'.seq ?_
    refine Go'.seq ?_
    refine Go'.cut4 (σ := Int × Bool) (fun s H' => Fr nowhere H4 H' ∧ s.1 = Pl.mvTo OI T (wmv1 y) (Pl.itRun OI T (wmv (ms.take j))).1 ∧ s.2 = Pl.mvTold T (wmv1 y) (Pl.itRun OI T (wmv (ms.take j))).1) (fun s => [(7, .slice a T.length c), (8, sv), (9, tv), (10, uv), (11, .int .i64 s.1), (14, .bool s.2), (19, .slice (some ⟨b, o, none⟩) ms.length cm), (20, .int .i64 (ms.length : Int)), (21, .int .i64 (j : Int))]) ?_ ?_
    · rintro ⟨z, k⟩ H5 ⟨hf5, ez, ek⟩
      simp only at ez ek
      replace hi2 := hi2.fr hf5
      replace hA := hA.fr hf5 (fun _ _ _ _ => nw)
      replace hB := hB.fr hf5 (fun _ _ _ _ => nw)
      replace hC := hC.fr hf5 (fun _ _ _ _ => nw)
      replace hf5 := hf4.trans hf5
      have hs5 := hf5.size
      have e1 : (Pl.itRun OI T (wmv (ms.take (j + 1)))).1 = Pl.cut T.length z := by rw [erun, ez]; rfl
      have e2 : (Pl.itRun OI T (wmv (ms.take (j + 1)))).2.1 = (Pl.itRun OI T (wmv (ms.take j))).2.1 ++ [(Pl.cut T.length z).bind (T[·]?)] := by rw [erun, ez]; rfl
      have e3 : (Pl.itRun OI T (wmv (ms.take (j + 1)))).2.2 = (Pl.itRun OI T (wmv (ms.take j))).2.2 ++ [k] := by rw [erun, ek]; rfl
      refine Go'.seq ?_
      by_cases hz0 : z < 0
      · skip
        have hcut : Pl.cut T.length z = none := by unfold Pl.cut; rw [if_neg (by omega)]
        rw [hcut] at e2
        replace e2 : _ = _ ++ [none] := e2
        -- region 23 (words.go:153)
        refine Go'.region [(0, 0), (1, 0), (2, 0), (3, 0), (4, 0), (5, 0), (6, 0), (7, 0), (8, 0), (9, 2), (10, 2), (11, 0)] rfl ?_
        refine O.bld (cs := (EJ.enc kv0)) rfl rfl rfl rfl (st54) rfl (by kernel_rfl) ?_
        refine O.mv rfl rfl rfl rfl rfl ?_
        refine O.cmp rfl rfl rfl rfl rfl rfl (geqF (by omega)) ?_
        refine O.mv rfl rfl rfl rfl rfl ?_
        refine Pl.pass rfl rfl rfl rfl ?_
        refine Pl.pass rfl rfl rfl rfl ?_
        refine Pl.pass rfl rfl rfl rfl ?_
        refine Pl.pass rfl rfl rfl rfl ?_
        refine O.pick rfl rfl rfl rfl rfl rfl ?_
        refine O.alloc rfl rfl rfl Go.Proofs.Try.zeroValue54 ?_
        intro H6 M6
        refine ⟨trivial, ?_⟩
        have hs6 := M6.size
        have m14 : Wr H6 H5.size 0 2 := M6.wr 2 (by decide)
        replace hA := hA.fr (M6.fr nowhere) (fun _ _ _ _ => nw)
        replace hB := hB.fr (M6.fr nowhere) (fun _ _ _ _ => nw)
        replace hC := hC.fr (M6.fr nowhere) (fun _ _ _ _ => nw)
        replace hi2 := hi2.fr (M6.fr nowhere)
        refine O.st (vs := (EJ.enc kv0)) rfl rfl Go.Proofs.Try.sizeOf54 rfl rfl rfl rfl rfl m14 ?_
        intro H7 W7
        have hs7 := W7.size
        have x7 : Rd H7 H5.size 0 (EJ.enc (wod none)) := W7.all
        have hf67 : Fr nowhere H5 H7 := (M6.fr nowhere).trans' W7.fr (fun _ _ _ h => h) (fun b o hb hz => by have h1 := hz.1; omega)
        replace hf5 := hf5.trans hf67
        replace m14 := W7.fr.wr m14
        replace hA := hA.fr W7.fr (fun b o _ hz hx => by have h1 := hx.1; have h2 := hZo b hz; omega)
        replace hB := hB.fr W7.fr (fun b o _ hz hx => by have h1 := hx.1; have h2 := hZt b hz; omega)
        replace hC := hC.fr W7.fr (fun b o _ hz hx => by have h1 := hx.1; have h2 := hZu b hz; omega)
        refine ⟨trivial, ?_⟩
        refine O.asg rfl rfl rfl rfl rfl ?_
        refine Pl.fin [(7, _), (8, _), (9, _), (10, _), (11, _), (14, _), (15, _), (16, _), (19, _), (20, _), (21, _)] ⟨rfl, rfl, rfl, rfl, rfl, rfl, rfl, rfl, rfl, rfl, rfl, trivial⟩ ?_
        refine Go'.seq ?_
        refine Go'.seq ?_
        -- region 24 (words.go:154)
        refine Go'.region [(0, 0)] rfl ?_
        refine O.mv rfl rfl rfl rfl rfl ?_
        refine Pl.fin [(7, _), (8, _), (9, _), (10, _), (11, _), (14, _), (15, _), (16, _), (19, _), (20, _), (21, _), (74, _)] ⟨rfl, rfl, rfl, rfl, rfl, rfl, rfl, rfl, rfl, rfl, rfl, rfl, trivial⟩ ?_
        refine Go'.condF rfl ?_
        -- region 26 (words.go:157)
        refine Go'.region [(0, 0)] rfl ?_
        refine O.asg rfl rfl rfl rfl rfl ?_
        refine Pl.fin [(7, _), (8, _), (9, _), (10, _), (11, _), (14, _), (15, _), (16, _), (19, _), (20, _), (21, _), (74, _)] ⟨rfl, rfl, rfl, rfl, rfl, rfl, rfl, rfl, rfl, rfl, rfl, rfl, trivial⟩ ?_
        have x8 := x7
        have hf8 := hf5
        have hs8 := hs7
        -- region 27 (words.go:159)
        refine Go'.region [(0, 0), (1, 1), (2, 2), (3, 2), (4, 0), (5, 0), (6, 2), (7, 2), (8, 0), (9, 0), (10, 2), (11, 2), (12, 0), (13, 0), (14, 0)] rfl ?_
        refine O.mv rfl rfl rfl rfl rfl ?_
        refine O.lds rfl rfl rfl (fun w => ⟨Go.Proofs.Try.isAgg54 w, Go.Proofs.Try.sizeOf54 w⟩) rfl rfl x8 ?_
        refine O.bsl (cs := (EJ.enc (wod none))) rfl rfl rfl ⟨Go.Proofs.Try.underlying26, Go.Proofs.Try.sizeOf54, Go.Proofs.Try.zeroValue54, ⟨_, Go.Proofs.Try.typeInfo54, rfl⟩, rfl, by decide, by decide⟩ rfl (by decide) (by kernel_rfl) ?_
        intro H9 M9
        have hs9 := M9.size
        replace hA := hA.fr (M9.fr nowhere) (fun _ _ _ _ => nw)
        replace hB := hB.fr (M9.fr nowhere) (fun _ _ _ _ => nw)
        replace hC := hC.fr (M9.fr nowhere) (fun _ _ _ _ => nw)
        have m5 : Rd H9 H7.size 0 (row EJ [wod none]) := M9.rd _ [] (by simp [row])
        refine ⟨trivial, ?_⟩
        refine O.appA (E := EJ) (Y := [wod none]) rfl rfl rfl ⟨Go.Proofs.Try.underlying26, Go.Proofs.Try.sizeOf54, Go.Proofs.Try.zeroValue54, ⟨_, Go.Proofs.Try.typeInfo54, rfl⟩, rfl, by decide, by decide⟩ rfl hA rfl ⟨_, _, _, rfl, m5⟩ (Nat.succ_pos _) (Nat.le_trans (Nat.mul_le_mul_left _ (Nat.le_of_ble_eq_true (n := _) (m := 4096) rfl)) (by rw [hlA]; simp only [List.length_cons, List.length_nil]; omega)) (by rw [hlA]; simp only [List.length_cons, List.length_nil]; omega) ?_
        intro v10 H10 hA10 hF10 hs10
        have hg10 := hF10.size
        replace hB := hB.fr hF10 (fun b o _ hz hx => (hZo b hx).2.2.1 hz)
        replace hC := hC.fr hF10 (fun b o _ hz hx => (hZo b hx).2.2.2 hz)
        refine ⟨trivial, ?_⟩
        refine O.mv rfl rfl rfl rfl rfl ?_
        refine O.mv rfl rfl rfl rfl rfl ?_
        refine O.bsl (cs := [.bool false]) rfl rfl rfl ⟨Go.Proofs.Try.underlying50, Go.Proofs.Try.sizeOf4, Go.Proofs.Try.zeroValue4, ⟨_, Go.Proofs.Try.typeInfo4, rfl⟩, rfl, by decide, by decide⟩ rfl (by decide) (by kernel_rfl) ?_
        intro H11 M11
        have hs11 := M11.size
        replace hA10 := hA10.fr (M11.fr nowhere) (fun _ _ _ _ => nw)
        replace hB := hB.fr (M11.fr nowhere) (fun _ _ _ _ => nw)
        replace hC := hC.fr (M11.fr nowhere) (fun _ _ _ _ => nw)
        have m6 : Rd H11 H10.size 0 (row EB [false]) := M11.rd _ [] (by simp [row, EB])
        refine ⟨trivial, ?_⟩
        refine O.appA (E := EB) (Y := [false]) rfl rfl rfl ⟨Go.Proofs.Try.underlying50, Go.Proofs.Try.sizeOf4, Go.Proofs.Try.zeroValue4, ⟨_, Go.Proofs.Try.typeInfo4, rfl⟩, rfl, by decide, by decide⟩ rfl hB rfl ⟨_, _, _, rfl, m6⟩ (Nat.succ_pos _) (Nat.le_trans (Nat.mul_le_mul_left _ (Nat.le_of_ble_eq_true (n := _) (m := 4096) rfl)) (by rw [hlB]; simp only [List.length_cons, List.length_nil]; omega)) (by rw [hlB]; simp only [List.length_cons, List.length_nil]; omega) ?_
        intro v12 H12 hB12 hF12 hs12
        have hg12 := hF12.size
        replace hA10 := hA10.fr hF12 (fun b o _ hz hx => by
          rcases hz with hz | hz
          · exact (hZo b hz).2.2.1 hx
          · have h2 := hZt b hx; omega)
        replace hC := hC.fr hF12 (fun b o _ hz hx => (hZt b hx).2.2 hz)
        refine ⟨trivial, ?_⟩
        refine O.mv rfl rfl rfl rfl rfl ?_
        refine O.mv rfl rfl rfl rfl rfl ?_
        refine O.bsl (cs := [.bool k]) rfl rfl rfl ⟨Go.Proofs.Try.underlying50, Go.Proofs.Try.sizeOf4, Go.Proofs.Try.zeroValue4, ⟨_, Go.Proofs.Try.typeInfo4, rfl⟩, rfl, by decide, by decide⟩ rfl (by decide) (by kernel_rfl) ?_
        intro H13 M13
        have hs13 := M13.size
        replace hA10 := hA10.fr (M13.fr nowhere) (fun _ _ _ _ => nw)
        replace hB12 := hB12.fr (M13.fr nowhere) (fun _ _ _ _ => nw)
        replace hC := hC.fr (M13.fr nowhere) (fun _ _ _ _ => nw)
        have m8 : Rd H13 H12.size 0 (row EB [k]) := M13.rd _ [] (by simp [row, EB])
        refine ⟨trivial, ?_⟩
        refine O.appA (E := EB) (Y := [k]) rfl rfl rfl ⟨Go.Proofs.Try.underlying50, Go.Proofs.Try.sizeOf4, Go.Proofs.Try.zeroValue4, ⟨_, Go.Proofs.Try.typeInfo4, rfl⟩, rfl, by decide, by decide⟩ rfl hC rfl ⟨_, _, _, rfl, m8⟩ (Nat.succ_pos _) (Nat.le_trans (Nat.mul_le_mul_left _ (Nat.le_of_ble_eq_true (n := _) (m := 4096) rfl)) (by rw [hlC]; simp only [List.length_cons, List.length_nil]; omega)) (by rw [hlC]; simp only [List.length_cons, List.length_nil]; omega) ?_
        intro v14 H14 hC14 hF14 hs14
        have hg14 := hF14.size
        replace hA10 := hA10.fr hF14 (fun b o _ hz hx => by
          rcases hz with hz | hz
          · exact (hZo b hz).2.2.2 hx
          · have h2 := hZu b hx; omega)
        replace hB12 := hB12.fr hF14 (fun b o _ hz hx => by
          rcases hz with hz | hz
          · exact (hZt b hz).2.2 hx
          · have h2 := hZu b hx; omega)
        refine ⟨trivial, ?_⟩
        refine O.asg rfl rfl rfl rfl rfl ?_
        refine O.asg rfl rfl rfl rfl rfl ?_
        refine O.asg rfl rfl rfl rfl rfl ?_
        refine Pl.fin [(7, _), (8, _), (9, _), (10, _), (11, _), (14, _), (15, _), (16, _), (19, _), (20, _), (21, _), (74, _)] ⟨rfl, rfl, rfl, rfl, rfl, rfl, rfl, rfl, rfl, rfl, rfl, rfl, trivial⟩ ?_
        refine Go'.inBlock ?_
        -- region 28 (words.go:136)
        refine Go'.region [(0, 0), (1, 0)] rfl ?_
        refine O.add (((j + 1 : Nat) : Int)) rfl rfl rfl rfl rfl rfl (by omega) (by omega) ?_
        refine O.mv rfl rfl rfl rfl rfl ?_
        refine Pl.fin [(7, _), (8, _), (9, _), (10, _), (11, _), (14, _), (15, _), (16, _), (19, _), (20, _), (21, _), (74, _)] ⟨rfl, rfl, rfl, rfl, rfl, rfl, rfl, rfl, rfl, rfl, rfl, rfl, trivial⟩ ?_
        refine Go'.keep [(7, _), (8, _), (9, _), (10, _), (11, _), (19, _), (20, _), (21, _)] ⟨rfl, rfl, rfl, rfl, rfl, rfl, rfl, rfl, trivial⟩ ?_
        refine Go'.inLoop ?_
        have hn := ih (j + 1, v10, v12, v14) H14 ⟨((((((hF.trans hf8).trans (M9.fr nowhere)).trans' hF10 (fun _ _ _ h => h) (fun b o hb hz => by have := (hZo b hz).1; omega)).trans (M11.fr nowhere)).trans' hF12 (fun _ _ _ h => h) (fun b o hb hz => by have := (hZt b hz).1; omega)).trans (M13.fr nowhere)).trans' hF14 (fun _ _ _ h => h) (fun b o hb hz => by have := (hZu b hz).1; omega), hlt, (fun b => Zo b ∨ (b = H9.size ∧ b < H10.size)), (fun b => Zt b ∨ (b = H11.size ∧ b < H12.size)), (fun b => Zu b ∨ (b = H13.size ∧ b < H14.size)), by
          simp only
          rw [e2, List.map_append]
          exact hA10, by
          simp only
          rw [e2, List.map_append]
          exact hB12, by
          simp only
          rw [e3]
          exact hC14, fun b hb => hb.elim (fun h => have h1 := hZo b h; ⟨h1.1, by have := h1.2.1; omega, fun hx => hx.elim h1.2.2.1 (fun h2 => by have := h1.2.1; omega), fun hx => hx.elim h1.2.2.2 (fun h2 => by have := h1.2.1; omega)⟩) (fun h => ⟨by omega, by omega, fun hx => hx.elim (fun h2 => by have := (hZt b h2).2.1; omega) (fun h2 => by omega), fun hx => hx.elim (fun h2 => by have := (hZu b h2).2; omega) (fun h2 => by omega)⟩),
          fun b hb => hb.elim (fun h => have h1 := hZt b h; ⟨h1.1, by have := h1.2.1; omega, fun hx => hx.elim h1.2.2 (fun h2 => by have := h1.2.1; omega)⟩) (fun h => ⟨by omega, by omega, fun hx => hx.elim (fun h2 => by have := (hZu b h2).2; omega) (fun h2 => by omega)⟩),
          fun b hb => hb.elim (fun h => ⟨(hZu b h).1, by have := (hZu b h).2; omega⟩) (fun h => ⟨by omega, h.2⟩)⟩ (by simp only; omega)
        simp only [e1, hcut] at hn
        exact hn
      obtain ⟨q, rfl⟩ := Int.eq_ofNat_of_zero_le (by omega : 0 ≤ z)
      by_cases hq : T.length ≤ q
      · skip
        have hcut : Pl.cut T.length (q : Int) = none := by rw [Pl.cut_nat, if_neg (by omega)]
        rw [hcut] at e2
        replace e2 : _ = _ ++ [none] := e2
        -- region 23 (words.go:153)
        refine Go'.region [(0, 0), (1, 0), (2, 0), (3, 0), (4, 0), (5, 0), (6, 0), (7, 0), (8, 0), (9, 2), (10, 2), (11, 0)] rfl ?_
        refine O.bld (cs := (EJ.enc kv0)) rfl rfl rfl rfl (st54) rfl (by kernel_rfl) ?_
        refine O.mv rfl rfl rfl rfl rfl ?_
        refine O.cmp rfl rfl rfl rfl rfl rfl (geqT (by omega)) ?_
        refine O.mv rfl rfl rfl rfl rfl ?_
        refine O.mv rfl rfl rfl rfl rfl ?_
        refine O.mv rfl rfl rfl rfl rfl ?_
        refine O.len rfl rfl rfl rfl Go.Proofs.Try.underlying26 rfl ?_
        refine O.cmp rfl rfl rfl rfl rfl rfl (lssF (by omega)) ?_
        refine O.pick rfl rfl rfl rfl rfl rfl ?_
        refine O.alloc rfl rfl rfl Go.Proofs.Try.zeroValue54 ?_
        intro H6 M6
        refine ⟨trivial, ?_⟩
        have hs6 := M6.size
        have m14 : Wr H6 H5.size 0 2 := M6.wr 2 (by decide)
        replace hA := hA.fr (M6.fr nowhere) (fun _ _ _ _ => nw)
        replace hB := hB.fr (M6.fr nowhere) (fun _ _ _ _ => nw)
        replace hC := hC.fr (M6.fr nowhere) (fun _ _ _ _ => nw)
        replace hi2 := hi2.fr (M6.fr nowhere)
        refine O.st (vs := (EJ.enc kv0)) rfl rfl Go.Proofs.Try.sizeOf54 rfl rfl rfl rfl rfl m14 ?_
        intro H7 W7
        have hs7 := W7.size
        have x7 : Rd H7 H5.size 0 (EJ.enc (wod none)) := W7.all
        have hf67 : Fr nowhere H5 H7 := (M6.fr nowhere).trans' W7.fr (fun _ _ _ h => h) (fun b o hb hz => by have h1 := hz.1; omega)
        replace hf5 := hf5.trans hf67
        replace m14 := W7.fr.wr m14
        replace hA := hA.fr W7.fr (fun b o _ hz hx => by have h1 := hx.1; have h2 := hZo b hz; omega)
        replace hB := hB.fr W7.fr (fun b o _ hz hx => by have h1 := hx.1; have h2 := hZt b hz; omega)
        replace hC := hC.fr W7.fr (fun b o _ hz hx => by have h1 := hx.1; have h2 := hZu b hz; omega)
        refine ⟨trivial, ?_⟩
        refine O.asg rfl rfl rfl rfl rfl ?_
        refine Pl.fin [(7, _), (8, _), (9, _), (10, _), (11, _), (14, _), (15, _), (16, _), (19, _), (20, _), (21, _)] ⟨rfl, rfl, rfl, rfl, rfl, rfl, rfl, rfl, rfl, rfl, rfl, trivial⟩ ?_
        refine Go'.seq ?_
        refine Go'.seq ?_
        -- region 24 (words.go:154)
        refine Go'.region [(0, 0)] rfl ?_
        refine O.mv rfl rfl rfl rfl rfl ?_
        refine Pl.fin [(7, _), (8, _), (9, _), (10, _), (11, _), (14, _), (15, _), (16, _), (19, _), (20, _), (21, _), (74, _)] ⟨rfl, rfl, rfl, rfl, rfl, rfl, rfl, rfl, rfl, rfl, rfl, rfl, trivial⟩ ?_
        refine Go'.condF rfl ?_
        -- region 26 (words.go:157)
        refine Go'.region [(0, 0)] rfl ?_
        refine O.asg rfl rfl rfl rfl rfl ?_
        refine Pl.fin [(7, _), (8, _), (9, _), (10, _), (11, _), (14, _), (15, _), (16, _), (19, _), (20, _), (21, _), (74, _)] ⟨rfl, rfl, rfl, rfl, rfl, rfl, rfl, rfl, rfl, rfl, rfl, rfl, trivial⟩ ?_
        have x8 := x7
        have hf8 := hf5
        have hs8 := hs7
        -- region 27 (words.go:159)
        refine Go'.region [(0, 0), (1, 1), (2, 2), (3, 2), (4, 0), (5, 0), (6, 2), (7, 2), (8, 0), (9, 0), (10, 2), (11, 2), (12, 0), (13, 0), (14, 0)] rfl ?_
        refine O.mv rfl rfl rfl rfl rfl ?_
        refine O.lds rfl rfl rfl (fun w => ⟨Go.Proofs.Try.isAgg54 w, Go.Proofs.Try.sizeOf54 w⟩) rfl rfl x8 ?_
        refine O.bsl (cs := (EJ.enc (wod none))) rfl rfl rfl ⟨Go.Proofs.Try.underlying26, Go.Proofs.Try.sizeOf54, Go.Proofs.Try.zeroValue54, ⟨_, Go.Proofs.Try.typeInfo54, rfl⟩, rfl, by decide, by decide⟩ rfl (by decide) (by kernel_rfl) ?_
        intro H9 M9
        have hs9 := M9.size
        replace hA := hA.fr (M9.fr nowhere) (fun _ _ _ _ => nw)
        replace hB := hB.fr (M9.fr nowhere) (fun _ _ _ _ => nw)
        replace hC := hC.fr (M9.fr nowhere) (fun _ _ _ _ => nw)
        have m5 : Rd H9 H7.size 0 (row EJ [wod none]) := M9.rd _ [] (by simp [row])
        refine ⟨trivial, ?_⟩
        refine O.appA (E := EJ) (Y := [wod none]) rfl rfl rfl ⟨Go.Proofs.Try.underlying26, Go.Proofs.Try.sizeOf54, Go.Proofs.Try.zeroValue54, ⟨_, Go.Proofs.Try.typeInfo54, rfl⟩, rfl, by decide, by decide⟩ rfl hA rfl ⟨_, _, _, rfl, m5⟩ (Nat.succ_pos _) (Nat.le_trans (Nat.mul_le_mul_left _ (Nat.le_of_ble_eq_true (n := _) (m := 4096) rfl)) (by rw [hlA]; simp only [List.length_cons, List.length_nil]; omega)) (by rw [hlA]; simp only [List.length_cons, List.length_nil]; omega) ?_
        intro v10 H10 hA10 hF10 hs10
        have hg10 := hF10.size
        replace hB := hB.fr hF10 (fun b o _ hz hx => (hZo b hx).2.2.1 hz)
        replace hC := hC.fr hF10 (fun b o _ hz hx => (hZo b hx).2.2.2 hz)
        refine ⟨trivial, ?_⟩
        refine O.mv rfl rfl rfl rfl rfl ?_
        refine O.mv rfl rfl rfl rfl rfl ?_
        refine O.bsl (cs := [.bool false]) rfl rfl rfl ⟨Go.Proofs.Try.underlying50, Go.Proofs.Try.sizeOf4, Go.Proofs.Try.zeroValue4, ⟨_, Go.Proofs.Try.typeInfo4, rfl⟩, rfl, by decide, by decide⟩ rfl (by decide) (by kernel_rfl) ?_
        intro H11 M11
        have hs11 := M11.size
        replace hA10 := hA10.fr (M11.fr nowhere) (fun _ _ _ _ => nw)
        replace hB := hB.fr (M11.fr nowhere) (fun _ _ _ _ => nw)
        replace hC := hC.fr (M11.fr nowhere) (fun _ _ _ _ => nw)
        have m6 : Rd H11 H10.size 0 (row EB [false]) := M11.rd _ [] (by simp [row, EB])
        refine ⟨trivial, ?_⟩
        refine O.appA (E := EB) (Y := [false]) rfl rfl rfl ⟨Go.Proofs.Try.underlying50, Go.Proofs.Try.sizeOf4, Go.Proofs.Try.zeroValue4, ⟨_, Go.Proofs.Try.typeInfo4, rfl⟩, rfl, by decide, by decide⟩ rfl hB rfl ⟨_, _, _, rfl, m6⟩ (Nat.succ_pos _) (Nat.le_trans (Nat.mul_le_mul_left _ (Nat.le_of_ble_eq_true (n := _) (m := 4096) rfl)) (by rw [hlB]; simp only [List.length_cons, List.length_nil]; omega)) (by rw [hlB]; simp only [List.length_cons, List.length_nil]; omega) ?_
        intro v12 H12 hB12 hF12 hs12
        have hg12 := hF12.size
        replace hA10 := hA10.fr hF12 (fun b o _ hz hx => by
          rcases hz with hz | hz
          · exact (hZo b hz).2.2.1 hx
          · have h2 := hZt b hx; omega)
        replace hC := hC.fr hF12 (fun b o _ hz hx => (hZt b hx).2.2 hz)
        refine ⟨trivial, ?_⟩
        refine O.mv rfl rfl rfl rfl rfl ?_
        refine O.mv rfl rfl rfl rfl rfl ?_
        refine O.bsl (cs := [.bool k]) rfl rfl rfl ⟨Go.Proofs.Try.underlying50, Go.Proofs.Try.sizeOf4, Go.Proofs.Try.zeroValue4, ⟨_, Go.Proofs.Try.typeInfo4, rfl⟩, rfl, by decide, by decide⟩ rfl (by decide) (by kernel_rfl) ?_
        intro H13 M13
        have hs13 := M13.size
        replace hA10 := hA10.fr (M13.fr nowhere) (fun _ _ _ _ => nw)
        replace hB12 := hB12.fr (M13.fr nowhere) (fun _ _ _ _ => nw)
        replace hC := hC.fr (M13.fr nowhere) (fun _ _ _ _ => nw)
        have m8 : Rd H13 H12.size 0 (row EB [k]) := M13.rd _ [] (by simp [row, EB])
        refine ⟨trivial, ?_⟩
        refine O.appA (E := EB) (Y := [k]) rfl rfl rfl ⟨Go.Proofs.Try.underlying50, Go.Proofs.Try.sizeOf4, Go.Proofs.Try.zeroValue4, ⟨_, Go.Proofs.Try.typeInfo4, rfl⟩, rfl, by decide, by decide⟩ rfl hC rfl ⟨_, _, _, rfl, m8⟩ (Nat.succ_pos _) (Nat.le_trans (Nat.mul_le_mul_left _ (Nat.le_of_ble_eq_true (n := _) (m := 4096) rfl)) (by rw [hlC]; simp only [List.length_cons, List.length_nil]; omega)) (by rw [hlC]; simp only [List.length_cons, List.length_nil]; omega) ?_
        intro v14 H14 hC14 hF14 hs14
        have hg14 := hF14.size
        replace hA10 := hA10.fr hF14 (fun b o _ hz hx => by
          rcases hz with hz | hz
          · exact (hZo b hz).2.2.2 hx
          · have h2 := hZu b hx; omega)
        replace hB12 := hB12.fr hF14 (fun b o _ hz hx => by
          rcases hz with hz | hz
          · exact (hZt b hz).2.2 hx
          · have h2 := hZu b hx; omega)
        refine ⟨trivial, ?_⟩
        refine O.asg rfl rfl rfl rfl rfl ?_
        refine O.asg rfl rfl rfl rfl rfl ?_
        refine O.asg rfl rfl rfl rfl rfl ?_
        refine Pl.fin [(7, _), (8, _), (9, _), (10, _), (11, _), (14, _), (15, _), (16, _), (19, _), (20, _), (21, _), (74, _)] ⟨rfl, rfl, rfl, rfl, rfl, rfl, rfl, rfl, rfl, rfl, rfl, rfl, trivial⟩ ?_
        refine Go'.inBlock ?_
        -- region 28 (words.go:136)
        refine Go'.region [(0, 0), (1, 0)] rfl ?_
        refine O.add (((j + 1 : Nat) : Int)) rfl rfl rfl rfl rfl rfl (by omega) (by omega) ?_
        refine O.mv rfl rfl rfl rfl rfl ?_
        refine Pl.fin [(7, _), (8, _), (9, _), (10, _), (11, _), (14, _), (15, _), (16, _), (19, _), (20, _), (21, _), (74, _)] ⟨rfl, rfl, rfl, rfl, rfl, rfl, rfl, rfl, rfl, rfl, rfl, rfl, trivial⟩ ?_
        refine Go'.keep [(7, _), (8, _), (9, _), (10, _), (11, _), (19, _), (20, _), (21, _)] ⟨rfl, rfl, rfl, rfl, rfl, rfl, rfl, rfl, trivial⟩ ?_
        refine Go'.inLoop ?_
        have hn := ih (j + 1, v10, v12, v14) H14 ⟨((((((hF.trans hf8).trans (M9.fr nowhere)).trans' hF10 (fun _ _ _ h => h) (fun b o hb hz => by have := (hZo b hz).1; omega)).trans (M11.fr nowhere)).trans' hF12 (fun _ _ _ h => h) (fun b o hb hz => by have := (hZt b hz).1; omega)).trans (M13.fr nowhere)).trans' hF14 (fun _ _ _ h => h) (fun b o hb hz => by have := (hZu b hz).1; omega), hlt, (fun b => Zo b ∨ (b = H9.size ∧ b < H10.size)), (fun b => Zt b ∨ (b = H11.size ∧ b < H12.size)), (fun b => Zu b ∨ (b = H13.size ∧ b < H14.size)), by
          simp only
          rw [e2, List.map_append]
          exact hA10, by
          simp only
          rw [e2, List.map_append]
          exact hB12, by
          simp only
          rw [e3]
          exact hC14, fun b hb => hb.elim (fun h => have h1 := hZo b h; ⟨h1.1, by have := h1.2.1; omega, fun hx => hx.elim h1.2.2.1 (fun h2 => by have := h1.2.1; omega), fun hx => hx.elim h1.2.2.2 (fun h2 => by have := h1.2.1; omega)⟩) (fun h => ⟨by omega, by omega, fun hx => hx.elim (fun h2 => by have := (hZt b h2).2.1; omega) (fun h2 => by omega), fun hx => hx.elim (fun h2 => by have := (hZu b h2).2; omega) (fun h2 => by omega)⟩),
          fun b hb => hb.elim (fun h => have h1 := hZt b h; ⟨h1.1, by have := h1.2.1; omega, fun hx => hx.elim h1.2.2 (fun h2 => by have := h1.2.1; omega)⟩) (fun h => ⟨by omega, by omega, fun hx => hx.elim (fun h2 => by have := (hZu b h2).2; omega) (fun h2 => by omega)⟩),
          fun b hb => hb.elim (fun h => ⟨(hZu b h).1, by have := (hZu b h).2; omega⟩) (fun h => ⟨by omega, h.2⟩)⟩ (by simp only; omega)
        simp only [e1, hcut] at hn
        exact hn
      · skip
        replace hq : q < T.length := by omega
        have hcut : Pl.cut T.length (q : Int) = some q := by rw [Pl.cut_nat, if_pos hq]
        obtain ⟨x, hx⟩ : ∃ x, T[q]? = some x := ⟨T[q], List.getElem?_eq_getElem hq⟩
        have eo : (Pl.cut T.length (q : Int)).bind (T[·]?) = some x := by rw [hcut]; exact hx
        rw [eo] at e2
        -- region 23 (words.go:153)
        refine Go'.region [(0, 0), (1, 0), (2, 0), (3, 0), (4, 0), (5, 0), (6, 0), (7, 0), (8, 0), (9, 2), (10, 2), (11, 0)] rfl ?_
        refine O.bld (cs := (EJ.enc kv0)) rfl rfl rfl rfl (st54) rfl (by kernel_rfl) ?_
        refine O.mv rfl rfl rfl rfl rfl ?_
        refine O.cmp rfl rfl rfl rfl rfl rfl (geqT (by omega)) ?_
        refine O.mv rfl rfl rfl rfl rfl ?_
        refine O.mv rfl rfl rfl rfl rfl ?_
        refine O.mv rfl rfl rfl rfl rfl ?_
        refine O.len rfl rfl rfl rfl Go.Proofs.Try.underlying26 rfl ?_
        refine O.cmp rfl rfl rfl rfl rfl rfl (lssT (by omega)) ?_
        refine O.pick rfl rfl rfl rfl rfl rfl ?_
        refine O.alloc rfl rfl rfl Go.Proofs.Try.zeroValue54 ?_
        intro H6 M6
        refine ⟨trivial, ?_⟩
        have hs6 := M6.size
        have m14 : Wr H6 H5.size 0 2 := M6.wr 2 (by decide)
        replace hA := hA.fr (M6.fr nowhere) (fun _ _ _ _ => nw)
        replace hB := hB.fr (M6.fr nowhere) (fun _ _ _ _ => nw)
        replace hC := hC.fr (M6.fr nowhere) (fun _ _ _ _ => nw)
        replace hi2 := hi2.fr (M6.fr nowhere)
        refine O.st (vs := (EJ.enc kv0)) rfl rfl Go.Proofs.Try.sizeOf54 rfl rfl rfl rfl rfl m14 ?_
        intro H7 W7
        have hs7 := W7.size
        have x7 : Rd H7 H5.size 0 (EJ.enc (wod none)) := W7.all
        have hf67 : Fr nowhere H5 H7 := (M6.fr nowhere).trans' W7.fr (fun _ _ _ h => h) (fun b o hb hz => by have h1 := hz.1; omega)
        replace hf5 := hf5.trans hf67
        replace m14 := W7.fr.wr m14
        replace hA := hA.fr W7.fr (fun b o _ hz hx => by have h1 := hx.1; have h2 := hZo b hz; omega)
        replace hB := hB.fr W7.fr (fun b o _ hz hx => by have h1 := hx.1; have h2 := hZt b hz; omega)
        replace hC := hC.fr W7.fr (fun b o _ hz hx => by have h1 := hx.1; have h2 := hZu b hz; omega)
        refine ⟨trivial, ?_⟩
        refine O.asg rfl rfl rfl rfl rfl ?_
        refine Pl.fin [(7, _), (8, _), (9, _), (10, _), (11, _), (14, _), (15, _), (16, _), (19, _), (20, _), (21, _)] ⟨rfl, rfl, rfl, rfl, rfl, rfl, rfl, rfl, rfl, rfl, rfl, trivial⟩ ?_
        refine Go'.seq ?_
        refine Go'.seq ?_
        -- region 24 (words.go:154)
        refine Go'.region [(0, 0)] rfl ?_
        refine O.mv rfl rfl rfl rfl rfl ?_
        refine Pl.fin [(7, _), (8, _), (9, _), (10, _), (11, _), (14, _), (15, _), (16, _), (19, _), (20, _), (21, _), (74, _)] ⟨rfl, rfl, rfl, rfl, rfl, rfl, rfl, rfl, rfl, rfl, rfl, rfl, trivial⟩ ?_
        refine Go'.condT rfl ?_
        obtain ⟨b7, o7, c7, e7, hr7⟩ := (htv.fr (hF.trans hf5)).at hx
        cases e7
        -- region 25 (words.go:155)
        refine Go'.region [(0, 0), (1, 0), (2, 0), (3, 1), (4, 2)] rfl ?_
        refine O.mv rfl rfl rfl rfl rfl ?_
        refine O.mv rfl rfl rfl rfl rfl ?_
        refine O.ix (j := q) rfl rfl rfl rfl Go.Proofs.Try.underlying26 Go.Proofs.Try.sizeOf54 rfl rfl (by omega) hq ?_
        refine O.lds rfl rfl rfl (fun w => ⟨Go.Proofs.Try.isAgg54 w, Go.Proofs.Try.sizeOf54 w⟩) rfl rfl hr7 ?_
        refine O.st rfl rfl Go.Proofs.Try.sizeOf54 rfl rfl rfl rfl rfl m14 ?_
        intro H8 W8
        have hs8 := W8.size
        have x8 : Rd H8 H5.size 0 (EJ.enc (wod (some x))) := W8.all
        have hf8 : Fr nowhere H2 H8 := hf5.trans' W8.fr (fun _ _ _ h => h) (fun b o hb hz => by have h1 := hz.1; omega)
        replace hA := hA.fr W8.fr (fun b o _ hz hx => by have h1 := hx.1; have h2 := hZo b hz; omega)
        replace hB := hB.fr W8.fr (fun b o _ hz hx => by have h1 := hx.1; have h2 := hZt b hz; omega)
        replace hC := hC.fr W8.fr (fun b o _ hz hx => by have h1 := hx.1; have h2 := hZu b hz; omega)
        refine ⟨trivial, ?_⟩
        refine Pl.fin [(7, _), (8, _), (9, _), (10, _), (11, _), (14, _), (15, _), (16, _), (19, _), (20, _), (21, _), (74, _)] ⟨rfl, rfl, rfl, rfl, rfl, rfl, rfl, rfl, rfl, rfl, rfl, rfl, trivial⟩ ?_
        -- region 27 (words.go:159)
        refine Go'.region [(0, 0), (1, 1), (2, 2), (3, 2), (4, 0), (5, 0), (6, 2), (7, 2), (8, 0), (9, 0), (10, 2), (11, 2), (12, 0), (13, 0), (14, 0)] rfl ?_
        refine O.mv rfl rfl rfl rfl rfl ?_
        refine O.lds rfl rfl rfl (fun w => ⟨Go.Proofs.Try.isAgg54 w, Go.Proofs.Try.sizeOf54 w⟩) rfl rfl x8 ?_
        refine O.bsl (cs := (EJ.enc (wod (some x)))) rfl rfl rfl ⟨Go.Proofs.Try.underlying26, Go.Proofs.Try.sizeOf54, Go.Proofs.Try.zeroValue54, ⟨_, Go.Proofs.Try.typeInfo54, rfl⟩, rfl, by decide, by decide⟩ rfl (by decide) (by kernel_rfl) ?_
        intro H9 M9
        have hs9 := M9.size
        replace hA := hA.fr (M9.fr nowhere) (fun _ _ _ _ => nw)
        replace hB := hB.fr (M9.fr nowhere) (fun _ _ _ _ => nw)
        replace hC := hC.fr (M9.fr nowhere) (fun _ _ _ _ => nw)
        have m5 : Rd H9 H8.size 0 (row EJ [wod (some x)]) := M9.rd _ [] (by simp [row])
        refine ⟨trivial, ?_⟩
        refine O.appA (E := EJ) (Y := [wod (some x)]) rfl rfl rfl ⟨Go.Proofs.Try.underlying26, Go.Proofs.Try.sizeOf54, Go.Proofs.Try.zeroValue54, ⟨_, Go.Proofs.Try.typeInfo54, rfl⟩, rfl, by decide, by decide⟩ rfl hA rfl ⟨_, _, _, rfl, m5⟩ (Nat.succ_pos _) (Nat.le_trans (Nat.mul_le_mul_left _ (Nat.le_of_ble_eq_true (n := _) (m := 4096) rfl)) (by rw [hlA]; simp only [List.length_cons, List.length_nil]; omega)) (by rw [hlA]; simp only [List.length_cons, List.length_nil]; omega) ?_
        intro v10 H10 hA10 hF10 hs10
        have hg10 := hF10.size
        replace hB := hB.fr hF10 (fun b o _ hz hx => (hZo b hx).2.2.1 hz)
        replace hC := hC.fr hF10 (fun b o _ hz hx => (hZo b hx).2.2.2 hz)
        refine ⟨trivial, ?_⟩
        refine O.mv rfl rfl rfl rfl rfl ?_
        refine O.mv rfl rfl rfl rfl rfl ?_
        refine O.bsl (cs := [.bool true]) rfl rfl rfl ⟨Go.Proofs.Try.underlying50, Go.Proofs.Try.sizeOf4, Go.Proofs.Try.zeroValue4, ⟨_, Go.Proofs.Try.typeInfo4, rfl⟩, rfl, by decide, by decide⟩ rfl (by decide) (by kernel_rfl) ?_
        intro H11 M11
        have hs11 := M11.size
        replace hA10 := hA10.fr (M11.fr nowhere) (fun _ _ _ _ => nw)
        replace hB := hB.fr (M11.fr nowhere) (fun _ _ _ _ => nw)
        replace hC := hC.fr (M11.fr nowhere) (fun _ _ _ _ => nw)
        have m6 : Rd H11 H10.size 0 (row EB [true]) := M11.rd _ [] (by simp [row, EB])
        refine ⟨trivial, ?_⟩
        refine O.appA (E := EB) (Y := [true]) rfl rfl rfl ⟨Go.Proofs.Try.underlying50, Go.Proofs.Try.sizeOf4, Go.Proofs.Try.zeroValue4, ⟨_, Go.Proofs.Try.typeInfo4, rfl⟩, rfl, by decide, by decide⟩ rfl hB rfl ⟨_, _, _, rfl, m6⟩ (Nat.succ_pos _) (Nat.le_trans (Nat.mul_le_mul_left _ (Nat.le_of_ble_eq_true (n := _) (m := 4096) rfl)) (by rw [hlB]; simp only [List.length_cons, List.length_nil]; omega)) (by rw [hlB]; simp only [List.length_cons, List.length_nil]; omega) ?_
        intro v12 H12 hB12 hF12 hs12
        have hg12 := hF12.size
        replace hA10 := hA10.fr hF12 (fun b o _ hz hx => by
          rcases hz with hz | hz
          · exact (hZo b hz).2.2.1 hx
          · have h2 := hZt b hx; omega)
        replace hC := hC.fr hF12 (fun b o _ hz hx => (hZt b hx).2.2 hz)
        refine ⟨trivial, ?_⟩
        refine O.mv rfl rfl rfl rfl rfl ?_
        refine O.mv rfl rfl rfl rfl rfl ?_
        refine O.bsl (cs := [.bool k]) rfl rfl rfl ⟨Go.Proofs.Try.underlying50, Go.Proofs.Try.sizeOf4, Go.Proofs.Try.zeroValue4, ⟨_, Go.Proofs.Try.typeInfo4, rfl⟩, rfl, by decide, by decide⟩ rfl (by decide) (by kernel_rfl) ?_
        intro H13 M13
        have hs13 := M13.size
        replace hA10 := hA10.fr (M13.fr nowhere) (fun _ _ _ _ => nw)
        replace hB12 := hB12.fr (M13.fr nowhere) (fun _ _ _ _ => nw)
        replace hC := hC.fr (M13.fr nowhere) (fun _ _ _ _ => nw)
        have m8 : Rd H13 H12.size 0 (row EB [k]) := M13.rd _ [] (by simp [row, EB])
        refine ⟨trivial, ?_⟩
        refine O.appA (E := EB) (Y := [k]) rfl rfl rfl ⟨Go.Proofs.Try.underlying50, Go.Proofs.Try.sizeOf4, Go.Proofs.Try.zeroValue4, ⟨_, Go.Proofs.Try.typeInfo4, rfl⟩, rfl, by decide, by decide⟩ rfl hC rfl ⟨_, _, _, rfl, m8⟩ (Nat.succ_pos _) (Nat.le_trans (Nat.mul_le_mul_left _ (Nat.le_of_ble_eq_true (n := _) (m := 4096) rfl)) (by rw [hlC]; simp only [List.length_cons, List.length_nil]; omega)) (by rw [hlC]; simp only [List.length_cons, List.length_nil]; omega) ?_
        intro v14 H14 hC14 hF14 hs14
        have hg14 := hF14.size
        replace hA10 := hA10.fr hF14 (fun b o _ hz hx => by
          rcases hz with hz | hz
          · exact (hZo b hz).2.2.2 hx
          · have h2 := hZu b hx; omega)
        replace hB12 := hB12.fr hF14 (fun b o _ hz hx => by
          rcases hz with hz | hz
          · exact (hZt b hz).2.2 hx
          · have h2 := hZu b hx; omega)
        refine ⟨trivial, ?_⟩
        refine O.asg rfl rfl rfl rfl rfl ?_
        refine O.asg rfl rfl rfl rfl rfl ?_
        refine O.asg rfl rfl rfl rfl rfl ?_
        refine Pl.fin [(7, _), (8, _), (9, _), (10, _), (11, _), (14, _), (15, _), (16, _), (19, _), (20, _), (21, _), (74, _)] ⟨rfl, rfl, rfl, rfl, rfl, rfl, rfl, rfl, rfl, rfl, rfl, rfl, trivial⟩ ?_
        refine Go'.inBlock ?_
        -- region 28 (words.go:136)
        refine Go'.region [(0, 0), (1, 0)] rfl ?_
        refine O.add (((j + 1 : Nat) : Int)) rfl rfl rfl rfl rfl rfl (by omega) (by omega) ?_
        refine O.mv rfl rfl rfl rfl rfl ?_
        refine Pl.fin [(7, _), (8, _), (9, _), (10, _), (11, _), (14, _), (15, _), (16, _), (19, _), (20, _), (21, _), (74, _)] ⟨rfl, rfl, rfl, rfl, rfl, rfl, rfl, rfl, rfl, rfl, rfl, rfl, trivial⟩ ?_
        refine Go'.keep [(7, _), (8, _), (9, _), (10, _), (11, _), (19, _), (20, _), (21, _)] ⟨rfl, rfl, rfl, rfl, rfl, rfl, rfl, rfl, trivial⟩ ?_
        refine Go'.inLoop ?_
        have hn := ih (j + 1, v10, v12, v14) H14 ⟨((((((hF.trans hf8).trans (M9.fr nowhere)).trans' hF10 (fun _ _ _ h => h) (fun b o hb hz => by have := (hZo b hz).1; omega)).trans (M11.fr nowhere)).trans' hF12 (fun _ _ _ h => h) (fun b o hb hz => by have := (hZt b hz).1; omega)).trans (M13.fr nowhere)).trans' hF14 (fun _ _ _ h => h) (fun b o hb hz => by have := (hZu b hz).1; omega), hlt, (fun b => Zo b ∨ (b = H9.size ∧ b < H10.size)), (fun b => Zt b ∨ (b = H11.size ∧ b < H12.size)), (fun b => Zu b ∨ (b = H13.size ∧ b < H14.size)), by
          simp only
          rw [e2, List.map_append]
          exact hA10, by
          simp only
          rw [e2, List.map_append]
          exact hB12, by
          simp only
          rw [e3]
          exact hC14, fun b hb => hb.elim (fun h => have h1 := hZo b h; ⟨h1.1, by have := h1.2.1; omega, fun hx => hx.elim h1.2.2.1 (fun h2 => by have := h1.2.1; omega), fun hx => hx.elim h1.2.2.2 (fun h2 => by have := h1.2.1; omega)⟩) (fun h => ⟨by omega, by omega, fun hx => hx.elim (fun h2 => by have := (hZt b h2).2.1; omega) (fun h2 => by omega), fun hx => hx.elim (fun h2 => by have := (hZu b h2).2; omega) (fun h2 => by omega)⟩),
          fun b hb => hb.elim (fun h => have h1 := hZt b h; ⟨h1.1, by have := h1.2.1; omega, fun hx => hx.elim h1.2.2 (fun h2 => by have := h1.2.1; omega)⟩) (fun h => ⟨by omega, by omega, fun hx => hx.elim (fun h2 => by have := (hZu b h2).2; omega) (fun h2 => by omega)⟩),
          fun b hb => hb.elim (fun h => ⟨(hZu b h).1, by have := (hZu b h).2; omega⟩) (fun h => ⟨by omega, h.2⟩)⟩ (by simp only; omega)
        simp only [e1, hcut] at hn
        exact hn
    · intro tail
      have hqlt : ∀ q, (Pl.itRun OI T (wmv (ms.take j))).1 = some q → q < T.length := fun q h => Pl.itRun_lt OI T _ h
      generalize (Pl.itRun OI T (wmv (ms.take j))).1 = s0 at *
      have ey : (wmv1 y).1 = y.1 := rfl
      by_cases h2 : y.1 = 2
      · skip
        -- region 11 (words.go:139)
        refine Go'.region [(0, 0), (1, 0)] rfl ?_
        refine O.cmp rfl rfl rfl rfl rfl rfl (eqlT (by omega)) ?_
        refine O.asg rfl rfl rfl rfl rfl ?_
        refine Pl.fin [(7, _), (8, _), (9, _), (10, _), (11, _), (13, _), (14, _), (19, _), (20, _), (21, _), (22, _), (26, _), (27, _)] ⟨rfl, rfl, rfl, rfl, rfl, rfl, rfl, rfl, rfl, rfl, rfl, rfl, rfl, trivial⟩ ?_
        refine Go'.condT rfl ?_
        refine Go'.skip ?_
        refine Go'.condT rfl ?_
        refine Go'.seq ?_
        rcases s0 with _ | q
        · skip
          by_cases hl0 : T.length = 0
          · skip
            -- region 13 (words.go:140)
            refine Go'.region [(0, 0), (1, 0), (2, 0), (3, 0), (4, 0), (5, 0), (6, 0), (7, 0)] rfl ?_
            refine O.mv rfl rfl rfl rfl rfl ?_
            refine O.cmp rfl rfl rfl rfl rfl rfl (geqF (by decide)) ?_
            refine O.mv rfl rfl rfl rfl rfl ?_
            refine O.mv rfl rfl rfl rfl rfl ?_
            refine O.len rfl rfl rfl rfl Go.Proofs.Try.underlying26 rfl ?_
            refine O.cmp rfl rfl rfl rfl rfl rfl (eqlT (by omega)) ?_
            refine O.pick rfl rfl rfl rfl rfl rfl ?_
            refine O.asg rfl rfl rfl rfl rfl ?_
            refine Pl.fin [(7, _), (8, _), (9, _), (10, _), (11, _), (13, _), (14, _), (19, _), (20, _), (21, _), (22, _), (26, _), (27, _)] ⟨rfl, rfl, rfl, rfl, rfl, rfl, rfl, rfl, rfl, rfl, rfl, rfl, rfl, trivial⟩ ?_
            refine Go'.seq ?_
            -- region 14 (words.go:141)
            refine Go'.region [(0, 0), (1, 0), (2, 0), (3, 0), (4, 1), (5, 0), (6, 0)] rfl ?_
            refine O.mv rfl rfl rfl rfl rfl ?_
            refine O.cmp rfl rfl rfl rfl rfl rfl (geqF (by decide)) ?_
            refine O.mv rfl rfl rfl rfl rfl ?_
            refine Pl.pass rfl rfl rfl rfl ?_
            refine Pl.pass rfl rfl rfl rfl ?_
            refine Pl.pass rfl rfl rfl rfl ?_
            refine O.pick rfl rfl rfl rfl rfl rfl ?_
            refine Pl.fin [(7, _), (8, _), (9, _), (10, _), (11, _), (13, _), (14, _), (19, _), (20, _), (21, _), (22, _), (26, _), (27, _), (43, _)] ⟨rfl, rfl, rfl, rfl, rfl, rfl, rfl, rfl, rfl, rfl, rfl, rfl, rfl, rfl, trivial⟩ ?_
            refine Go'.condF rfl ?_
            refine Go'.seq ?_
            -- region 16 (words.go:143)
            refine Go'.region [(0, 0), (1, 0)] rfl ?_
            refine O.mv rfl rfl rfl rfl rfl ?_
            refine O.cmp rfl rfl rfl rfl rfl rfl (geqF (by decide)) ?_
            refine Pl.fin [(7, _), (8, _), (9, _), (10, _), (11, _), (13, _), (14, _), (19, _), (20, _), (21, _), (22, _), (26, _), (27, _), (43, _), (47, _)] ⟨rfl, rfl, rfl, rfl, rfl, rfl, rfl, rfl, rfl, rfl, rfl, rfl, rfl, rfl, rfl, trivial⟩ ?_
            refine Go'.condF rfl ?_
            refine Go'.skip ?_
            refine Go'.inBlock ?_
            refine Go'.keep [(7, _), (8, _), (9, _), (10, _), (11, _), (14, _), (19, _), (20, _), (21, _)] ⟨rfl, rfl, rfl, rfl, rfl, rfl, rfl, rfl, rfl, trivial⟩ ?_
            exact tail (-1, true) _ ⟨Fr.refl _ _, by unfold Pl.mvTo; rw [if_pos (.inl h2)], by unfold Pl.mvTold; rw [if_pos (.inl h2)]; rw [List.length_eq_zero_iff.1 hl0]; rfl⟩
          · skip
            -- region 13 (words.go:140)
            refine Go'.region [(0, 0), (1, 0), (2, 0), (3, 0), (4, 0), (5, 0), (6, 0), (7, 0)] rfl ?_
            refine O.mv rfl rfl rfl rfl rfl ?_
            refine O.cmp rfl rfl rfl rfl rfl rfl (geqF (by decide)) ?_
            refine O.mv rfl rfl rfl rfl rfl ?_
            refine O.mv rfl rfl rfl rfl rfl ?_
            refine O.len rfl rfl rfl rfl Go.Proofs.Try.underlying26 rfl ?_
            refine O.cmp rfl rfl rfl rfl rfl rfl (eqlF (by omega)) ?_
            refine O.pick rfl rfl rfl rfl rfl rfl ?_
            refine O.asg rfl rfl rfl rfl rfl ?_
            refine Pl.fin [(7, _), (8, _), (9, _), (10, _), (11, _), (13, _), (14, _), (19, _), (20, _), (21, _), (22, _), (26, _), (27, _)] ⟨rfl, rfl, rfl, rfl, rfl, rfl, rfl, rfl, rfl, rfl, rfl, rfl, rfl, trivial⟩ ?_
            refine Go'.seq ?_
            -- region 14 (words.go:141)
            refine Go'.region [(0, 0), (1, 0), (2, 0), (3, 0), (4, 1), (5, 0), (6, 0)] rfl ?_
            refine O.mv rfl rfl rfl rfl rfl ?_
            refine O.cmp rfl rfl rfl rfl rfl rfl (geqF (by decide)) ?_
            refine O.mv rfl rfl rfl rfl rfl ?_
            refine Pl.pass rfl rfl rfl rfl ?_
            refine Pl.pass rfl rfl rfl rfl ?_
            refine Pl.pass rfl rfl rfl rfl ?_
            refine O.pick rfl rfl rfl rfl rfl rfl ?_
            refine Pl.fin [(7, _), (8, _), (9, _), (10, _), (11, _), (13, _), (14, _), (19, _), (20, _), (21, _), (22, _), (26, _), (27, _), (43, _)] ⟨rfl, rfl, rfl, rfl, rfl, rfl, rfl, rfl, rfl, rfl, rfl, rfl, rfl, rfl, trivial⟩ ?_
            refine Go'.condF rfl ?_
            refine Go'.seq ?_
            -- region 16 (words.go:143)
            refine Go'.region [(0, 0), (1, 0)] rfl ?_
            refine O.mv rfl rfl rfl rfl rfl ?_
            refine O.cmp rfl rfl rfl rfl rfl rfl (geqF (by decide)) ?_
            refine Pl.fin [(7, _), (8, _), (9, _), (10, _), (11, _), (13, _), (14, _), (19, _), (20, _), (21, _), (22, _), (26, _), (27, _), (43, _), (47, _)] ⟨rfl, rfl, rfl, rfl, rfl, rfl, rfl, rfl, rfl, rfl, rfl, rfl, rfl, rfl, rfl, trivial⟩ ?_
            refine Go'.condF rfl ?_
            refine Go'.skip ?_
            refine Go'.inBlock ?_
            refine Go'.keep [(7, _), (8, _), (9, _), (10, _), (11, _), (14, _), (19, _), (20, _), (21, _)] ⟨rfl, rfl, rfl, rfl, rfl, rfl, rfl, rfl, rfl, trivial⟩ ?_
            exact tail (-1, false) _ ⟨Fr.refl _ _, by unfold Pl.mvTo; rw [if_pos (.inl h2)], by unfold Pl.mvTold; rw [if_pos (.inl h2)]; cases T with | nil => exact absurd rfl hl0 | cons => rfl⟩
        · skip
          have hql := hqlt q rfl
          -- region 13 (words.go:140)
          refine Go'.region [(0, 0), (1, 0), (2, 0), (3, 0), (4, 0), (5, 0), (6, 0), (7, 0)] rfl ?_
          refine O.mv rfl rfl rfl rfl rfl ?_
          refine O.cmp rfl rfl rfl rfl rfl rfl (geqT (Int.natCast_nonneg q)) ?_
          refine O.mv rfl rfl rfl rfl rfl ?_
          refine Pl.pass rfl rfl rfl rfl ?_
          refine Pl.pass rfl rfl rfl rfl ?_
          refine Pl.pass rfl rfl rfl rfl ?_
          refine O.pick rfl rfl rfl rfl rfl rfl ?_
          refine O.asg rfl rfl rfl rfl rfl ?_
          refine Pl.fin [(7, _), (8, _), (9, _), (10, _), (11, _), (13, _), (14, _), (19, _), (20, _), (21, _), (22, _), (26, _), (27, _)] ⟨rfl, rfl, rfl, rfl, rfl, rfl, rfl, rfl, rfl, rfl, rfl, rfl, rfl, trivial⟩ ?_
          refine Go'.seq ?_
          -- region 14 (words.go:141)
          refine Go'.region [(0, 0), (1, 0), (2, 0), (3, 0), (4, 1), (5, 0), (6, 0)] rfl ?_
          refine O.mv rfl rfl rfl rfl rfl ?_
          refine O.cmp rfl rfl rfl rfl rfl rfl (geqT (Int.natCast_nonneg q)) ?_
          refine O.mv rfl rfl rfl rfl rfl ?_
          refine O.faz rfl rfl rfl rfl ⟨_, _, _, Go.Proofs.Try.underlying40, rfl, rfl, Go.Proofs.Try.sizeOf3⟩ rfl ?_
          refine O.ld rfl rfl rfl (fun w => ⟨Go.Proofs.Try.isAgg3 w, Go.Proofs.Try.sizeOf3 w⟩) rfl k0 ?_
          refine O.cmp rfl rfl rfl rfl rfl rfl (eqlT (by omega)) ?_
          refine O.pick rfl rfl rfl rfl rfl rfl ?_
          refine Pl.fin [(7, _), (8, _), (9, _), (10, _), (11, _), (13, _), (14, _), (19, _), (20, _), (21, _), (22, _), (26, _), (27, _), (43, _)] ⟨rfl, rfl, rfl, rfl, rfl, rfl, rfl, rfl, rfl, rfl, rfl, rfl, rfl, rfl, trivial⟩ ?_
          refine Go'.condT rfl ?_
          -- region 15 (words.go:142)
          refine Go'.region [(0, 0), (1, 0), (2, 0)] rfl ?_
          refine O.mv rfl rfl rfl rfl rfl ?_
          refine O.add ((q : Int) + 1) rfl rfl rfl rfl rfl rfl (show (q : Int) + 1 = (q : Int) + 1 from rfl) (by omega) ?_
          refine O.asg rfl rfl rfl rfl rfl ?_
          refine Pl.fin [(7, _), (8, _), (9, _), (10, _), (11, _), (13, _), (14, _), (19, _), (20, _), (21, _), (22, _), (26, _), (27, _), (43, _)] ⟨rfl, rfl, rfl, rfl, rfl, rfl, rfl, rfl, rfl, rfl, rfl, rfl, rfl, rfl, trivial⟩ ?_
          refine Go'.inBlock ?_
          refine Go'.keep [(7, _), (8, _), (9, _), (10, _), (11, _), (14, _), (19, _), (20, _), (21, _)] ⟨rfl, rfl, rfl, rfl, rfl, rfl, rfl, rfl, rfl, trivial⟩ ?_
          exact tail ((q : Int) + 1, true) _ ⟨Fr.refl _ _, by unfold Pl.mvTo; rw [if_pos (.inl h2)]; simp only; rw [if_pos (show (wmv1 y).1 = 2 from h2)], by unfold Pl.mvTold; rw [if_pos (.inl h2)]; rfl⟩
      -- region 11 (words.go:139)
      refine Go'.region [(0, 0), (1, 0)] rfl ?_
      refine O.cmp rfl rfl rfl rfl rfl rfl (eqlF (by omega)) ?_
      refine O.asg rfl rfl rfl rfl rfl ?_
      refine Pl.fin [(7, _), (8, _), (9, _), (10, _), (11, _), (13, _), (14, _), (19, _), (20, _), (21, _), (22, _), (26, _), (27, _)] ⟨rfl, rfl, rfl, rfl, rfl, rfl, rfl, rfl, rfl, rfl, rfl, rfl, rfl, trivial⟩ ?_
      refine Go'.condF rfl ?_
      by_cases h3 : y.1 = 3
      · skip
        -- region 12 (words.go:139)
        refine Go'.region [(0, 0), (1, 0)] rfl ?_
        refine O.cmp rfl rfl rfl rfl rfl rfl (eqlT (by omega)) ?_
        refine O.asg rfl rfl rfl rfl rfl ?_
        refine Pl.fin [(7, _), (8, _), (9, _), (10, _), (11, _), (13, _), (14, _), (19, _), (20, _), (21, _), (22, _), (26, _), (27, _)] ⟨rfl, rfl, rfl, rfl, rfl, rfl, rfl, rfl, rfl, rfl, rfl, rfl, rfl, trivial⟩ ?_
        refine Go'.condT rfl ?_
        refine Go'.seq ?_
        rcases s0 with _ | q
        · skip
          by_cases hl0 : T.length = 0
          · skip
            -- region 13 (words.go:140)
            refine Go'.region [(0, 0), (1, 0), (2, 0), (3, 0), (4, 0), (5, 0), (6, 0), (7, 0)] rfl ?_
            refine O.mv rfl rfl rfl rfl rfl ?_
            refine O.cmp rfl rfl rfl rfl rfl rfl (geqF (by decide)) ?_
            refine O.mv rfl rfl rfl rfl rfl ?_
            refine O.mv rfl rfl rfl rfl rfl ?_
            refine O.len rfl rfl rfl rfl Go.Proofs.Try.underlying26 rfl ?_
            refine O.cmp rfl rfl rfl rfl rfl rfl (eqlT (by omega)) ?_
            refine O.pick rfl rfl rfl rfl rfl rfl ?_
            refine O.asg rfl rfl rfl rfl rfl ?_
            refine Pl.fin [(7, _), (8, _), (9, _), (10, _), (11, _), (13, _), (14, _), (19, _), (20, _), (21, _), (22, _), (26, _), (27, _)] ⟨rfl, rfl, rfl, rfl, rfl, rfl, rfl, rfl, rfl, rfl, rfl, rfl, rfl, trivial⟩ ?_
            refine Go'.seq ?_
            -- region 14 (words.go:141)
            refine Go'.region [(0, 0), (1, 0), (2, 0), (3, 0), (4, 1), (5, 0), (6, 0)] rfl ?_
            refine O.mv rfl rfl rfl rfl rfl ?_
            refine O.cmp rfl rfl rfl rfl rfl rfl (geqF (by decide)) ?_
            refine O.mv rfl rfl rfl rfl rfl ?_
            refine Pl.pass rfl rfl rfl rfl ?_
            refine Pl.pass rfl rfl rfl rfl ?_
            refine Pl.pass rfl rfl rfl rfl ?_
            refine O.pick rfl rfl rfl rfl rfl rfl ?_
            refine Pl.fin [(7, _), (8, _), (9, _), (10, _), (11, _), (13, _), (14, _), (19, _), (20, _), (21, _), (22, _), (26, _), (27, _), (43, _)] ⟨rfl, rfl, rfl, rfl, rfl, rfl, rfl, rfl, rfl, rfl, rfl, rfl, rfl, rfl, trivial⟩ ?_
            refine Go'.condF rfl ?_
            refine Go'.seq ?_
            -- region 16 (words.go:143)
            refine Go'.region [(0, 0), (1, 0)] rfl ?_
            refine O.mv rfl rfl rfl rfl rfl ?_
            refine O.cmp rfl rfl rfl rfl rfl rfl (geqF (by decide)) ?_
            refine Pl.fin [(7, _), (8, _), (9, _), (10, _), (11, _), (13, _), (14, _), (19, _), (20, _), (21, _), (22, _), (26, _), (27, _), (43, _), (47, _)] ⟨rfl, rfl, rfl, rfl, rfl, rfl, rfl, rfl, rfl, rfl, rfl, rfl, rfl, rfl, rfl, trivial⟩ ?_
            refine Go'.condF rfl ?_
            refine Go'.skip ?_
            refine Go'.inBlock ?_
            refine Go'.keep [(7, _), (8, _), (9, _), (10, _), (11, _), (14, _), (19, _), (20, _), (21, _)] ⟨rfl, rfl, rfl, rfl, rfl, rfl, rfl, rfl, rfl, trivial⟩ ?_
            exact tail (-1, true) _ ⟨Fr.refl _ _, by unfold Pl.mvTo; rw [if_pos (.inr h3)], by unfold Pl.mvTold; rw [if_pos (.inr h3)]; rw [List.length_eq_zero_iff.1 hl0]; rfl⟩
          · skip
            -- region 13 (words.go:140)
            refine Go'.region [(0, 0), (1, 0), (2, 0), (3, 0), (4, 0), (5, 0), (6, 0), (7, 0)] rfl ?_
            refine O.mv rfl rfl rfl rfl rfl ?_
            refine O.cmp rfl rfl rfl rfl rfl rfl (geqF (by decide)) ?_
            refine O.mv rfl rfl rfl rfl rfl ?_
            refine O.mv rfl rfl rfl rfl rfl ?_
            refine O.len rfl rfl rfl rfl Go.Proofs.Try.underlying26 rfl ?_
            refine O.cmp rfl rfl rfl rfl rfl rfl (eqlF (by omega)) ?_
            refine O.pick rfl rfl rfl rfl rfl rfl ?_
            refine O.asg rfl rfl rfl rfl rfl ?_
            refine Pl.fin [(7, _), (8, _), (9, _), (10, _), (11, _), (13, _), (14, _), (19, _), (20, _), (21, _), (22, _), (26, _), (27, _)] ⟨rfl, rfl, rfl, rfl, rfl, rfl, rfl, rfl, rfl, rfl, rfl, rfl, rfl, trivial⟩ ?_
            refine Go'.seq ?_
            -- region 14 (words.go:141)
            refine Go'.region [(0, 0), (1, 0), (2, 0), (3, 0), (4, 1), (5, 0), (6, 0)] rfl ?_
            refine O.mv rfl rfl rfl rfl rfl ?_
            refine O.cmp rfl rfl rfl rfl rfl rfl (geqF (by decide)) ?_
            refine O.mv rfl rfl rfl rfl rfl ?_
            refine Pl.pass rfl rfl rfl rfl ?_
            refine Pl.pass rfl rfl rfl rfl ?_
            refine Pl.pass rfl rfl rfl rfl ?_
            refine O.pick rfl rfl rfl rfl rfl rfl ?_
            refine Pl.fin [(7, _), (8, _), (9, _), (10, _), (11, _), (13, _), (14, _), (19, _), (20, _), (21, _), (22, _), (26, _), (27, _), (43, _)] ⟨rfl, rfl, rfl, rfl, rfl, rfl, rfl, rfl, rfl, rfl, rfl, rfl, rfl, rfl, trivial⟩ ?_
            refine Go'.condF rfl ?_
            refine Go'.seq ?_
            -- region 16 (words.go:143)
            refine Go'.region [(0, 0), (1, 0)] rfl ?_
            refine O.mv rfl rfl rfl rfl rfl ?_
            refine O.cmp rfl rfl rfl rfl rfl rfl (geqF (by decide)) ?_
            refine Pl.fin [(7, _), (8, _), (9, _), (10, _), (11, _), (13, _), (14, _), (19, _), (20, _), (21, _), (22, _), (26, _), (27, _), (43, _), (47, _)] ⟨rfl, rfl, rfl, rfl, rfl, rfl, rfl, rfl, rfl, rfl, rfl, rfl, rfl, rfl, rfl, trivial⟩ ?_
            refine Go'.condF rfl ?_
            refine Go'.skip ?_
            refine Go'.inBlock ?_
            refine Go'.keep [(7, _), (8, _), (9, _), (10, _), (11, _), (14, _), (19, _), (20, _), (21, _)] ⟨rfl, rfl, rfl, rfl, rfl, rfl, rfl, rfl, rfl, trivial⟩ ?_
            exact tail (-1, false) _ ⟨Fr.refl _ _, by unfold Pl.mvTo; rw [if_pos (.inr h3)], by unfold Pl.mvTold; rw [if_pos (.inr h3)]; cases T with | nil => exact absurd rfl hl0 | cons => rfl⟩
        · skip
          have hql := hqlt q rfl
          -- region 13 (words.go:140)
          refine Go'.region [(0, 0), (1, 0), (2, 0), (3, 0), (4, 0), (5, 0), (6, 0), (7, 0)] rfl ?_
          refine O.mv rfl rfl rfl rfl rfl ?_
          refine O.cmp rfl rfl rfl rfl rfl rfl (geqT (Int.natCast_nonneg q)) ?_
          refine O.mv rfl rfl rfl rfl rfl ?_
          refine Pl.pass rfl rfl rfl rfl ?_
          refine Pl.pass rfl rfl rfl rfl ?_
          refine Pl.pass rfl rfl rfl rfl ?_
          refine O.pick rfl rfl rfl rfl rfl rfl ?_
          refine O.asg rfl rfl rfl rfl rfl ?_
          refine Pl.fin [(7, _), (8, _), (9, _), (10, _), (11, _), (13, _), (14, _), (19, _), (20, _), (21, _), (22, _), (26, _), (27, _)] ⟨rfl, rfl, rfl, rfl, rfl, rfl, rfl, rfl, rfl, rfl, rfl, rfl, rfl, trivial⟩ ?_
          refine Go'.seq ?_
          -- region 14 (words.go:141)
          refine Go'.region [(0, 0), (1, 0), (2, 0), (3, 0), (4, 1), (5, 0), (6, 0)] rfl ?_
          refine O.mv rfl rfl rfl rfl rfl ?_
          refine O.cmp rfl rfl rfl rfl rfl rfl (geqT (Int.natCast_nonneg q)) ?_
          refine O.mv rfl rfl rfl rfl rfl ?_
          refine O.faz rfl rfl rfl rfl ⟨_, _, _, Go.Proofs.Try.underlying40, rfl, rfl, Go.Proofs.Try.sizeOf3⟩ rfl ?_
          refine O.ld rfl rfl rfl (fun w => ⟨Go.Proofs.Try.isAgg3 w, Go.Proofs.Try.sizeOf3 w⟩) rfl k0 ?_
          refine O.cmp rfl rfl rfl rfl rfl rfl (eqlF (by omega)) ?_
          refine O.pick rfl rfl rfl rfl rfl rfl ?_
          refine Pl.fin [(7, _), (8, _), (9, _), (10, _), (11, _), (13, _), (14, _), (19, _), (20, _), (21, _), (22, _), (26, _), (27, _), (43, _)] ⟨rfl, rfl, rfl, rfl, rfl, rfl, rfl, rfl, rfl, rfl, rfl, rfl, rfl, rfl, trivial⟩ ?_
          refine Go'.condF rfl ?_
          refine Go'.seq ?_
          -- region 16 (words.go:143)
          refine Go'.region [(0, 0), (1, 0)] rfl ?_
          refine O.mv rfl rfl rfl rfl rfl ?_
          refine O.cmp rfl rfl rfl rfl rfl rfl (geqT (Int.natCast_nonneg q)) ?_
          refine Pl.fin [(7, _), (8, _), (9, _), (10, _), (11, _), (13, _), (14, _), (19, _), (20, _), (21, _), (22, _), (26, _), (27, _), (43, _), (47, _)] ⟨rfl, rfl, rfl, rfl, rfl, rfl, rfl, rfl, rfl, rfl, rfl, rfl, rfl, rfl, rfl, trivial⟩ ?_
          refine Go'.condT rfl ?_
          -- region 17 (words.go:144)
          refine Go'.region [(0, 0), (1, 0), (2, 0)] rfl ?_
          refine O.mv rfl rfl rfl rfl rfl ?_
          refine O.sub ((q : Int) - 1) rfl rfl rfl rfl rfl rfl (show (q : Int) - 1 = (q : Int) - 1 from rfl) (by omega) ?_
          refine O.asg rfl rfl rfl rfl rfl ?_
          refine Pl.fin [(7, _), (8, _), (9, _), (10, _), (11, _), (13, _), (14, _), (19, _), (20, _), (21, _), (22, _), (26, _), (27, _), (43, _), (47, _)] ⟨rfl, rfl, rfl, rfl, rfl, rfl, rfl, rfl, rfl, rfl, rfl, rfl, rfl, rfl, rfl, trivial⟩ ?_
          refine Go'.inBlock ?_
          refine Go'.keep [(7, _), (8, _), (9, _), (10, _), (11, _), (14, _), (19, _), (20, _), (21, _)] ⟨rfl, rfl, rfl, rfl, rfl, rfl, rfl, rfl, rfl, trivial⟩ ?_
          exact tail ((q : Int) - 1, true) _ ⟨Fr.refl _ _, by unfold Pl.mvTo; rw [if_pos (.inr h3)]; simp only; rw [if_neg (by omega)], by unfold Pl.mvTold; rw [if_pos (.inr h3)]; rfl⟩
      have eT : Pl.mvTold T (wmv1 y) s0 = true := by unfold Pl.mvTold; rw [if_neg (by omega)]
      -- region 12 (words.go:139)
      refine Go'.region [(0, 0), (1, 0)] rfl ?_
      refine O.cmp rfl rfl rfl rfl rfl rfl (eqlF (by omega)) ?_
      refine O.asg rfl rfl rfl rfl rfl ?_
      refine Pl.fin [(7, _), (8, _), (9, _), (10, _), (11, _), (13, _), (14, _), (19, _), (20, _), (21, _), (22, _), (26, _), (27, _)] ⟨rfl, rfl, rfl, rfl, rfl, rfl, rfl, rfl, rfl, rfl, rfl, rfl, rfl, trivial⟩ ?_
      refine Go'.condF rfl ?_
      refine Go'.seq ?_
      by_cases h1 : y.1 = 1
      · skip
        -- region 18 (words.go:146)
        refine Go'.region [(0, 0), (1, 0)] rfl ?_
        refine O.cmp rfl rfl rfl rfl rfl rfl (eqlT (by omega)) ?_
        refine O.asg rfl rfl rfl rfl rfl ?_
        refine Pl.fin [(7, _), (8, _), (9, _), (10, _), (11, _), (13, _), (14, _), (19, _), (20, _), (21, _), (22, _), (26, _), (27, _), (50, _)] ⟨rfl, rfl, rfl, rfl, rfl, rfl, rfl, rfl, rfl, rfl, rfl, rfl, rfl, rfl, trivial⟩ ?_
        refine Go'.condT rfl ?_
        -- region 19 (words.go:147)
        refine Go'.region [(0, 0), (1, 0), (2, 0), (3, 0)] rfl ?_
        refine O.mv rfl rfl rfl rfl rfl ?_
        refine O.len rfl rfl rfl rfl Go.Proofs.Try.underlying26 rfl ?_
        refine O.sub ((T.length : Int) - 1) rfl rfl rfl rfl rfl rfl (by omega) (by omega) ?_
        refine O.asg rfl rfl rfl rfl rfl ?_
        refine Pl.fin [(7, _), (8, _), (9, _), (10, _), (11, _), (13, _), (14, _), (19, _), (20, _), (21, _), (22, _), (26, _), (27, _), (50, _)] ⟨rfl, rfl, rfl, rfl, rfl, rfl, rfl, rfl, rfl, rfl, rfl, rfl, rfl, rfl, trivial⟩ ?_
        refine Go'.inBlock ?_
        refine Go'.keep [(7, _), (8, _), (9, _), (10, _), (11, _), (14, _), (19, _), (20, _), (21, _)] ⟨rfl, rfl, rfl, rfl, rfl, rfl, rfl, rfl, rfl, trivial⟩ ?_
        exact tail ((T.length : Int) - 1, true) _ ⟨Fr.refl _ _, by unfold Pl.mvTo; rw [if_neg (by omega), if_pos (show (wmv1 y).1 = 1 from h1)], eT.symm⟩
      -- region 18 (words.go:146)
      refine Go'.region [(0, 0), (1, 0)] rfl ?_
      refine O.cmp rfl rfl rfl rfl rfl rfl (eqlF (by omega)) ?_
      refine O.asg rfl rfl rfl rfl rfl ?_
      refine Pl.fin [(7, _), (8, _), (9, _), (10, _), (11, _), (13, _), (14, _), (19, _), (20, _), (21, _), (22, _), (26, _), (27, _), (50, _)] ⟨rfl, rfl, rfl, rfl, rfl, rfl, rfl, rfl, rfl, rfl, rfl, rfl, rfl, rfl, trivial⟩ ?_
      refine Go'.condF rfl ?_
      refine Go'.seq ?_
      refine Go'.seq ?_
      by_cases h4 : y.1 = 4
      · skip
        -- region 20 (words.go:148)
        refine Go'.region [(0, 0), (1, 0)] rfl ?_
        refine O.cmp rfl rfl rfl rfl rfl rfl (eqlT (by omega)) ?_
        refine O.asg rfl rfl rfl rfl rfl ?_
        refine Pl.fin [(7, _), (8, _), (9, _), (10, _), (11, _), (13, _), (14, _), (19, _), (20, _), (21, _), (22, _), (26, _), (27, _), (50, _), (55, _)] ⟨rfl, rfl, rfl, rfl, rfl, rfl, rfl, rfl, rfl, rfl, rfl, rfl, rfl, rfl, rfl, trivial⟩ ?_
        refine Go'.condT rfl ?_
        refine Go'.skip ?_
        refine Go'.condT rfl ?_
        -- region 22 (words.go:149)
        refine Go'.region [(0, 0), (1, 0), (2, 1), (3, 2), (4, 0), (5, 0), (6, 0), (7, 0)] rfl ?_
        refine O.mv rfl rfl rfl rfl rfl ?_
        refine O.fa0 (off := 1) rfl rfl rfl rfl ⟨_, _, _, Go.Proofs.Try.underlying40, rfl, rfl, Go.Proofs.Try.sizeOf9⟩ rfl ?_
        refine O.ld rfl rfl rfl (fun w => ⟨Go.Proofs.Try.isAgg9 w, Go.Proofs.Try.sizeOf9 w⟩) rfl k1 ?_
        refine O.callQ rfl rfl rfl Go.Proofs.Try.call95 rfl (spot_spec (y.2, 0) hi2 hsrt (by omega)) trivial ?_
        refine O.mv rfl rfl rfl rfl rfl ?_
        refine O.ext rfl rfl rfl rfl rfl rfl ?_
        refine O.ext rfl rfl rfl rfl rfl rfl ?_
        refine O.asg rfl rfl rfl rfl rfl ?_
        refine Pl.fin [(7, _), (8, _), (9, _), (10, _), (11, _), (13, _), (14, _), (19, _), (20, _), (21, _), (22, _), (26, _), (27, _), (50, _), (55, _)] ⟨rfl, rfl, rfl, rfl, rfl, rfl, rfl, rfl, rfl, rfl, rfl, rfl, rfl, rfl, rfl, trivial⟩ ?_
        refine Go'.inBlock ?_
        refine Go'.keep [(7, _), (8, _), (9, _), (10, _), (11, _), (14, _), (19, _), (20, _), (21, _)] ⟨rfl, rfl, rfl, rfl, rfl, rfl, rfl, rfl, rfl, trivial⟩ ?_
        exact tail (_, true) _ ⟨Fr.refl _ _, by unfold Pl.mvTo; rw [if_neg (by omega), if_neg (show ¬ (wmv1 y).1 = 1 from h1), if_pos (show (wmv1 y).1 = 4 ∨ (wmv1 y).1 = 5 from (.inl h4))]; rfl, eT.symm⟩
      -- region 20 (words.go:148)
      refine Go'.region [(0, 0), (1, 0)] rfl ?_
      refine O.cmp rfl rfl rfl rfl rfl rfl (eqlF (by omega)) ?_
      refine O.asg rfl rfl rfl rfl rfl ?_
      refine Pl.fin [(7, _), (8, _), (9, _), (10, _), (11, _), (13, _), (14, _), (19, _), (20, _), (21, _), (22, _), (26, _), (27, _), (50, _), (55, _)] ⟨rfl, rfl, rfl, rfl, rfl, rfl, rfl, rfl, rfl, rfl, rfl, rfl, rfl, rfl, rfl, trivial⟩ ?_
      refine Go'.condF rfl ?_
      by_cases h5 : y.1 = 5
      · skip
        -- region 21 (words.go:148)
        refine Go'.region [(0, 0), (1, 0)] rfl ?_
        refine O.cmp rfl rfl rfl rfl rfl rfl (eqlT (by omega)) ?_
        refine O.asg rfl rfl rfl rfl rfl ?_
        refine Pl.fin [(7, _), (8, _), (9, _), (10, _), (11, _), (13, _), (14, _), (19, _), (20, _), (21, _), (22, _), (26, _), (27, _), (50, _), (55, _)] ⟨rfl, rfl, rfl, rfl, rfl, rfl, rfl, rfl, rfl, rfl, rfl, rfl, rfl, rfl, rfl, trivial⟩ ?_
        refine Go'.condT rfl ?_
        -- region 22 (words.go:149)
        refine Go'.region [(0, 0), (1, 0), (2, 1), (3, 2), (4, 0), (5, 0), (6, 0), (7, 0)] rfl ?_
        refine O.mv rfl rfl rfl rfl rfl ?_
        refine O.fa0 (off := 1) rfl rfl rfl rfl ⟨_, _, _, Go.Proofs.Try.underlying40, rfl, rfl, Go.Proofs.Try.sizeOf9⟩ rfl ?_
        refine O.ld rfl rfl rfl (fun w => ⟨Go.Proofs.Try.isAgg9 w, Go.Proofs.Try.sizeOf9 w⟩) rfl k1 ?_
        refine O.callQ rfl rfl rfl Go.Proofs.Try.call95 rfl (spot_spec (y.2, 0) hi2 hsrt (by omega)) trivial ?_
        refine O.mv rfl rfl rfl rfl rfl ?_
        refine O.ext rfl rfl rfl rfl rfl rfl ?_
        refine O.ext rfl rfl rfl rfl rfl rfl ?_
        refine O.asg rfl rfl rfl rfl rfl ?_
        refine Pl.fin [(7, _), (8, _), (9, _), (10, _), (11, _), (13, _), (14, _), (19, _), (20, _), (21, _), (22, _), (26, _), (27, _), (50, _), (55, _)] ⟨rfl, rfl, rfl, rfl, rfl, rfl, rfl, rfl, rfl, rfl, rfl, rfl, rfl, rfl, rfl, trivial⟩ ?_
        refine Go'.inBlock ?_
        refine Go'.keep [(7, _), (8, _), (9, _), (10, _), (11, _), (14, _), (19, _), (20, _), (21, _)] ⟨rfl, rfl, rfl, rfl, rfl, rfl, rfl, rfl, rfl, trivial⟩ ?_
        exact tail (_, true) _ ⟨Fr.refl _ _, by unfold Pl.mvTo; rw [if_neg (by omega), if_neg (show ¬ (wmv1 y).1 = 1 from h1), if_pos (show (wmv1 y).1 = 4 ∨ (wmv1 y).1 = 5 from (.inr h5))]; rfl, eT.symm⟩
      · skip
        -- region 21 (words.go:148)
        refine Go'.region [(0, 0), (1, 0)] rfl ?_
        refine O.cmp rfl rfl rfl rfl rfl rfl (eqlF (by omega)) ?_
        refine O.asg rfl rfl rfl rfl rfl ?_
        refine Pl.fin [(7, _), (8, _), (9, _), (10, _), (11, _), (13, _), (14, _), (19, _), (20, _), (21, _), (22, _), (26, _), (27, _), (50, _), (55, _)] ⟨rfl, rfl, rfl, rfl, rfl, rfl, rfl, rfl, rfl, rfl, rfl, rfl, rfl, rfl, rfl, trivial⟩ ?_
        refine Go'.condF rfl ?_
        -- region 10 (words.go:151)
        refine Go'.region [(0, 0)] rfl ?_
        refine O.asg rfl rfl rfl rfl rfl ?_
        refine Pl.fin [(7, _), (8, _), (9, _), (10, _), (11, _), (13, _), (14, _), (19, _), (20, _), (21, _), (22, _), (26, _), (27, _), (50, _), (55, _)] ⟨rfl, rfl, rfl, rfl, rfl, rfl, rfl, rfl, rfl, rfl, rfl, rfl, rfl, rfl, rfl, trivial⟩ ?_
        refine Go'.inBlock ?_
        refine Go'.keep [(7, _), (8, _), (9, _), (10, _), (11, _), (14, _), (19, _), (20, _), (21, _)] ⟨rfl, rfl, rfl, rfl, rfl, rfl, rfl, rfl, rfl, trivial⟩ ?_
        exact tail (0, true) _ ⟨Fr.refl _ _, by unfold Pl.mvTo; rw [if_neg (by omega), if_neg (show ¬ (wmv1 y).1 = 1 from h1), if_neg (by omega)], eT.symm⟩
  · skip
    obtain rfl : j = ms.length := by omega
    rw [List.take_length] at hA hB hC
    -- region 6 (words.go:136)
    refine Go'.region [(0, 0)] rfl ?_
    refine O.cmp rfl rfl rfl rfl rfl rfl (lssF (by omega)) ?_
    refine Pl.fin [(7, _), (8, _), (9, _), (10, _), (11, _), (19, _), (20, _), (21, _), (22, _)] ⟨rfl, rfl, rfl, rfl, rfl, rfl, rfl, rfl, rfl, trivial⟩ ?_
    refine Go'.seq ?_
    refine Go'.condF rfl ?_
    refine Go'.exit rfl ?_
    refine Go'.seq ?_
    -- region 29 (words.go:161)
    refine Go'.region [(0, 0), (1, 0), (2, 0), (3, 0), (4, 0), (5, 0)] rfl ?_
    refine O.mv rfl rfl rfl rfl rfl ?_
    refine O.mv rfl rfl rfl rfl rfl ?_
    refine O.mv rfl rfl rfl rfl rfl ?_
    refine O.asg rfl rfl rfl rfl rfl ?_
    refine O.asg rfl rfl rfl rfl rfl ?_
    refine O.asg rfl rfl rfl rfl rfl ?_
    refine Pl.fin [(4, _), (5, _), (6, _)] ⟨rfl, rfl, rfl, trivial⟩ ?_
    refine Go'.ret (vs := [_, _, _]) Go.Proofs.Try.func63 Go.Proofs.Try.results63 ⟨rfl, rfl, rfl, trivial⟩ ?_
    exact ⟨_, _, _, rfl, hA.out, hB.out, hC.out, hF1.trans hF⟩

end Go.Bt.FW
