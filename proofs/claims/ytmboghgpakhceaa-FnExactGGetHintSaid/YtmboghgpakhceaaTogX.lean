/- Contracts of functions of the program, proved by walking through their code. Conditions: those that each theorem names. -/
import Derived.Test.YtmboghgpakhceaaTogU
import Derived.Test.YtmboghgpakhceaaToiG
namespace Go.Bt.FG
open Go Go.Proofs
set_option maxRecDepth 20000
set_option maxHeartbeats 4000000
set_option linter.unusedVariables false
set_option linter.unusedSectionVars false

def exkl : List (Int × Int) := [(3, 0), (4, 0), (9, 1)]
theorem exKeys_spec {B : World} {H : Mem} : Fn Try.prog B 40 [] H (fun r H' => InS EJ H' r exkl ∧ Fr nowhere H H') := by
  refine fn_of Go.Proofs.Try.func40 rfl Go.Proofs.Try.ntmps40 ?_
  refine (show Go' _ _ _ _ 5 [] [.code _] _ from ?_)
  refine Go'.seq ?_
  -- region 0 (help.go:80)
  refine Go'.region [(0, 0)] rfl ?_
  refine O.asg rfl rfl rfl rfl rfl ?_
  refine Pl.fin [(0, _)] ⟨rfl, trivial⟩ ?_
  refine Go'.seq ?_
  -- region 1 (help.go:80)
  refine Go'.region [(0, 0), (1, 0), (2, 0), (3, 2), (4, 0)] rfl ?_
  refine O.bld (cs := [.int .i64 3, .int .i64 0]) rfl rfl rfl rfl (st27) rfl (by kernel_rfl) ?_
  refine O.bld (cs := [.int .i64 4, .int .i64 0]) rfl rfl rfl rfl (st27) rfl (by kernel_rfl) ?_
  refine O.bld (cs := [.int .i64 9, .int .i64 1]) rfl rfl rfl rfl (st27) rfl (by kernel_rfl) ?_
  refine O.bsl (cs := (row EJ exkl)) rfl rfl rfl ⟨Go.Proofs.Try.underlying25, Go.Proofs.Try.sizeOf27, Go.Proofs.Try.zeroValue27, ⟨_, Go.Proofs.Try.typeInfo27, rfl⟩, rfl, by decide, by decide⟩ rfl (by decide) (by kernel_rfl) ?_
  intro H1 M1
  refine ⟨trivial, ?_⟩
  refine O.asg rfl rfl rfl rfl rfl ?_
  refine Pl.fin [(0, _)] ⟨rfl, trivial⟩ ?_
  refine Go'.ret (vs := [_]) Go.Proofs.Try.func40 Go.Proofs.Try.results40 ⟨rfl, trivial⟩ ?_
  exact ⟨.inl ⟨H.size, 0, 3, rfl, by decide, M1.rd _ [] (by simp)⟩, M1.fr nowhere⟩

theorem iggethint_spec {B : World} {H : Mem} {d : Nat} {nl : Bool} {v u : Value} {ord : List Int} {l : List (Int × Int)} {va : Value} {ks : List (Int × Int)} (hd : d = 0 ∨ 2 ≤ d ∧ d ≤ 128) (ho : InS EN H v ord) (hol : ord.length ≤ 4294967296) (hi : InS EJ H u l) (hll : l.length ≤ 4294967296) (ha : InS EJ H va ks) (hal : ks.length ≤ 4294967296) :
    Fn Try.prog B 87 [.agg #[v, .int .i64 (d : Int), .bool nl], u, va] H (fun r H' => OutS EF H' r (ks.map (fun k => Pl.got (OO ord) k (Pl.puts (OO ord) l))) ∧ Fr nowhere H H') := by
  obtain ⟨a, c, hu⟩ := hi.len
  subst hu
  obtain ⟨av, mv, cv, hv⟩ := InS.form ho
  subst hv
  have hF : Fr nowhere H H := Fr.refl _ _
  have hP := PD_ok hd
  obtain ⟨aa, ca, ha0⟩ := ha.len
  subst ha0
  refine fn_of Go.Proofs.Try.func87 rfl Go.Proofs.Try.ntmps87 ?_
  refine (show Go' _ _ _ _ 32 [(0, _), (1, _), (2, _)] [.code _] _ from ?_)
  refine Go'.seq ?_
  -- region 0 (treeg.go:72)
  refine Go'.region [(0, 2), (1, 0)] rfl ?_
  refine O.box rfl rfl rfl rfl ?_
  intro B1 MB1
  refine ⟨trivial, ?_⟩
  have hsB1 := MB1.size
  replace hF := hF.trans (MB1.fr nowhere)
  have mm : Rd B1 H.size 0 [.slice av mv cv, .int .i64 (d : Int), .bool nl] := MB1.rd _ [] (by simp [Value.cells])
  have mm0 : cl B1 H.size 0 = some (.slice av mv cv) := mm 0 _ rfl
  have mm1 : cl B1 H.size (0 + 1) = some (.int .i64 (d : Int)) := mm 1 _ rfl
  refine O.asg rfl rfl rfl rfl rfl ?_
  refine Pl.fin [(1, _), (2, _), (3, _), (6, _)] ⟨rfl, rfl, rfl, rfl, trivial⟩ ?_
  refine Go'.seq ?_
  -- region 1 (treeg.go:73)
  refine Go'.region [(0, 1), (1, 0), (2, 2), (3, 0)] rfl ?_
  refine O.lds rfl rfl rfl (fun w => ⟨Go.Proofs.Try.isAgg24 w, Go.Proofs.Try.sizeOf24 w⟩) rfl rfl mm ?_
  refine O.mv rfl rfl rfl rfl rfl ?_
  refine O.call rfl rfl rfl Go.Proofs.Try.call68 rfl (grow_spec hd (ho.fr hF) hol (hi.fr hF) hll) ?_
  rintro _ H3 ⟨I, hIo, hIw, hIb, tr, S, rfl, hM, hF3, hS⟩
  have hs3 := hF3.size
  replace hF := hF.trans hF3
  replace mm := hF3.rd mm (fun _ _ => nw)
  replace mm0 := hF3.keep mm0 nw
  replace mm1 := hF3.keep mm1 nw
  have hSb : ∀ b, S b ∨ (b < cx.base ∧ cx.own b) → B1.size ≤ b := fun b hb => hb.elim (hS b) (fun h => hIw b h.2)
  have hOO : OO ord = OI := by rw [← hIo]; rfl
  have hpl := Pl.puts_length OI l
  have hSlt := hM.lt
  have hbs := hM.tc.hb
  unfold ptr
  refine ⟨trivial, ?_⟩
  refine O.asg rfl rfl rfl rfl rfl ?_
  refine Pl.fin [(2, _), (6, _), (7, _)] ⟨rfl, rfl, rfl, trivial⟩ ?_
  refine Go'.seq ?_
  -- region 2 (treeg.go:74)
  refine Go'.region [(0, 2)] rfl ?_
  refine O.alloc rfl rfl rfl Go.Proofs.Try.zeroValue153 ?_
  intro H4 M4
  refine ⟨trivial, ?_⟩
  have hs4 := M4.size
  have hF4 := M4.fr nowhere
  have hk : HintOk H4 (.pointer (some ⟨H3.size, 0, none⟩)) (fun b => b = H3.size) := .inr ⟨H3.size, rfl, fun _ => Iff.rfl, by omega, fun h => by have := h.1; omega, (HintM.new M4 (fun i hi => by have hi8 : i = 0 ∨ i = 1 ∨ i = 2 ∨ i = 3 ∨ i = 4 ∨ i = 5 ∨ i = 6 ∨ i = 7 := (by omega); rcases hi8 with rfl | rfl | rfl | rfl | rfl | rfl | rfl | rfl <;> rfl) (fun i hi => by have hi8 : i = 0 ∨ i = 1 ∨ i = 2 ∨ i = 3 ∨ i = 4 ∨ i = 5 ∨ i = 6 ∨ i = 7 := (by omega); rcases hi8 with rfl | rfl | rfl | rfl | rfl | rfl | rfl | rfl <;> rfl) (by decide))⟩
  refine Pl.fin [(2, _), (6, _), (7, _), (8, _)] ⟨rfl, rfl, rfl, rfl, trivial⟩ ?_
  refine Go'.seq ?_
  -- region 3 (treeg.go:75)
  refine Go'.region [(0, 0)] rfl ?_
  refine O.asg rfl rfl rfl rfl rfl ?_
  refine Pl.fin [(2, _), (6, _), (7, _), (8, _), (9, _)] ⟨rfl, rfl, rfl, rfl, rfl, trivial⟩ ?_
  refine Go'.seq ?_
  refine Go'.seq ?_
  -- region 4 (treeg.go:76)
  refine Go'.region [(0, 0), (1, 0), (2, 0)] rfl ?_
  refine O.mv rfl rfl rfl rfl rfl ?_
  refine O.len rfl rfl rfl rfl Go.Proofs.Try.underlying25 rfl ?_
  refine O.mv rfl rfl rfl rfl rfl ?_
  refine Pl.fin [(6, _), (7, _), (8, _), (9, _), (15, _), (16, _), (17, _)] ⟨rfl, rfl, rfl, rfl, rfl, rfl, rfl, trivial⟩ ?_
  refine Go'.block ?_
  refine Go'.loop ?_
  refine Go'.keep [(6, _), (7, _), (8, _), (9, _), (15, _), (16, _), (17, _)] ⟨rfl, rfl, rfl, rfl, rfl, rfl, rfl, trivial⟩ ?_
  refine Go'.ind (σ := Nat × Value) (fun s => ks.length - s.1) (fun s H' => s.1 ≤ ks.length ∧ Fr nowhere H3 H' ∧ H4.size ≤ H'.size ∧ HintOk H' (.pointer (some ⟨H3.size, 0, none⟩)) (fun b => b = H3.size) ∧ ∃ Zo, Acc EF Zo H' s.2 ((ks.map (fun k => Pl.got (OO ord) k (Pl.puts (OO ord) l))).take s.1) ∧ ∀ b, Zo b → H4.size ≤ b ∧ b < H'.size)
    (fun s => [(6, .slice none 0 0), (7, .pointer (some ⟨tr, 0, none⟩)), (8, .pointer (some ⟨H3.size, 0, none⟩)), (9, s.2), (15, .slice aa ks.length ca), (16, .int .i64 (ks.length : Int)), (17, .int .i64 (s.1 : Int))]) (0, .slice none 0 0) ⟨Nat.zero_le _, hF4, Nat.le_refl _, hk, fun _ => False, Acc.nil _ _ _, fun _ h => h.elim⟩ rfl ?_
  clear hk
  rintro ⟨j, sv⟩ H5 ⟨hjl, hF35, hs45, hk, Zo, hA, hZ⟩ ih
  simp only at hjl hA
  have hF2 := hF.trans hF35
  have hM5 := hM.fr hF35 (fun _ _ _ => nw)
  refine Go'.seq ?_
  by_cases hlt : j < ks.length
  · skip
    obtain ⟨y, hy⟩ : ∃ y, ks[j]? = some y := ⟨ks[j], List.getElem?_eq_getElem hlt⟩
    obtain ⟨b, o, c', e, hr⟩ := (ha.fr hF2).at hy
    cases e
    have eout : (ks.map (fun k => Pl.got (OO ord) k (Pl.puts (OO ord) l))).take (j + 1) = (ks.map (fun k => Pl.got (OO ord) k (Pl.puts (OO ord) l))).take j ++ [Pl.got OI y (Pl.puts OI l)] := by rw [List.take_add_one, List.getElem?_map, hy, hOO]; rfl
    have hlo : ((ks.map (fun k => Pl.got (OO ord) k (Pl.puts (OO ord) l))).take j).length = j := by rw [List.length_take, List.length_map]; omega
    -- region 5 (treeg.go:76)
    refine Go'.region [(0, 0)] rfl ?_
    refine O.cmp rfl rfl rfl rfl rfl rfl (lssT (by omega)) ?_
    refine Pl.fin [(6, _), (7, _), (8, _), (9, _), (15, _), (16, _), (17, _), (18, _)] ⟨rfl, rfl, rfl, rfl, rfl, rfl, rfl, rfl, trivial⟩ ?_
    refine Go'.seq ?_
    refine Go'.condT rfl ?_
    refine Go'.skip ?_
    refine Go'.seq ?_
    refine Go'.block ?_
    refine Go'.seq ?_
    -- region 6 (treeg.go:76)
    refine Go'.region [(0, 0), (1, 1), (2, 2), (3, 2)] rfl ?_
    refine O.ix (j := j) rfl rfl rfl rfl Go.Proofs.Try.underlying25 Go.Proofs.Try.sizeOf27 rfl rfl (by omega) hlt ?_
    refine O.lds rfl rfl rfl (fun w => ⟨Go.Proofs.Try.isAgg27 w, Go.Proofs.Try.sizeOf27 w⟩) rfl rfl hr ?_
    refine O.alloc rfl rfl rfl Go.Proofs.Try.zeroValue27 ?_
    intro H6 M6
    refine ⟨trivial, ?_⟩
    have hs6 := M6.size
    replace hM5 := hM5.fr (M6.fr nowhere) (fun _ _ _ => nw)
    replace hA := hA.fr (M6.fr nowhere) (fun _ _ _ _ => nw)
    replace hk := hk.fr (M6.fr nowhere) (fun _ _ _ => nw)
    replace hF35 := hF35.trans (M6.fr nowhere)
    have m7 : Wr H6 H5.size 0 2 := M6.wr 2 (by decide)
    refine O.st rfl rfl Go.Proofs.Try.sizeOf27 rfl rfl rfl rfl rfl m7 ?_
    intro H7 W7
    have hs7 := W7.size
    replace hM5 := hM5.fr W7.fr (fun b o hb => nr (.inl (hb.elim (fun hb => by have := hSlt b hb; omega) (fun hb => by omega))))
    replace hA := hA.fr W7.fr (fun b o hb hb2 => nr (.inl (by have := hZ b hb2; omega)))
    replace hk := hk.fr W7.fr (fun b o hb => nr (.inl (by omega)))
    replace hF35 := hF35.trans' W7.fr (fun _ _ _ h => h) (fun b o hb hz => by have h1 := hz.1; omega)
    have k0 : Rd H7 H5.size 0 (EJ.enc y) := W7.all
    refine ⟨trivial, ?_⟩
    refine Pl.fin [(6, _), (7, _), (8, _), (9, _), (11, _), (15, _), (16, _), (17, _), (18, _)] ⟨rfl, rfl, rfl, rfl, rfl, rfl, rfl, rfl, rfl, trivial⟩ ?_
    -- region 7 (treeg.go:77)
    refine Go'.region [(0, 0), (1, 0), (2, 1), (3, 2), (4, 0), (5, 0), (6, 2), (7, 2), (8, 2), (9, 0)] rfl ?_
    refine O.mv rfl rfl rfl rfl rfl ?_
    refine O.mv rfl rfl rfl rfl rfl ?_
    refine O.lds rfl rfl rfl (fun w => ⟨Go.Proofs.Try.isAgg27 w, Go.Proofs.Try.sizeOf27 w⟩) rfl rfl k0 ?_
    refine O.call rfl rfl rfl Go.Proofs.Try.call142 rfl (gethint_spec hP hM5 y hk (fun b hb hs => by have := hSlt b hs; omega) (by omega)) ?_
    rintro _ H8 ⟨rfl, hF8, hk⟩
    have hs8 := hF8.size
    replace hM5 := hM5.fr hF8 (fun b o hb hz => hb.elim (fun hb => by have := hSlt b hb; omega) (fun hb => by omega))
    replace hA := hA.fr hF8 (fun b o hb hb2 hz => by have := hZ b hb2; omega)
    replace hF35 := hF35.trans' hF8 (fun _ _ _ h => h) (fun b o hb hz => by omega)
    refine ⟨trivial, ?_⟩
    refine O.ext rfl rfl rfl rfl rfl rfl ?_
    refine O.ext rfl rfl rfl rfl rfl rfl ?_
    refine O.call rfl rfl rfl Go.Proofs.Try.call104 rfl ifound_spec ?_
    rintro _ H9 ⟨rfl, hF9⟩
    have hs9 := hF9.size
    replace hM5 := hM5.fr hF9 (fun _ _ _ => nw)
    replace hA := hA.fr hF9 (fun _ _ _ _ => nw)
    replace hk := hk.fr hF9 (fun _ _ _ => nw)
    replace hF35 := hF35.trans hF9
    rw [FVe]
    refine ⟨trivial, ?_⟩
    refine O.bsl (cs := (fvs (Pl.got OI y (Pl.puts OI l)))) rfl rfl rfl ⟨Go.Proofs.Try.underlying64, Go.Proofs.Try.sizeOf68, Go.Proofs.Try.zeroValue68, ⟨_, Go.Proofs.Try.typeInfo68, rfl⟩, rfl, by decide, by decide⟩ rfl (by decide) (by generalize (Pl.got OI y (Pl.puts OI l)) = o; cases o <;> kernel_rfl) ?_
    intro H10 M10
    have hs10 := M10.size
    replace hM5 := hM5.fr (M10.fr nowhere) (fun _ _ _ => nw)
    replace hA := hA.fr (M10.fr nowhere) (fun _ _ _ _ => nw)
    replace hk := hk.fr (M10.fr nowhere) (fun _ _ _ => nw)
    replace hF35 := hF35.trans (M10.fr nowhere)
    have m5 : Rd H10 H9.size 0 (row EF [(Pl.got OI y (Pl.puts OI l))]) := M10.rd _ [] (by simp [row, EF])
    refine ⟨trivial, ?_⟩
    refine O.appA (E := EF) (Y := [(Pl.got OI y (Pl.puts OI l))]) rfl rfl rfl ⟨Go.Proofs.Try.underlying64, Go.Proofs.Try.sizeOf68, Go.Proofs.Try.zeroValue68, ⟨_, Go.Proofs.Try.typeInfo68, rfl⟩, rfl, by decide, by decide⟩ rfl hA rfl ⟨_, _, _, rfl, m5⟩ (Nat.succ_pos _) (by rw [hlo]; exact Nat.le_trans (Nat.mul_le_mul_left _ (Nat.le_of_ble_eq_true (n := _) (m := 4096) rfl)) (by simp only [List.length_cons, List.length_nil]; omega)) (by rw [hlo]; simp only [List.length_cons, List.length_nil]; omega) ?_
    intro v8 H11 hA11 hF11 hs11
    have hss11 := hF11.size
    rw [← eout] at hA11
    refine ⟨trivial, ?_⟩
    refine O.asg rfl rfl rfl rfl rfl ?_
    refine Pl.fin [(6, _), (7, _), (8, _), (9, _), (11, _), (15, _), (16, _), (17, _), (18, _)] ⟨rfl, rfl, rfl, rfl, rfl, rfl, rfl, rfl, rfl, trivial⟩ ?_
    refine Go'.inBlock ?_
    -- region 8 (treeg.go:76)
    refine Go'.region [(0, 0), (1, 0)] rfl ?_
    refine O.add (((j + 1 : Nat) : Int)) rfl rfl rfl rfl rfl rfl (by omega) (by omega) ?_
    refine O.mv rfl rfl rfl rfl rfl ?_
    refine Pl.fin [(6, _), (7, _), (8, _), (9, _), (11, _), (15, _), (16, _), (17, _), (18, _)] ⟨rfl, rfl, rfl, rfl, rfl, rfl, rfl, rfl, rfl, trivial⟩ ?_
    refine Go'.keep [(6, _), (7, _), (8, _), (9, _), (15, _), (16, _), (17, _)] ⟨rfl, rfl, rfl, rfl, rfl, rfl, rfl, trivial⟩ ?_
    refine Go'.inLoop ?_
    exact ih (j + 1, v8) H11 ⟨hlt, hF35.trans' hF11 (fun _ _ _ h => h) (fun b o hb hz => by have h1 := (hZ b hz).1; omega), by omega, hk.fr hF11 (fun b o hb hz => by have := (hZ b hz).1; omega), fun b => Zo b ∨ (b = H10.size ∧ b < H11.size), hA11, fun b hb => hb.elim (fun h => ⟨(hZ b h).1, by have := (hZ b h).2; omega⟩) (fun h => ⟨by omega, h.2⟩)⟩ (by simp only; omega)
  · skip
    have ejl : j = ks.length := by omega
    have eall : (ks.map (fun k => Pl.got (OO ord) k (Pl.puts (OO ord) l))).take j = (ks.map (fun k => Pl.got (OO ord) k (Pl.puts (OO ord) l))) := by rw [ejl]; exact List.take_of_length_le (by rw [List.length_map]; exact Nat.le_refl _)
    rw [eall] at hA
    -- region 5 (treeg.go:76)
    refine Go'.region [(0, 0)] rfl ?_
    refine O.cmp rfl rfl rfl rfl rfl rfl (lssF (by omega)) ?_
    refine Pl.fin [(6, _), (7, _), (8, _), (9, _), (15, _), (16, _), (17, _), (18, _)] ⟨rfl, rfl, rfl, rfl, rfl, rfl, rfl, rfl, trivial⟩ ?_
    refine Go'.seq ?_
    refine Go'.condF rfl ?_
    refine Go'.exit rfl ?_
    refine Go'.seq ?_
    -- region 9 (treeg.go:79)
    refine Go'.region [(0, 0), (1, 0)] rfl ?_
    refine O.mv rfl rfl rfl rfl rfl ?_
    refine O.asg rfl rfl rfl rfl rfl ?_
    refine Pl.fin [(6, _)] ⟨rfl, trivial⟩ ?_
    refine Go'.ret (vs := [_]) Go.Proofs.Try.func87 Go.Proofs.Try.results87 ⟨rfl, trivial⟩ ?_
    exact ⟨hA.out, hF2⟩

theorem sgget_spec {B : World} {H : Mem} {zz : Int} {nl : Bool} {v u : Value} {ord : List Int} {l : List (Int × Int)} {va : Value} {ks : List (Int × Int)} (ho : InS EN H v ord) (hol : ord.length ≤ 4294967296) (hi : InS EJ H u l) (hll : l.length ≤ 4294967296) (ha : InS EJ H va ks) (hal : ks.length ≤ 4294967296) :
    Fn Try.prog B 88 [.agg #[v, .int .i64 zz, .bool nl], u, va] H (fun r H' => OutS EF H' r (ks.map (fun k => Pl.got (OO ord) k (Pl.puts (OO ord) l))) ∧ Fr nowhere H H') := by
  obtain ⟨a, c, hu⟩ := hi.len
  subst hu
  obtain ⟨av, mv, cv, hv⟩ := InS.form ho
  subst hv
  have hF : Fr nowhere H H := Fr.refl _ _
  obtain ⟨aa, ca, ha0⟩ := ha.len
  subst ha0
  refine fn_of Go.Proofs.Try.func88 rfl Go.Proofs.Try.ntmps88 ?_
  refine (show Go' _ _ _ _ 43 [(0, _), (1, _), (2, _)] [.code _] _ from ?_)
  refine Go'.seq ?_
  -- region 0 (tree.go:18)
  refine Go'.region [(0, 2), (1, 0)] rfl ?_
  refine O.box rfl rfl rfl rfl ?_
  intro B1 MB1
  refine ⟨trivial, ?_⟩
  have hsB1 := MB1.size
  replace hF := hF.trans (MB1.fr nowhere)
  have mm : Rd B1 H.size 0 [.slice av mv cv, .int .i64 zz, .bool nl] := MB1.rd _ [] (by simp [Value.cells])
  have mm0 : cl B1 H.size 0 = some (.slice av mv cv) := mm 0 _ rfl
  have mm1 : cl B1 H.size (0 + 1) = some (.int .i64 zz) := mm 1 _ rfl
  refine O.asg rfl rfl rfl rfl rfl ?_
  refine Pl.fin [(1, _), (2, _), (3, _), (6, _)] ⟨rfl, rfl, rfl, rfl, trivial⟩ ?_
  refine Go'.seq ?_
  -- region 1 (tree.go:19)
  refine Go'.region [(0, 0), (1, 1), (2, 0), (3, 2), (4, 0)] rfl ?_
  refine O.faz rfl rfl rfl rfl ⟨_, _, _, Go.Proofs.Try.underlying24, rfl, rfl, Go.Proofs.Try.sizeOf22⟩ rfl ?_
  refine O.ld rfl rfl rfl (fun w => ⟨Go.Proofs.Try.isAgg22 w, Go.Proofs.Try.sizeOf22 w⟩) rfl mm0 ?_
  refine O.mv rfl rfl rfl rfl rfl ?_
  refine O.call rfl rfl rfl Go.Proofs.Try.call42 rfl (tree_spec (ho.fr hF) (by omega) (hi.fr hF) hll) ?_
  rintro tv H3 ⟨hA4, hF3⟩
  have hs3 := hF3.size
  replace hF := hF.trans hF3
  replace mm := hF3.rd mm (fun _ _ => nw)
  replace mm0 := hF3.keep mm0 nw
  replace mm1 := hF3.keep mm1 nw
  have hM := hA4.inS
  have hpl := Pl.puts_length (OO ord) l
  have hsrt := Pl.puts_srt (OO ord) l
  obtain ⟨ta, tc, htv⟩ := hM.len
  subst htv
  refine ⟨trivial, ?_⟩
  refine O.asg rfl rfl rfl rfl rfl ?_
  refine Pl.fin [(2, _), (3, _), (6, _), (7, _)] ⟨rfl, rfl, rfl, rfl, trivial⟩ ?_
  refine Go'.seq ?_
  -- region 2 (tree.go:20)
  refine Go'.region [(0, 0)] rfl ?_
  refine O.asg rfl rfl rfl rfl rfl ?_
  refine Pl.fin [(2, _), (3, _), (6, _), (7, _), (8, _)] ⟨rfl, rfl, rfl, rfl, rfl, trivial⟩ ?_
  refine Go'.seq ?_
  refine Go'.seq ?_
  -- region 3 (tree.go:21)
  refine Go'.region [(0, 0), (1, 0), (2, 0)] rfl ?_
  refine O.mv rfl rfl rfl rfl rfl ?_
  refine O.len rfl rfl rfl rfl Go.Proofs.Try.underlying25 rfl ?_
  refine O.mv rfl rfl rfl rfl rfl ?_
  refine Pl.fin [(3, _), (6, _), (7, _), (8, _), (18, _), (19, _), (20, _)] ⟨rfl, rfl, rfl, rfl, rfl, rfl, rfl, trivial⟩ ?_
  refine Go'.block ?_
  refine Go'.loop ?_
  refine Go'.keep [(3, _), (6, _), (7, _), (8, _), (18, _), (19, _), (20, _)] ⟨rfl, rfl, rfl, rfl, rfl, rfl, rfl, trivial⟩ ?_
  refine Go'.ind (σ := Nat × Value) (fun s => ks.length - s.1) (fun s H' => s.1 ≤ ks.length ∧ Fr nowhere H3 H' ∧ ∃ Zo, Acc EF Zo H' s.2 ((ks.map (fun k => Pl.got (OO ord) k (Pl.puts (OO ord) l))).take s.1) ∧ ∀ b, Zo b → H3.size ≤ b ∧ b < H'.size)
    (fun s => [(3, .pointer (some ⟨H.size, 0, none⟩)), (6, .slice none 0 0), (7, .slice ta (Pl.puts (OO ord) l).length tc), (8, s.2), (18, .slice aa ks.length ca), (19, .int .i64 (ks.length : Int)), (20, .int .i64 (s.1 : Int))]) (0, .slice none 0 0) ⟨Nat.zero_le _, Fr.refl _ _, fun _ => False, Acc.nil _ _ _, fun _ h => h.elim⟩ rfl ?_
  rintro ⟨j, sv⟩ H5 ⟨hjl, hF35, Zo, hA, hZ⟩ ih
  simp only at hjl hA
  have hsz := hF35.size
  have hF2 := hF.trans hF35
  replace mm0 := hF35.keep mm0 nw
  refine Go'.seq ?_
  by_cases hlt : j < ks.length
  · skip
    obtain ⟨y, hy⟩ : ∃ y, ks[j]? = some y := ⟨ks[j], List.getElem?_eq_getElem hlt⟩
    obtain ⟨b, o, c', e, hr⟩ := (ha.fr hF2).at hy
    cases e
    have eout : (ks.map (fun k => Pl.got (OO ord) k (Pl.puts (OO ord) l))).take (j + 1) = (ks.map (fun k => Pl.got (OO ord) k (Pl.puts (OO ord) l))).take j ++ [Pl.got (OO ord) y (Pl.puts (OO ord) l)] := by rw [List.take_add_one, List.getElem?_map, hy]; rfl
    have hlo : ((ks.map (fun k => Pl.got (OO ord) k (Pl.puts (OO ord) l))).take j).length = j := by rw [List.length_take, List.length_map]; omega
    -- region 4 (tree.go:21)
    refine Go'.region [(0, 0)] rfl ?_
    refine O.cmp rfl rfl rfl rfl rfl rfl (lssT (by omega)) ?_
    refine Pl.fin [(3, _), (6, _), (7, _), (8, _), (18, _), (19, _), (20, _), (21, _)] ⟨rfl, rfl, rfl, rfl, rfl, rfl, rfl, rfl, trivial⟩ ?_
    refine Go'.seq ?_
    refine Go'.condT rfl ?_
    refine Go'.skip ?_
    refine Go'.seq ?_
    refine Go'.block ?_
    refine Go'.seq ?_
    have hbm : H.size < H3.size := by omega
    -- region 5 (tree.go:21)
    refine Go'.region [(0, 0), (1, 1), (2, 2), (3, 2)] rfl ?_
    refine O.ix (j := j) rfl rfl rfl rfl Go.Proofs.Try.underlying25 Go.Proofs.Try.sizeOf27 rfl rfl (by omega) hlt ?_
    refine O.lds rfl rfl rfl (fun w => ⟨Go.Proofs.Try.isAgg27 w, Go.Proofs.Try.sizeOf27 w⟩) rfl rfl hr ?_
    refine O.alloc rfl rfl rfl Go.Proofs.Try.zeroValue27 ?_
    intro H6 M6
    refine ⟨trivial, ?_⟩
    have hs6 := M6.size
    replace hA := hA.fr (M6.fr nowhere) (fun _ _ _ _ => nw)
    replace mm0 := (M6.fr nowhere).keep mm0 nw
    replace hF35 := hF35.trans (M6.fr nowhere)
    have m7 : Wr H6 H5.size 0 2 := M6.wr 2 (by decide)
    refine O.st rfl rfl Go.Proofs.Try.sizeOf27 rfl rfl rfl rfl rfl m7 ?_
    intro H7 W7
    have hs7 := W7.size
    replace hA := hA.fr W7.fr (fun b o hb hb2 => nr (.inl (by have := hZ b hb2; omega)))
    replace mm0 := W7.fr.keep mm0 (nr (.inl (by omega)))
    replace hF35 := hF35.trans' W7.fr (fun _ _ _ h => h) (fun b o hb hz => by have h1 := hz.1; omega)
    have k0 : Rd H7 H5.size 0 (EJ.enc y) := W7.all
    refine ⟨trivial, ?_⟩
    refine Pl.fin [(3, _), (6, _), (7, _), (8, _), (10, _), (18, _), (19, _), (20, _), (21, _)] ⟨rfl, rfl, rfl, rfl, rfl, rfl, rfl, rfl, rfl, trivial⟩ ?_
    refine Go'.seq ?_
    -- region 6 (tree.go:22)
    refine Go'.region [(0, 0), (1, 2), (2, 2)] rfl ?_
    refine O.bld (cs := [.int .i64 0, .int .i64 0, .bool false]) rfl rfl rfl rfl (st68) rfl (by kernel_rfl) ?_
    refine O.alloc rfl rfl rfl Go.Proofs.Try.zeroValue68 ?_
    intro H8 M8
    refine ⟨trivial, ?_⟩
    have hs8 := M8.size
    replace hA := hA.fr (M8.fr nowhere) (fun _ _ _ _ => nw)
    replace mm0 := (M8.fr nowhere).keep mm0 nw
    replace hF35 := hF35.trans (M8.fr nowhere)
    replace k0 := (M8.fr nowhere).rd k0 (fun _ _ => nw)
    have m9 : Wr H8 H7.size 0 3 := M8.wr 3 (by decide)
    refine O.st (vs := (fvs none)) rfl rfl Go.Proofs.Try.sizeOf68 rfl rfl rfl rfl rfl m9 ?_
    intro Hq Wq
    have hsq := Wq.size
    replace hA := hA.fr Wq.fr (fun b o hb hb2 => nr (.inl (by have := hZ b hb2; omega)))
    replace mm0 := Wq.fr.keep mm0 (nr (.inl (by omega)))
    replace hF35 := hF35.trans' Wq.fr (fun _ _ _ h => h) (fun b o hb hz => by have h1 := hz.1; omega)
    replace k0 := Wq.fr.rd k0 (fun _ _ => nr (.inl (by omega)))
    replace m9 := Wq.fr.wr m9
    have r9 : Rd Hq H7.size 0 (fvs none) := Wq.all
    refine ⟨trivial, ?_⟩
    refine Pl.fin [(3, _), (6, _), (7, _), (8, _), (10, _), (11, _), (18, _), (19, _), (20, _), (21, _)] ⟨rfl, rfl, rfl, rfl, rfl, rfl, rfl, rfl, rfl, rfl, trivial⟩ ?_
    refine Go'.seq ?_
    refine Go'.seq ?_
    -- region 7 (tree.go:23)
    refine Go'.region [(0, 0), (1, 1), (2, 0), (3, 1), (4, 2), (5, 0), (6, 0), (7, 0), (8, 0), (9, 0)] rfl ?_
    refine O.faz rfl rfl rfl rfl ⟨_, _, _, Go.Proofs.Try.underlying24, rfl, rfl, Go.Proofs.Try.sizeOf22⟩ rfl ?_
    refine O.ld rfl rfl rfl (fun w => ⟨Go.Proofs.Try.isAgg22 w, Go.Proofs.Try.sizeOf22 w⟩) rfl mm0 ?_
    refine O.mv rfl rfl rfl rfl rfl ?_
    refine O.lds rfl rfl rfl (fun w => ⟨Go.Proofs.Try.isAgg27 w, Go.Proofs.Try.sizeOf27 w⟩) rfl rfl k0 ?_
    refine O.call rfl rfl rfl Go.Proofs.Try.call143 rfl (place_spec (x := y) ((ho.fr hF).fr hF35) (by omega) (hM.fr hF35) hsrt (by omega)) ?_
    rintro _ H9 ⟨rfl, hF9⟩
    have hs9 := hF9.size
    replace hA := hA.fr hF9 (fun _ _ _ _ => nw)
    replace mm0 := hF9.keep mm0 nw
    replace hF35 := hF35.trans hF9
    replace r9 := hF9.rd r9 (fun _ _ => nw)
    replace m9 := hF9.wr m9
    refine ⟨trivial, ?_⟩
    refine O.mv rfl rfl rfl rfl rfl ?_
    refine O.ext rfl rfl rfl rfl rfl rfl ?_
    refine O.ext rfl rfl rfl rfl rfl rfl ?_
    refine O.asg rfl rfl rfl rfl rfl ?_
    refine O.asg rfl rfl rfl rfl rfl ?_
    refine Pl.fin [(3, _), (6, _), (7, _), (8, _), (10, _), (11, _), (12, _), (13, _), (18, _), (19, _), (20, _), (21, _)] ⟨rfl, rfl, rfl, rfl, rfl, rfl, rfl, rfl, rfl, rfl, rfl, rfl, trivial⟩ ?_
    refine Go'.seq ?_
    -- region 8 (tree.go:23)
    refine Go'.region [(0, 0)] rfl ?_
    refine O.mv rfl rfl rfl rfl rfl ?_
    refine Pl.fin [(3, _), (6, _), (7, _), (8, _), (10, _), (11, _), (12, _), (13, _), (18, _), (19, _), (20, _), (21, _), (33, _)] ⟨rfl, rfl, rfl, rfl, rfl, rfl, rfl, rfl, rfl, rfl, rfl, rfl, rfl, trivial⟩ ?_
    cases hfd : Pl.fnd (OO ord) y (Pl.puts (OO ord) l)
    · skip
      refine Go'.condF rfl ?_
      refine Go'.skip ?_
      have hg : (Pl.got (OO ord) y (Pl.puts (OO ord) l)) = none := Pl.got_none _ hfd
      rw [← hg] at r9
      -- region 10 (tree.go:26)
      refine Go'.region [(0, 0), (1, 1), (2, 2), (3, 2), (4, 0)] rfl ?_
      refine O.mv rfl rfl rfl rfl rfl ?_
      refine O.lds rfl rfl rfl (fun w => ⟨Go.Proofs.Try.isAgg68 w, Go.Proofs.Try.sizeOf68 w⟩) rfl (fvs_len _) r9 ?_
      refine O.bsl (cs := (fvs (Pl.got (OO ord) y (Pl.puts (OO ord) l)))) rfl rfl rfl ⟨Go.Proofs.Try.underlying64, Go.Proofs.Try.sizeOf68, Go.Proofs.Try.zeroValue68, ⟨_, Go.Proofs.Try.typeInfo68, rfl⟩, rfl, by decide, by decide⟩ rfl (by decide) (by generalize (Pl.got (OO ord) y (Pl.puts (OO ord) l)) = o; cases o <;> kernel_rfl) ?_
      intro H12 M12
      have hs12 := M12.size
      replace hA := hA.fr (M12.fr nowhere) (fun _ _ _ _ => nw)
      replace mm0 := (M12.fr nowhere).keep mm0 nw
      replace hF35 := hF35.trans (M12.fr nowhere)
      have m5 : Rd H12 H9.size 0 (row EF [(Pl.got (OO ord) y (Pl.puts (OO ord) l))]) := M12.rd _ [] (by simp [row, EF])
      refine ⟨trivial, ?_⟩
      refine O.appA (E := EF) (Y := [(Pl.got (OO ord) y (Pl.puts (OO ord) l))]) rfl rfl rfl ⟨Go.Proofs.Try.underlying64, Go.Proofs.Try.sizeOf68, Go.Proofs.Try.zeroValue68, ⟨_, Go.Proofs.Try.typeInfo68, rfl⟩, rfl, by decide, by decide⟩ rfl hA rfl ⟨_, _, _, rfl, m5⟩ (Nat.succ_pos _) (by rw [hlo]; exact Nat.le_trans (Nat.mul_le_mul_left _ (Nat.le_of_ble_eq_true (n := _) (m := 4096) rfl)) (by simp only [List.length_cons, List.length_nil]; omega)) (by rw [hlo]; simp only [List.length_cons, List.length_nil]; omega) ?_
      intro v8 H13 hA13 hF13 hs13
      have hss13 := hF13.size
      rw [← eout] at hA13
      refine ⟨trivial, ?_⟩
      refine O.asg rfl rfl rfl rfl rfl ?_
      refine Pl.fin [(3, _), (6, _), (7, _), (8, _), (10, _), (11, _), (12, _), (13, _), (18, _), (19, _), (20, _), (21, _), (33, _)] ⟨rfl, rfl, rfl, rfl, rfl, rfl, rfl, rfl, rfl, rfl, rfl, rfl, rfl, trivial⟩ ?_
      refine Go'.inBlock ?_
      -- region 11 (tree.go:21)
      refine Go'.region [(0, 0), (1, 0)] rfl ?_
      refine O.add (((j + 1 : Nat) : Int)) rfl rfl rfl rfl rfl rfl (by omega) (by omega) ?_
      refine O.mv rfl rfl rfl rfl rfl ?_
      refine Pl.fin [(3, _), (6, _), (7, _), (8, _), (10, _), (11, _), (12, _), (13, _), (18, _), (19, _), (20, _), (21, _), (33, _)] ⟨rfl, rfl, rfl, rfl, rfl, rfl, rfl, rfl, rfl, rfl, rfl, rfl, rfl, trivial⟩ ?_
      refine Go'.keep [(3, _), (6, _), (7, _), (8, _), (18, _), (19, _), (20, _)] ⟨rfl, rfl, rfl, rfl, rfl, rfl, rfl, trivial⟩ ?_
      refine Go'.inLoop ?_
      exact ih (j + 1, v8) H13 ⟨hlt, hF35.trans' hF13 (fun _ _ _ h => h) (fun b o hb hz => by have h1 := (hZ b hz).1; omega), fun b => Zo b ∨ (b = H12.size ∧ b < H13.size), hA13, fun b hb => hb.elim (fun h => ⟨(hZ b h).1, by have := (hZ b h).2; omega⟩) (fun h => ⟨by omega, h.2⟩)⟩ (by simp only; omega)
    · skip
      refine Go'.condT rfl ?_
      have hg : (Pl.got (OO ord) y (Pl.puts (OO ord) l)) = ath (Pl.puts (OO ord) l) ((Pl.pos (OO ord) y (Pl.puts (OO ord) l) : Nat) : Int) := by rw [Pl.got_some _ hfd, ath_nat]
      -- region 9 (tree.go:24)
      refine Go'.region [(0, 0), (1, 0), (2, 2), (3, 2)] rfl ?_
      refine O.mv rfl rfl rfl rfl rfl ?_
      refine O.mv rfl rfl rfl rfl rfl ?_
      refine O.call rfl rfl rfl Go.Proofs.Try.call136 rfl (at_spec ((Pl.pos (OO ord) y (Pl.puts (OO ord) l) : Nat) : Int) (hM.fr hF35) (by omega)) ?_
      rintro _ H10 ⟨rfl, hF10⟩
      have hs10 := hF10.size
      replace hA := hA.fr hF10 (fun _ _ _ _ => nw)
      replace mm0 := hF10.keep mm0 nw
      replace hF35 := hF35.trans hF10
      replace m9 := hF10.wr m9
      rw [← hg, FVe]
      refine ⟨trivial, ?_⟩
      refine O.st (vs := (fvs (Pl.got (OO ord) y (Pl.puts (OO ord) l)))) rfl rfl Go.Proofs.Try.sizeOf68 rfl rfl rfl (fvs_len _) (fvs_ones _) m9 ?_
      intro H11 W11
      have hs11 := W11.size
      replace hA := hA.fr W11.fr (fun b o hb hb2 => nr (.inl (by have := hZ b hb2; omega)))
      replace mm0 := W11.fr.keep mm0 (nr (.inl (by omega)))
      replace hF35 := hF35.trans' W11.fr (fun _ _ _ h => h) (fun b o hb hz => by have h1 := hz.1; omega)
      have r11 : Rd H11 H7.size 0 (fvs (Pl.got (OO ord) y (Pl.puts (OO ord) l))) := W11.all
      refine ⟨trivial, ?_⟩
      refine Pl.fin [(3, _), (6, _), (7, _), (8, _), (10, _), (11, _), (12, _), (13, _), (18, _), (19, _), (20, _), (21, _), (33, _)] ⟨rfl, rfl, rfl, rfl, rfl, rfl, rfl, rfl, rfl, rfl, rfl, rfl, rfl, trivial⟩ ?_
      -- region 10 (tree.go:26)
      refine Go'.region [(0, 0), (1, 1), (2, 2), (3, 2), (4, 0)] rfl ?_
      refine O.mv rfl rfl rfl rfl rfl ?_
      refine O.lds rfl rfl rfl (fun w => ⟨Go.Proofs.Try.isAgg68 w, Go.Proofs.Try.sizeOf68 w⟩) rfl (fvs_len _) r11 ?_
      refine O.bsl (cs := (fvs (Pl.got (OO ord) y (Pl.puts (OO ord) l)))) rfl rfl rfl ⟨Go.Proofs.Try.underlying64, Go.Proofs.Try.sizeOf68, Go.Proofs.Try.zeroValue68, ⟨_, Go.Proofs.Try.typeInfo68, rfl⟩, rfl, by decide, by decide⟩ rfl (by decide) (by generalize (Pl.got (OO ord) y (Pl.puts (OO ord) l)) = o; cases o <;> kernel_rfl) ?_
      intro H12 M12
      have hs12 := M12.size
      replace hA := hA.fr (M12.fr nowhere) (fun _ _ _ _ => nw)
      replace mm0 := (M12.fr nowhere).keep mm0 nw
      replace hF35 := hF35.trans (M12.fr nowhere)
      have m5 : Rd H12 H11.size 0 (row EF [(Pl.got (OO ord) y (Pl.puts (OO ord) l))]) := M12.rd _ [] (by simp [row, EF])
      refine ⟨trivial, ?_⟩
      refine O.appA (E := EF) (Y := [(Pl.got (OO ord) y (Pl.puts (OO ord) l))]) rfl rfl rfl ⟨Go.Proofs.Try.underlying64, Go.Proofs.Try.sizeOf68, Go.Proofs.Try.zeroValue68, ⟨_, Go.Proofs.Try.typeInfo68, rfl⟩, rfl, by decide, by decide⟩ rfl hA rfl ⟨_, _, _, rfl, m5⟩ (Nat.succ_pos _) (by rw [hlo]; exact Nat.le_trans (Nat.mul_le_mul_left _ (Nat.le_of_ble_eq_true (n := _) (m := 4096) rfl)) (by simp only [List.length_cons, List.length_nil]; omega)) (by rw [hlo]; simp only [List.length_cons, List.length_nil]; omega) ?_
      intro v8 H13 hA13 hF13 hs13
      have hss13 := hF13.size
      rw [← eout] at hA13
      refine ⟨trivial, ?_⟩
      refine O.asg rfl rfl rfl rfl rfl ?_
      refine Pl.fin [(3, _), (6, _), (7, _), (8, _), (10, _), (11, _), (12, _), (13, _), (18, _), (19, _), (20, _), (21, _), (33, _)] ⟨rfl, rfl, rfl, rfl, rfl, rfl, rfl, rfl, rfl, rfl, rfl, rfl, rfl, trivial⟩ ?_
      refine Go'.inBlock ?_
      -- region 11 (tree.go:21)
      refine Go'.region [(0, 0), (1, 0)] rfl ?_
      refine O.add (((j + 1 : Nat) : Int)) rfl rfl rfl rfl rfl rfl (by omega) (by omega) ?_
      refine O.mv rfl rfl rfl rfl rfl ?_
      refine Pl.fin [(3, _), (6, _), (7, _), (8, _), (10, _), (11, _), (12, _), (13, _), (18, _), (19, _), (20, _), (21, _), (33, _)] ⟨rfl, rfl, rfl, rfl, rfl, rfl, rfl, rfl, rfl, rfl, rfl, rfl, rfl, trivial⟩ ?_
      refine Go'.keep [(3, _), (6, _), (7, _), (8, _), (18, _), (19, _), (20, _)] ⟨rfl, rfl, rfl, rfl, rfl, rfl, rfl, trivial⟩ ?_
      refine Go'.inLoop ?_
      exact ih (j + 1, v8) H13 ⟨hlt, hF35.trans' hF13 (fun _ _ _ h => h) (fun b o hb hz => by have h1 := (hZ b hz).1; omega), fun b => Zo b ∨ (b = H12.size ∧ b < H13.size), hA13, fun b hb => hb.elim (fun h => ⟨(hZ b h).1, by have := (hZ b h).2; omega⟩) (fun h => ⟨by omega, h.2⟩)⟩ (by simp only; omega)
  · skip
    have ejl : j = ks.length := by omega
    have eall : (ks.map (fun k => Pl.got (OO ord) k (Pl.puts (OO ord) l))).take j = (ks.map (fun k => Pl.got (OO ord) k (Pl.puts (OO ord) l))) := by rw [ejl]; exact List.take_of_length_le (by rw [List.length_map]; exact Nat.le_refl _)
    rw [eall] at hA
    -- region 4 (tree.go:21)
    refine Go'.region [(0, 0)] rfl ?_
    refine O.cmp rfl rfl rfl rfl rfl rfl (lssF (by omega)) ?_
    refine Pl.fin [(3, _), (6, _), (7, _), (8, _), (18, _), (19, _), (20, _), (21, _)] ⟨rfl, rfl, rfl, rfl, rfl, rfl, rfl, rfl, trivial⟩ ?_
    refine Go'.seq ?_
    refine Go'.condF rfl ?_
    refine Go'.exit rfl ?_
    refine Go'.seq ?_
    -- region 12 (tree.go:28)
    refine Go'.region [(0, 0), (1, 0)] rfl ?_
    refine O.mv rfl rfl rfl rfl rfl ?_
    refine O.asg rfl rfl rfl rfl rfl ?_
    refine Pl.fin [(6, _)] ⟨rfl, trivial⟩ ?_
    refine Go'.ret (vs := [_]) Go.Proofs.Try.func88 Go.Proofs.Try.results88 ⟨rfl, trivial⟩ ?_
    exact ⟨hA.out, hF2⟩

theorem lawGGetHint_spec {B : World} {H : Mem} {d : Nat} {nl : Bool} {v u : Value} {ord : List Int} {l : List (Int × Int)} {va : Value} {ks : List (Int × Int)} (hd : d = 0 ∨ 2 ≤ d ∧ d ≤ 128) (ho : InS EN H v ord) (hol : ord.length ≤ 4294967296) (hi : InS EJ H u l) (hll : l.length ≤ 4294967296) (ha : InS EJ H va ks) (hal : ks.length ≤ 4294967296) :
    Fn Try.prog B 39 [.agg #[v, .int .i64 (d : Int), .bool nl], u, va] H (fun r H' => r = .bool true ∧ Fr nowhere H H') := by
  obtain ⟨a, c, hu⟩ := hi.len
  subst hu
  obtain ⟨av, mv, cv, hv⟩ := InS.form ho
  subst hv
  have hF : Fr nowhere H H := Fr.refl _ _
  have hP := PD_ok hd
  refine fn_of Go.Proofs.Try.func39 rfl Go.Proofs.Try.ntmps39 ?_
  refine (show Go' _ _ _ _ 20 [(0, _), (1, _), (2, _)] [.code _] _ from ?_)
  refine Go'.seq ?_
  -- region 0 (exact.go:90)
  refine Go'.region [(0, 2), (1, 0)] rfl ?_
  refine O.box rfl rfl rfl rfl ?_
  intro B1 MB1
  refine ⟨trivial, ?_⟩
  have hsB1 := MB1.size
  replace hF := hF.trans (MB1.fr nowhere)
  have mm : Rd B1 H.size 0 [.slice av mv cv, .int .i64 (d : Int), .bool nl] := MB1.rd _ [] (by simp [Value.cells])
  have mm0 : cl B1 H.size 0 = some (.slice av mv cv) := mm 0 _ rfl
  have mm1 : cl B1 H.size (0 + 1) = some (.int .i64 (d : Int)) := mm 1 _ rfl
  refine O.asg rfl rfl rfl rfl rfl ?_
  refine Pl.fin [(1, _), (2, _), (3, _), (6, _)] ⟨rfl, rfl, rfl, rfl, trivial⟩ ?_
  refine Go'.seq ?_
  -- region 1 (exact.go:91)
  refine Go'.region [(0, 1), (1, 0), (2, 0), (3, 2), (4, 0)] rfl ?_
  refine O.lds rfl rfl rfl (fun w => ⟨Go.Proofs.Try.isAgg24 w, Go.Proofs.Try.sizeOf24 w⟩) rfl rfl mm ?_
  refine O.mv rfl rfl rfl rfl rfl ?_
  refine O.mv rfl rfl rfl rfl rfl ?_
  refine O.call rfl rfl rfl Go.Proofs.Try.call87 rfl (iggethint_spec hd (ho.fr hF) hol (hi.fr hF) hll (ha.fr hF) hal) ?_
  rintro v1 H3 ⟨h1, hF3⟩
  replace hF := hF.trans hF3
  replace mm := hF3.rd mm (fun _ _ => nw)
  replace mm0 := hF3.keep mm0 nw
  replace mm1 := hF3.keep mm1 nw
  refine ⟨trivial, ?_⟩
  refine O.asg rfl rfl rfl rfl rfl ?_
  refine Pl.fin [(1, _), (2, _), (3, _), (6, _), (7, _)] ⟨rfl, rfl, rfl, rfl, rfl, trivial⟩ ?_
  refine Go'.seq ?_
  -- region 2 (exact.go:92)
  refine Go'.region [(0, 1), (1, 0), (2, 0), (3, 2), (4, 0)] rfl ?_
  refine O.lds rfl rfl rfl (fun w => ⟨Go.Proofs.Try.isAgg24 w, Go.Proofs.Try.sizeOf24 w⟩) rfl rfl mm ?_
  refine O.mv rfl rfl rfl rfl rfl ?_
  refine O.mv rfl rfl rfl rfl rfl ?_
  refine O.call rfl rfl rfl Go.Proofs.Try.call88 rfl (sgget_spec (ho.fr hF) hol (hi.fr hF) hll (ha.fr hF) hal) ?_
  rintro v2 H4 ⟨h2, hF4⟩
  replace hF := hF.trans hF4
  replace mm := hF4.rd mm (fun _ _ => nw)
  replace mm0 := hF4.keep mm0 nw
  replace mm1 := hF4.keep mm1 nw
  refine ⟨trivial, ?_⟩
  refine O.asg rfl rfl rfl rfl rfl ?_
  refine Pl.fin [(6, _), (7, _), (8, _)] ⟨rfl, rfl, rfl, trivial⟩ ?_
  refine Go'.seq ?_
  -- region 3 (exact.go:93)
  refine Go'.region [(0, 0), (1, 0), (2, 2), (3, 0)] rfl ?_
  refine O.mv rfl rfl rfl rfl rfl ?_
  refine O.mv rfl rfl rfl rfl rfl ?_
  refine O.callQ rfl rfl rfl Go.Proofs.Try.call83 rfl (eqFounds_spec (h1.inS.fr hF4) h2.inS (by rw [List.length_map]; exact hal)) trivial ?_
  refine O.asg rfl rfl rfl rfl rfl ?_
  refine Pl.fin [(6, _)] ⟨rfl, trivial⟩ ?_
  refine Go'.ret (vs := [_]) Go.Proofs.Try.func39 Go.Proofs.Try.results39 ⟨rfl, trivial⟩ ?_
  exact ⟨rfl, hF⟩

theorem fnExactGGetHint {B : World} {H : Mem} {z : Int} {nl : Bool} {v u : Value} {ord : List Int} {l : List (Int × Int)} {va : Value} {ks : List (Int × Int)} (ho : InS EN H v ord) (hi : InS EJ H u l) (ha : InS EJ H va ks) :
    Fn Try.prog B 10 [.agg #[v, .int .i64 z, .bool nl], u, va] H (fun r H' => r = .bool true ∧ Fr nowhere H H') := by
  obtain ⟨a, c, hu⟩ := hi.len
  subst hu
  obtain ⟨av, mv, cv, hv⟩ := InS.form ho
  subst hv
  obtain ⟨aa, ca, ha0⟩ := ha.len
  subst ha0
  have hF : Fr nowhere H H := Fr.refl _ _
  refine fn_of Go.Proofs.Try.func10 rfl Go.Proofs.Try.ntmps10 ?_
  refine (show Go' _ _ _ _ 36 [(0, _), (1, _), (2, _)] [.code _] _ from ?_)
  refine Go'.seq ?_
  -- region 0 (exact.go:83)
  refine Go'.region [(0, 2), (1, 0)] rfl ?_
  refine O.box rfl rfl rfl rfl ?_
  intro B1 MB1
  refine ⟨trivial, ?_⟩
  have hsB1 := MB1.size
  replace hF := hF.trans (MB1.fr nowhere)
  have mm : Rd B1 H.size 0 [.slice av mv cv, .int .i64 z, .bool nl] := MB1.rd _ [] (by simp [Value.cells])
  have mm0 : cl B1 H.size 0 = some (.slice av mv cv) := mm 0 _ rfl
  have mm1 : cl B1 H.size (0 + 1) = some (.int .i64 z) := mm 1 _ rfl
  refine O.asg rfl rfl rfl rfl rfl ?_
  refine Pl.fin [(1, _), (2, _), (3, _), (6, _)] ⟨rfl, rfl, rfl, rfl, trivial⟩ ?_
  refine Go'.seq ?_
  refine Go'.seq ?_
  cases hoz : decide (ord.length ≤ 2147483647)
  · skip
    -- region 1 (exact.go:84)
    refine Go'.region [(0, 1), (1, 2), (2, 0), (3, 0), (4, 0), (5, 0), (6, 0), (7, 0), (8, 0), (9, 0), (10, 0), (11, 0), (12, 0)] rfl ?_
    refine O.lds rfl rfl rfl (fun w => ⟨Go.Proofs.Try.isAgg24 w, Go.Proofs.Try.sizeOf24 w⟩) rfl rfl mm ?_
    refine O.call rfl rfl rfl Go.Proofs.Try.call23 rfl (zzFits1_spec (ho.fr hF) hoz) ?_
    rintro _ H1 ⟨rfl, hF1⟩
    replace hF := hF.trans hF1
    replace mm := hF1.rd mm (fun _ _ => nw)
    replace mm0 := hF1.keep mm0 nw
    replace mm1 := hF1.keep mm1 nw
    refine ⟨trivial, ?_⟩
    refine O.not rfl rfl rfl rfl rfl ?_
    refine O.mv rfl rfl rfl rfl rfl ?_
    refine Pl.pass rfl rfl rfl rfl ?_
    refine Pl.pass rfl rfl rfl rfl ?_
    refine Pl.pass rfl rfl rfl rfl ?_
    refine O.pick rfl rfl rfl rfl rfl rfl ?_
    refine O.mv rfl rfl rfl rfl rfl ?_
    refine Pl.pass rfl rfl rfl rfl ?_
    refine Pl.pass rfl rfl rfl rfl ?_
    refine Pl.pass rfl rfl rfl rfl ?_
    refine O.pick rfl rfl rfl rfl rfl rfl ?_
    refine Pl.fin [(1, _), (2, _), (3, _), (6, _), (19, _)] ⟨rfl, rfl, rfl, rfl, rfl, trivial⟩ ?_
    refine Go'.condT rfl ?_
    refine Go'.seq ?_
    -- region 2 (exact.go:85)
    refine Go'.region [(0, 0)] rfl ?_
    refine O.asg rfl rfl rfl rfl rfl ?_
    refine Pl.fin [(1, _), (2, _), (3, _), (6, _)] ⟨rfl, rfl, rfl, rfl, trivial⟩ ?_
    refine Go'.ret (vs := [_]) Go.Proofs.Try.func10 Go.Proofs.Try.results10 ⟨rfl, trivial⟩ ?_
    exact ⟨rfl, hF⟩
  · skip
    have hoz2 := of_decide_eq_true hoz
    by_cases hb_lenl : (2147483647 : Int) < (l.length : Int)
    · skip
      -- region 1 (exact.go:84)
      refine Go'.region [(0, 1), (1, 2), (2, 0), (3, 0), (4, 0), (5, 0), (6, 0), (7, 0), (8, 0), (9, 0), (10, 0), (11, 0), (12, 0)] rfl ?_
      refine O.lds rfl rfl rfl (fun w => ⟨Go.Proofs.Try.isAgg24 w, Go.Proofs.Try.sizeOf24 w⟩) rfl rfl mm ?_
      refine O.call rfl rfl rfl Go.Proofs.Try.call23 rfl (zzFits1_spec (ho.fr hF) hoz) ?_
      rintro _ H1 ⟨rfl, hF1⟩
      replace hF := hF.trans hF1
      replace mm := hF1.rd mm (fun _ _ => nw)
      replace mm0 := hF1.keep mm0 nw
      replace mm1 := hF1.keep mm1 nw
      refine ⟨trivial, ?_⟩
      refine O.not rfl rfl rfl rfl rfl ?_
      refine O.mv rfl rfl rfl rfl rfl ?_
      refine O.mv rfl rfl rfl rfl rfl ?_
      refine O.len rfl rfl rfl rfl Go.Proofs.Try.underlying25 rfl ?_
      refine O.cmp rfl rfl rfl rfl rfl rfl (gtrT (by omega)) ?_
      refine O.pick rfl rfl rfl rfl rfl rfl ?_
      refine O.mv rfl rfl rfl rfl rfl ?_
      refine Pl.pass rfl rfl rfl rfl ?_
      refine Pl.pass rfl rfl rfl rfl ?_
      refine Pl.pass rfl rfl rfl rfl ?_
      refine O.pick rfl rfl rfl rfl rfl rfl ?_
      refine Pl.fin [(1, _), (2, _), (3, _), (6, _), (19, _)] ⟨rfl, rfl, rfl, rfl, rfl, trivial⟩ ?_
      refine Go'.condT rfl ?_
      refine Go'.seq ?_
      -- region 2 (exact.go:85)
      refine Go'.region [(0, 0)] rfl ?_
      refine O.asg rfl rfl rfl rfl rfl ?_
      refine Pl.fin [(1, _), (2, _), (3, _), (6, _)] ⟨rfl, rfl, rfl, rfl, trivial⟩ ?_
      refine Go'.ret (vs := [_]) Go.Proofs.Try.func10 Go.Proofs.Try.results10 ⟨rfl, trivial⟩ ?_
      exact ⟨rfl, hF⟩
    · skip
      by_cases hb_lenkeys : (2147483647 : Int) < (ks.length : Int)
      · skip
        -- region 1 (exact.go:84)
        refine Go'.region [(0, 1), (1, 2), (2, 0), (3, 0), (4, 0), (5, 0), (6, 0), (7, 0), (8, 0), (9, 0), (10, 0), (11, 0), (12, 0)] rfl ?_
        refine O.lds rfl rfl rfl (fun w => ⟨Go.Proofs.Try.isAgg24 w, Go.Proofs.Try.sizeOf24 w⟩) rfl rfl mm ?_
        refine O.call rfl rfl rfl Go.Proofs.Try.call23 rfl (zzFits1_spec (ho.fr hF) hoz) ?_
        rintro _ H1 ⟨rfl, hF1⟩
        replace hF := hF.trans hF1
        replace mm := hF1.rd mm (fun _ _ => nw)
        replace mm0 := hF1.keep mm0 nw
        replace mm1 := hF1.keep mm1 nw
        refine ⟨trivial, ?_⟩
        refine O.not rfl rfl rfl rfl rfl ?_
        refine O.mv rfl rfl rfl rfl rfl ?_
        refine O.mv rfl rfl rfl rfl rfl ?_
        refine O.len rfl rfl rfl rfl Go.Proofs.Try.underlying25 rfl ?_
        refine O.cmp rfl rfl rfl rfl rfl rfl (gtrF (by omega)) ?_
        refine O.pick rfl rfl rfl rfl rfl rfl ?_
        refine O.mv rfl rfl rfl rfl rfl ?_
        refine O.mv rfl rfl rfl rfl rfl ?_
        refine O.len rfl rfl rfl rfl Go.Proofs.Try.underlying25 rfl ?_
        refine O.cmp rfl rfl rfl rfl rfl rfl (gtrT (by omega)) ?_
        refine O.pick rfl rfl rfl rfl rfl rfl ?_
        refine Pl.fin [(1, _), (2, _), (3, _), (6, _), (19, _)] ⟨rfl, rfl, rfl, rfl, rfl, trivial⟩ ?_
        refine Go'.condT rfl ?_
        refine Go'.seq ?_
        -- region 2 (exact.go:85)
        refine Go'.region [(0, 0)] rfl ?_
        refine O.asg rfl rfl rfl rfl rfl ?_
        refine Pl.fin [(1, _), (2, _), (3, _), (6, _)] ⟨rfl, rfl, rfl, rfl, trivial⟩ ?_
        refine Go'.ret (vs := [_]) Go.Proofs.Try.func10 Go.Proofs.Try.results10 ⟨rfl, trivial⟩ ?_
        exact ⟨rfl, hF⟩
      · skip
        -- region 1 (exact.go:84)
        refine Go'.region [(0, 1), (1, 2), (2, 0), (3, 0), (4, 0), (5, 0), (6, 0), (7, 0), (8, 0), (9, 0), (10, 0), (11, 0), (12, 0)] rfl ?_
        refine O.lds rfl rfl rfl (fun w => ⟨Go.Proofs.Try.isAgg24 w, Go.Proofs.Try.sizeOf24 w⟩) rfl rfl mm ?_
        refine O.call rfl rfl rfl Go.Proofs.Try.call23 rfl (zzFits1_spec (ho.fr hF) hoz) ?_
        rintro _ H1 ⟨rfl, hF1⟩
        replace hF := hF.trans hF1
        replace mm := hF1.rd mm (fun _ _ => nw)
        replace mm0 := hF1.keep mm0 nw
        replace mm1 := hF1.keep mm1 nw
        refine ⟨trivial, ?_⟩
        refine O.not rfl rfl rfl rfl rfl ?_
        refine O.mv rfl rfl rfl rfl rfl ?_
        refine O.mv rfl rfl rfl rfl rfl ?_
        refine O.len rfl rfl rfl rfl Go.Proofs.Try.underlying25 rfl ?_
        refine O.cmp rfl rfl rfl rfl rfl rfl (gtrF (by omega)) ?_
        refine O.pick rfl rfl rfl rfl rfl rfl ?_
        refine O.mv rfl rfl rfl rfl rfl ?_
        refine O.mv rfl rfl rfl rfl rfl ?_
        refine O.len rfl rfl rfl rfl Go.Proofs.Try.underlying25 rfl ?_
        refine O.cmp rfl rfl rfl rfl rfl rfl (gtrF (by omega)) ?_
        refine O.pick rfl rfl rfl rfl rfl rfl ?_
        refine Pl.fin [(1, _), (2, _), (3, _), (6, _), (19, _)] ⟨rfl, rfl, rfl, rfl, rfl, trivial⟩ ?_
        refine Go'.condF rfl ?_
        refine Go'.skip ?_
        refine Go'.seq ?_
        cases hfz : fitsb z
        · skip
          -- region 3 (exact.go:87)
          refine Go'.region [(0, 2), (1, 2), (2, 2), (3, 2), (4, 0), (5, 0), (6, 1), (7, 2), (8, 0), (9, 0), (10, 1), (11, 0), (12, 0), (13, 2), (14, 0), (15, 0), (16, 0)] rfl ?_
          refine O.call rfl rfl rfl Go.Proofs.Try.call30 rfl exMake_spec ?_
          rintro _ H2 ⟨rfl, hF2⟩
          replace hF := hF.trans hF2
          replace mm := hF2.rd mm (fun _ _ => nw)
          replace mm0 := hF2.keep mm0 nw
          replace mm1 := hF2.keep mm1 nw
          refine ⟨trivial, ?_⟩
          refine O.call rfl rfl rfl Go.Proofs.Try.call32 rfl exItems_spec ?_
          rintro ev H3 ⟨hev, hF3⟩
          replace hF := hF.trans hF3
          replace mm := hF3.rd mm (fun _ _ => nw)
          replace mm0 := hF3.keep mm0 nw
          replace mm1 := hF3.keep mm1 nw
          refine ⟨trivial, ?_⟩
          refine O.call rfl rfl rfl Go.Proofs.Try.call40 rfl exKeys_spec ?_
          rintro pv H4 ⟨hpv, hF4⟩
          replace hF := hF.trans hF4
          replace mm := hF4.rd mm (fun _ _ => nw)
          replace mm0 := hF4.keep mm0 nw
          replace mm1 := hF4.keep mm1 nw
          replace hev := hev.fr hF4
          refine ⟨trivial, ?_⟩
          refine O.call rfl rfl rfl Go.Proofs.Try.call39 rfl (lawGGetHint_spec (d := 2) (by decide) (InS.nil EN _) (by decide) hev (by decide) hpv (by decide)) ?_
          rintro _ H5 ⟨rfl, hF5⟩
          replace hF := hF.trans hF5
          replace mm := hF5.rd mm (fun _ _ => nw)
          replace mm0 := hF5.keep mm0 nw
          replace mm1 := hF5.keep mm1 nw
          refine ⟨trivial, ?_⟩
          refine O.mv rfl rfl rfl rfl rfl ?_
          refine O.fa0 (off := 1) rfl rfl rfl rfl ⟨_, _, _, Go.Proofs.Try.underlying24, rfl, rfl, Go.Proofs.Try.sizeOf3⟩ rfl ?_
          refine O.ld rfl rfl rfl (fun w => ⟨Go.Proofs.Try.isAgg3 w, Go.Proofs.Try.sizeOf3 w⟩) rfl mm1 ?_
          refine O.callQ rfl rfl rfl Go.Proofs.Try.call33 rfl (fits_spec' hfz) trivial ?_
          refine O.not rfl rfl rfl rfl rfl ?_
          refine O.mv rfl rfl rfl rfl rfl ?_
          refine Pl.pass rfl rfl rfl rfl ?_
          refine Pl.pass rfl rfl rfl rfl ?_
          refine Pl.pass rfl rfl rfl rfl ?_
          refine Pl.pass2 rfl rfl rfl rfl trivial ?_
          refine O.pick rfl rfl rfl rfl rfl rfl ?_
          refine O.pick rfl rfl rfl rfl rfl rfl ?_
          refine O.asg rfl rfl rfl rfl rfl ?_
          refine Pl.fin [(6, _)] ⟨rfl, trivial⟩ ?_
          refine Go'.ret (vs := [_]) Go.Proofs.Try.func10 Go.Proofs.Try.results10 ⟨rfl, trivial⟩ ?_
          exact ⟨rfl, hF⟩
        · skip
          obtain ⟨d, rfl, hd⟩ := fitsb_nat hfz
          -- region 3 (exact.go:87)
          refine Go'.region [(0, 2), (1, 2), (2, 2), (3, 2), (4, 0), (5, 0), (6, 1), (7, 2), (8, 0), (9, 0), (10, 1), (11, 0), (12, 0), (13, 2), (14, 0), (15, 0), (16, 0)] rfl ?_
          refine O.call rfl rfl rfl Go.Proofs.Try.call30 rfl exMake_spec ?_
          rintro _ H2 ⟨rfl, hF2⟩
          replace hF := hF.trans hF2
          replace mm := hF2.rd mm (fun _ _ => nw)
          replace mm0 := hF2.keep mm0 nw
          replace mm1 := hF2.keep mm1 nw
          refine ⟨trivial, ?_⟩
          refine O.call rfl rfl rfl Go.Proofs.Try.call32 rfl exItems_spec ?_
          rintro ev H3 ⟨hev, hF3⟩
          replace hF := hF.trans hF3
          replace mm := hF3.rd mm (fun _ _ => nw)
          replace mm0 := hF3.keep mm0 nw
          replace mm1 := hF3.keep mm1 nw
          refine ⟨trivial, ?_⟩
          refine O.call rfl rfl rfl Go.Proofs.Try.call40 rfl exKeys_spec ?_
          rintro pv H4 ⟨hpv, hF4⟩
          replace hF := hF.trans hF4
          replace mm := hF4.rd mm (fun _ _ => nw)
          replace mm0 := hF4.keep mm0 nw
          replace mm1 := hF4.keep mm1 nw
          replace hev := hev.fr hF4
          refine ⟨trivial, ?_⟩
          refine O.call rfl rfl rfl Go.Proofs.Try.call39 rfl (lawGGetHint_spec (d := 2) (by decide) (InS.nil EN _) (by decide) hev (by decide) hpv (by decide)) ?_
          rintro _ H5 ⟨rfl, hF5⟩
          replace hF := hF.trans hF5
          replace mm := hF5.rd mm (fun _ _ => nw)
          replace mm0 := hF5.keep mm0 nw
          replace mm1 := hF5.keep mm1 nw
          refine ⟨trivial, ?_⟩
          refine O.mv rfl rfl rfl rfl rfl ?_
          refine O.fa0 (off := 1) rfl rfl rfl rfl ⟨_, _, _, Go.Proofs.Try.underlying24, rfl, rfl, Go.Proofs.Try.sizeOf3⟩ rfl ?_
          refine O.ld rfl rfl rfl (fun w => ⟨Go.Proofs.Try.isAgg3 w, Go.Proofs.Try.sizeOf3 w⟩) rfl mm1 ?_
          refine O.callQ rfl rfl rfl Go.Proofs.Try.call33 rfl (fits_spec' hfz) trivial ?_
          refine O.not rfl rfl rfl rfl rfl ?_
          refine O.mv rfl rfl rfl rfl rfl ?_
          refine O.lds rfl rfl rfl (fun w => ⟨Go.Proofs.Try.isAgg24 w, Go.Proofs.Try.sizeOf24 w⟩) rfl rfl mm ?_
          refine O.mv rfl rfl rfl rfl rfl ?_
          refine O.mv rfl rfl rfl rfl rfl ?_
          refine O.call rfl rfl rfl Go.Proofs.Try.call39 rfl (lawGGetHint_spec hd (ho.fr hF) (by omega) (hi.fr hF) (by omega) (ha.fr hF) (by omega)) ?_
          rintro _ H6 ⟨rfl, hF6⟩
          replace hF := hF.trans hF6
          replace mm := hF6.rd mm (fun _ _ => nw)
          replace mm0 := hF6.keep mm0 nw
          replace mm1 := hF6.keep mm1 nw
          refine ⟨trivial, ?_⟩
          refine O.pick rfl rfl rfl rfl rfl rfl ?_
          refine O.pick rfl rfl rfl rfl rfl rfl ?_
          refine O.asg rfl rfl rfl rfl rfl ?_
          refine Pl.fin [(6, _)] ⟨rfl, trivial⟩ ?_
          refine Go'.ret (vs := [_]) Go.Proofs.Try.func10 Go.Proofs.Try.results10 ⟨rfl, trivial⟩ ?_
          exact ⟨rfl, hF⟩

end Go.Bt.FG
