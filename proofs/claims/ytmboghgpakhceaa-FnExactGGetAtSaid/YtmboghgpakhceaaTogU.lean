/- Contracts of functions of the program, proved by walking through their code. Conditions: those that each theorem names. -/
import Derived.Test.YtmboghgpakhceaaTogR
namespace Go.Bt.FG
open Go Go.Proofs
set_option maxRecDepth 20000
set_option maxHeartbeats 4000000
set_option linter.unusedVariables false
set_option linter.unusedSectionVars false

theorem iggetat_spec {B : World} {H : Mem} {d : Nat} {nl : Bool} {v u : Value} {ord : List Int} {l : List (Int × Int)} {va : Value} {zs : List Int} (hd : d = 0 ∨ 2 ≤ d ∧ d ≤ 128) (ho : InS EN H v ord) (hol : ord.length ≤ 4294967296) (hi : InS EJ H u l) (hll : l.length ≤ 4294967296) (ha : InS EN H va zs) (hal : zs.length ≤ 4294967296) :
    Fn Try.prog B 81 [.agg #[v, .int .i64 (d : Int), .bool nl], u, va] H (fun r H' => OutS EF H' r (zs.map (ath (Pl.puts (OO ord) l))) ∧ Fr nowhere H H') := by
  obtain ⟨a, c, hu⟩ := hi.len
  subst hu
  obtain ⟨av, mv, cv, hv⟩ := InS.form ho
  subst hv
  have hF : Fr nowhere H H := Fr.refl _ _
  have hP := PD_ok hd
  obtain ⟨aa, ca, ha0⟩ := ha.len
  subst ha0
  refine fn_of Go.Proofs.Try.func81 rfl Go.Proofs.Try.ntmps81 ?_
  refine (show Go' _ _ _ _ 31 [(0, _), (1, _), (2, _)] [.code _] _ from ?_)
  refine Go'.seq ?_
  -- region 0 (treeg.go:115)
  refine Go'.region [(0, 2), (1, 0)] rfl ?_
  refine O.box rfl rfl rfl rfl ?_
  intro B1 MB1
  refine ⟨trivial, ?_⟩
  have hsB1 := MB1.size
  replace hF := hF.trans (MB1.fr nowhere)
  have mm : Rd B1 H.size 0 [.slice av mv cv, .int .i64 (d : Int), .bool nl] := MB1.rd _ [] (by simp [Value.cells])
  have mm0 : cl B1 H.size 0 = some (.slice av mv cv) := mm 0 _ rfl
  have mm1 : cl B1 H.size (0 + 1) = some (.int .i64 (d : Int)) := mm 1 _ rfl
  refine O.asg rfl rfl rfl rfl rfl ?_
  refine Pl.fin [(1, _), (2, _), (3, _), (6, _)] ⟨rfl, rfl, rfl, rfl, trivial⟩ ?_
  refine Go'.seq ?_
  -- region 1 (treeg.go:116)
  refine Go'.region [(0, 1), (1, 0), (2, 2), (3, 0)] rfl ?_
  refine O.lds rfl rfl rfl (fun w => ⟨Go.Proofs.Try.isAgg24 w, Go.Proofs.Try.sizeOf24 w⟩) rfl rfl mm ?_
  refine O.mv rfl rfl rfl rfl rfl ?_
  refine O.call rfl rfl rfl Go.Proofs.Try.call68 rfl (grow_spec hd (ho.fr hF) hol (hi.fr hF) hll) ?_
  rintro _ H3 ⟨I, hIo, hIw, hIb, tr, S, rfl, hM, hF3, hS⟩
  have hs3 := hF3.size
  replace hF := hF.trans hF3
  replace mm := hF3.rd mm (fun _ _ => nw)
  replace mm0 := hF3.keep mm0 nw
  replace mm1 := hF3.keep mm1 nw
  have hSb : ∀ b, S b ∨ (b < cx.base ∧ cx.own b) → B1.size ≤ b := fun b hb => hb.elim (hS b) (fun h => hIw b h.2)
  have hOO : OO ord = OI := by rw [← hIo]; rfl
  have hpl := Pl.puts_length OI l
  have hSlt := hM.lt
  have hbs := hM.tc.hb
  unfold ptr
  refine ⟨trivial, ?_⟩
  refine O.asg rfl rfl rfl rfl rfl ?_
  refine Pl.fin [(2, _), (6, _), (7, _)] ⟨rfl, rfl, rfl, trivial⟩ ?_
  refine Go'.seq ?_
  -- region 2 (treeg.go:117)
  refine Go'.region [(0, 0)] rfl ?_
  refine O.asg rfl rfl rfl rfl rfl ?_
  refine Pl.fin [(2, _), (6, _), (7, _), (8, _)] ⟨rfl, rfl, rfl, rfl, trivial⟩ ?_
  refine Go'.seq ?_
  refine Go'.seq ?_
  -- region 3 (treeg.go:118)
  refine Go'.region [(0, 0), (1, 0), (2, 0)] rfl ?_
  refine O.mv rfl rfl rfl rfl rfl ?_
  refine O.len rfl rfl rfl rfl Go.Proofs.Try.underlying22 rfl ?_
  refine O.mv rfl rfl rfl rfl rfl ?_
  refine Pl.fin [(6, _), (7, _), (8, _), (14, _), (15, _), (16, _)] ⟨rfl, rfl, rfl, rfl, rfl, rfl, trivial⟩ ?_
  refine Go'.block ?_
  refine Go'.loop ?_
  refine Go'.keep [(6, _), (7, _), (8, _), (14, _), (15, _), (16, _)] ⟨rfl, rfl, rfl, rfl, rfl, rfl, trivial⟩ ?_
  refine Go'.ind (σ := Nat × Value) (fun s => zs.length - s.1) (fun s H' => s.1 ≤ zs.length ∧ Fr nowhere H3 H' ∧ ∃ Zo, Acc EF Zo H' s.2 ((zs.map (ath (Pl.puts (OO ord) l))).take s.1) ∧ ∀ b, Zo b → H3.size ≤ b ∧ b < H'.size)
    (fun s => [(6, .slice none 0 0), (7, .pointer (some ⟨tr, 0, none⟩)), (8, s.2), (14, .slice aa zs.length ca), (15, .int .i64 (zs.length : Int)), (16, .int .i64 (s.1 : Int))]) (0, .slice none 0 0) ⟨Nat.zero_le _, Fr.refl _ _, fun _ => False, Acc.nil _ _ _, fun _ h => h.elim⟩ rfl ?_
  rintro ⟨j, sv⟩ H4 ⟨hjl, hF34, Zo, hA, hZ⟩ ih
  simp only at hjl hA
  have hF2 := hF.trans hF34
  have hsz4 := hF34.size
  have hM4 := hM
  replace hM4 := hM4.fr hF34 (fun _ _ _ => nw)
  refine Go'.seq ?_
  by_cases hlt : j < zs.length
  · skip
    obtain ⟨z, hz⟩ : ∃ z, zs[j]? = some z := ⟨zs[j], List.getElem?_eq_getElem hlt⟩
    obtain ⟨b, o, c', e, hr⟩ := (ha.fr hF2).at hz
    cases e
    have eout : (zs.map (ath (Pl.puts (OO ord) l))).take (j + 1) = (zs.map (ath (Pl.puts (OO ord) l))).take j ++ [ath (Pl.puts OI l) z] := by rw [List.take_add_one, List.getElem?_map, hz, hOO]; rfl
    have hlo : ((zs.map (ath (Pl.puts (OO ord) l))).take j).length = j := by rw [List.length_take, List.length_map]; omega
    -- region 4 (treeg.go:118)
    refine Go'.region [(0, 0)] rfl ?_
    refine O.cmp rfl rfl rfl rfl rfl rfl (lssT (by omega)) ?_
    refine Pl.fin [(6, _), (7, _), (8, _), (14, _), (15, _), (16, _), (17, _)] ⟨rfl, rfl, rfl, rfl, rfl, rfl, rfl, trivial⟩ ?_
    refine Go'.seq ?_
    refine Go'.condT rfl ?_
    refine Go'.skip ?_
    refine Go'.seq ?_
    refine Go'.block ?_
    refine Go'.seq ?_
    -- region 5 (treeg.go:118)
    refine Go'.region [(0, 0), (1, 1), (2, 0)] rfl ?_
    refine O.ix (j := j) rfl rfl rfl rfl Go.Proofs.Try.underlying22 Go.Proofs.Try.sizeOf3 rfl rfl (by omega) hlt ?_
    refine O.ld rfl rfl rfl (fun w => ⟨Go.Proofs.Try.isAgg3 w, Go.Proofs.Try.sizeOf3 w⟩) rfl (hr 0 _ rfl) ?_
    refine O.asg rfl rfl rfl rfl rfl ?_
    refine Pl.fin [(6, _), (7, _), (8, _), (10, _), (14, _), (15, _), (16, _), (17, _)] ⟨rfl, rfl, rfl, rfl, rfl, rfl, rfl, rfl, trivial⟩ ?_
    -- region 6 (treeg.go:119)
    refine Go'.region [(0, 0), (1, 0), (2, 0), (3, 2), (4, 0), (5, 0), (6, 2), (7, 2), (8, 2), (9, 0)] rfl ?_
    refine O.mv rfl rfl rfl rfl rfl ?_
    refine O.mv rfl rfl rfl rfl rfl ?_
    refine O.mv rfl rfl rfl rfl rfl ?_
    refine O.call rfl rfl rfl Go.Proofs.Try.call137 rfl (getat_spec hP hM4 z (by omega)) ?_
    rintro _ H5 ⟨rfl, hF5⟩
    have hshF5 := hF5.size
    replace hM4 := hM4.fr hF5 (fun _ _ _ => nw)
    replace hA := hA.fr hF5 (fun _ _ _ _ => nw)
    replace hF34 := hF34.trans hF5
    refine ⟨trivial, ?_⟩
    refine O.ext rfl rfl rfl rfl rfl rfl ?_
    refine O.ext rfl rfl rfl rfl rfl rfl ?_
    refine O.call rfl rfl rfl Go.Proofs.Try.call104 rfl ifound_spec ?_
    rintro _ H6 ⟨rfl, hF6⟩
    have hshF6 := hF6.size
    replace hM4 := hM4.fr hF6 (fun _ _ _ => nw)
    replace hA := hA.fr hF6 (fun _ _ _ _ => nw)
    replace hF34 := hF34.trans hF6
    rw [FVe]
    refine ⟨trivial, ?_⟩
    refine O.bsl (cs := (fvs (ath (Pl.puts OI l) z))) rfl rfl rfl ⟨Go.Proofs.Try.underlying64, Go.Proofs.Try.sizeOf68, Go.Proofs.Try.zeroValue68, ⟨_, Go.Proofs.Try.typeInfo68, rfl⟩, rfl, by decide, by decide⟩ rfl (by decide) (by generalize (ath (Pl.puts OI l) z) = o; cases o <;> kernel_rfl) ?_
    intro H7 M7
    have hs7 := M7.size
    replace hM4 := hM4.fr (M7.fr nowhere) (fun _ _ _ => nw)
    replace hA := hA.fr (M7.fr nowhere) (fun _ _ _ _ => nw)
    replace hF34 := hF34.trans (M7.fr nowhere)
    have m5 : Rd H7 H6.size 0 (row EF [(ath (Pl.puts OI l) z)]) := M7.rd _ [] (by simp [row, EF])
    refine ⟨trivial, ?_⟩
    refine O.appA (E := EF) (Y := [(ath (Pl.puts OI l) z)]) rfl rfl rfl ⟨Go.Proofs.Try.underlying64, Go.Proofs.Try.sizeOf68, Go.Proofs.Try.zeroValue68, ⟨_, Go.Proofs.Try.typeInfo68, rfl⟩, rfl, by decide, by decide⟩ rfl hA rfl ⟨_, _, _, rfl, m5⟩ (Nat.succ_pos _) (by rw [hlo]; exact Nat.le_trans (Nat.mul_le_mul_left _ (Nat.le_of_ble_eq_true (n := _) (m := 4096) rfl)) (by simp only [List.length_cons, List.length_nil]; omega)) (by rw [hlo]; simp only [List.length_cons, List.length_nil]; omega) ?_
    intro v8 H8 hA8 hF8 hs8
    have hs88 := hF8.size
    rw [← eout] at hA8
    refine ⟨trivial, ?_⟩
    refine O.asg rfl rfl rfl rfl rfl ?_
    refine Pl.fin [(6, _), (7, _), (8, _), (10, _), (14, _), (15, _), (16, _), (17, _)] ⟨rfl, rfl, rfl, rfl, rfl, rfl, rfl, rfl, trivial⟩ ?_
    refine Go'.inBlock ?_
    -- region 7 (treeg.go:118)
    refine Go'.region [(0, 0), (1, 0)] rfl ?_
    refine O.add (((j + 1 : Nat) : Int)) rfl rfl rfl rfl rfl rfl (by omega) (by omega) ?_
    refine O.mv rfl rfl rfl rfl rfl ?_
    refine Pl.fin [(6, _), (7, _), (8, _), (10, _), (14, _), (15, _), (16, _), (17, _)] ⟨rfl, rfl, rfl, rfl, rfl, rfl, rfl, rfl, trivial⟩ ?_
    refine Go'.keep [(6, _), (7, _), (8, _), (14, _), (15, _), (16, _)] ⟨rfl, rfl, rfl, rfl, rfl, rfl, trivial⟩ ?_
    refine Go'.inLoop ?_
    exact ih (j + 1, v8) H8 ⟨hlt, hF34.trans' hF8 (fun _ _ _ h => h) (fun b o hb hz => by have h1 := (hZ b hz).1; omega), fun b => Zo b ∨ (b = H7.size ∧ b < H8.size), hA8, fun b hb => hb.elim (fun h => ⟨(hZ b h).1, by have := (hZ b h).2; omega⟩) (fun h => ⟨by omega, h.2⟩)⟩ (by simp only; omega)
  · skip
    have ejl : j = zs.length := by omega
    have eall : (zs.map (ath (Pl.puts (OO ord) l))).take j = (zs.map (ath (Pl.puts (OO ord) l))) := by rw [ejl]; exact List.take_of_length_le (by rw [List.length_map]; exact Nat.le_refl _)
    rw [eall] at hA
    -- region 4 (treeg.go:118)
    refine Go'.region [(0, 0)] rfl ?_
    refine O.cmp rfl rfl rfl rfl rfl rfl (lssF (by omega)) ?_
    refine Pl.fin [(6, _), (7, _), (8, _), (14, _), (15, _), (16, _), (17, _)] ⟨rfl, rfl, rfl, rfl, rfl, rfl, rfl, trivial⟩ ?_
    refine Go'.seq ?_
    refine Go'.condF rfl ?_
    refine Go'.exit rfl ?_
    refine Go'.seq ?_
    -- region 8 (treeg.go:121)
    refine Go'.region [(0, 0), (1, 0)] rfl ?_
    refine O.mv rfl rfl rfl rfl rfl ?_
    refine O.asg rfl rfl rfl rfl rfl ?_
    refine Pl.fin [(6, _)] ⟨rfl, trivial⟩ ?_
    refine Go'.ret (vs := [_]) Go.Proofs.Try.func81 Go.Proofs.Try.results81 ⟨rfl, trivial⟩ ?_
    exact ⟨hA.out, hF2⟩

theorem sggetat_spec {B : World} {H : Mem} {zz : Int} {nl : Bool} {v u : Value} {ord : List Int} {l : List (Int × Int)} {va : Value} {zs : List Int} (ho : InS EN H v ord) (hol : ord.length ≤ 4294967296) (hi : InS EJ H u l) (hll : l.length ≤ 4294967296) (ha : InS EN H va zs) (hal : zs.length ≤ 4294967296) :
    Fn Try.prog B 82 [.agg #[v, .int .i64 zz, .bool nl], u, va] H (fun r H' => OutS EF H' r (zs.map (ath (Pl.puts (OO ord) l))) ∧ Fr nowhere H H') := by
  obtain ⟨a, c, hu⟩ := hi.len
  subst hu
  obtain ⟨av, mv, cv, hv⟩ := InS.form ho
  subst hv
  have hF : Fr nowhere H H := Fr.refl _ _
  obtain ⟨aa, ca, ha0⟩ := ha.len
  subst ha0
  refine fn_of Go.Proofs.Try.func82 rfl Go.Proofs.Try.ntmps82 ?_
  refine (show Go' _ _ _ _ 29 [(0, _), (1, _), (2, _)] [.code _] _ from ?_)
  refine Go'.seq ?_
  -- region 0 (tree.go:44)
  refine Go'.region [(0, 2), (1, 0)] rfl ?_
  refine O.box rfl rfl rfl rfl ?_
  intro B1 MB1
  refine ⟨trivial, ?_⟩
  have hsB1 := MB1.size
  replace hF := hF.trans (MB1.fr nowhere)
  have mm : Rd B1 H.size 0 [.slice av mv cv, .int .i64 zz, .bool nl] := MB1.rd _ [] (by simp [Value.cells])
  have mm0 : cl B1 H.size 0 = some (.slice av mv cv) := mm 0 _ rfl
  have mm1 : cl B1 H.size (0 + 1) = some (.int .i64 zz) := mm 1 _ rfl
  refine O.asg rfl rfl rfl rfl rfl ?_
  refine Pl.fin [(1, _), (2, _), (3, _), (6, _)] ⟨rfl, rfl, rfl, rfl, trivial⟩ ?_
  refine Go'.seq ?_
  -- region 1 (tree.go:45)
  refine Go'.region [(0, 0), (1, 1), (2, 0), (3, 2), (4, 0)] rfl ?_
  refine O.faz rfl rfl rfl rfl ⟨_, _, _, Go.Proofs.Try.underlying24, rfl, rfl, Go.Proofs.Try.sizeOf22⟩ rfl ?_
  refine O.ld rfl rfl rfl (fun w => ⟨Go.Proofs.Try.isAgg22 w, Go.Proofs.Try.sizeOf22 w⟩) rfl mm0 ?_
  refine O.mv rfl rfl rfl rfl rfl ?_
  refine O.call rfl rfl rfl Go.Proofs.Try.call42 rfl (tree_spec (ho.fr hF) (by omega) (hi.fr hF) hll) ?_
  rintro tv H3 ⟨hA4, hF3⟩
  have hs3 := hF3.size
  replace hF := hF.trans hF3
  replace mm := hF3.rd mm (fun _ _ => nw)
  replace mm0 := hF3.keep mm0 nw
  replace mm1 := hF3.keep mm1 nw
  have hM := hA4.inS
  have hpl := Pl.puts_length (OO ord) l
  obtain ⟨ta, tc, htv⟩ := hM.len
  subst htv
  refine ⟨trivial, ?_⟩
  refine O.asg rfl rfl rfl rfl rfl ?_
  refine Pl.fin [(2, _), (6, _), (7, _)] ⟨rfl, rfl, rfl, trivial⟩ ?_
  refine Go'.seq ?_
  -- region 2 (tree.go:46)
  refine Go'.region [(0, 0)] rfl ?_
  refine O.asg rfl rfl rfl rfl rfl ?_
  refine Pl.fin [(2, _), (6, _), (7, _), (8, _)] ⟨rfl, rfl, rfl, rfl, trivial⟩ ?_
  refine Go'.seq ?_
  refine Go'.seq ?_
  -- region 3 (tree.go:47)
  refine Go'.region [(0, 0), (1, 0), (2, 0)] rfl ?_
  refine O.mv rfl rfl rfl rfl rfl ?_
  refine O.len rfl rfl rfl rfl Go.Proofs.Try.underlying22 rfl ?_
  refine O.mv rfl rfl rfl rfl rfl ?_
  refine Pl.fin [(6, _), (7, _), (8, _), (15, _), (16, _), (17, _)] ⟨rfl, rfl, rfl, rfl, rfl, rfl, trivial⟩ ?_
  refine Go'.block ?_
  refine Go'.loop ?_
  refine Go'.keep [(6, _), (7, _), (8, _), (15, _), (16, _), (17, _)] ⟨rfl, rfl, rfl, rfl, rfl, rfl, trivial⟩ ?_
  refine Go'.ind (σ := Nat × Value) (fun s => zs.length - s.1) (fun s H' => s.1 ≤ zs.length ∧ Fr nowhere H3 H' ∧ ∃ Zo, Acc EF Zo H' s.2 ((zs.map (ath (Pl.puts (OO ord) l))).take s.1) ∧ ∀ b, Zo b → H3.size ≤ b ∧ b < H'.size)
    (fun s => [(6, .slice none 0 0), (7, .slice ta (Pl.puts (OO ord) l).length tc), (8, s.2), (15, .slice aa zs.length ca), (16, .int .i64 (zs.length : Int)), (17, .int .i64 (s.1 : Int))]) (0, .slice none 0 0) ⟨Nat.zero_le _, Fr.refl _ _, fun _ => False, Acc.nil _ _ _, fun _ h => h.elim⟩ rfl ?_
  rintro ⟨j, sv⟩ H4 ⟨hjl, hF34, Zo, hA, hZ⟩ ih
  simp only at hjl hA
  have hF2 := hF.trans hF34
  have hsz4 := hF34.size
  have hM4 := hM
  replace hM4 := hM4.fr hF34
  refine Go'.seq ?_
  by_cases hlt : j < zs.length
  · skip
    obtain ⟨z, hz⟩ : ∃ z, zs[j]? = some z := ⟨zs[j], List.getElem?_eq_getElem hlt⟩
    obtain ⟨b, o, c', e, hr⟩ := (ha.fr hF2).at hz
    cases e
    have eout : (zs.map (ath (Pl.puts (OO ord) l))).take (j + 1) = (zs.map (ath (Pl.puts (OO ord) l))).take j ++ [ath (Pl.puts (OO ord) l) z] := by rw [List.take_add_one, List.getElem?_map, hz]; rfl
    have hlo : ((zs.map (ath (Pl.puts (OO ord) l))).take j).length = j := by rw [List.length_take, List.length_map]; omega
    -- region 4 (tree.go:47)
    refine Go'.region [(0, 0)] rfl ?_
    refine O.cmp rfl rfl rfl rfl rfl rfl (lssT (by omega)) ?_
    refine Pl.fin [(6, _), (7, _), (8, _), (15, _), (16, _), (17, _), (18, _)] ⟨rfl, rfl, rfl, rfl, rfl, rfl, rfl, trivial⟩ ?_
    refine Go'.seq ?_
    refine Go'.condT rfl ?_
    refine Go'.skip ?_
    refine Go'.seq ?_
    refine Go'.block ?_
    refine Go'.seq ?_
    -- region 5 (tree.go:47)
    refine Go'.region [(0, 0), (1, 1), (2, 0)] rfl ?_
    refine O.ix (j := j) rfl rfl rfl rfl Go.Proofs.Try.underlying22 Go.Proofs.Try.sizeOf3 rfl rfl (by omega) hlt ?_
    refine O.ld rfl rfl rfl (fun w => ⟨Go.Proofs.Try.isAgg3 w, Go.Proofs.Try.sizeOf3 w⟩) rfl (hr 0 _ rfl) ?_
    refine O.asg rfl rfl rfl rfl rfl ?_
    refine Pl.fin [(6, _), (7, _), (8, _), (10, _), (15, _), (16, _), (17, _), (18, _)] ⟨rfl, rfl, rfl, rfl, rfl, rfl, rfl, rfl, trivial⟩ ?_
    -- region 6 (tree.go:48)
    refine Go'.region [(0, 0), (1, 0), (2, 0), (3, 2), (4, 2), (5, 2), (6, 0)] rfl ?_
    refine O.mv rfl rfl rfl rfl rfl ?_
    refine O.mv rfl rfl rfl rfl rfl ?_
    refine O.mv rfl rfl rfl rfl rfl ?_
    refine O.call rfl rfl rfl Go.Proofs.Try.call136 rfl (at_spec z hM4 (by omega)) ?_
    rintro _ H6 ⟨rfl, hF6⟩
    have hshF6 := hF6.size
    replace hM4 := hM4.fr hF6
    replace hA := hA.fr hF6 (fun _ _ _ _ => nw)
    replace hF34 := hF34.trans hF6
    rw [FVe]
    refine ⟨trivial, ?_⟩
    refine O.bsl (cs := (fvs (ath (Pl.puts (OO ord) l) z))) rfl rfl rfl ⟨Go.Proofs.Try.underlying64, Go.Proofs.Try.sizeOf68, Go.Proofs.Try.zeroValue68, ⟨_, Go.Proofs.Try.typeInfo68, rfl⟩, rfl, by decide, by decide⟩ rfl (by decide) (by generalize (ath (Pl.puts (OO ord) l) z) = o; cases o <;> kernel_rfl) ?_
    intro H7 M7
    have hs7 := M7.size
    replace hM4 := hM4.fr (M7.fr nowhere)
    replace hA := hA.fr (M7.fr nowhere) (fun _ _ _ _ => nw)
    replace hF34 := hF34.trans (M7.fr nowhere)
    have m5 : Rd H7 H6.size 0 (row EF [(ath (Pl.puts (OO ord) l) z)]) := M7.rd _ [] (by simp [row, EF])
    refine ⟨trivial, ?_⟩
    refine O.appA (E := EF) (Y := [(ath (Pl.puts (OO ord) l) z)]) rfl rfl rfl ⟨Go.Proofs.Try.underlying64, Go.Proofs.Try.sizeOf68, Go.Proofs.Try.zeroValue68, ⟨_, Go.Proofs.Try.typeInfo68, rfl⟩, rfl, by decide, by decide⟩ rfl hA rfl ⟨_, _, _, rfl, m5⟩ (Nat.succ_pos _) (by rw [hlo]; exact Nat.le_trans (Nat.mul_le_mul_left _ (Nat.le_of_ble_eq_true (n := _) (m := 4096) rfl)) (by simp only [List.length_cons, List.length_nil]; omega)) (by rw [hlo]; simp only [List.length_cons, List.length_nil]; omega) ?_
    intro v8 H8 hA8 hF8 hs8
    have hs88 := hF8.size
    rw [← eout] at hA8
    refine ⟨trivial, ?_⟩
    refine O.asg rfl rfl rfl rfl rfl ?_
    refine Pl.fin [(6, _), (7, _), (8, _), (10, _), (15, _), (16, _), (17, _), (18, _)] ⟨rfl, rfl, rfl, rfl, rfl, rfl, rfl, rfl, trivial⟩ ?_
    refine Go'.inBlock ?_
    -- region 7 (tree.go:47)
    refine Go'.region [(0, 0), (1, 0)] rfl ?_
    refine O.add (((j + 1 : Nat) : Int)) rfl rfl rfl rfl rfl rfl (by omega) (by omega) ?_
    refine O.mv rfl rfl rfl rfl rfl ?_
    refine Pl.fin [(6, _), (7, _), (8, _), (10, _), (15, _), (16, _), (17, _), (18, _)] ⟨rfl, rfl, rfl, rfl, rfl, rfl, rfl, rfl, trivial⟩ ?_
    refine Go'.keep [(6, _), (7, _), (8, _), (15, _), (16, _), (17, _)] ⟨rfl, rfl, rfl, rfl, rfl, rfl, trivial⟩ ?_
    refine Go'.inLoop ?_
    exact ih (j + 1, v8) H8 ⟨hlt, hF34.trans' hF8 (fun _ _ _ h => h) (fun b o hb hz => by have h1 := (hZ b hz).1; omega), fun b => Zo b ∨ (b = H7.size ∧ b < H8.size), hA8, fun b hb => hb.elim (fun h => ⟨(hZ b h).1, by have := (hZ b h).2; omega⟩) (fun h => ⟨by omega, h.2⟩)⟩ (by simp only; omega)
  · skip
    have ejl : j = zs.length := by omega
    have eall : (zs.map (ath (Pl.puts (OO ord) l))).take j = (zs.map (ath (Pl.puts (OO ord) l))) := by rw [ejl]; exact List.take_of_length_le (by rw [List.length_map]; exact Nat.le_refl _)
    rw [eall] at hA
    -- region 4 (tree.go:47)
    refine Go'.region [(0, 0)] rfl ?_
    refine O.cmp rfl rfl rfl rfl rfl rfl (lssF (by omega)) ?_
    refine Pl.fin [(6, _), (7, _), (8, _), (15, _), (16, _), (17, _), (18, _)] ⟨rfl, rfl, rfl, rfl, rfl, rfl, rfl, trivial⟩ ?_
    refine Go'.seq ?_
    refine Go'.condF rfl ?_
    refine Go'.exit rfl ?_
    refine Go'.seq ?_
    -- region 8 (tree.go:50)
    refine Go'.region [(0, 0), (1, 0)] rfl ?_
    refine O.mv rfl rfl rfl rfl rfl ?_
    refine O.asg rfl rfl rfl rfl rfl ?_
    refine Pl.fin [(6, _)] ⟨rfl, trivial⟩ ?_
    refine Go'.ret (vs := [_]) Go.Proofs.Try.func82 Go.Proofs.Try.results82 ⟨rfl, trivial⟩ ?_
    exact ⟨hA.out, hF2⟩

end Go.Bt.FG
namespace Go.Bt.FG
open Go Go.Proofs
set_option maxRecDepth 20000
set_option maxHeartbeats 4000000
set_option linter.unusedVariables false
set_option linter.unusedSectionVars false

def expl : List Int := [0, 2, 5, -1, 100]
theorem exPlaces_spec {B : World} {H : Mem} : Fn Try.prog B 36 [] H (fun r H' => InS EN H' r expl ∧ Fr nowhere H H') := by
  refine fn_of Go.Proofs.Try.func36 rfl Go.Proofs.Try.ntmps36 ?_
  refine (show Go' _ _ _ _ 2 [] [.code _] _ from ?_)
  refine Go'.seq ?_
  -- region 0 (help.go:82)
  refine Go'.region [(0, 0)] rfl ?_
  refine O.asg rfl rfl rfl rfl rfl ?_
  refine Pl.fin [(0, _)] ⟨rfl, trivial⟩ ?_
  refine Go'.seq ?_
  -- region 1 (help.go:82)
  refine Go'.region [(0, 2), (1, 0)] rfl ?_
  refine O.bsl (cs := (row EN expl)) rfl rfl rfl ⟨Go.Proofs.Try.underlying22, Go.Proofs.Try.sizeOf3, Go.Proofs.Try.zeroValue3, ⟨_, Go.Proofs.Try.typeInfo3, rfl⟩, rfl, by decide, by decide⟩ rfl (by decide) (by kernel_rfl) ?_
  intro H1 M1
  refine ⟨trivial, ?_⟩
  refine O.asg rfl rfl rfl rfl rfl ?_
  refine Pl.fin [(0, _)] ⟨rfl, trivial⟩ ?_
  refine Go'.ret (vs := [_]) Go.Proofs.Try.func36 Go.Proofs.Try.results36 ⟨rfl, trivial⟩ ?_
  exact ⟨.inl ⟨H.size, 0, 5, rfl, by decide, M1.rd _ [] (by simp)⟩, M1.fr nowhere⟩

theorem lawGGetAt_spec {B : World} {H : Mem} {d : Nat} {nl : Bool} {v u : Value} {ord : List Int} {l : List (Int × Int)} {va : Value} {zs : List Int} (hd : d = 0 ∨ 2 ≤ d ∧ d ≤ 128) (ho : InS EN H v ord) (hol : ord.length ≤ 4294967296) (hi : InS EJ H u l) (hll : l.length ≤ 4294967296) (ha : InS EN H va zs) (hal : zs.length ≤ 4294967296) :
    Fn Try.prog B 35 [.agg #[v, .int .i64 (d : Int), .bool nl], u, va] H (fun r H' => r = .bool true ∧ Fr nowhere H H') := by
  obtain ⟨a, c, hu⟩ := hi.len
  subst hu
  obtain ⟨av, mv, cv, hv⟩ := InS.form ho
  subst hv
  have hF : Fr nowhere H H := Fr.refl _ _
  have hP := PD_ok hd
  refine fn_of Go.Proofs.Try.func35 rfl Go.Proofs.Try.ntmps35 ?_
  refine (show Go' _ _ _ _ 20 [(0, _), (1, _), (2, _)] [.code _] _ from ?_)
  refine Go'.seq ?_
  -- region 0 (exact.go:146)
  refine Go'.region [(0, 2), (1, 0)] rfl ?_
  refine O.box rfl rfl rfl rfl ?_
  intro B1 MB1
  refine ⟨trivial, ?_⟩
  have hsB1 := MB1.size
  replace hF := hF.trans (MB1.fr nowhere)
  have mm : Rd B1 H.size 0 [.slice av mv cv, .int .i64 (d : Int), .bool nl] := MB1.rd _ [] (by simp [Value.cells])
  have mm0 : cl B1 H.size 0 = some (.slice av mv cv) := mm 0 _ rfl
  have mm1 : cl B1 H.size (0 + 1) = some (.int .i64 (d : Int)) := mm 1 _ rfl
  refine O.asg rfl rfl rfl rfl rfl ?_
  refine Pl.fin [(1, _), (2, _), (3, _), (6, _)] ⟨rfl, rfl, rfl, rfl, trivial⟩ ?_
  refine Go'.seq ?_
  -- region 1 (exact.go:147)
  refine Go'.region [(0, 1), (1, 0), (2, 0), (3, 2), (4, 0)] rfl ?_
  refine O.lds rfl rfl rfl (fun w => ⟨Go.Proofs.Try.isAgg24 w, Go.Proofs.Try.sizeOf24 w⟩) rfl rfl mm ?_
  refine O.mv rfl rfl rfl rfl rfl ?_
  refine O.mv rfl rfl rfl rfl rfl ?_
  refine O.call rfl rfl rfl Go.Proofs.Try.call81 rfl (iggetat_spec hd (ho.fr hF) hol (hi.fr hF) hll (ha.fr hF) hal) ?_
  rintro v1 H3 ⟨h1, hF3⟩
  replace hF := hF.trans hF3
  replace mm := hF3.rd mm (fun _ _ => nw)
  replace mm0 := hF3.keep mm0 nw
  replace mm1 := hF3.keep mm1 nw
  refine ⟨trivial, ?_⟩
  refine O.asg rfl rfl rfl rfl rfl ?_
  refine Pl.fin [(1, _), (2, _), (3, _), (6, _), (7, _)] ⟨rfl, rfl, rfl, rfl, rfl, trivial⟩ ?_
  refine Go'.seq ?_
  -- region 2 (exact.go:148)
  refine Go'.region [(0, 1), (1, 0), (2, 0), (3, 2), (4, 0)] rfl ?_
  refine O.lds rfl rfl rfl (fun w => ⟨Go.Proofs.Try.isAgg24 w, Go.Proofs.Try.sizeOf24 w⟩) rfl rfl mm ?_
  refine O.mv rfl rfl rfl rfl rfl ?_
  refine O.mv rfl rfl rfl rfl rfl ?_
  refine O.call rfl rfl rfl Go.Proofs.Try.call82 rfl (sggetat_spec (ho.fr hF) hol (hi.fr hF) hll (ha.fr hF) hal) ?_
  rintro v2 H4 ⟨h2, hF4⟩
  replace hF := hF.trans hF4
  replace mm := hF4.rd mm (fun _ _ => nw)
  replace mm0 := hF4.keep mm0 nw
  replace mm1 := hF4.keep mm1 nw
  refine ⟨trivial, ?_⟩
  refine O.asg rfl rfl rfl rfl rfl ?_
  refine Pl.fin [(6, _), (7, _), (8, _)] ⟨rfl, rfl, rfl, trivial⟩ ?_
  refine Go'.seq ?_
  -- region 3 (exact.go:149)
  refine Go'.region [(0, 0), (1, 0), (2, 2), (3, 0)] rfl ?_
  refine O.mv rfl rfl rfl rfl rfl ?_
  refine O.mv rfl rfl rfl rfl rfl ?_
  refine O.callQ rfl rfl rfl Go.Proofs.Try.call83 rfl (eqFounds_spec (h1.inS.fr hF4) h2.inS (by rw [List.length_map]; exact hal)) trivial ?_
  refine O.asg rfl rfl rfl rfl rfl ?_
  refine Pl.fin [(6, _)] ⟨rfl, trivial⟩ ?_
  refine Go'.ret (vs := [_]) Go.Proofs.Try.func35 Go.Proofs.Try.results35 ⟨rfl, trivial⟩ ?_
  exact ⟨rfl, hF⟩

theorem fnExactGGetAt {B : World} {H : Mem} {z : Int} {nl : Bool} {v u : Value} {ord : List Int} {l : List (Int × Int)} {va : Value} {zs : List Int} (ho : InS EN H v ord) (hi : InS EJ H u l) (ha : InS EN H va zs) :
    Fn Try.prog B 7 [.agg #[v, .int .i64 z, .bool nl], u, va] H (fun r H' => r = .bool true ∧ Fr nowhere H H') := by
  obtain ⟨a, c, hu⟩ := hi.len
  subst hu
  obtain ⟨av, mv, cv, hv⟩ := InS.form ho
  subst hv
  obtain ⟨aa, ca, ha0⟩ := ha.len
  subst ha0
  have hF : Fr nowhere H H := Fr.refl _ _
  refine fn_of Go.Proofs.Try.func7 rfl Go.Proofs.Try.ntmps7 ?_
  refine (show Go' _ _ _ _ 36 [(0, _), (1, _), (2, _)] [.code _] _ from ?_)
  refine Go'.seq ?_
  -- region 0 (exact.go:139)
  refine Go'.region [(0, 2), (1, 0)] rfl ?_
  refine O.box rfl rfl rfl rfl ?_
  intro B1 MB1
  refine ⟨trivial, ?_⟩
  have hsB1 := MB1.size
  replace hF := hF.trans (MB1.fr nowhere)
  have mm : Rd B1 H.size 0 [.slice av mv cv, .int .i64 z, .bool nl] := MB1.rd _ [] (by simp [Value.cells])
  have mm0 : cl B1 H.size 0 = some (.slice av mv cv) := mm 0 _ rfl
  have mm1 : cl B1 H.size (0 + 1) = some (.int .i64 z) := mm 1 _ rfl
  refine O.asg rfl rfl rfl rfl rfl ?_
  refine Pl.fin [(1, _), (2, _), (3, _), (6, _)] ⟨rfl, rfl, rfl, rfl, trivial⟩ ?_
  refine Go'.seq ?_
  refine Go'.seq ?_
  cases hoz : decide (ord.length ≤ 2147483647)
  · skip
    -- region 1 (exact.go:140)
    refine Go'.region [(0, 1), (1, 2), (2, 0), (3, 0), (4, 0), (5, 0), (6, 0), (7, 0), (8, 0), (9, 0), (10, 0), (11, 0), (12, 0)] rfl ?_
    refine O.lds rfl rfl rfl (fun w => ⟨Go.Proofs.Try.isAgg24 w, Go.Proofs.Try.sizeOf24 w⟩) rfl rfl mm ?_
    refine O.call rfl rfl rfl Go.Proofs.Try.call23 rfl (zzFits1_spec (ho.fr hF) hoz) ?_
    rintro _ H1 ⟨rfl, hF1⟩
    replace hF := hF.trans hF1
    replace mm := hF1.rd mm (fun _ _ => nw)
    replace mm0 := hF1.keep mm0 nw
    replace mm1 := hF1.keep mm1 nw
    refine ⟨trivial, ?_⟩
    refine O.not rfl rfl rfl rfl rfl ?_
    refine O.mv rfl rfl rfl rfl rfl ?_
    refine Pl.pass rfl rfl rfl rfl ?_
    refine Pl.pass rfl rfl rfl rfl ?_
    refine Pl.pass rfl rfl rfl rfl ?_
    refine O.pick rfl rfl rfl rfl rfl rfl ?_
    refine O.mv rfl rfl rfl rfl rfl ?_
    refine Pl.pass rfl rfl rfl rfl ?_
    refine Pl.pass rfl rfl rfl rfl ?_
    refine Pl.pass rfl rfl rfl rfl ?_
    refine O.pick rfl rfl rfl rfl rfl rfl ?_
    refine Pl.fin [(1, _), (2, _), (3, _), (6, _), (19, _)] ⟨rfl, rfl, rfl, rfl, rfl, trivial⟩ ?_
    refine Go'.condT rfl ?_
    refine Go'.seq ?_
    -- region 2 (exact.go:141)
    refine Go'.region [(0, 0)] rfl ?_
    refine O.asg rfl rfl rfl rfl rfl ?_
    refine Pl.fin [(1, _), (2, _), (3, _), (6, _)] ⟨rfl, rfl, rfl, rfl, trivial⟩ ?_
    refine Go'.ret (vs := [_]) Go.Proofs.Try.func7 Go.Proofs.Try.results7 ⟨rfl, trivial⟩ ?_
    exact ⟨rfl, hF⟩
  · skip
    have hoz2 := of_decide_eq_true hoz
    by_cases hb_lenl : (2147483647 : Int) < (l.length : Int)
    · skip
      -- region 1 (exact.go:140)
      refine Go'.region [(0, 1), (1, 2), (2, 0), (3, 0), (4, 0), (5, 0), (6, 0), (7, 0), (8, 0), (9, 0), (10, 0), (11, 0), (12, 0)] rfl ?_
      refine O.lds rfl rfl rfl (fun w => ⟨Go.Proofs.Try.isAgg24 w, Go.Proofs.Try.sizeOf24 w⟩) rfl rfl mm ?_
      refine O.call rfl rfl rfl Go.Proofs.Try.call23 rfl (zzFits1_spec (ho.fr hF) hoz) ?_
      rintro _ H1 ⟨rfl, hF1⟩
      replace hF := hF.trans hF1
      replace mm := hF1.rd mm (fun _ _ => nw)
      replace mm0 := hF1.keep mm0 nw
      replace mm1 := hF1.keep mm1 nw
      refine ⟨trivial, ?_⟩
      refine O.not rfl rfl rfl rfl rfl ?_
      refine O.mv rfl rfl rfl rfl rfl ?_
      refine O.mv rfl rfl rfl rfl rfl ?_
      refine O.len rfl rfl rfl rfl Go.Proofs.Try.underlying25 rfl ?_
      refine O.cmp rfl rfl rfl rfl rfl rfl (gtrT (by omega)) ?_
      refine O.pick rfl rfl rfl rfl rfl rfl ?_
      refine O.mv rfl rfl rfl rfl rfl ?_
      refine Pl.pass rfl rfl rfl rfl ?_
      refine Pl.pass rfl rfl rfl rfl ?_
      refine Pl.pass rfl rfl rfl rfl ?_
      refine O.pick rfl rfl rfl rfl rfl rfl ?_
      refine Pl.fin [(1, _), (2, _), (3, _), (6, _), (19, _)] ⟨rfl, rfl, rfl, rfl, rfl, trivial⟩ ?_
      refine Go'.condT rfl ?_
      refine Go'.seq ?_
      -- region 2 (exact.go:141)
      refine Go'.region [(0, 0)] rfl ?_
      refine O.asg rfl rfl rfl rfl rfl ?_
      refine Pl.fin [(1, _), (2, _), (3, _), (6, _)] ⟨rfl, rfl, rfl, rfl, trivial⟩ ?_
      refine Go'.ret (vs := [_]) Go.Proofs.Try.func7 Go.Proofs.Try.results7 ⟨rfl, trivial⟩ ?_
      exact ⟨rfl, hF⟩
    · skip
      by_cases hb_lenat : (2147483647 : Int) < (zs.length : Int)
      · skip
        -- region 1 (exact.go:140)
        refine Go'.region [(0, 1), (1, 2), (2, 0), (3, 0), (4, 0), (5, 0), (6, 0), (7, 0), (8, 0), (9, 0), (10, 0), (11, 0), (12, 0)] rfl ?_
        refine O.lds rfl rfl rfl (fun w => ⟨Go.Proofs.Try.isAgg24 w, Go.Proofs.Try.sizeOf24 w⟩) rfl rfl mm ?_
        refine O.call rfl rfl rfl Go.Proofs.Try.call23 rfl (zzFits1_spec (ho.fr hF) hoz) ?_
        rintro _ H1 ⟨rfl, hF1⟩
        replace hF := hF.trans hF1
        replace mm := hF1.rd mm (fun _ _ => nw)
        replace mm0 := hF1.keep mm0 nw
        replace mm1 := hF1.keep mm1 nw
        refine ⟨trivial, ?_⟩
        refine O.not rfl rfl rfl rfl rfl ?_
        refine O.mv rfl rfl rfl rfl rfl ?_
        refine O.mv rfl rfl rfl rfl rfl ?_
        refine O.len rfl rfl rfl rfl Go.Proofs.Try.underlying25 rfl ?_
        refine O.cmp rfl rfl rfl rfl rfl rfl (gtrF (by omega)) ?_
        refine O.pick rfl rfl rfl rfl rfl rfl ?_
        refine O.mv rfl rfl rfl rfl rfl ?_
        refine O.mv rfl rfl rfl rfl rfl ?_
        refine O.len rfl rfl rfl rfl Go.Proofs.Try.underlying22 rfl ?_
        refine O.cmp rfl rfl rfl rfl rfl rfl (gtrT (by omega)) ?_
        refine O.pick rfl rfl rfl rfl rfl rfl ?_
        refine Pl.fin [(1, _), (2, _), (3, _), (6, _), (19, _)] ⟨rfl, rfl, rfl, rfl, rfl, trivial⟩ ?_
        refine Go'.condT rfl ?_
        refine Go'.seq ?_
        -- region 2 (exact.go:141)
        refine Go'.region [(0, 0)] rfl ?_
        refine O.asg rfl rfl rfl rfl rfl ?_
        refine Pl.fin [(1, _), (2, _), (3, _), (6, _)] ⟨rfl, rfl, rfl, rfl, trivial⟩ ?_
        refine Go'.ret (vs := [_]) Go.Proofs.Try.func7 Go.Proofs.Try.results7 ⟨rfl, trivial⟩ ?_
        exact ⟨rfl, hF⟩
      · skip
        -- region 1 (exact.go:140)
        refine Go'.region [(0, 1), (1, 2), (2, 0), (3, 0), (4, 0), (5, 0), (6, 0), (7, 0), (8, 0), (9, 0), (10, 0), (11, 0), (12, 0)] rfl ?_
        refine O.lds rfl rfl rfl (fun w => ⟨Go.Proofs.Try.isAgg24 w, Go.Proofs.Try.sizeOf24 w⟩) rfl rfl mm ?_
        refine O.call rfl rfl rfl Go.Proofs.Try.call23 rfl (zzFits1_spec (ho.fr hF) hoz) ?_
        rintro _ H1 ⟨rfl, hF1⟩
        replace hF := hF.trans hF1
        replace mm := hF1.rd mm (fun _ _ => nw)
        replace mm0 := hF1.keep mm0 nw
        replace mm1 := hF1.keep mm1 nw
        refine ⟨trivial, ?_⟩
        refine O.not rfl rfl rfl rfl rfl ?_
        refine O.mv rfl rfl rfl rfl rfl ?_
        refine O.mv rfl rfl rfl rfl rfl ?_
        refine O.len rfl rfl rfl rfl Go.Proofs.Try.underlying25 rfl ?_
        refine O.cmp rfl rfl rfl rfl rfl rfl (gtrF (by omega)) ?_
        refine O.pick rfl rfl rfl rfl rfl rfl ?_
        refine O.mv rfl rfl rfl rfl rfl ?_
        refine O.mv rfl rfl rfl rfl rfl ?_
        refine O.len rfl rfl rfl rfl Go.Proofs.Try.underlying22 rfl ?_
        refine O.cmp rfl rfl rfl rfl rfl rfl (gtrF (by omega)) ?_
        refine O.pick rfl rfl rfl rfl rfl rfl ?_
        refine Pl.fin [(1, _), (2, _), (3, _), (6, _), (19, _)] ⟨rfl, rfl, rfl, rfl, rfl, trivial⟩ ?_
        refine Go'.condF rfl ?_
        refine Go'.skip ?_
        refine Go'.seq ?_
        cases hfz : fitsb z
        · skip
          -- region 3 (exact.go:143)
          refine Go'.region [(0, 2), (1, 2), (2, 2), (3, 2), (4, 0), (5, 0), (6, 1), (7, 2), (8, 0), (9, 0), (10, 1), (11, 0), (12, 0), (13, 2), (14, 0), (15, 0), (16, 0)] rfl ?_
          refine O.call rfl rfl rfl Go.Proofs.Try.call30 rfl exMake_spec ?_
          rintro _ H2 ⟨rfl, hF2⟩
          replace hF := hF.trans hF2
          replace mm := hF2.rd mm (fun _ _ => nw)
          replace mm0 := hF2.keep mm0 nw
          replace mm1 := hF2.keep mm1 nw
          refine ⟨trivial, ?_⟩
          refine O.call rfl rfl rfl Go.Proofs.Try.call32 rfl exItems_spec ?_
          rintro ev H3 ⟨hev, hF3⟩
          replace hF := hF.trans hF3
          replace mm := hF3.rd mm (fun _ _ => nw)
          replace mm0 := hF3.keep mm0 nw
          replace mm1 := hF3.keep mm1 nw
          refine ⟨trivial, ?_⟩
          refine O.call rfl rfl rfl Go.Proofs.Try.call36 rfl exPlaces_spec ?_
          rintro pv H4 ⟨hpv, hF4⟩
          replace hF := hF.trans hF4
          replace mm := hF4.rd mm (fun _ _ => nw)
          replace mm0 := hF4.keep mm0 nw
          replace mm1 := hF4.keep mm1 nw
          replace hev := hev.fr hF4
          refine ⟨trivial, ?_⟩
          refine O.call rfl rfl rfl Go.Proofs.Try.call35 rfl (lawGGetAt_spec (d := 2) (by decide) (InS.nil EN _) (by decide) hev (by decide) hpv (by decide)) ?_
          rintro _ H5 ⟨rfl, hF5⟩
          replace hF := hF.trans hF5
          replace mm := hF5.rd mm (fun _ _ => nw)
          replace mm0 := hF5.keep mm0 nw
          replace mm1 := hF5.keep mm1 nw
          refine ⟨trivial, ?_⟩
          refine O.mv rfl rfl rfl rfl rfl ?_
          refine O.fa0 (off := 1) rfl rfl rfl rfl ⟨_, _, _, Go.Proofs.Try.underlying24, rfl, rfl, Go.Proofs.Try.sizeOf3⟩ rfl ?_
          refine O.ld rfl rfl rfl (fun w => ⟨Go.Proofs.Try.isAgg3 w, Go.Proofs.Try.sizeOf3 w⟩) rfl mm1 ?_
          refine O.callQ rfl rfl rfl Go.Proofs.Try.call33 rfl (fits_spec' hfz) trivial ?_
          refine O.not rfl rfl rfl rfl rfl ?_
          refine O.mv rfl rfl rfl rfl rfl ?_
          refine Pl.pass rfl rfl rfl rfl ?_
          refine Pl.pass rfl rfl rfl rfl ?_
          refine Pl.pass rfl rfl rfl rfl ?_
          refine Pl.pass2 rfl rfl rfl rfl trivial ?_
          refine O.pick rfl rfl rfl rfl rfl rfl ?_
          refine O.pick rfl rfl rfl rfl rfl rfl ?_
          refine O.asg rfl rfl rfl rfl rfl ?_
          refine Pl.fin [(6, _)] ⟨rfl, trivial⟩ ?_
          refine Go'.ret (vs := [_]) Go.Proofs.Try.func7 Go.Proofs.Try.results7 ⟨rfl, trivial⟩ ?_
          exact ⟨rfl, hF⟩
        · skip
          obtain ⟨d, rfl, hd⟩ := fitsb_nat hfz
          -- region 3 (exact.go:143)
          refine Go'.region [(0, 2), (1, 2), (2, 2), (3, 2), (4, 0), (5, 0), (6, 1), (7, 2), (8, 0), (9, 0), (10, 1), (11, 0), (12, 0), (13, 2), (14, 0), (15, 0), (16, 0)] rfl ?_
          refine O.call rfl rfl rfl Go.Proofs.Try.call30 rfl exMake_spec ?_
          rintro _ H2 ⟨rfl, hF2⟩
          replace hF := hF.trans hF2
          replace mm := hF2.rd mm (fun _ _ => nw)
          replace mm0 := hF2.keep mm0 nw
          replace mm1 := hF2.keep mm1 nw
          refine ⟨trivial, ?_⟩
          refine O.call rfl rfl rfl Go.Proofs.Try.call32 rfl exItems_spec ?_
          rintro ev H3 ⟨hev, hF3⟩
          replace hF := hF.trans hF3
          replace mm := hF3.rd mm (fun _ _ => nw)
          replace mm0 := hF3.keep mm0 nw
          replace mm1 := hF3.keep mm1 nw
          refine ⟨trivial, ?_⟩
          refine O.call rfl rfl rfl Go.Proofs.Try.call36 rfl exPlaces_spec ?_
          rintro pv H4 ⟨hpv, hF4⟩
          replace hF := hF.trans hF4
          replace mm := hF4.rd mm (fun _ _ => nw)
          replace mm0 := hF4.keep mm0 nw
          replace mm1 := hF4.keep mm1 nw
          replace hev := hev.fr hF4
          refine ⟨trivial, ?_⟩
          refine O.call rfl rfl rfl Go.Proofs.Try.call35 rfl (lawGGetAt_spec (d := 2) (by decide) (InS.nil EN _) (by decide) hev (by decide) hpv (by decide)) ?_
          rintro _ H5 ⟨rfl, hF5⟩
          replace hF := hF.trans hF5
          replace mm := hF5.rd mm (fun _ _ => nw)
          replace mm0 := hF5.keep mm0 nw
          replace mm1 := hF5.keep mm1 nw
          refine ⟨trivial, ?_⟩
          refine O.mv rfl rfl rfl rfl rfl ?_
          refine O.fa0 (off := 1) rfl rfl rfl rfl ⟨_, _, _, Go.Proofs.Try.underlying24, rfl, rfl, Go.Proofs.Try.sizeOf3⟩ rfl ?_
          refine O.ld rfl rfl rfl (fun w => ⟨Go.Proofs.Try.isAgg3 w, Go.Proofs.Try.sizeOf3 w⟩) rfl mm1 ?_
          refine O.callQ rfl rfl rfl Go.Proofs.Try.call33 rfl (fits_spec' hfz) trivial ?_
          refine O.not rfl rfl rfl rfl rfl ?_
          refine O.mv rfl rfl rfl rfl rfl ?_
          refine O.lds rfl rfl rfl (fun w => ⟨Go.Proofs.Try.isAgg24 w, Go.Proofs.Try.sizeOf24 w⟩) rfl rfl mm ?_
          refine O.mv rfl rfl rfl rfl rfl ?_
          refine O.mv rfl rfl rfl rfl rfl ?_
          refine O.call rfl rfl rfl Go.Proofs.Try.call35 rfl (lawGGetAt_spec hd (ho.fr hF) (by omega) (hi.fr hF) (by omega) (ha.fr hF) (by omega)) ?_
          rintro _ H6 ⟨rfl, hF6⟩
          replace hF := hF.trans hF6
          replace mm := hF6.rd mm (fun _ _ => nw)
          replace mm0 := hF6.keep mm0 nw
          replace mm1 := hF6.keep mm1 nw
          refine ⟨trivial, ?_⟩
          refine O.pick rfl rfl rfl rfl rfl rfl ?_
          refine O.pick rfl rfl rfl rfl rfl rfl ?_
          refine O.asg rfl rfl rfl rfl rfl ?_
          refine Pl.fin [(6, _)] ⟨rfl, trivial⟩ ?_
          refine Go'.ret (vs := [_]) Go.Proofs.Try.func7 Go.Proofs.Try.results7 ⟨rfl, trivial⟩ ?_
          exact ⟨rfl, hF⟩

end Go.Bt.FG
