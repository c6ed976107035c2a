/- Contracts of functions of the program, proved by walking through their code. Conditions: those that each theorem names. -/
import Derived.Test.YtmboghgpakhceaaTogR
namespace Go.Bt.FG
open Go Go.Proofs
set_option maxRecDepth 20000
set_option maxHeartbeats 4000000
set_option linter.unusedVariables false
set_option linter.unusedSectionVars false

theorem newTree0_spec {B : World} {H : Mem} {nl : Bool} {g : FuncId} {ob : Nat} :
    Fn Try.prog B 121 [.func (.func g) #[] #[ptr ob], .agg #[.int .i64 0, .bool nl]] H (fun r H' => ∃ tr, r = ptr tr ∧ H.size ≤ tr ∧ tr < H'.size ∧ Fr nowhere H H' ∧ TrN H' tr 1 63 31 (.func (.func g) #[] #[ptr ob])) := newTree_spec (d := 0) (.inl rfl)
theorem st175 : StT Try.prog 175 [(0, 1)] [.pointer none] := ⟨⟨_, Try.underlying175, fun w => by simp [Array.mapM_eq_mapM_toList, Try.sizeOf86]⟩, Try.zeroValue175⟩

theorem newBTreeG_spec {B : World} {H : Mem} {g : FuncId} {ob : Nat} : Fn Try.prog B 139 [.func (.func g) #[] #[ptr ob]] H (fun r H' => ∃ tr, r = ptr tr ∧ H.size ≤ tr ∧ tr < H'.size ∧ Fr nowhere H H' ∧ TrN H' tr 1 63 31 (.func (.func g) #[] #[ptr ob])) := by
  refine fn_of Go.Proofs.Try.func139 rfl Go.Proofs.Try.ntmps139 ?_
  refine (show Go' _ _ _ _ 6 [(0, _)] [.code _] _ from ?_)
  refine Go'.seq ?_
  -- region 0 (btreeg.go:47)
  refine Go'.region [(0, 0)] rfl ?_
  refine O.asg rfl rfl rfl rfl rfl ?_
  refine Pl.fin [(0, _), (2, _)] ⟨rfl, rfl, trivial⟩ ?_
  refine Go'.seq ?_
  -- region 1 (btreeg.go:48)
  refine Go'.region [(0, 0), (1, 0), (2, 2), (3, 0)] rfl ?_
  refine O.mv rfl rfl rfl rfl rfl ?_
  refine O.bld (cs := [.int .i64 0, .bool false]) rfl rfl rfl rfl (st142) rfl (by kernel_rfl) ?_
  refine O.call rfl rfl rfl Go.Proofs.Try.call121 rfl newTree0_spec ?_
  rintro _ H1 ⟨tr, rfl, h1, h2, hF, hT⟩
  refine ⟨trivial, ?_⟩
  refine O.asg rfl rfl rfl rfl rfl ?_
  refine Pl.fin [(2, _)] ⟨rfl, trivial⟩ ?_
  refine Go'.ret (vs := [_]) Go.Proofs.Try.func139 Go.Proofs.Try.results139 ⟨rfl, trivial⟩ ?_
  exact ⟨tr, rfl, h1, h2, hF, hT⟩

theorem nNewGeneric_spec {B : World} {H : Mem} {g : FuncId} {ob : Nat} : Fn Try.prog B 140 [.func (.func g) #[] #[ptr ob]] H (fun r H' => ∃ p tr, r = ptr p ∧ cl H' p 0 = some (ptr tr) ∧ H.size ≤ tr ∧ tr < H'.size ∧ Fr nowhere H H' ∧ TrN H' tr 1 63 31 (.func (.func g) #[] #[ptr ob])) := by
  have hF : Fr nowhere H H := Fr.refl _ _
  refine fn_of Go.Proofs.Try.func140 rfl Go.Proofs.Try.ntmps140 ?_
  refine (show Go' _ _ _ _ 8 [(0, _)] [.code _] _ from ?_)
  refine Go'.seq ?_
  -- region 0 (btreeg.go:1842)
  refine Go'.region [(0, 0)] rfl ?_
  refine O.asg rfl rfl rfl rfl rfl ?_
  refine Pl.fin [(0, _), (2, _)] ⟨rfl, rfl, trivial⟩ ?_
  refine Go'.seq ?_
  -- region 1 (btreeg.go:1843)
  refine Go'.region [(0, 0), (1, 0), (2, 2), (3, 0), (4, 2), (5, 0)] rfl ?_
  refine O.mv rfl rfl rfl rfl rfl ?_
  refine O.bld (cs := [.int .i64 0, .bool false]) rfl rfl rfl rfl (st142) rfl (by kernel_rfl) ?_
  refine O.call rfl rfl rfl Go.Proofs.Try.call121 rfl newTree0_spec ?_
  rintro _ H1 ⟨tr, rfl, h1, h2, hF1, hT⟩
  have hs1 := hF1.size
  refine ⟨trivial, ?_⟩
  refine O.bld (cs := [ptr tr]) rfl rfl rfl rfl (st175) rfl (by kernel_rfl) ?_
  refine O.box rfl rfl rfl rfl ?_
  intro H2 M2
  refine ⟨trivial, ?_⟩
  have hs2 := M2.size
  refine O.asg rfl rfl rfl rfl rfl ?_
  refine Pl.fin [(2, _)] ⟨rfl, trivial⟩ ?_
  refine Go'.ret (vs := [_]) Go.Proofs.Try.func140 Go.Proofs.Try.results140 ⟨rfl, trivial⟩ ?_
  exact ⟨_, tr, rfl, (M2.cl 0).trans rfl, by omega, by omega, (hF.trans hF1).trans (M2.fr nowhere), hT.fr (M2.fr nowhere) (fun _ => nw)⟩

theorem nNewGenericOptions_spec {B : World} {H : Mem} {g : FuncId} {ob : Nat} : Fn Try.prog B 141 [.func (.func g) #[] #[ptr ob], .agg #[.int .i64 0, .bool false]] H (fun r H' => ∃ p tr, r = ptr p ∧ cl H' p 0 = some (ptr tr) ∧ H.size ≤ tr ∧ tr < H'.size ∧ Fr nowhere H H' ∧ TrN H' tr 1 63 31 (.func (.func g) #[] #[ptr ob])) := by
  have hF : Fr nowhere H H := Fr.refl _ _
  refine fn_of Go.Proofs.Try.func141 rfl Go.Proofs.Try.ntmps141 ?_
  refine (show Go' _ _ _ _ 10 [(0, _), (1, _)] [.code _] _ from ?_)
  refine Go'.seq ?_
  -- region 0 (btreeg.go:1849)
  refine Go'.region [(0, 2), (1, 0)] rfl ?_
  refine O.box rfl rfl rfl rfl ?_
  intro H0 M0
  refine ⟨trivial, ?_⟩
  replace hF := hF.trans (M0.fr nowhere)
  have mo : Rd H0 H.size 0 [.int .i64 0, .bool false] := M0.rd _ [] (by simp [Value.cells])
  have hs0 := M0.size
  refine O.asg rfl rfl rfl rfl rfl ?_
  refine Pl.fin [(0, _), (3, _), (4, _)] ⟨rfl, rfl, rfl, trivial⟩ ?_
  refine Go'.seq ?_
  -- region 1 (btreeg.go:1851)
  refine Go'.region [(0, 0), (1, 1), (2, 2), (3, 0), (4, 2), (5, 0)] rfl ?_
  refine O.mv rfl rfl rfl rfl rfl ?_
  refine O.lds rfl rfl rfl (fun w => ⟨Go.Proofs.Try.isAgg142 w, Go.Proofs.Try.sizeOf142 w⟩) rfl rfl mo ?_
  refine O.call rfl rfl rfl Go.Proofs.Try.call121 rfl newTree0_spec ?_
  rintro _ H1 ⟨tr, rfl, h1, h2, hF1, hT⟩
  have hs1 := hF1.size
  refine ⟨trivial, ?_⟩
  refine O.bld (cs := [ptr tr]) rfl rfl rfl rfl (st175) rfl (by kernel_rfl) ?_
  refine O.box rfl rfl rfl rfl ?_
  intro H2 M2
  refine ⟨trivial, ?_⟩
  have hs2 := M2.size
  refine O.asg rfl rfl rfl rfl rfl ?_
  refine Pl.fin [(4, _)] ⟨rfl, trivial⟩ ?_
  refine Go'.ret (vs := [_]) Go.Proofs.Try.func141 Go.Proofs.Try.results141 ⟨rfl, trivial⟩ ?_
  exact ⟨_, tr, rfl, (M2.cl 0).trans rfl, by omega, by omega, (hF.trans hF1).trans (M2.fr nowhere), hT.fr (M2.fr nowhere) (fun _ => nw)⟩

theorem ignew_spec {B : World} {H : Mem} {kd : Int} {v u : Value} {ord : List Int} {l : List (Int × Int)} (ho : InS EN H v ord) (hol : ord.length ≤ 4294967296) (hi : InS EJ H u l) (hll : l.length ≤ 4294967296) :
    Fn Try.prog B 86 [.int .i64 kd, v, u] H (fun r H' => OutS EJ H' r (Pl.puts (OO ord) l) ∧ Fr nowhere H H') := by
  have hP := PD_ok (d := 0) (.inl rfl)
  obtain ⟨a, c, hu⟩ := hi.len
  subst hu
  obtain ⟨av, mv, cv, hv⟩ := InS.form ho
  subst hv
  refine fn_of Go.Proofs.Try.func86 rfl Go.Proofs.Try.ntmps86 ?_
  refine (show Go' _ _ _ _ 48 [(0, _), (1, _), (2, _)] [.code _] _ from ?_)
  refine Go'.seq ?_
  -- region 0 (treeg.go:577)
  refine Go'.region [(0, 0)] rfl ?_
  refine O.asg rfl rfl rfl rfl rfl ?_
  refine Pl.fin [(0, _), (1, _), (2, _), (6, _)] ⟨rfl, rfl, rfl, rfl, trivial⟩ ?_
  refine Go'.seq ?_
  -- region 1 (treeg.go:578)
  refine Go'.region [(0, 0)] rfl ?_
  refine O.asg rfl rfl rfl rfl rfl ?_
  refine Pl.fin [(0, _), (1, _), (2, _), (6, _), (7, _)] ⟨rfl, rfl, rfl, rfl, rfl, trivial⟩ ?_
  refine Go'.seq ?_
  -- region 2 (treeg.go:579)
  refine Go'.region [(0, 0), (1, 2), (2, 0)] rfl ?_
  refine O.mv rfl rfl rfl rfl rfl ?_
  refine O.call rfl rfl rfl Go.Proofs.Try.call122 rfl (ibefore_spec ho hol) ?_
  rintro _ H2 ⟨ob, ov, rfl, hob, hob1, hob2, hA2, hF2⟩
  have hs2 := hF2.size
  refine ⟨trivial, ?_⟩
  refine O.asg rfl rfl rfl rfl rfl ?_
  refine Pl.fin [(0, _), (2, _), (6, _), (7, _), (8, _)] ⟨rfl, rfl, rfl, rfl, rfl, trivial⟩ ?_
  refine Go'.seq ?_
  refine Go'.seq ?_
  -- region 3 (treeg.go:580)
  refine Go'.region [(0, 0)] rfl ?_
  refine O.mv rfl rfl rfl rfl rfl ?_
  refine Pl.fin [(2, _), (6, _), (7, _), (8, _), (13, _)] ⟨rfl, rfl, rfl, rfl, rfl, trivial⟩ ?_
  refine Go'.block ?_
  refine Go'.seq ?_
  refine Go'.share3 (σ := Nat) (fun tr H' => Fr nowhere H H' ∧ ∃ I : Inhabited Cx, (@cx I).ord = ord ∧ (∀ b, (@cx I).own b → H.size ≤ b) ∧ H.size ≤ (@cx I).base ∧ ∃ S, @MapM I H' tr (PD 0) S [] ∧ ∀ b, S b → H.size ≤ b) (fun tr => [(2, .slice a l.length c), (6, .slice none 0 0), (7, .pointer (some ⟨tr, 0, none⟩))]) ?_ ?_
  rotate_left
  · -- how it is made
    intro tail
    have fin : ∀ {H3 H4 : Mem} {tr : Nat}, Fr nowhere H2 H3 → H2.size ≤ tr → tr < H3.size → TrN H3 tr 1 63 31 (.func (.func 170) #[] #[ptr ob]) → Fr nowhere H H3 ∧ ∃ I : Inhabited Cx, (@cx I).ord = ord ∧ (∀ b, (@cx I).own b → H.size ≤ b) ∧ H.size ≤ (@cx I).base ∧ ∃ S, @MapM I H3 tr (PD 0) S [] ∧ ∀ b, S b → H.size ≤ b := by
      intro H3 H4 tr hF3 h1 h2 hT
      have hs3 := hF3.size
      have hA3 := (hA2.mono (Y := fun b => H.size ≤ b ∧ b ≠ ob ∧ b ≠ tr) (fun b hb hz => ⟨hz.1, hz.2, by omega⟩)).fr hF3 (fun _ _ _ _ => nw)
      obtain ⟨I, hIo, hIw, hIb, hM⟩ := hT.mapM (H0 := H.size) (hF3.keep hob nw) hA3 (by omega) (by omega) hob1 (by omega) h2
      exact ⟨hF2.trans hF3, I, hIo, fun b hb => (hIw b).1 hb, by rw [hIb]; omega, _, hM, fun b hb => by have hb' : b = tr := hb; omega⟩
    by_cases h1 : kd = 1
    · skip
      -- region 5 (treeg.go:581)
      refine Go'.region [(0, 0), (1, 0)] rfl ?_
      refine O.cmp rfl rfl rfl rfl rfl rfl (eqlT (by omega)) ?_
      refine O.asg rfl rfl rfl rfl rfl ?_
      refine Pl.fin [(2, _), (6, _), (7, _), (8, _), (13, _), (17, _)] ⟨rfl, rfl, rfl, rfl, rfl, rfl, trivial⟩ ?_
      refine Go'.condT rfl ?_
      -- region 6 (treeg.go:582)
      refine Go'.region [(0, 0), (1, 2), (2, 0)] rfl ?_
      refine O.mv rfl rfl rfl rfl rfl ?_
      refine O.call rfl rfl rfl Go.Proofs.Try.call139 rfl newBTreeG_spec ?_
      rintro _ H3 ⟨tr, rfl, ht1, ht2, hF3, hT⟩
      unfold ptr
      refine ⟨trivial, ?_⟩
      refine O.asg rfl rfl rfl rfl rfl ?_
      refine Pl.fin [(2, _), (6, _), (7, _)] ⟨rfl, rfl, rfl, trivial⟩ ?_
      refine Go'.inBlock ?_
      refine Go'.keep [(2, _), (6, _), (7, _)] ⟨rfl, rfl, rfl, trivial⟩ ?_
      exact tail tr H3 (fin (H4 := H) hF3 ht1 ht2 hT)
    · skip
      -- region 5 (treeg.go:581)
      refine Go'.region [(0, 0), (1, 0)] rfl ?_
      refine O.cmp rfl rfl rfl rfl rfl rfl (eqlF (by omega)) ?_
      refine O.asg rfl rfl rfl rfl rfl ?_
      refine Pl.fin [(2, _), (6, _), (7, _), (8, _), (13, _), (17, _)] ⟨rfl, rfl, rfl, rfl, rfl, rfl, trivial⟩ ?_
      refine Go'.condF rfl ?_
      refine Go'.seq ?_
      by_cases h2 : kd = 2
      · skip
        -- region 7 (treeg.go:583)
        refine Go'.region [(0, 0), (1, 0)] rfl ?_
        refine O.cmp rfl rfl rfl rfl rfl rfl (eqlT (by omega)) ?_
        refine O.asg rfl rfl rfl rfl rfl ?_
        refine Pl.fin [(2, _), (6, _), (7, _), (8, _), (13, _), (21, _)] ⟨rfl, rfl, rfl, rfl, rfl, rfl, trivial⟩ ?_
        refine Go'.condT rfl ?_
        -- region 8 (treeg.go:584)
        refine Go'.region [(0, 0), (1, 2), (2, 0), (3, 0), (4, 1), (5, 0)] rfl ?_
        refine O.mv rfl rfl rfl rfl rfl ?_
        refine O.call rfl rfl rfl Go.Proofs.Try.call140 rfl nNewGeneric_spec ?_
        rintro _ H3 ⟨gp, tr, rfl, hgp, ht1, ht2, hF3, hT⟩
        unfold ptr at hgp ⊢
        refine ⟨trivial, ?_⟩
        refine O.nc rfl rfl rfl rfl rfl ?_
        refine O.faz rfl rfl rfl rfl ⟨_, _, _, Go.Proofs.Try.underlying175, rfl, rfl, Go.Proofs.Try.sizeOf86⟩ rfl ?_
        refine O.ld rfl rfl rfl (fun w => ⟨Go.Proofs.Try.isAgg86 w, Go.Proofs.Try.sizeOf86 w⟩) rfl hgp ?_
        refine O.asg rfl rfl rfl rfl rfl ?_
        refine Pl.fin [(2, _), (6, _), (7, _)] ⟨rfl, rfl, rfl, trivial⟩ ?_
        refine Go'.inBlock ?_
        refine Go'.keep [(2, _), (6, _), (7, _)] ⟨rfl, rfl, rfl, trivial⟩ ?_
        exact tail tr H3 (fin (H4 := H) hF3 ht1 ht2 hT)
      · skip
        -- region 7 (treeg.go:583)
        refine Go'.region [(0, 0), (1, 0)] rfl ?_
        refine O.cmp rfl rfl rfl rfl rfl rfl (eqlF (by omega)) ?_
        refine O.asg rfl rfl rfl rfl rfl ?_
        refine Pl.fin [(2, _), (6, _), (7, _), (8, _), (13, _), (21, _)] ⟨rfl, rfl, rfl, rfl, rfl, rfl, trivial⟩ ?_
        refine Go'.condF rfl ?_
        refine Go'.seq ?_
        by_cases h3 : kd = 3
        · skip
          -- region 9 (treeg.go:585)
          refine Go'.region [(0, 0), (1, 0)] rfl ?_
          refine O.cmp rfl rfl rfl rfl rfl rfl (eqlT (by omega)) ?_
          refine O.asg rfl rfl rfl rfl rfl ?_
          refine Pl.fin [(2, _), (6, _), (7, _), (8, _), (28, _)] ⟨rfl, rfl, rfl, rfl, rfl, trivial⟩ ?_
          refine Go'.condT rfl ?_
          -- region 10 (treeg.go:586)
          refine Go'.region [(0, 0), (1, 0), (2, 2), (3, 0), (4, 0), (5, 1), (6, 0)] rfl ?_
          refine O.mv rfl rfl rfl rfl rfl ?_
          refine O.bld (cs := [.int .i64 0, .bool false]) rfl rfl rfl rfl (st142) rfl (by kernel_rfl) ?_
          refine O.call rfl rfl rfl Go.Proofs.Try.call141 rfl nNewGenericOptions_spec ?_
          rintro _ H3 ⟨gp, tr, rfl, hgp, ht1, ht2, hF3, hT⟩
          unfold ptr at hgp ⊢
          refine ⟨trivial, ?_⟩
          refine O.nc rfl rfl rfl rfl rfl ?_
          refine O.faz rfl rfl rfl rfl ⟨_, _, _, Go.Proofs.Try.underlying175, rfl, rfl, Go.Proofs.Try.sizeOf86⟩ rfl ?_
          refine O.ld rfl rfl rfl (fun w => ⟨Go.Proofs.Try.isAgg86 w, Go.Proofs.Try.sizeOf86 w⟩) rfl hgp ?_
          refine O.asg rfl rfl rfl rfl rfl ?_
          refine Pl.fin [(2, _), (6, _), (7, _)] ⟨rfl, rfl, rfl, trivial⟩ ?_
          refine Go'.inBlock ?_
          refine Go'.keep [(2, _), (6, _), (7, _)] ⟨rfl, rfl, rfl, trivial⟩ ?_
          exact tail tr H3 (fin (H4 := H) hF3 ht1 ht2 hT)
        · skip
          -- region 9 (treeg.go:585)
          refine Go'.region [(0, 0), (1, 0)] rfl ?_
          refine O.cmp rfl rfl rfl rfl rfl rfl (eqlF (by omega)) ?_
          refine O.asg rfl rfl rfl rfl rfl ?_
          refine Pl.fin [(2, _), (6, _), (7, _), (8, _), (28, _)] ⟨rfl, rfl, rfl, rfl, rfl, trivial⟩ ?_
          refine Go'.condF rfl ?_
          -- region 4 (treeg.go:588)
          refine Go'.region [(0, 0), (1, 0), (2, 2), (3, 0)] rfl ?_
          refine O.mv rfl rfl rfl rfl rfl ?_
          refine O.bld (cs := [.int .i64 0, .bool false]) rfl rfl rfl rfl (st142) rfl (by kernel_rfl) ?_
          refine O.call rfl rfl rfl Go.Proofs.Try.call121 rfl newTree0_spec ?_
          rintro _ H3 ⟨tr, rfl, ht1, ht2, hF3, hT⟩
          unfold ptr
          refine ⟨trivial, ?_⟩
          refine O.asg rfl rfl rfl rfl rfl ?_
          refine Pl.fin [(2, _), (6, _), (7, _)] ⟨rfl, rfl, rfl, trivial⟩ ?_
          refine Go'.inBlock ?_
          refine Go'.keep [(2, _), (6, _), (7, _)] ⟨rfl, rfl, rfl, trivial⟩ ?_
          exact tail tr H3 (fin (H4 := H) hF3 ht1 ht2 hT)
  clear hA2 hob hob1 hob2 ob ov hF2 hs2 H2
  rintro tr H4 ⟨hFa, I, hIo, hIw, hIb, S, hM1, hS⟩
  have hOI : OO ord = OI := by rw [← hIo]; rfl
  refine Go'.seq ?_
  refine Go'.seq ?_
  -- region 11 (treeg.go:590)
  refine Go'.region [(0, 0), (1, 0), (2, 0)] rfl ?_
  refine O.mv rfl rfl rfl rfl rfl ?_
  refine O.len rfl rfl rfl rfl Go.Proofs.Try.underlying25 rfl ?_
  refine O.mv rfl rfl rfl rfl rfl ?_
  refine Pl.fin [(6, _), (7, _), (36, _), (37, _), (38, _)] ⟨rfl, rfl, rfl, rfl, rfl, trivial⟩ ?_
  refine Go'.block ?_
  refine Go'.loop ?_
  refine Go'.keep [(6, _), (7, _), (36, _), (37, _), (38, _)] ⟨rfl, rfl, rfl, rfl, rfl, trivial⟩ ?_
  refine Go'.ind (σ := Nat) (fun j => l.length - j) (fun j H' => Fr nowhere H H' ∧ j ≤ l.length ∧ ∃ S, MapM H' tr (PD 0) S (Pl.puts OI (l.take j)) ∧ ∀ b, S b → H.size ≤ b)
    (fun j => [(6, .slice none 0 0), (7, .pointer (some ⟨tr, 0, none⟩)), (36, .slice a l.length c), (37, .int .i64 (l.length : Int)), (38, .int .i64 (j : Int))]) 0 ⟨hFa, Nat.zero_le _, _, hM1, hS⟩ rfl ?_
  clear hM1 hS S
  rintro j H2 ⟨hF, hjl, S, hM, hS⟩ ih
  have hi2 := hi.fr hF
  refine Go'.seq ?_
  by_cases hlt : j < l.length
  · skip
    obtain ⟨y, hy⟩ : ∃ y, l[j]? = some y := ⟨l[j], List.getElem?_eq_getElem hlt⟩
    obtain ⟨b, o, c', e, hr⟩ := hi2.at hy
    cases e
    have hpl := Pl.puts_length OI (l.take j)
    rw [List.length_take] at hpl
    have hlt2 := hM.lt
    have hbs := hM.tc.hb
    have hH2 := hF.size
    -- region 12 (treeg.go:590)
    refine Go'.region [(0, 0)] rfl ?_
    refine O.cmp rfl rfl rfl rfl rfl rfl (lssT (by omega)) ?_
    refine Pl.fin [(6, _), (7, _), (36, _), (37, _), (38, _), (39, _)] ⟨rfl, rfl, rfl, rfl, rfl, rfl, trivial⟩ ?_
    refine Go'.seq ?_
    refine Go'.condT rfl ?_
    refine Go'.skip ?_
    refine Go'.seq ?_
    refine Go'.block ?_
    refine Go'.seq ?_
    -- region 13 (treeg.go:590)
    refine Go'.region [(0, 0), (1, 1), (2, 2), (3, 2)] rfl ?_
    refine O.ix (j := j) rfl rfl rfl rfl Go.Proofs.Try.underlying25 Go.Proofs.Try.sizeOf27 rfl rfl (by omega) hlt ?_
    refine O.lds rfl rfl rfl (fun w => ⟨Go.Proofs.Try.isAgg27 w, Go.Proofs.Try.sizeOf27 w⟩) rfl rfl hr ?_
    refine O.alloc rfl rfl rfl Go.Proofs.Try.zeroValue27 ?_
    intro H5 M5
    refine ⟨trivial, ?_⟩
    have hs5 := M5.size
    replace hM := hM.fr (M5.fr nowhere) (fun _ _ _ => nw)
    have m7 : Wr H5 H2.size 0 2 := M5.wr 2 (by decide)
    refine O.st rfl rfl Go.Proofs.Try.sizeOf27 rfl rfl rfl rfl rfl m7 ?_
    intro H6 W6
    have hs6 := W6.size
    replace hM := hM.fr W6.fr (fun b o hb hz => by have h1 := hz.1; exact hb.elim (fun hb => by have h2 := hlt2 b hb; omega) (fun hb => by omega))
    have hf6 : Fr nowhere H H6 := hF.trans' ((M5.fr nowhere).trans' W6.fr (Z := nowhere) (fun _ _ _ h => h) (fun b o hb hz => by have h1 := hz.1; omega)) (fun _ _ _ h => h) (fun _ _ _ h => h)
    have k0 : Rd H6 H2.size 0 (EJ.enc y) := W6.all
    refine ⟨trivial, ?_⟩
    refine Pl.fin [(6, _), (7, _), (10, _), (36, _), (37, _), (38, _), (39, _)] ⟨rfl, rfl, rfl, rfl, rfl, rfl, rfl, trivial⟩ ?_
    -- region 14 (treeg.go:591)
    refine Go'.region [(0, 0), (1, 1), (2, 2)] rfl ?_
    refine O.mv rfl rfl rfl rfl rfl ?_
    refine O.lds rfl rfl rfl (fun w => ⟨Go.Proofs.Try.isAgg27 w, Go.Proofs.Try.sizeOf27 w⟩) rfl rfl k0 ?_
    refine O.call rfl rfl rfl Go.Proofs.Try.call124 rfl (set_spec hP (x := y) hM (by omega)) ?_
    rintro _ H7 ⟨_, rfl, S', hM', hF', hS'⟩
    refine ⟨trivial, ?_⟩
    refine Pl.fin [(6, _), (7, _), (10, _), (36, _), (37, _), (38, _), (39, _)] ⟨rfl, rfl, rfl, rfl, rfl, rfl, rfl, trivial⟩ ?_
    refine Go'.inBlock ?_
    -- region 15 (treeg.go:590)
    refine Go'.region [(0, 0), (1, 0)] rfl ?_
    refine O.add (((j + 1 : Nat) : Int)) rfl rfl rfl rfl rfl rfl (by omega) (by omega) ?_
    refine O.mv rfl rfl rfl rfl rfl ?_
    refine Pl.fin [(6, _), (7, _), (10, _), (36, _), (37, _), (38, _), (39, _)] ⟨rfl, rfl, rfl, rfl, rfl, rfl, rfl, trivial⟩ ?_
    refine Go'.keep [(6, _), (7, _), (36, _), (37, _), (38, _)] ⟨rfl, rfl, rfl, rfl, rfl, trivial⟩ ?_
    refine Go'.inLoop ?_
    exact ih (j + 1) H7 ⟨hf6.trans' hF' (fun _ _ _ h => h) (fun b o hb hz => hz.elim (fun hz => by have h1 := hS b hz; omega) id), hlt, S', by
      rw [List.take_add_one, hy]
      rw [← Pl.puts_snoc] at hM'
      exact hM', fun b hb => (hS' b hb).elim (hS b) (fun h => by have := hf6.size; omega)⟩ (by omega)
  · skip
    obtain rfl : j = l.length := by omega
    rw [List.take_length] at hM
    have hpl := Pl.puts_length OI l
    -- region 12 (treeg.go:590)
    refine Go'.region [(0, 0)] rfl ?_
    refine O.cmp rfl rfl rfl rfl rfl rfl (lssF (by omega)) ?_
    refine Pl.fin [(6, _), (7, _), (36, _), (37, _), (38, _), (39, _)] ⟨rfl, rfl, rfl, rfl, rfl, rfl, trivial⟩ ?_
    refine Go'.seq ?_
    refine Go'.condF rfl ?_
    refine Go'.exit rfl ?_
    refine Go'.seq ?_
    -- region 16 (treeg.go:593)
    refine Go'.region [(0, 0), (1, 2), (2, 0)] rfl ?_
    refine O.mv rfl rfl rfl rfl rfl ?_
    refine O.call rfl rfl rfl Go.Proofs.Try.call73 rfl (Items_spec hP hM (by omega)) ?_
    rintro v9 H5 ⟨hv9, hF5⟩
    refine ⟨trivial, ?_⟩
    refine O.asg rfl rfl rfl rfl rfl ?_
    refine Pl.fin [(6, _)] ⟨rfl, trivial⟩ ?_
    refine Go'.ret (vs := [_]) Go.Proofs.Try.func86 Go.Proofs.Try.results86 ⟨rfl, trivial⟩ ?_
    rw [hOI]; exact ⟨hv9, hF.trans hF5⟩

theorem lawGNew_spec {B : World} {H : Mem} {kd : Int} {v u : Value} {ord : List Int} {l : List (Int × Int)} (ho : InS EN H v ord) (hol : ord.length ≤ 4294967296) (hi : InS EJ H u l) (hll : l.length ≤ 4294967296) :
    Fn Try.prog B 38 [.int .i64 kd, v, u] H (fun r H' => r = .bool true ∧ Fr nowhere H H') := by
  have hpl := Pl.puts_length (OO ord) l
  obtain ⟨a, c, hu⟩ := hi.len
  subst hu
  obtain ⟨av, mv, cv, hv⟩ := InS.form ho
  subst hv
  refine fn_of Go.Proofs.Try.func38 rfl Go.Proofs.Try.ntmps38 ?_
  refine (show Go' _ _ _ _ 15 [(0, _), (1, _), (2, _)] [.code _] _ from ?_)
  refine Go'.seq ?_
  -- region 0 (exact.go:1910)
  refine Go'.region [(0, 0)] rfl ?_
  refine O.asg rfl rfl rfl rfl rfl ?_
  refine Pl.fin [(0, _), (1, _), (2, _), (6, _)] ⟨rfl, rfl, rfl, rfl, trivial⟩ ?_
  refine Go'.seq ?_
  -- region 1 (exact.go:1911)
  refine Go'.region [(0, 0), (1, 0), (2, 0), (3, 2), (4, 0), (5, 0), (6, 2), (7, 2), (8, 0)] rfl ?_
  refine O.mv rfl rfl rfl rfl rfl ?_
  refine O.mv rfl rfl rfl rfl rfl ?_
  refine O.mv rfl rfl rfl rfl rfl ?_
  refine O.call rfl rfl rfl Go.Proofs.Try.call86 rfl (ignew_spec ho hol hi hll) ?_
  rintro v1 H1 ⟨h1, hF1⟩
  refine ⟨trivial, ?_⟩
  refine O.mv rfl rfl rfl rfl rfl ?_
  refine O.mv rfl rfl rfl rfl rfl ?_
  refine O.call rfl rfl rfl Go.Proofs.Try.call42 rfl (tree_spec (ho.fr hF1) (by omega) (hi.fr hF1) hll) ?_
  rintro v2 H2 ⟨h2, hF2⟩
  refine ⟨trivial, ?_⟩
  refine O.callQ rfl rfl rfl Go.Proofs.Try.call28 rfl (eqItems_spec (h1.inS.fr hF2) h2.inS (by omega)) trivial ?_
  refine O.asg rfl rfl rfl rfl rfl ?_
  refine Pl.fin [(6, _)] ⟨rfl, trivial⟩ ?_
  refine Go'.ret (vs := [_]) Go.Proofs.Try.func38 Go.Proofs.Try.results38 ⟨rfl, trivial⟩ ?_
  exact ⟨rfl, hF1.trans hF2⟩

theorem fnExactGNew {B : World} {H : Mem} {kd : Int} {v u : Value} {ord : List Int} {l : List (Int × Int)} (ho : InS EN H v ord) (hi : InS EJ H u l) :
    Fn Try.prog B 9 [.int .i64 kd, v, u] H (fun r H' => r = .bool true ∧ Fr nowhere H H') := by
  obtain ⟨a, c, hu⟩ := hi.len
  subst hu
  obtain ⟨av, cv, hv⟩ := ho.len
  subst hv
  refine fn_of Go.Proofs.Try.func9 rfl Go.Proofs.Try.ntmps9 ?_
  refine (show Go' _ _ _ _ 23 [(0, _), (1, _), (2, _)] [.code _] _ from ?_)
  refine Go'.seq ?_
  -- region 0 (exact.go:1903)
  refine Go'.region [(0, 0)] rfl ?_
  refine O.asg rfl rfl rfl rfl rfl ?_
  refine Pl.fin [(0, _), (1, _), (2, _), (6, _)] ⟨rfl, rfl, rfl, rfl, trivial⟩ ?_
  refine Go'.seq ?_
  refine Go'.seq ?_
  by_cases ho1 : (2147483647 : Int) < (ord.length : Int)
  · skip
    -- region 1 (exact.go:1904)
    refine Go'.region [(0, 0), (1, 0), (2, 0), (3, 0), (4, 0), (5, 0), (6, 0), (7, 0)] rfl ?_
    refine O.mv rfl rfl rfl rfl rfl ?_
    refine O.len rfl rfl rfl rfl Go.Proofs.Try.underlying22 rfl ?_
    refine O.cmp rfl rfl rfl rfl rfl rfl (gtrT (by omega)) ?_
    refine O.mv rfl rfl rfl rfl rfl ?_
    refine Pl.pass rfl rfl rfl rfl ?_
    refine Pl.pass rfl rfl rfl rfl ?_
    refine Pl.pass rfl rfl rfl rfl ?_
    refine O.pick rfl rfl rfl rfl rfl rfl ?_
    refine Pl.fin [(0, _), (1, _), (2, _), (6, _), (14, _)] ⟨rfl, rfl, rfl, rfl, rfl, trivial⟩ ?_
    refine Go'.condT rfl ?_
    refine Go'.seq ?_
    -- region 2 (exact.go:1905)
    refine Go'.region [(0, 0)] rfl ?_
    refine O.asg rfl rfl rfl rfl rfl ?_
    refine Pl.fin [(0, _), (1, _), (2, _), (6, _)] ⟨rfl, rfl, rfl, rfl, trivial⟩ ?_
    refine Go'.ret (vs := [_]) Go.Proofs.Try.func9 Go.Proofs.Try.results9 ⟨rfl, trivial⟩ ?_
    exact ⟨rfl, Fr.refl _ _⟩
  · skip
    by_cases hl1 : (2147483647 : Int) < (l.length : Int)
    · skip
      -- region 1 (exact.go:1904)
      refine Go'.region [(0, 0), (1, 0), (2, 0), (3, 0), (4, 0), (5, 0), (6, 0), (7, 0)] rfl ?_
      refine O.mv rfl rfl rfl rfl rfl ?_
      refine O.len rfl rfl rfl rfl Go.Proofs.Try.underlying22 rfl ?_
      refine O.cmp rfl rfl rfl rfl rfl rfl (gtrF (by omega)) ?_
      refine O.mv rfl rfl rfl rfl rfl ?_
      refine O.mv rfl rfl rfl rfl rfl ?_
      refine O.len rfl rfl rfl rfl Go.Proofs.Try.underlying25 rfl ?_
      refine O.cmp rfl rfl rfl rfl rfl rfl (gtrT (by omega)) ?_
      refine O.pick rfl rfl rfl rfl rfl rfl ?_
      refine Pl.fin [(0, _), (1, _), (2, _), (6, _), (14, _)] ⟨rfl, rfl, rfl, rfl, rfl, trivial⟩ ?_
      refine Go'.condT rfl ?_
      refine Go'.seq ?_
      -- region 2 (exact.go:1905)
      refine Go'.region [(0, 0)] rfl ?_
      refine O.asg rfl rfl rfl rfl rfl ?_
      refine Pl.fin [(0, _), (1, _), (2, _), (6, _)] ⟨rfl, rfl, rfl, rfl, trivial⟩ ?_
      refine Go'.ret (vs := [_]) Go.Proofs.Try.func9 Go.Proofs.Try.results9 ⟨rfl, trivial⟩ ?_
      exact ⟨rfl, Fr.refl _ _⟩
    · skip
      -- region 1 (exact.go:1904)
      refine Go'.region [(0, 0), (1, 0), (2, 0), (3, 0), (4, 0), (5, 0), (6, 0), (7, 0)] rfl ?_
      refine O.mv rfl rfl rfl rfl rfl ?_
      refine O.len rfl rfl rfl rfl Go.Proofs.Try.underlying22 rfl ?_
      refine O.cmp rfl rfl rfl rfl rfl rfl (gtrF (by omega)) ?_
      refine O.mv rfl rfl rfl rfl rfl ?_
      refine O.mv rfl rfl rfl rfl rfl ?_
      refine O.len rfl rfl rfl rfl Go.Proofs.Try.underlying25 rfl ?_
      refine O.cmp rfl rfl rfl rfl rfl rfl (gtrF (by omega)) ?_
      refine O.pick rfl rfl rfl rfl rfl rfl ?_
      refine Pl.fin [(0, _), (1, _), (2, _), (6, _), (14, _)] ⟨rfl, rfl, rfl, rfl, rfl, trivial⟩ ?_
      refine Go'.condF rfl ?_
      refine Go'.skip ?_
      refine Go'.seq ?_
      -- region 3 (exact.go:1907)
      refine Go'.region [(0, 2), (1, 2), (2, 0), (3, 0), (4, 0), (5, 0), (6, 2), (7, 0), (8, 0)] rfl ?_
      refine O.call rfl rfl rfl Go.Proofs.Try.call32 rfl exItems_spec ?_
      rintro ev H1 ⟨hev, hF1⟩
      refine ⟨trivial, ?_⟩
      refine O.call rfl rfl rfl Go.Proofs.Try.call38 rfl (lawGNew_spec (InS.nil EN _) (by decide) hev (by decide)) ?_
      rintro _ H2 ⟨rfl, hF2⟩
      refine ⟨trivial, ?_⟩
      refine O.mv rfl rfl rfl rfl rfl ?_
      refine O.mv rfl rfl rfl rfl rfl ?_
      refine O.mv rfl rfl rfl rfl rfl ?_
      refine O.mv rfl rfl rfl rfl rfl ?_
      refine O.call rfl rfl rfl Go.Proofs.Try.call38 rfl (lawGNew_spec (ho.fr (hF1.trans hF2)) (by omega) (hi.fr (hF1.trans hF2)) (by omega)) ?_
      rintro _ H3 ⟨rfl, hF3⟩
      refine ⟨trivial, ?_⟩
      refine O.pick rfl rfl rfl rfl rfl rfl ?_
      refine O.asg rfl rfl rfl rfl rfl ?_
      refine Pl.fin [(6, _)] ⟨rfl, trivial⟩ ?_
      refine Go'.ret (vs := [_]) Go.Proofs.Try.func9 Go.Proofs.Try.results9 ⟨rfl, trivial⟩ ?_
      exact ⟨rfl, (hF1.trans hF2).trans hF3⟩

end Go.Bt.FG
