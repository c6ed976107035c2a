/- Contracts of functions of the program, proved by walking through their code. Conditions: those that each theorem names. -/
import Derived.Test.YtmboghgpakhceaaTohA
import Derived.Test.YtmboghgpakhceaaTogR
import Derived.Test.YtmboghgpakhceaaToSo
import Derived.Test.YtmboghgpakhceaaToKs
import Derived.Test.YtmboghgpakhceaaToAe
namespace Go.Bt.FG
open Go Go.Proofs
set_option maxRecDepth 20000
set_option maxHeartbeats 4000000
set_option linter.unusedVariables false
set_option linter.unusedSectionVars false

theorem igpops_spec {B : World} {H : Mem} {d : Nat} {nl : Bool} {v u : Value} {ord : List Int} {l : List (Int × Int)} {va : Value} {ks : List Bool} (hd : d = 0 ∨ 2 ≤ d ∧ d ≤ 128) (ho : InS EN H v ord) (hol : ord.length ≤ 4294967296) (hi : InS EJ H u l) (hll : l.length ≤ 4294967296) (ha : InS EB H va ks) (hal : ks.length ≤ 4294967296) :
    Fn Try.prog B 63 [.agg #[v, .int .i64 (d : Int), .bool nl], u, va] H (fun r H' => ∃ v1 v2, r = .tuple #[v1, v2] ∧ OutS EF H' v1 (Pl.runs Pl.popk (Pl.puts (OO ord) l) ks).2 ∧ OutS EJ H' v2 (Pl.runs Pl.popk (Pl.puts (OO ord) l) ks).1 ∧ Fr nowhere H H') := by
  obtain ⟨a, c, hu⟩ := hi.len
  subst hu
  obtain ⟨av, mv, cv, hv⟩ := InS.form ho
  subst hv
  have hF : Fr nowhere H H := Fr.refl _ _
  have hP := PD_ok hd
  obtain ⟨aa, ca, ha0⟩ := ha.len
  subst ha0
  refine fn_of Try.func63 rfl Try.ntmps63 ?_
  refine (show Go' _ _ _ _ 42 [(0, _), (1, _), (2, _)] [.code _] _ from ?_)
  refine Go'.seq ?_
  -- region 0 (treeg.go:165)
  refine Go'.region [(0, 2), (1, 0), (2, 0)] rfl ?_
  refine O.box rfl rfl rfl rfl ?_
  intro B1 MB1
  refine ⟨trivial, ?_⟩
  have hsB1 := MB1.size
  replace hF := hF.trans (MB1.fr nowhere)
  have mm : Rd B1 H.size 0 [.slice av mv cv, .int .i64 (d : Int), .bool nl] := MB1.rd _ [] (by simp [Value.cells])
  have mm0 : cl B1 H.size 0 = some (.slice av mv cv) := mm 0 _ rfl
  have mm1 : cl B1 H.size (0 + 1) = some (.int .i64 (d : Int)) := mm 1 _ rfl
  refine O.asg rfl rfl rfl rfl rfl ?_
  refine O.asg rfl rfl rfl rfl rfl ?_
  refine Pl.fin [(1, _), (2, _), (3, _), (6, _), (7, _)] ⟨rfl, rfl, rfl, rfl, rfl, trivial⟩ ?_
  refine Go'.seq ?_
  -- region 1 (treeg.go:166)
  refine Go'.region [(0, 1), (1, 0), (2, 2), (3, 0)] rfl ?_
  refine O.lds rfl rfl rfl (fun w => ⟨Try.isAgg24 w, Try.sizeOf24 w⟩) rfl rfl mm ?_
  refine O.mv rfl rfl rfl rfl rfl ?_
  refine O.call rfl rfl rfl Try.call68 rfl (grow_spec hd (ho.fr hF) hol (hi.fr hF) hll) ?_
  rintro _ H3 ⟨I, hIo, hIw, hIb, tr, S, rfl, hM, hF3, hS⟩
  have hs3 := hF3.size
  replace hF := hF.trans hF3
  replace mm := hF3.rd mm (fun _ _ => nw)
  replace mm0 := hF3.keep mm0 nw
  replace mm1 := hF3.keep mm1 nw
  have hSb : ∀ b, S b ∨ (b < cx.base ∧ cx.own b) → B1.size ≤ b := fun b hb => hb.elim (hS b) (fun h => hIw b h.2)
  have hOO : OO ord = OI := by rw [← hIo]; rfl
  have hpl := Pl.puts_length OI l
  have hSlt := hM.lt
  have hbs := hM.tc.hb
  unfold ptr
  refine ⟨trivial, ?_⟩
  refine O.asg rfl rfl rfl rfl rfl ?_
  refine Pl.fin [(2, _), (6, _), (7, _), (8, _)] ⟨rfl, rfl, rfl, rfl, trivial⟩ ?_
  refine Go'.seq ?_
  -- region 2 (treeg.go:167)
  refine Go'.region [(0, 0)] rfl ?_
  refine O.asg rfl rfl rfl rfl rfl ?_
  refine Pl.fin [(2, _), (6, _), (7, _), (8, _), (9, _)] ⟨rfl, rfl, rfl, rfl, rfl, trivial⟩ ?_
  refine Go'.seq ?_
  refine Go'.seq ?_
  -- region 3 (treeg.go:168)
  refine Go'.region [(0, 0), (1, 0), (2, 0)] rfl ?_
  refine O.mv rfl rfl rfl rfl rfl ?_
  refine O.len rfl rfl rfl rfl Try.underlying75 rfl ?_
  refine O.mv rfl rfl rfl rfl rfl ?_
  refine Pl.fin [(6, _), (7, _), (8, _), (9, _), (15, _), (16, _), (17, _)] ⟨rfl, rfl, rfl, rfl, rfl, rfl, rfl, trivial⟩ ?_
  refine Go'.block ?_
  refine Go'.loop ?_
  refine Go'.keep [(6, _), (7, _), (8, _), (9, _), (15, _), (16, _), (17, _)] ⟨rfl, rfl, rfl, rfl, rfl, rfl, rfl, trivial⟩ ?_
  refine Go'.ind (σ := Nat × Value) (fun s => ks.length - s.1) (fun s H' => s.1 ≤ ks.length ∧ Fr nowhere H H' ∧ H3.size ≤ H'.size ∧ ∃ S Zo, MapM H' tr (PD d) S (Pl.runs Pl.popk (Pl.puts OI l) (ks.take s.1)).1 ∧ (∀ b, S b → H.size ≤ b) ∧ Acc EF Zo H' s.2 (Pl.runs Pl.popk (Pl.puts OI l) (ks.take s.1)).2 ∧ ∀ b, Zo b → H3.size ≤ b ∧ b < H'.size ∧ ¬ S b)
    (fun s => [(6, .slice none 0 0), (7, .slice none 0 0), (8, .pointer (some ⟨tr, 0, none⟩)), (9, s.2), (15, .slice aa ks.length ca), (16, .int .i64 (ks.length : Int)), (17, .int .i64 (s.1 : Int))]) (0, .slice none 0 0) ⟨Nat.zero_le _, hF, Nat.le_refl _, S, fun _ => False, hM, fun b hb => by have := hS b hb; omega, Acc.nil _ _ _, fun _ h => h.elim⟩ rfl ?_
  clear hM hF hS hSb hSlt S
  rintro ⟨j, sv⟩ H5 ⟨hjl, hF, hs45, S, Zo, hM, hS, hA, hZ⟩ ih
  simp only at hjl hM hA
  have hi2 := ha.fr hF
  refine Go'.seq ?_
  by_cases hlt : j < ks.length
  · skip
    obtain ⟨y, hy⟩ : ∃ y, ks[j]? = some y := ⟨ks[j], List.getElem?_eq_getElem hlt⟩
    obtain ⟨b, o, c', e, hr⟩ := hi2.at hy
    cases e
    have hpl2 := Pl.runs_le Pl.popk_le (Pl.puts OI l) (ks.take j)
    have hlout := Pl.runs_len Pl.popk (Pl.puts OI l) (ks.take j)
    have hSlt := hM.lt
    have hbs2 := hM.tc.hb
    have hsz := hF.size
    rw [List.length_take] at hlout
    have erun := Pl.runs_take Pl.popk (Pl.puts OI l) hy
    generalize hL : (Pl.runs Pl.popk (Pl.puts OI l) (ks.take j)).1 = L at *
    generalize hG : (Pl.runs Pl.popk (Pl.puts OI l) (ks.take j)).2 = G at *
    -- region 4 (treeg.go:168)
    refine Go'.region [(0, 0)] rfl ?_
    refine O.cmp rfl rfl rfl rfl rfl rfl (lssT (by omega)) ?_
    refine Pl.fin [(6, _), (7, _), (8, _), (9, _), (15, _), (16, _), (17, _), (18, _)] ⟨rfl, rfl, rfl, rfl, rfl, rfl, rfl, rfl, trivial⟩ ?_
    refine Go'.seq ?_
    refine Go'.condT rfl ?_
    refine Go'.skip ?_
    refine Go'.seq ?_
    refine Go'.block ?_
    refine Go'.seq ?_
    -- region 5 (treeg.go:168)
    refine Go'.region [(0, 0), (1, 1), (2, 0)] rfl ?_
    refine O.ix (j := j) rfl rfl rfl rfl Try.underlying75 Try.sizeOf4 rfl rfl (by omega) hlt ?_
    refine O.ld rfl rfl rfl (fun w => ⟨Try.isAgg4 w, Try.sizeOf4 w⟩) rfl (hr 0 _ rfl) ?_
    refine O.asg rfl rfl rfl rfl rfl ?_
    refine Pl.fin [(6, _), (7, _), (8, _), (9, _), (11, _), (15, _), (16, _), (17, _), (18, _)] ⟨rfl, rfl, rfl, rfl, rfl, rfl, rfl, rfl, rfl, trivial⟩ ?_
    refine Go'.seq ?_
    -- region 6 (treeg.go:169)
    refine Go'.region [(0, 0)] rfl ?_
    refine O.mv rfl rfl rfl rfl rfl ?_
    refine Pl.fin [(6, _), (7, _), (8, _), (9, _), (11, _), (15, _), (16, _), (17, _), (18, _), (21, _)] ⟨rfl, rfl, rfl, rfl, rfl, rfl, rfl, rfl, rfl, rfl, trivial⟩ ?_
    cases y
    · skip
      refine Go'.condF rfl ?_
      generalize hfo : (Pl.popk L false).2 = fo at *
      -- region 8 (treeg.go:172)
      refine Go'.region [(0, 0), (1, 0), (2, 2), (3, 0), (4, 0), (5, 2), (6, 2), (7, 2), (8, 0)] rfl ?_
      refine O.mv rfl rfl rfl rfl rfl ?_
      refine O.mv rfl rfl rfl rfl rfl ?_
      refine O.call rfl rfl rfl Try.call115 rfl (popMin_spec hP hM (by omega)) ?_
      rintro _ H8 ⟨rfl, S', hM', hF8, hS'⟩
      rw [hfo]
      have hs8 := hF8.size
      replace hA := hA.fr hF8 (fun b o hb hb2 hz => (hZ b hb2).2.2 hz)
      replace hF := hF.trans' hF8 (fun _ _ _ h => h) (fun b o hb hz => by have := hS b hz; omega)
      refine ⟨trivial, ?_⟩
      refine O.ext rfl rfl rfl rfl rfl rfl ?_
      refine O.ext rfl rfl rfl rfl rfl rfl ?_
      refine O.call rfl rfl rfl Try.call104 rfl ifound_spec ?_
      rintro _ H9 ⟨rfl, hF9⟩
      have hs9 := hF9.size
      replace hM' := hM'.fr hF9 (fun _ _ _ => nw)
      replace hA := hA.fr hF9 (fun _ _ _ _ => nw)
      replace hF := hF.trans hF9
      rw [FVe]
      refine ⟨trivial, ?_⟩
      refine O.bsl (cs := (fvs fo)) rfl rfl rfl ⟨Try.underlying64, Try.sizeOf68, Try.zeroValue68, ⟨_, Try.typeInfo68, rfl⟩, rfl, by decide, by decide⟩ rfl (by decide) (by clear hfo erun; cases fo <;> kernel_rfl) ?_
      intro H10 M10
      have hs10 := M10.size
      replace hM' := hM'.fr (M10.fr nowhere) (fun _ _ _ => nw)
      replace hA := hA.fr (M10.fr nowhere) (fun _ _ _ _ => nw)
      replace hF := hF.trans (M10.fr nowhere)
      have m5 : Rd H10 H9.size 0 (row EF [fo]) := M10.rd _ [] (by simp [row, EF])
      refine ⟨trivial, ?_⟩
      refine O.appA (E := EF) (Y := [fo]) rfl rfl rfl ⟨Try.underlying64, Try.sizeOf68, Try.zeroValue68, ⟨_, Try.typeInfo68, rfl⟩, rfl, by decide, by decide⟩ rfl hA rfl ⟨_, _, _, rfl, m5⟩ (Nat.succ_pos _) (by rw [hlout]; exact Nat.le_trans (Nat.mul_le_mul_left _ (Nat.le_of_ble_eq_true (n := _) (m := 4096) rfl)) (by simp only [List.length_cons, List.length_nil]; omega)) (by rw [hlout]; simp only [List.length_cons, List.length_nil]; omega) ?_
      intro v8 H11 hA11 hF11 hs11
      have hs111 := hF11.size
      have hS2 : ∀ b, S' b → ¬ Zo b := fun b hb hz => (hS' b hb).elim (hZ b hz).2.2 (fun h => by have := (hZ b hz).2.1; omega)
      have hlt10 := hM'.lt
      have hM11 := hM'.fr hF11 (fun b _ hb hz => hb.elim (fun hb => hS2 b hb hz) (fun hb => by have := (hZ b hz).1; omega))
      replace hF := hF.trans' hF11 (fun _ _ _ h => h) (fun b o hb hz => by have := (hZ b hz).1; omega)
      refine ⟨trivial, ?_⟩
      refine O.asg rfl rfl rfl rfl rfl ?_
      refine Pl.fin [(6, _), (7, _), (8, _), (9, _), (11, _), (15, _), (16, _), (17, _), (18, _), (21, _)] ⟨rfl, rfl, rfl, rfl, rfl, rfl, rfl, rfl, rfl, rfl, trivial⟩ ?_
      refine Go'.inBlock ?_
      -- region 9 (treeg.go:168)
      refine Go'.region [(0, 0), (1, 0)] rfl ?_
      refine O.add (((j + 1 : Nat) : Int)) rfl rfl rfl rfl rfl rfl (by omega) (by omega) ?_
      refine O.mv rfl rfl rfl rfl rfl ?_
      refine Pl.fin [(6, _), (7, _), (8, _), (9, _), (11, _), (15, _), (16, _), (17, _), (18, _), (21, _)] ⟨rfl, rfl, rfl, rfl, rfl, rfl, rfl, rfl, rfl, rfl, trivial⟩ ?_
      refine Go'.keep [(6, _), (7, _), (8, _), (9, _), (15, _), (16, _), (17, _)] ⟨rfl, rfl, rfl, rfl, rfl, rfl, rfl, trivial⟩ ?_
      refine Go'.inLoop ?_
      exact ih (j + 1, v8) H11 ⟨hlt, hF, by omega, S', (fun b => Zo b ∨ (b = H10.size ∧ b < H11.size)), by
        simp only
        rw [erun]
        exact hM11, fun b hb => (hS' b hb).elim (hS b) (fun h => by omega), by
        simp only
        rw [erun]
        exact hA11, fun b hb => hb.elim (fun h => ⟨(hZ b h).1, by have := (hZ b h).2.1; omega, fun hs => hS2 b hs h⟩) (fun h => ⟨by omega, h.2, fun hs => by have := hlt10 b hs; omega⟩)⟩ (by simp only; omega)
    · skip
      refine Go'.condT rfl ?_
      generalize hfo : (Pl.popk L true).2 = fo at *
      -- region 7 (treeg.go:170)
      refine Go'.region [(0, 0), (1, 0), (2, 2), (3, 0), (4, 0), (5, 2), (6, 2), (7, 2), (8, 0)] rfl ?_
      refine O.mv rfl rfl rfl rfl rfl ?_
      refine O.mv rfl rfl rfl rfl rfl ?_
      refine O.call rfl rfl rfl Try.call114 rfl (popMax_spec hP hM (by omega)) ?_
      rintro _ H8 ⟨rfl, S', hM', hF8, hS'⟩
      rw [hfo]
      have hs8 := hF8.size
      replace hA := hA.fr hF8 (fun b o hb hb2 hz => (hZ b hb2).2.2 hz)
      replace hF := hF.trans' hF8 (fun _ _ _ h => h) (fun b o hb hz => by have := hS b hz; omega)
      refine ⟨trivial, ?_⟩
      refine O.ext rfl rfl rfl rfl rfl rfl ?_
      refine O.ext rfl rfl rfl rfl rfl rfl ?_
      refine O.call rfl rfl rfl Try.call104 rfl ifound_spec ?_
      rintro _ H9 ⟨rfl, hF9⟩
      have hs9 := hF9.size
      replace hM' := hM'.fr hF9 (fun _ _ _ => nw)
      replace hA := hA.fr hF9 (fun _ _ _ _ => nw)
      replace hF := hF.trans hF9
      rw [FVe]
      refine ⟨trivial, ?_⟩
      refine O.bsl (cs := (fvs fo)) rfl rfl rfl ⟨Try.underlying64, Try.sizeOf68, Try.zeroValue68, ⟨_, Try.typeInfo68, rfl⟩, rfl, by decide, by decide⟩ rfl (by decide) (by clear hfo erun; cases fo <;> kernel_rfl) ?_
      intro H10 M10
      have hs10 := M10.size
      replace hM' := hM'.fr (M10.fr nowhere) (fun _ _ _ => nw)
      replace hA := hA.fr (M10.fr nowhere) (fun _ _ _ _ => nw)
      replace hF := hF.trans (M10.fr nowhere)
      have m5 : Rd H10 H9.size 0 (row EF [fo]) := M10.rd _ [] (by simp [row, EF])
      refine ⟨trivial, ?_⟩
      refine O.appA (E := EF) (Y := [fo]) rfl rfl rfl ⟨Try.underlying64, Try.sizeOf68, Try.zeroValue68, ⟨_, Try.typeInfo68, rfl⟩, rfl, by decide, by decide⟩ rfl hA rfl ⟨_, _, _, rfl, m5⟩ (Nat.succ_pos _) (by rw [hlout]; exact Nat.le_trans (Nat.mul_le_mul_left _ (Nat.le_of_ble_eq_true (n := _) (m := 4096) rfl)) (by simp only [List.length_cons, List.length_nil]; omega)) (by rw [hlout]; simp only [List.length_cons, List.length_nil]; omega) ?_
      intro v8 H11 hA11 hF11 hs11
      have hs111 := hF11.size
      have hS2 : ∀ b, S' b → ¬ Zo b := fun b hb hz => (hS' b hb).elim (hZ b hz).2.2 (fun h => by have := (hZ b hz).2.1; omega)
      have hlt10 := hM'.lt
      have hM11 := hM'.fr hF11 (fun b _ hb hz => hb.elim (fun hb => hS2 b hb hz) (fun hb => by have := (hZ b hz).1; omega))
      replace hF := hF.trans' hF11 (fun _ _ _ h => h) (fun b o hb hz => by have := (hZ b hz).1; omega)
      refine ⟨trivial, ?_⟩
      refine O.asg rfl rfl rfl rfl rfl ?_
      refine Pl.fin [(6, _), (7, _), (8, _), (9, _), (11, _), (15, _), (16, _), (17, _), (18, _), (21, _)] ⟨rfl, rfl, rfl, rfl, rfl, rfl, rfl, rfl, rfl, rfl, trivial⟩ ?_
      refine Go'.inBlock ?_
      -- region 9 (treeg.go:168)
      refine Go'.region [(0, 0), (1, 0)] rfl ?_
      refine O.add (((j + 1 : Nat) : Int)) rfl rfl rfl rfl rfl rfl (by omega) (by omega) ?_
      refine O.mv rfl rfl rfl rfl rfl ?_
      refine Pl.fin [(6, _), (7, _), (8, _), (9, _), (11, _), (15, _), (16, _), (17, _), (18, _), (21, _)] ⟨rfl, rfl, rfl, rfl, rfl, rfl, rfl, rfl, rfl, rfl, trivial⟩ ?_
      refine Go'.keep [(6, _), (7, _), (8, _), (9, _), (15, _), (16, _), (17, _)] ⟨rfl, rfl, rfl, rfl, rfl, rfl, rfl, trivial⟩ ?_
      refine Go'.inLoop ?_
      exact ih (j + 1, v8) H11 ⟨hlt, hF, by omega, S', (fun b => Zo b ∨ (b = H10.size ∧ b < H11.size)), by
        simp only
        rw [erun]
        exact hM11, fun b hb => (hS' b hb).elim (hS b) (fun h => by omega), by
        simp only
        rw [erun]
        exact hA11, fun b hb => hb.elim (fun h => ⟨(hZ b h).1, by have := (hZ b h).2.1; omega, fun hs => hS2 b hs h⟩) (fun h => ⟨by omega, h.2, fun hs => by have := hlt10 b hs; omega⟩)⟩ (by simp only; omega)
  · skip
    have ejl : j = ks.length := by omega
    rw [ejl, List.take_length] at hM hA
    have hpl2 := Pl.runs_le Pl.popk_le (Pl.puts OI l) ks
    -- region 4 (treeg.go:168)
    refine Go'.region [(0, 0)] rfl ?_
    refine O.cmp rfl rfl rfl rfl rfl rfl (lssF (by omega)) ?_
    refine Pl.fin [(6, _), (7, _), (8, _), (9, _), (15, _), (16, _), (17, _), (18, _)] ⟨rfl, rfl, rfl, rfl, rfl, rfl, rfl, rfl, trivial⟩ ?_
    refine Go'.seq ?_
    refine Go'.condF rfl ?_
    refine Go'.exit rfl ?_
    refine Go'.seq ?_
    -- region 10 (treeg.go:175)
    refine Go'.region [(0, 0), (1, 0), (2, 2), (3, 0), (4, 0)] rfl ?_
    refine O.mv rfl rfl rfl rfl rfl ?_
    refine O.mv rfl rfl rfl rfl rfl ?_
    refine O.call rfl rfl rfl Try.call73 rfl (Items_spec hP hM (by omega)) ?_
    rintro v9 H6 ⟨hv9, hF6⟩
    refine ⟨trivial, ?_⟩
    refine O.asg rfl rfl rfl rfl rfl ?_
    refine O.asg rfl rfl rfl rfl rfl ?_
    refine Pl.fin [(6, _), (7, _)] ⟨rfl, rfl, trivial⟩ ?_
    refine Go'.ret (vs := [_, _]) Try.func63 Try.results63 ⟨rfl, rfl, trivial⟩ ?_
    rw [hOO]
    exact ⟨_, _, rfl, (hA.fr hF6 (fun _ _ _ _ => nw)).out, hv9, hF.trans hF6⟩

end Go.Bt.FG
namespace Go.Bt.FG
open Go Go.Proofs
set_option maxRecDepth 20000
set_option maxHeartbeats 4000000
set_option linter.unusedVariables false
set_option linter.unusedSectionVars false

end Go.Bt.FG
namespace Go.Bt.Pl
end Go.Bt.Pl
namespace Go.Bt.FG
open Go Go.Proofs
set_option maxRecDepth 20000
set_option maxHeartbeats 4000000
set_option linter.unusedVariables false
set_option linter.unusedSectionVars false

def encIt (x : Int × Int) : List Value := [.agg (EJ.enc x).toArray]
end Go.Bt.FG
namespace Go.Bt.Pl
end Go.Bt.Pl
namespace Go.Bt.FG
open Go Go.Proofs
set_option maxRecDepth 20000
set_option maxHeartbeats 4000000
set_option linter.unusedVariables false
set_option linter.unusedSectionVars false



section
variable [Inhabited Cx]
/-- What a reader with a function is called with. -/
structure VPre {P' : Program} {B : World} {g : FuncId} {us cs : List Value} {go : List (Int × Int) → Bool} {M : Nat} (cb : Cb P' B encIt g us cs go M) (H : Mem) (tr : Nat) (P : Ps) (h : Nat) (t : Gt EJ h) (bp op : Nat) (acc : List (Int × Int)) (Z : Nat → Prop) : Prop where
  tc : TrC H tr P.iso P.mx P.mn
  g : Gt.Good H P h t
  cel : cl H bp op = some (ptr (Gt.p h t))
  nz : ∀ b o, Gt.af h t b o → ¬ Z b
  nb : ∀ b, Z b → ¬ (b < cx.base ∧ cx.own b)
  st : cb.T acc Z H
  len : acc.length + (Gt.L h t).length ≤ M
end
end Go.Bt.FG
namespace Go.Bt.FG
open Go Go.Proofs
set_option maxRecDepth 20000
set_option maxHeartbeats 4000000
set_option linter.unusedVariables false
set_option linter.unusedSectionVars false

theorem App.rp {H H' : Mem} {b o len c m s : Nat} {xs news : List Value} {b' o' c' : Nat} (ha : App H H' b o len c m s xs news b' o' c') : Fr (fun b1 _ => b1 = b) H H' ∧ (b' = b ∨ H.size ≤ b') :=
  ⟨ha.fr.mono fun b1 o1 _ hz => hz.1, by rcases ha.place with ⟨h, _⟩ | ⟨h, _⟩ <;> omega⟩

/-- What the taker keeps: how many at most, and the list so far. -/
structure TkT (b2 b3 D : Nat) (n : Int) (acc : List (Int × Int)) (Z : Nat → Prop) (H : Mem) : Prop where
  c2 : cl H b2 0 = some (ptr D)
  c3 : cl H b3 0 = some (.int .i64 n)
  wr : Wr H D 0 1
  z2 : Z b2
  z3 : Z b3
  zD : Z D
  n2 : b2 ≠ D
  n3 : b3 ≠ D
  lt : ∀ b, Z b → b < H.size
  sl : (acc = [] ∧ cl H D 0 = some (.slice none 0 0)) ∨ ∃ b o c, cl H D 0 = some (.slice (some ⟨b, o, none⟩) acc.length c) ∧ SlE EJ H b o c acc ∧ Z b ∧ b ≠ D ∧ b ≠ b2 ∧ b ≠ b3
theorem TkT.fr {b2 b3 D : Nat} {n : Int} {acc : List (Int × Int)} {Z : Nat → Prop} {H H' : Mem} {Y : Nat → Nat → Prop} (h : TkT b2 b3 D n acc Z H) (hf : Fr Y H H') (hy : ∀ b o, Z b → ¬ Y b o) : TkT b2 b3 D n acc Z H' where
  c2 := hf.keep h.c2 (hy _ _ h.z2)
  c3 := hf.keep h.c3 (hy _ _ h.z3)
  wr := hf.wr h.wr
  z2 := h.z2
  z3 := h.z3
  zD := h.zD
  n2 := h.n2
  n3 := h.n3
  lt := fun b hb => Nat.lt_of_lt_of_le (h.lt b hb) hf.size
  sl := h.sl.elim (fun ⟨e, k⟩ => .inl ⟨e, hf.keep k (hy _ _ h.zD)⟩) fun ⟨b, o, c, k, hs, hz, r⟩ => .inr ⟨b, o, c, hf.keep k (hy _ _ h.zD), hs.fr hf (fun i _ _ => hy _ _ hz), hz, r⟩

theorem TkT.out {b2 b3 D : Nat} {n : Int} {acc : List (Int × Int)} {Z : Nat → Prop} {H : Mem} (h : TkT b2 b3 D n acc Z H) : ∃ v, cl H D 0 = some v ∧ OutS EJ H v acc := by
  rcases h.sl with ⟨e, k⟩ | ⟨b, o, c, k, hs, _⟩
  · exact ⟨_, k, .inl ⟨rfl, e⟩⟩
  · exact ⟨_, k, .inr ⟨b, o, c, rfl, hs⟩⟩
section
variable [Inhabited Cx]
end
end Go.Bt.FG
