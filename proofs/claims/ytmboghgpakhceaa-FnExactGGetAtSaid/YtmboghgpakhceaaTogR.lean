/- Contracts of functions of the program, proved by walking through their code. Conditions: those that each theorem names. -/
import Derived.Laws.StructEq
import Derived.Test.YtmboghgpakhceaaTogM
import Derived.Test.YtmboghgpakhceaaToHi
namespace Go.Bt.FG
open Go Go.Proofs
set_option maxRecDepth 20000
set_option maxHeartbeats 4000000
set_option linter.unusedVariables false
set_option linter.unusedSectionVars false

theorem fields27 : Try.prog.underlying 27 = some (.struct (Try.prog.fieldsOf 27)) := by unfold Program.fieldsOf; rw [Try.underlying27]
theorem fields68 : Try.prog.underlying 68 = some (.struct (Try.prog.fieldsOf 68)) := by unfold Program.fieldsOf; rw [Try.underlying68]
theorem item_eq (d : Nat) (x : Int × Int) (w : World) : (Op.equalIn (d + 2) 27 (.agg #[.int .i64 x.1, .int .i64 x.2]) (.agg #[.int .i64 x.1, .int .i64 x.2])).run Try.prog w = .ok true w := by
  rw [run_equalIn_agg w (d + 1) 27 _ _ fields27 Try.stoodInHeld27]
  simp [Op.eqFields, Program.fieldsOf, Try.underlying27, part, Try.isAgg3, run_equalIn_int w d 3 _ _ _ _ Try.underlying3]
theorem found_eq (o : Option (Int × Int)) (x y : Operand) (w : World) : (eqGuard .eql 68 x y (.agg (fvs o).toArray) (.agg (fvs o).toArray)).run Try.prog w = .ok () w ∧ (binOp .eql 68 (.agg (fvs o).toArray) (.agg (fvs o).toArray)).run Try.prog w = .ok (.bool true) w := by
  refine ⟨run_eqGuard_agg w _ _ _ _ _ _ Try.eqGuardType68, ?_⟩
  rw [run_eql_struct, run_equalIn_agg w 9999 68 _ _ fields68 Try.stoodInHeld68]
  have h : ∀ x y : Int, (Op.equalIn 9999 27 (.agg #[.int .i64 x, .int .i64 y]) (.agg #[.int .i64 x, .int .i64 y])).run Try.prog w = .ok true w := fun x y => item_eq 9997 (x, y) w
  have hb : ∀ b : Bool, (Op.equalIn 9999 4 (.bool b) (.bool b)).run Try.prog w = .ok true w := fun b => by
    have := run_equalIn_bool' w 9998 4 b b Try.underlying4
    simpa using this
  cases o with
  | none => simp [fvs, Op.eqFields, Program.fieldsOf, Try.underlying68, part, Try.isAgg27, Try.sizeOf27, Try.isAgg4, h, hb]
  | some y => simp [fvs, Op.eqFields, Program.fieldsOf, Try.underlying68, part, Try.isAgg27, Try.sizeOf27, Try.isAgg4, h, hb]

theorem found_neq (o : Option (Int × Int)) (a b : Operand) (w : World) : (eqGuard .neq 68 a b (.agg (fvs o).toArray) (.agg (fvs o).toArray)).run Try.prog w = .ok () w ∧ (binOp .neq 68 (.agg (fvs o).toArray) (.agg (fvs o).toArray)).run Try.prog w = .ok (.bool false) w := by
  refine ⟨run_eqGuard_agg w _ _ _ _ _ _ Try.eqGuardType68, ?_⟩
  rw [run_neq_struct]
  have h := (found_eq o a b w).2
  rw [run_eql_struct] at h
  have h2 : (Op.equalIn 10000 68 (.agg (fvs o).toArray) (.agg (fvs o).toArray)).run Try.prog w = .ok true w := by
    cases hh : (Op.equalIn 10000 68 (.agg (fvs o).toArray) (.agg (fvs o).toArray)).run Try.prog w with
    | ok x w2 => rw [hh] at h; simp [Result.andThen] at h; obtain ⟨h1, h2⟩ := h; rw [h1, h2]
    | _ => rw [hh] at h; simp [Result.andThen] at h
  rw [h2]; rfl

theorem eqFounds_spec {B : World} {H : Mem} {u v : Value} {l : List (Option (Int × Int))} (hu : InS EF H u l) (hv : InS EF H v l) (hll : l.length ≤ 4294967296) :
    Fn Try.prog B 83 [u, v] H (fun r H' => r = .bool true ∧ H' = H) := by
  obtain ⟨a, c, e⟩ := hu.len
  subst e
  obtain ⟨a', c', e⟩ := hv.len
  subst e
  refine fn_of Go.Proofs.Try.func83 rfl Go.Proofs.Try.ntmps83 ?_
  refine (show Go' _ _ _ _ 26 [(0, _), (1, _)] [.code _] _ from ?_)
  refine Go'.seq ?_
  -- region 0 (slices.go:20)
  refine Go'.region [(0, 0)] rfl ?_
  refine O.asg rfl rfl rfl rfl rfl ?_
  refine Pl.fin [(0, _), (1, _), (4, _)] ⟨rfl, rfl, rfl, trivial⟩ ?_
  refine Go'.seq ?_
  refine Go'.seq ?_
  -- region 1 (slices.go:21)
  refine Go'.region [(0, 0), (1, 0), (2, 0), (3, 0), (4, 0)] rfl ?_
  refine O.mv rfl rfl rfl rfl rfl ?_
  refine O.len rfl rfl rfl rfl Go.Proofs.Try.underlying64 rfl ?_
  refine O.mv rfl rfl rfl rfl rfl ?_
  refine O.len rfl rfl rfl rfl Go.Proofs.Try.underlying64 rfl ?_
  refine O.cmp rfl rfl rfl rfl rfl rfl (neqF (by omega)) ?_
  refine Pl.fin [(0, _), (1, _), (4, _), (10, _)] ⟨rfl, rfl, rfl, rfl, trivial⟩ ?_
  refine Go'.condF rfl ?_
  refine Go'.skip ?_
  refine Go'.seq ?_
  refine Go'.seq ?_
  -- region 3 (slices.go:24)
  refine Go'.region [(0, 0), (1, 0), (2, 0)] rfl ?_
  refine O.mv rfl rfl rfl rfl rfl ?_
  refine O.len rfl rfl rfl rfl Go.Proofs.Try.underlying64 rfl ?_
  refine O.mv rfl rfl rfl rfl rfl ?_
  refine Pl.fin [(0, _), (1, _), (4, _), (12, _), (13, _)] ⟨rfl, rfl, rfl, rfl, rfl, trivial⟩ ?_
  refine Go'.block ?_
  refine Go'.loop ?_
  refine Go'.keep [(0, _), (1, _), (4, _), (12, _), (13, _)] ⟨rfl, rfl, rfl, rfl, rfl, trivial⟩ ?_
  refine Go'.ind (σ := Nat) (fun j => l.length - j) (fun j H' => H' = H ∧ j ≤ l.length)
    (fun j => [(0, .slice a l.length c), (1, .slice a' l.length c'), (4, .bool false), (12, .int .i64 (l.length : Int)), (13, .int .i64 (j : Int))]) 0 ⟨rfl, Nat.zero_le _⟩ rfl ?_
  rintro j H2 ⟨hHH, hjl⟩ ih
  have eH : H = H2 := hHH.symm
  subst eH
  clear hHH
  refine Go'.seq ?_
  by_cases hlt : j < l.length
  · skip
    obtain ⟨y, hy⟩ : ∃ y, l[j]? = some y := ⟨l[j], List.getElem?_eq_getElem hlt⟩
    obtain ⟨b, o, cc, e, hr⟩ := hu.at hy
    cases e
    obtain ⟨b', o', cc', e, hr'⟩ := hv.at hy
    cases e
    -- region 4 (slices.go:24)
    refine Go'.region [(0, 0)] rfl ?_
    refine O.cmp rfl rfl rfl rfl rfl rfl (lssT (by omega)) ?_
    refine Pl.fin [(0, _), (1, _), (4, _), (12, _), (13, _), (14, _)] ⟨rfl, rfl, rfl, rfl, rfl, rfl, trivial⟩ ?_
    refine Go'.seq ?_
    refine Go'.condT rfl ?_
    refine Go'.skip ?_
    refine Go'.seq ?_
    refine Go'.block ?_
    refine Go'.seq ?_
    -- region 5 (slices.go:24)
    refine Go'.region [(0, 0), (1, 0)] rfl ?_
    refine O.mv rfl rfl rfl rfl rfl ?_
    refine O.asg rfl rfl rfl rfl rfl ?_
    refine Pl.fin [(0, _), (1, _), (4, _), (5, _), (12, _), (13, _), (14, _)] ⟨rfl, rfl, rfl, rfl, rfl, rfl, rfl, trivial⟩ ?_
    refine Go'.seq ?_
    -- region 6 (slices.go:25)
    refine Go'.draw (fun _ => True) [(0, 0), (1, 0), (2, 0), (3, 1), (4, 0), (5, 0), (6, 0), (7, 1), (8, 0)] (by kernel_rfl) (by kernel_rfl) (trivial) ?_
    refine O.mv rfl rfl rfl rfl rfl ?_
    refine O.mv rfl rfl rfl rfl rfl ?_
    refine O.ix (j := j) rfl rfl rfl rfl Go.Proofs.Try.underlying64 Go.Proofs.Try.sizeOf68 rfl rfl (by omega) hlt ?_
    refine O.lds rfl rfl rfl (fun w => ⟨Go.Proofs.Try.isAgg68 w, Go.Proofs.Try.sizeOf68 w⟩) rfl (by cases y <;> rfl) hr ?_
    refine O.mv rfl rfl rfl rfl rfl ?_
    refine O.mv rfl rfl rfl rfl rfl ?_
    refine O.ix (j := j) rfl rfl rfl rfl Go.Proofs.Try.underlying64 Go.Proofs.Try.sizeOf68 rfl rfl (by omega) hlt ?_
    refine O.lds rfl rfl rfl (fun w => ⟨Go.Proofs.Try.isAgg68 w, Go.Proofs.Try.sizeOf68 w⟩) rfl (by cases y <;> rfl) hr' ?_
    refine O.bin rfl rfl rfl rfl rfl rfl (found_neq y _ _) ?_
    refine Pl.fin [(0, _), (1, _), (4, _), (5, _), (12, _), (13, _), (14, _), (24, _)] ⟨rfl, rfl, rfl, rfl, rfl, rfl, rfl, rfl, trivial⟩ ?_
    refine Go'.condF rfl ?_
    refine Go'.skip ?_
    refine Go'.inBlock ?_
    -- region 8 (slices.go:24)
    refine Go'.region [(0, 0), (1, 0)] rfl ?_
    refine O.add (((j + 1 : Nat) : Int)) rfl rfl rfl rfl rfl rfl (by omega) (by omega) ?_
    refine O.mv rfl rfl rfl rfl rfl ?_
    refine Pl.fin [(0, _), (1, _), (4, _), (5, _), (12, _), (13, _), (14, _), (24, _)] ⟨rfl, rfl, rfl, rfl, rfl, rfl, rfl, rfl, trivial⟩ ?_
    refine Go'.keep [(0, _), (1, _), (4, _), (12, _), (13, _)] ⟨rfl, rfl, rfl, rfl, rfl, trivial⟩ ?_
    refine Go'.inLoop ?_
    exact ih (j + 1) H ⟨rfl, hlt⟩ (by omega)
  · skip
    -- region 4 (slices.go:24)
    refine Go'.region [(0, 0)] rfl ?_
    refine O.cmp rfl rfl rfl rfl rfl rfl (lssF (by omega)) ?_
    refine Pl.fin [(0, _), (1, _), (4, _), (12, _), (13, _), (14, _)] ⟨rfl, rfl, rfl, rfl, rfl, rfl, trivial⟩ ?_
    refine Go'.seq ?_
    refine Go'.condF rfl ?_
    refine Go'.exit rfl ?_
    refine Go'.seq ?_
    -- region 9 (slices.go:29)
    refine Go'.region [(0, 0)] rfl ?_
    refine O.asg rfl rfl rfl rfl rfl ?_
    refine Pl.fin [(4, _)] ⟨rfl, trivial⟩ ?_
    refine Go'.ret (vs := [_]) Go.Proofs.Try.func83 Go.Proofs.Try.results83 ⟨rfl, trivial⟩ ?_
    exact ⟨rfl, rfl⟩

end Go.Bt.FG
namespace Go.Bt.FG
open Go Go.Proofs
set_option maxRecDepth 20000
set_option maxHeartbeats 4000000
set_option linter.unusedVariables false
set_option linter.unusedSectionVars false

section
variable [Inhabited Cx]

theorem inter_drop {α : Type} {X : List α} {K : List (List α)} {i : Nat} {x : α} {k : List α} (hx : X[i]? = some x) (hk : K[i]? = some k) : Pl.inter (X.drop i) (K.drop i) = k ++ x :: Pl.inter (X.drop (i + 1)) (K.drop (i + 1)) := by
  obtain ⟨h1, h2⟩ := List.getElem?_eq_some_iff.1 hx
  obtain ⟨h3, h4⟩ := List.getElem?_eq_some_iff.1 hk
  rw [← List.getElem_cons_drop (h := h1), ← List.getElem_cons_drop (h := h3), h2, h4]; rfl
theorem inter_drope {α : Type} {X : List α} {K : List (List α)} {k : List α} (hl : K.length = X.length + 1) (hk : K[X.length]? = some k) : Pl.inter (X.drop X.length) (K.drop X.length) = k := by
  obtain ⟨h3, h4⟩ := List.getElem?_eq_some_iff.1 hk
  rw [← List.getElem_cons_drop (h := h3), h4, List.drop_length]; rfl

theorem getAt_spec {B : World} {H : Mem} {tr : Nat} {P : Ps} (hP : PsOk P) {S : Nat → Prop} {l : List (Int × Int)} (hM : MapM H tr P S l) (z : Int) (mt : Bool) (hll : l.length < 4611686018427387904) :
    Fn Try.prog B 184 [.pointer (some ⟨tr, 0, none⟩), .int .i64 z, .bool mt] H (fun r H' => r = .tuple #[PV (ath l z), .bool (ath l z).isSome] ∧ Fr nowhere H H') := by
  have hh1 := hP.h1
  have hx255 := hP.hx
  have lt0 := hM.lt
  refine fn_of Go.Proofs.Try.func184 rfl Go.Proofs.Try.ntmps184 ?_
  refine (show Go' _ _ _ _ 121 [(0, _), (1, _), (2, _)] [.code _] _ from ?_)
  refine Go'.seq ?_
  -- region 0 (btreeg.go:1360)
  refine Go'.region [(0, 2), (1, 0)] rfl ?_
  refine O.alloc rfl rfl rfl Go.Proofs.Try.zeroValue27 ?_
  intro H0 M0
  refine ⟨trivial, ?_⟩
  have hs0 := M0.size
  replace hM := hM.fr (M0.fr nowhere) (fun _ _ _ => nw)
  have mw : Wr H0 H.size 0 2 := M0.wr 2 (by decide)
  have hF := M0.fr nowhere
  refine O.asg rfl rfl rfl rfl rfl ?_
  refine Pl.fin [(0, _), (1, _), (2, _), (6, _), (7, _)] ⟨rfl, rfl, rfl, rfl, rfl, trivial⟩ ?_
  refine Go'.seq ?_
  refine Go'.seq ?_
  -- region 1 (btreeg.go:1361)
  refine Go'.region [(0, 0), (1, 0), (2, 2)] rfl ?_
  refine O.mv rfl rfl rfl rfl rfl ?_
  refine O.mv rfl rfl rfl rfl rfl ?_
  refine O.callQ rfl rfl rfl Go.Proofs.Try.call128 rfl lock_spec trivial ?_
  refine Pl.fin [(0, _), (1, _), (2, _), (6, _), (7, _), (12, _)] ⟨rfl, rfl, rfl, rfl, rfl, rfl, trivial⟩ ?_
  refine Go'.condF rfl ?_
  refine Go'.skip ?_
  refine Go'.seq ?_
  refine Go'.seq ?_
  obtain ⟨tc, srt, cnt, own, lt, bs, hr⟩ := hM
  rcases hr with ⟨rfl, hptr⟩ | ⟨h, t, hg, hx1, e, hc, hnt, hown⟩
  · skip
    -- region 3 (btreeg.go:1364)
    refine Go'.region [(0, 0), (1, 0), (2, 0), (3, 1), (4, 0), (5, 0), (6, 0), (7, 0), (8, 0), (9, 0), (10, 0), (11, 0), (12, 0), (13, 0), (14, 1), (15, 0), (16, 0)] rfl ?_
    refine O.mv rfl rfl rfl rfl rfl ?_
    refine O.nc rfl rfl rfl rfl rfl ?_
    refine O.fa0 (off := 2) rfl rfl rfl rfl ⟨_, _, _, Go.Proofs.Try.underlying158, rfl, rfl, Go.Proofs.Try.sizeOf129⟩ rfl ?_
    refine O.ld rfl rfl rfl (fun w => ⟨Go.Proofs.Try.isAgg129 w, Go.Proofs.Try.sizeOf129 w⟩) rfl hptr ?_
    refine O.isNil rfl rfl rfl rfl Go.Proofs.Try.underlying129 rfl rfl ?_
    refine O.mv rfl rfl rfl rfl rfl ?_
    refine Pl.pass rfl rfl rfl rfl ?_
    refine Pl.pass rfl rfl rfl rfl ?_
    refine O.pick rfl rfl rfl rfl rfl rfl ?_
    refine O.mv rfl rfl rfl rfl rfl ?_
    refine Pl.pass rfl rfl rfl rfl ?_
    refine Pl.pass rfl rfl rfl rfl ?_
    refine Pl.pass rfl rfl rfl rfl ?_
    refine Pl.pass rfl rfl rfl rfl ?_
    refine Pl.pass rfl rfl rfl rfl ?_
    refine Pl.pass rfl rfl rfl rfl ?_
    refine O.pick rfl rfl rfl rfl rfl rfl ?_
    refine Pl.fin [(0, _), (1, _), (2, _), (6, _), (7, _), (31, _)] ⟨rfl, rfl, rfl, rfl, rfl, rfl, trivial⟩ ?_
    refine Go'.condT rfl ?_
    refine Go'.seq ?_
    -- region 4 (btreeg.go:1365)
    refine Go'.region [(0, 0), (1, 0), (2, 0), (3, 1), (4, 2), (5, 0)] rfl ?_
    refine O.mv rfl rfl rfl rfl rfl ?_
    refine O.nc rfl rfl rfl rfl rfl ?_
    refine O.fa0 (off := 7) rfl rfl rfl rfl ⟨_, _, _, Go.Proofs.Try.underlying158, rfl, rfl, Go.Proofs.Try.sizeOf27⟩ rfl ?_
    refine O.lds rfl rfl rfl (fun w => ⟨Go.Proofs.Try.isAgg27 w, Go.Proofs.Try.sizeOf27 w⟩) rfl rfl tc.emp ?_
    refine O.st (vs := (EJ.enc (0, 0))) rfl rfl Go.Proofs.Try.sizeOf27 rfl rfl rfl rfl rfl mw ?_
    intro H3 W3
    replace hF : Fr nowhere H H3 := hF.trans' W3.fr (fun _ _ _ h => h) (fun b o hb h => by have h' := h.1; omega)
    refine ⟨trivial, ?_⟩
    refine O.asg rfl rfl rfl rfl rfl ?_
    refine Pl.fin [(0, _), (1, _), (2, _), (6, _), (7, _)] ⟨rfl, rfl, rfl, rfl, rfl, trivial⟩ ?_
    refine Go'.ret (vs := [_, _]) Go.Proofs.Try.func184 Go.Proofs.Try.results184 ⟨⟨_, _, rfl, fun _ _ => run_loadVar_agg (fun w => ⟨Go.Proofs.Try.isAgg27 w, Go.Proofs.Try.sizeOf27 w⟩) rfl W3.all⟩, rfl, trivial⟩ ?_
    refine ⟨?_, hF⟩
    have e : ath ([] : List (Int × Int)) z = none := by unfold ath; split <;> simp
    rw [e]; rfl
  · skip
    obtain ⟨kp, hN⟩ := hg.node
    have hc0 := hN.c0
    rw [hg.isoe] at hc0
    have hptr : cl H0 tr 2 = some (.pointer (some ⟨Gt.p h t, 0, none⟩)) := hc
    by_cases hz0 : z < 0
    · skip
      -- region 3 (btreeg.go:1364)
      refine Go'.region [(0, 0), (1, 0), (2, 0), (3, 1), (4, 0), (5, 0), (6, 0), (7, 0), (8, 0), (9, 0), (10, 0), (11, 0), (12, 0), (13, 0), (14, 1), (15, 0), (16, 0)] rfl ?_
      refine O.mv rfl rfl rfl rfl rfl ?_
      refine O.nc rfl rfl rfl rfl rfl ?_
      refine O.fa0 (off := 2) rfl rfl rfl rfl ⟨_, _, _, Go.Proofs.Try.underlying158, rfl, rfl, Go.Proofs.Try.sizeOf129⟩ rfl ?_
      refine O.ld rfl rfl rfl (fun w => ⟨Go.Proofs.Try.isAgg129 w, Go.Proofs.Try.sizeOf129 w⟩) rfl hptr ?_
      refine O.isNil rfl rfl rfl rfl Go.Proofs.Try.underlying129 rfl rfl ?_
      refine O.mv rfl rfl rfl rfl rfl ?_
      refine O.mv rfl rfl rfl rfl rfl ?_
      refine O.cmp rfl rfl rfl rfl rfl rfl (lssT (by omega)) ?_
      refine O.pick rfl rfl rfl rfl rfl rfl ?_
      refine O.mv rfl rfl rfl rfl rfl ?_
      refine Pl.pass rfl rfl rfl rfl ?_
      refine Pl.pass rfl rfl rfl rfl ?_
      refine Pl.pass rfl rfl rfl rfl ?_
      refine Pl.pass rfl rfl rfl rfl ?_
      refine Pl.pass rfl rfl rfl rfl ?_
      refine Pl.pass rfl rfl rfl rfl ?_
      refine O.pick rfl rfl rfl rfl rfl rfl ?_
      refine Pl.fin [(0, _), (1, _), (2, _), (6, _), (7, _), (31, _)] ⟨rfl, rfl, rfl, rfl, rfl, rfl, trivial⟩ ?_
      refine Go'.condT rfl ?_
      refine Go'.seq ?_
      -- region 4 (btreeg.go:1365)
      refine Go'.region [(0, 0), (1, 0), (2, 0), (3, 1), (4, 2), (5, 0)] rfl ?_
      refine O.mv rfl rfl rfl rfl rfl ?_
      refine O.nc rfl rfl rfl rfl rfl ?_
      refine O.fa0 (off := 7) rfl rfl rfl rfl ⟨_, _, _, Go.Proofs.Try.underlying158, rfl, rfl, Go.Proofs.Try.sizeOf27⟩ rfl ?_
      refine O.lds rfl rfl rfl (fun w => ⟨Go.Proofs.Try.isAgg27 w, Go.Proofs.Try.sizeOf27 w⟩) rfl rfl tc.emp ?_
      refine O.st (vs := (EJ.enc (0, 0))) rfl rfl Go.Proofs.Try.sizeOf27 rfl rfl rfl rfl rfl mw ?_
      intro H3 W3
      replace hF : Fr nowhere H H3 := hF.trans' W3.fr (fun _ _ _ h => h) (fun b o hb h => by have h' := h.1; omega)
      refine ⟨trivial, ?_⟩
      refine O.asg rfl rfl rfl rfl rfl ?_
      refine Pl.fin [(0, _), (1, _), (2, _), (6, _), (7, _)] ⟨rfl, rfl, rfl, rfl, rfl, trivial⟩ ?_
      refine Go'.ret (vs := [_, _]) Go.Proofs.Try.func184 Go.Proofs.Try.results184 ⟨⟨_, _, rfl, fun _ _ => run_loadVar_agg (fun w => ⟨Go.Proofs.Try.isAgg27 w, Go.Proofs.Try.sizeOf27 w⟩) rfl W3.all⟩, rfl, trivial⟩ ?_
      refine ⟨?_, hF⟩
      have e : ath l z = none := by unfold ath; rw [if_pos hz0]
      rw [e]; rfl
    by_cases hzl : (l.length : Int) ≤ z
    · skip
      -- region 3 (btreeg.go:1364)
      refine Go'.region [(0, 0), (1, 0), (2, 0), (3, 1), (4, 0), (5, 0), (6, 0), (7, 0), (8, 0), (9, 0), (10, 0), (11, 0), (12, 0), (13, 0), (14, 1), (15, 0), (16, 0)] rfl ?_
      refine O.mv rfl rfl rfl rfl rfl ?_
      refine O.nc rfl rfl rfl rfl rfl ?_
      refine O.fa0 (off := 2) rfl rfl rfl rfl ⟨_, _, _, Go.Proofs.Try.underlying158, rfl, rfl, Go.Proofs.Try.sizeOf129⟩ rfl ?_
      refine O.ld rfl rfl rfl (fun w => ⟨Go.Proofs.Try.isAgg129 w, Go.Proofs.Try.sizeOf129 w⟩) rfl hptr ?_
      refine O.isNil rfl rfl rfl rfl Go.Proofs.Try.underlying129 rfl rfl ?_
      refine O.mv rfl rfl rfl rfl rfl ?_
      refine O.mv rfl rfl rfl rfl rfl ?_
      refine O.cmp rfl rfl rfl rfl rfl rfl (lssF (by omega)) ?_
      refine O.pick rfl rfl rfl rfl rfl rfl ?_
      refine O.mv rfl rfl rfl rfl rfl ?_
      refine O.mv rfl rfl rfl rfl rfl ?_
      refine O.mv rfl rfl rfl rfl rfl ?_
      refine O.nc rfl rfl rfl rfl rfl ?_
      refine O.fa0 (off := 3) rfl rfl rfl rfl ⟨_, _, _, Go.Proofs.Try.underlying158, rfl, rfl, Go.Proofs.Try.sizeOf3⟩ rfl ?_
      refine O.ld rfl rfl rfl (fun w => ⟨Go.Proofs.Try.isAgg3 w, Go.Proofs.Try.sizeOf3 w⟩) rfl cnt ?_
      refine O.cmp rfl rfl rfl rfl rfl rfl (geqT (by omega)) ?_
      refine O.pick rfl rfl rfl rfl rfl rfl ?_
      refine Pl.fin [(0, _), (1, _), (2, _), (6, _), (7, _), (31, _)] ⟨rfl, rfl, rfl, rfl, rfl, rfl, trivial⟩ ?_
      refine Go'.condT rfl ?_
      refine Go'.seq ?_
      -- region 4 (btreeg.go:1365)
      refine Go'.region [(0, 0), (1, 0), (2, 0), (3, 1), (4, 2), (5, 0)] rfl ?_
      refine O.mv rfl rfl rfl rfl rfl ?_
      refine O.nc rfl rfl rfl rfl rfl ?_
      refine O.fa0 (off := 7) rfl rfl rfl rfl ⟨_, _, _, Go.Proofs.Try.underlying158, rfl, rfl, Go.Proofs.Try.sizeOf27⟩ rfl ?_
      refine O.lds rfl rfl rfl (fun w => ⟨Go.Proofs.Try.isAgg27 w, Go.Proofs.Try.sizeOf27 w⟩) rfl rfl tc.emp ?_
      refine O.st (vs := (EJ.enc (0, 0))) rfl rfl Go.Proofs.Try.sizeOf27 rfl rfl rfl rfl rfl mw ?_
      intro H3 W3
      replace hF : Fr nowhere H H3 := hF.trans' W3.fr (fun _ _ _ h => h) (fun b o hb h => by have h' := h.1; omega)
      refine ⟨trivial, ?_⟩
      refine O.asg rfl rfl rfl rfl rfl ?_
      refine Pl.fin [(0, _), (1, _), (2, _), (6, _), (7, _)] ⟨rfl, rfl, rfl, rfl, rfl, trivial⟩ ?_
      refine Go'.ret (vs := [_, _]) Go.Proofs.Try.func184 Go.Proofs.Try.results184 ⟨⟨_, _, rfl, fun _ _ => run_loadVar_agg (fun w => ⟨Go.Proofs.Try.isAgg27 w, Go.Proofs.Try.sizeOf27 w⟩) rfl W3.all⟩, rfl, trivial⟩ ?_
      refine ⟨?_, hF⟩
      have e' : ath l z = none := by unfold ath; rw [if_neg hz0]; exact List.getElem?_eq_none (by omega)
      rw [e']; rfl
    · skip
      obtain ⟨j0, rfl⟩ := Int.eq_ofNat_of_zero_le (by omega : 0 ≤ z)
      rw [ath_nat]
      -- region 3 (btreeg.go:1364)
      refine Go'.region [(0, 0), (1, 0), (2, 0), (3, 1), (4, 0), (5, 0), (6, 0), (7, 0), (8, 0), (9, 0), (10, 0), (11, 0), (12, 0), (13, 0), (14, 1), (15, 0), (16, 0)] rfl ?_
      refine O.mv rfl rfl rfl rfl rfl ?_
      refine O.nc rfl rfl rfl rfl rfl ?_
      refine O.fa0 (off := 2) rfl rfl rfl rfl ⟨_, _, _, Go.Proofs.Try.underlying158, rfl, rfl, Go.Proofs.Try.sizeOf129⟩ rfl ?_
      refine O.ld rfl rfl rfl (fun w => ⟨Go.Proofs.Try.isAgg129 w, Go.Proofs.Try.sizeOf129 w⟩) rfl hptr ?_
      refine O.isNil rfl rfl rfl rfl Go.Proofs.Try.underlying129 rfl rfl ?_
      refine O.mv rfl rfl rfl rfl rfl ?_
      refine O.mv rfl rfl rfl rfl rfl ?_
      refine O.cmp rfl rfl rfl rfl rfl rfl (lssF (by omega)) ?_
      refine O.pick rfl rfl rfl rfl rfl rfl ?_
      refine O.mv rfl rfl rfl rfl rfl ?_
      refine O.mv rfl rfl rfl rfl rfl ?_
      refine O.mv rfl rfl rfl rfl rfl ?_
      refine O.nc rfl rfl rfl rfl rfl ?_
      refine O.fa0 (off := 3) rfl rfl rfl rfl ⟨_, _, _, Go.Proofs.Try.underlying158, rfl, rfl, Go.Proofs.Try.sizeOf3⟩ rfl ?_
      refine O.ld rfl rfl rfl (fun w => ⟨Go.Proofs.Try.isAgg3 w, Go.Proofs.Try.sizeOf3 w⟩) rfl cnt ?_
      refine O.cmp rfl rfl rfl rfl rfl rfl (geqF (by omega)) ?_
      refine O.pick rfl rfl rfl rfl rfl rfl ?_
      refine Pl.fin [(0, _), (1, _), (2, _), (6, _), (7, _), (31, _)] ⟨rfl, rfl, rfl, rfl, rfl, rfl, trivial⟩ ?_
      refine Go'.condF rfl ?_
      refine Go'.skip ?_
      refine Go'.seq ?_
      -- region 5 (btreeg.go:1367)
      refine Go'.region [(0, 0), (1, 0), (2, 0), (3, 0), (4, 0), (5, 2), (6, 0)] rfl ?_
      refine O.mv rfl rfl rfl rfl rfl ?_
      refine O.mv rfl rfl rfl rfl rfl ?_
      refine O.nc rfl rfl rfl rfl rfl ?_
      refine O.fa0 (off := 2) rfl rfl rfl rfl ⟨_, _, _, Go.Proofs.Try.underlying158, rfl, rfl, Go.Proofs.Try.sizeOf129⟩ rfl ?_
      refine O.mv rfl rfl rfl rfl rfl ?_
      refine O.callQ rfl rfl rfl Go.Proofs.Try.call130 rfl (isoLoad_spec mt hc hc0 tc.iso) trivial ?_
      refine O.asg rfl rfl rfl rfl rfl ?_
      refine Pl.fin [(0, _), (1, _), (2, _), (6, _), (7, _), (8, _)] ⟨rfl, rfl, rfl, rfl, rfl, rfl, trivial⟩ ?_
      refine Go'.block ?_
      refine Go'.loop ?_
      refine Go'.keep [(0, _), (1, _), (2, _), (6, _), (7, _), (8, _)] ⟨rfl, rfl, rfl, rfl, rfl, rfl, trivial⟩ ?_
      refine Go'.ind (σ := (h : Nat) × Gt EJ h × Nat) (fun s => s.1) (fun s H' => H' = H0 ∧ Gt.Good H0 P s.1 s.2.1 ∧ 1 ≤ (Gt.X s.1 s.2.1).length ∧ (Gt.L s.1 s.2.1)[s.2.2]? = l[j0]? ∧ s.2.2 < (Gt.L s.1 s.2.1).length ∧ (Gt.L s.1 s.2.1).length < 4611686018427387904)
        (fun s => [(0, .pointer (some ⟨tr, 0, none⟩)), (1, .int .i64 (s.2.2 : Int)), (2, .bool mt), (6, .pointer (some ⟨H.size, 0, none⟩)), (7, .bool false), (8, .pointer (some ⟨Gt.p s.1 s.2.1, 0, none⟩))]) ⟨h, t, j0⟩ ⟨rfl, hg, hx1, by rw [e], by simp only [e]; omega, by simp only [e]; omega⟩ rfl ?_
      clear hg hx1 e hc hnt hown hN hc0 hptr t h kp
      rintro ⟨h, t, j⟩ H2 ⟨hHH, hg, hx1, hL, hj, hln⟩ ih
      have eH : H0 = H2 := hHH.symm
      subst eH
      simp only at hg hx1 hL hj hln ⊢
      clear hHH
      refine Go'.block ?_
      refine Go'.seq ?_
      refine Go'.seq ?_
      rcases h with _ | h
      · -- a leaf
        obtain ⟨g, X⟩ := t
        have hN : NodeM EJ H0 g X (.pointer none) := hg.1
        replace hj : j < X.length := hj
        replace hL : X[j]? = l[j0]? := hL
        obtain ⟨y, hy⟩ : ∃ y, X[j]? = some y := ⟨X[j], List.getElem?_eq_getElem hj⟩
        rw [← hL, hy]
        -- region 6 (btreeg.go:1369)
        refine Go'.region [(0, 0), (1, 2)] rfl ?_
        refine O.mv rfl rfl rfl rfl rfl ?_
        refine O.callQ rfl rfl rfl Go.Proofs.Try.call133 rfl (leaf_spec hN.c3) trivial ?_
        refine Pl.fin [(0, _), (1, _), (2, _), (6, _), (7, _), (8, _), (43, _)] ⟨rfl, rfl, rfl, rfl, rfl, rfl, rfl, trivial⟩ ?_
        refine Go'.condT rfl ?_
        refine Go'.seq ?_
        -- region 7 (btreeg.go:1370)
        refine Go'.region [(0, 0), (1, 0), (2, 0), (3, 1), (4, 0), (5, 0), (6, 1), (7, 2), (8, 0)] rfl ?_
        refine O.mv rfl rfl rfl rfl rfl ?_
        refine O.nc rfl rfl rfl rfl rfl ?_
        refine O.fa0 (off := 2) rfl rfl rfl rfl ⟨_, _, _, Go.Proofs.Try.underlying168, rfl, rfl, Go.Proofs.Try.sizeOf25⟩ rfl ?_
        refine O.ld rfl rfl rfl (fun w => ⟨Go.Proofs.Try.isAgg25 w, Go.Proofs.Try.sizeOf25 w⟩) rfl hN.c2 ?_
        refine O.mv rfl rfl rfl rfl rfl ?_
        refine O.ix (j := j) rfl rfl rfl rfl Go.Proofs.Try.underlying25 Go.Proofs.Try.sizeOf27 rfl rfl (by omega) (by omega) ?_
        refine O.lds rfl rfl rfl (fun w => ⟨Go.Proofs.Try.isAgg27 w, Go.Proofs.Try.sizeOf27 w⟩) rfl rfl (hN.sl.item hy) ?_
        refine O.st (vs := (EJ.enc y)) rfl rfl Go.Proofs.Try.sizeOf27 rfl rfl rfl rfl rfl mw ?_
        intro H3 W3
        replace hF : Fr nowhere H H3 := hF.trans' W3.fr (fun _ _ _ h => h) (fun b o hb h => by have h' := h.1; omega)
        refine ⟨trivial, ?_⟩
        refine O.asg rfl rfl rfl rfl rfl ?_
        refine Pl.fin [(0, _), (1, _), (2, _), (6, _), (7, _), (8, _), (43, _)] ⟨rfl, rfl, rfl, rfl, rfl, rfl, rfl, trivial⟩ ?_
        refine Go'.ret (vs := [_, _]) Go.Proofs.Try.func184 Go.Proofs.Try.results184 ⟨⟨_, _, rfl, fun _ _ => run_loadVar_agg (fun w => ⟨Go.Proofs.Try.isAgg27 w, Go.Proofs.Try.sizeOf27 w⟩) rfl W3.all⟩, rfl, trivial⟩ ?_
        exact ⟨rfl, hF⟩
      · -- an inner node
        obtain ⟨g, X, K⟩ := t
        have hI : Inn H0 P h g X ((Gt.ps h K).map some) K := hg.inn
        have hKl : K.length = X.length + 1 := hg.2.2.2.2.2.1
        have hxm : X.length ≤ P.mx := hg.2.2.2.2.1
        have hol : ((Gt.ps h K).map some).length = X.length + 1 := by rw [List.length_map, Gt.ps, List.length_map]; exact hKl
        replace hL : (Pl.inter X (K.map (Gt.L h)))[j]? = l[j0]? := hL
        replace hj : j < (Pl.inter X (K.map (Gt.L h))).length := hj
        replace hln : (Pl.inter X (K.map (Gt.L h))).length < 4611686018427387904 := hln
        have kid : ∀ i, i ≤ X.length → ∃ k, K[i]? = some k ∧ Gt.Good H0 P h k ∧ P.mn ≤ (Gt.X h k).length ∧ cl H0 g.kb (g.ko + i * 1) = some (.pointer (some ⟨Gt.p h k, 0, none⟩)) ∧ cl H0 (Gt.p h k) 0 = some (.int .u64 (P.iso : Int)) ∧ cl H0 (Gt.p h k) 1 = some (.int .i64 ((Gt.L h k).length : Int)) ∧ (K.map (Gt.L h))[i]? = some (Gt.L h k) := fun i hi => by
          obtain ⟨k, hkk⟩ : ∃ k, K[i]? = some k := ⟨K[i], List.getElem?_eq_getElem (by omega)⟩
          obtain ⟨hgk, hmk, _⟩ := hI.c.1 k (List.mem_of_getElem? hkk)
          obtain ⟨kp, hNk⟩ := hgk.node
          have hok : ((Gt.ps h K).map some)[i]? = some (some (Gt.p h k)) := by rw [Gt.ps, List.map_map, List.getElem?_map, hkk]; rfl
          have c0 := hNk.c0
          rw [hgk.isoe] at c0
          have c1 := hNk.c1
          rw [hgk.cnt] at c1
          exact ⟨k, hkk, hgk, hmk, hI.k.at hok, c0, c1, by rw [List.getElem?_map, hkk]; rfl⟩
        -- region 6 (btreeg.go:1369)
        refine Go'.region [(0, 0), (1, 2)] rfl ?_
        refine O.mv rfl rfl rfl rfl rfl ?_
        refine O.callQ rfl rfl rfl Go.Proofs.Try.call133 rfl (leaf_spec hI.n.c3) trivial ?_
        refine Pl.fin [(0, _), (1, _), (2, _), (6, _), (7, _), (8, _), (43, _)] ⟨rfl, rfl, rfl, rfl, rfl, rfl, rfl, trivial⟩ ?_
        refine Go'.condF rfl ?_
        refine Go'.skip ?_
        refine Go'.seq ?_
        -- region 8 (btreeg.go:1372)
        refine Go'.region [(0, 0)] rfl ?_
        refine O.asg rfl rfl rfl rfl rfl ?_
        refine Pl.fin [(0, _), (1, _), (2, _), (6, _), (7, _), (8, _), (9, _), (43, _)] ⟨rfl, rfl, rfl, rfl, rfl, rfl, rfl, rfl, trivial⟩ ?_
        refine Go'.seq ?_
        refine Go'.block ?_
        refine Go'.loop ?_
        refine Go'.keep [(0, _), (1, _), (2, _), (6, _), (7, _), (8, _), (9, _)] ⟨rfl, rfl, rfl, rfl, rfl, rfl, rfl, trivial⟩ ?_
        refine Go'.ind (σ := Nat × Nat) (fun s => X.length - s.1) (fun s H' => H' = H0 ∧ s.1 ≤ X.length ∧ (Pl.inter (X.drop s.1) ((K.map (Gt.L h)).drop s.1))[s.2]? = l[j0]? ∧ s.2 < (Pl.inter (X.drop s.1) ((K.map (Gt.L h)).drop s.1)).length ∧ (Pl.inter (X.drop s.1) ((K.map (Gt.L h)).drop s.1)).length < 4611686018427387904)
          (fun s => [(0, .pointer (some ⟨tr, 0, none⟩)), (1, .int .i64 (s.2 : Int)), (2, .bool mt), (6, .pointer (some ⟨H.size, 0, none⟩)), (7, .bool false), (8, .pointer (some ⟨g.p, 0, none⟩)), (9, .int .i64 (s.1 : Int))]) (0, j) ⟨rfl, Nat.zero_le _, hL, hj, hln⟩ rfl ?_
        clear hL hj hln
        rintro ⟨i, j⟩ H2 ⟨hHH, hi, hL, hj, hln⟩ ih2
        have eH : H0 = H2 := hHH.symm
        subst eH
        simp only at hi hL hj hln ⊢
        clear hHH
        obtain ⟨k, hkk, hgk, hmk, hck, hk0, hkc, hkL⟩ := kid i hi
        refine Go'.seq ?_
        refine Go'.seq ?_
        by_cases hlt : i < X.length
        · skip
          obtain ⟨y, hy⟩ : ∃ y, X[i]? = some y := ⟨X[i], List.getElem?_eq_getElem hlt⟩
          have hid := inter_drop hy hkL
          rw [hid] at hL hj hln
          rw [List.length_append, List.length_cons] at hj hln
          have hkln : (Gt.L h k).length < 4611686018427387904 := by omega
          -- region 9 (btreeg.go:1373)
          refine Go'.region [(0, 0), (1, 0), (2, 0), (3, 0), (4, 1), (5, 0), (6, 0)] rfl ?_
          refine O.mv rfl rfl rfl rfl rfl ?_
          refine O.mv rfl rfl rfl rfl rfl ?_
          refine O.nc rfl rfl rfl rfl rfl ?_
          refine O.fa0 (off := 2) rfl rfl rfl rfl ⟨_, _, _, Go.Proofs.Try.underlying168, rfl, rfl, Go.Proofs.Try.sizeOf25⟩ rfl ?_
          refine O.ld rfl rfl rfl (fun w => ⟨Go.Proofs.Try.isAgg25 w, Go.Proofs.Try.sizeOf25 w⟩) rfl hI.n.c2 ?_
          refine O.len rfl rfl rfl rfl Go.Proofs.Try.underlying25 rfl ?_
          refine O.cmp rfl rfl rfl rfl rfl rfl (lssT (by omega)) ?_
          refine Pl.fin [(0, _), (1, _), (2, _), (6, _), (7, _), (8, _), (9, _), (57, _)] ⟨rfl, rfl, rfl, rfl, rfl, rfl, rfl, rfl, trivial⟩ ?_
          refine Go'.condT rfl ?_
          refine Go'.skip ?_
          refine Go'.seq ?_
          refine Go'.block ?_
          refine Go'.seq ?_
          refine Go'.seq ?_
          by_cases hjk : j < (Gt.L h k).length
          · skip
            have hLj : (Gt.L h k)[j]? = (Gt.L h k ++ y :: Pl.inter (X.drop (i + 1)) ((K.map (Gt.L h)).drop (i + 1)))[j]? := (List.getElem?_append_left hjk).symm
            -- region 11 (btreeg.go:1374)
            refine Go'.region [(0, 0), (1, 0), (2, 0), (3, 0), (4, 1), (5, 0), (6, 1), (7, 0), (8, 0), (9, 1), (10, 0), (11, 0), (12, 1), (13, 0)] rfl ?_
            refine O.mv rfl rfl rfl rfl rfl ?_
            refine O.mv rfl rfl rfl rfl rfl ?_
            refine O.nc rfl rfl rfl rfl rfl ?_
            refine O.fa0 (off := 3) rfl rfl rfl rfl ⟨_, _, _, Go.Proofs.Try.underlying168, rfl, rfl, Go.Proofs.Try.sizeOf166⟩ rfl ?_
            refine O.ld rfl rfl rfl (fun w => ⟨Go.Proofs.Try.isAgg166 w, Go.Proofs.Try.sizeOf166 w⟩) rfl hI.n.c3 ?_
            refine O.nc rfl rfl rfl rfl rfl ?_
            refine O.ld rfl rfl rfl (fun w => ⟨Go.Proofs.Try.isAgg170 w, Go.Proofs.Try.sizeOf170 w⟩) rfl hI.k.c ?_
            refine O.mv rfl rfl rfl rfl rfl ?_
            refine O.ix (j := i) rfl rfl rfl rfl Go.Proofs.Try.underlying170 Go.Proofs.Try.sizeOf129 rfl rfl (by omega) (by omega) ?_
            refine O.ld rfl rfl rfl (fun w => ⟨Go.Proofs.Try.isAgg129 w, Go.Proofs.Try.sizeOf129 w⟩) rfl hck ?_
            refine O.nc rfl rfl rfl rfl rfl ?_
            refine O.fa0 (off := 1) rfl rfl rfl rfl ⟨_, _, _, Go.Proofs.Try.underlying168, rfl, rfl, Go.Proofs.Try.sizeOf3⟩ rfl ?_
            refine O.ld rfl rfl rfl (fun w => ⟨Go.Proofs.Try.isAgg3 w, Go.Proofs.Try.sizeOf3 w⟩) rfl hkc ?_
            refine O.cmp rfl rfl rfl rfl rfl rfl (lssT (by omega)) ?_
            refine Pl.fin [(0, _), (1, _), (2, _), (6, _), (7, _), (8, _), (9, _), (57, _), (73, _)] ⟨rfl, rfl, rfl, rfl, rfl, rfl, rfl, rfl, rfl, trivial⟩ ?_
            refine Go'.condT rfl ?_
            refine Go'.exit rfl ?_
            -- region 15 (btreeg.go:1381)
            refine Go'.region [(0, 0), (1, 0), (2, 0), (3, 0), (4, 1), (5, 0), (6, 1), (7, 0), (8, 0), (9, 0), (10, 2), (11, 0)] rfl ?_
            refine O.mv rfl rfl rfl rfl rfl ?_
            refine O.mv rfl rfl rfl rfl rfl ?_
            refine O.nc rfl rfl rfl rfl rfl ?_
            refine O.fa0 (off := 3) rfl rfl rfl rfl ⟨_, _, _, Go.Proofs.Try.underlying168, rfl, rfl, Go.Proofs.Try.sizeOf166⟩ rfl ?_
            refine O.ld rfl rfl rfl (fun w => ⟨Go.Proofs.Try.isAgg166 w, Go.Proofs.Try.sizeOf166 w⟩) rfl hI.n.c3 ?_
            refine O.nc rfl rfl rfl rfl rfl ?_
            refine O.ld rfl rfl rfl (fun w => ⟨Go.Proofs.Try.isAgg170 w, Go.Proofs.Try.sizeOf170 w⟩) rfl hI.k.c ?_
            refine O.mv rfl rfl rfl rfl rfl ?_
            refine O.ix (j := i) rfl rfl rfl rfl Go.Proofs.Try.underlying170 Go.Proofs.Try.sizeOf129 rfl rfl (by omega) (by omega) ?_
            refine O.mv rfl rfl rfl rfl rfl ?_
            refine O.callQ rfl rfl rfl Go.Proofs.Try.call130 rfl (isoLoad_spec mt hck hk0 tc.iso) trivial ?_
            refine O.asg rfl rfl rfl rfl rfl ?_
            refine Pl.fin [(0, _), (1, _), (2, _), (6, _), (7, _), (8, _), (9, _), (57, _), (73, _)] ⟨rfl, rfl, rfl, rfl, rfl, rfl, rfl, rfl, rfl, trivial⟩ ?_
            refine Go'.inBlock ?_
            refine Go'.keep [(0, _), (1, _), (2, _), (6, _), (7, _), (8, _)] ⟨rfl, rfl, rfl, rfl, rfl, rfl, trivial⟩ ?_
            refine Go'.inLoop ?_
            exact ih ⟨h, k, j⟩ H0 ⟨rfl, hgk, Nat.le_trans hh1 hmk, by simp only; rw [← hL]; exact hLj, hjk, hkln⟩ (Nat.lt_succ_self h)
          · skip
            -- region 11 (btreeg.go:1374)
            refine Go'.region [(0, 0), (1, 0), (2, 0), (3, 0), (4, 1), (5, 0), (6, 1), (7, 0), (8, 0), (9, 1), (10, 0), (11, 0), (12, 1), (13, 0)] rfl ?_
            refine O.mv rfl rfl rfl rfl rfl ?_
            refine O.mv rfl rfl rfl rfl rfl ?_
            refine O.nc rfl rfl rfl rfl rfl ?_
            refine O.fa0 (off := 3) rfl rfl rfl rfl ⟨_, _, _, Go.Proofs.Try.underlying168, rfl, rfl, Go.Proofs.Try.sizeOf166⟩ rfl ?_
            refine O.ld rfl rfl rfl (fun w => ⟨Go.Proofs.Try.isAgg166 w, Go.Proofs.Try.sizeOf166 w⟩) rfl hI.n.c3 ?_
            refine O.nc rfl rfl rfl rfl rfl ?_
            refine O.ld rfl rfl rfl (fun w => ⟨Go.Proofs.Try.isAgg170 w, Go.Proofs.Try.sizeOf170 w⟩) rfl hI.k.c ?_
            refine O.mv rfl rfl rfl rfl rfl ?_
            refine O.ix (j := i) rfl rfl rfl rfl Go.Proofs.Try.underlying170 Go.Proofs.Try.sizeOf129 rfl rfl (by omega) (by omega) ?_
            refine O.ld rfl rfl rfl (fun w => ⟨Go.Proofs.Try.isAgg129 w, Go.Proofs.Try.sizeOf129 w⟩) rfl hck ?_
            refine O.nc rfl rfl rfl rfl rfl ?_
            refine O.fa0 (off := 1) rfl rfl rfl rfl ⟨_, _, _, Go.Proofs.Try.underlying168, rfl, rfl, Go.Proofs.Try.sizeOf3⟩ rfl ?_
            refine O.ld rfl rfl rfl (fun w => ⟨Go.Proofs.Try.isAgg3 w, Go.Proofs.Try.sizeOf3 w⟩) rfl hkc ?_
            refine O.cmp rfl rfl rfl rfl rfl rfl (lssF (by omega)) ?_
            refine Pl.fin [(0, _), (1, _), (2, _), (6, _), (7, _), (8, _), (9, _), (57, _), (73, _)] ⟨rfl, rfl, rfl, rfl, rfl, rfl, rfl, rfl, rfl, trivial⟩ ?_
            refine Go'.condF rfl ?_
            refine Go'.seq ?_
            by_cases hje : j = (Gt.L h k).length
            · skip
              have hyl : l[j0]? = some y := by rw [← hL, hje, List.getElem?_append_right (Nat.le_refl _), Nat.sub_self]; rfl
              rw [hyl]
              -- region 12 (btreeg.go:1376)
              refine Go'.region [(0, 0), (1, 0), (2, 0), (3, 0), (4, 1), (5, 0), (6, 1), (7, 0), (8, 0), (9, 1), (10, 0), (11, 0), (12, 1), (13, 0)] rfl ?_
              refine O.mv rfl rfl rfl rfl rfl ?_
              refine O.mv rfl rfl rfl rfl rfl ?_
              refine O.nc rfl rfl rfl rfl rfl ?_
              refine O.fa0 (off := 3) rfl rfl rfl rfl ⟨_, _, _, Go.Proofs.Try.underlying168, rfl, rfl, Go.Proofs.Try.sizeOf166⟩ rfl ?_
              refine O.ld rfl rfl rfl (fun w => ⟨Go.Proofs.Try.isAgg166 w, Go.Proofs.Try.sizeOf166 w⟩) rfl hI.n.c3 ?_
              refine O.nc rfl rfl rfl rfl rfl ?_
              refine O.ld rfl rfl rfl (fun w => ⟨Go.Proofs.Try.isAgg170 w, Go.Proofs.Try.sizeOf170 w⟩) rfl hI.k.c ?_
              refine O.mv rfl rfl rfl rfl rfl ?_
              refine O.ix (j := i) rfl rfl rfl rfl Go.Proofs.Try.underlying170 Go.Proofs.Try.sizeOf129 rfl rfl (by omega) (by omega) ?_
              refine O.ld rfl rfl rfl (fun w => ⟨Go.Proofs.Try.isAgg129 w, Go.Proofs.Try.sizeOf129 w⟩) rfl hck ?_
              refine O.nc rfl rfl rfl rfl rfl ?_
              refine O.fa0 (off := 1) rfl rfl rfl rfl ⟨_, _, _, Go.Proofs.Try.underlying168, rfl, rfl, Go.Proofs.Try.sizeOf3⟩ rfl ?_
              refine O.ld rfl rfl rfl (fun w => ⟨Go.Proofs.Try.isAgg3 w, Go.Proofs.Try.sizeOf3 w⟩) rfl hkc ?_
              refine O.cmp rfl rfl rfl rfl rfl rfl (eqlT (by omega)) ?_
              refine Pl.fin [(0, _), (1, _), (2, _), (6, _), (7, _), (8, _), (9, _), (57, _), (73, _), (87, _)] ⟨rfl, rfl, rfl, rfl, rfl, rfl, rfl, rfl, rfl, rfl, trivial⟩ ?_
              refine Go'.condT rfl ?_
              refine Go'.seq ?_
              -- region 13 (btreeg.go:1377)
              refine Go'.region [(0, 0), (1, 0), (2, 0), (3, 1), (4, 0), (5, 0), (6, 1), (7, 2), (8, 0)] rfl ?_
              refine O.mv rfl rfl rfl rfl rfl ?_
              refine O.nc rfl rfl rfl rfl rfl ?_
              refine O.fa0 (off := 2) rfl rfl rfl rfl ⟨_, _, _, Go.Proofs.Try.underlying168, rfl, rfl, Go.Proofs.Try.sizeOf25⟩ rfl ?_
              refine O.ld rfl rfl rfl (fun w => ⟨Go.Proofs.Try.isAgg25 w, Go.Proofs.Try.sizeOf25 w⟩) rfl hI.n.c2 ?_
              refine O.mv rfl rfl rfl rfl rfl ?_
              refine O.ix (j := i) rfl rfl rfl rfl Go.Proofs.Try.underlying25 Go.Proofs.Try.sizeOf27 rfl rfl (by omega) (by omega) ?_
              refine O.lds rfl rfl rfl (fun w => ⟨Go.Proofs.Try.isAgg27 w, Go.Proofs.Try.sizeOf27 w⟩) rfl rfl (hI.n.sl.item hy) ?_
              refine O.st (vs := (EJ.enc y)) rfl rfl Go.Proofs.Try.sizeOf27 rfl rfl rfl rfl rfl mw ?_
              intro H3 W3
              replace hF : Fr nowhere H H3 := hF.trans' W3.fr (fun _ _ _ h => h) (fun b o hb h => by have h' := h.1; omega)
              refine ⟨trivial, ?_⟩
              refine O.asg rfl rfl rfl rfl rfl ?_
              refine Pl.fin [(0, _), (1, _), (2, _), (6, _), (7, _), (8, _), (9, _), (57, _), (73, _), (87, _)] ⟨rfl, rfl, rfl, rfl, rfl, rfl, rfl, rfl, rfl, rfl, trivial⟩ ?_
              refine Go'.ret (vs := [_, _]) Go.Proofs.Try.func184 Go.Proofs.Try.results184 ⟨⟨_, _, rfl, fun _ _ => run_loadVar_agg (fun w => ⟨Go.Proofs.Try.isAgg27 w, Go.Proofs.Try.sizeOf27 w⟩) rfl W3.all⟩, rfl, trivial⟩ ?_
              exact ⟨rfl, hF⟩
            · skip
              -- region 12 (btreeg.go:1376)
              refine Go'.region [(0, 0), (1, 0), (2, 0), (3, 0), (4, 1), (5, 0), (6, 1), (7, 0), (8, 0), (9, 1), (10, 0), (11, 0), (12, 1), (13, 0)] rfl ?_
              refine O.mv rfl rfl rfl rfl rfl ?_
              refine O.mv rfl rfl rfl rfl rfl ?_
              refine O.nc rfl rfl rfl rfl rfl ?_
              refine O.fa0 (off := 3) rfl rfl rfl rfl ⟨_, _, _, Go.Proofs.Try.underlying168, rfl, rfl, Go.Proofs.Try.sizeOf166⟩ rfl ?_
              refine O.ld rfl rfl rfl (fun w => ⟨Go.Proofs.Try.isAgg166 w, Go.Proofs.Try.sizeOf166 w⟩) rfl hI.n.c3 ?_
              refine O.nc rfl rfl rfl rfl rfl ?_
              refine O.ld rfl rfl rfl (fun w => ⟨Go.Proofs.Try.isAgg170 w, Go.Proofs.Try.sizeOf170 w⟩) rfl hI.k.c ?_
              refine O.mv rfl rfl rfl rfl rfl ?_
              refine O.ix (j := i) rfl rfl rfl rfl Go.Proofs.Try.underlying170 Go.Proofs.Try.sizeOf129 rfl rfl (by omega) (by omega) ?_
              refine O.ld rfl rfl rfl (fun w => ⟨Go.Proofs.Try.isAgg129 w, Go.Proofs.Try.sizeOf129 w⟩) rfl hck ?_
              refine O.nc rfl rfl rfl rfl rfl ?_
              refine O.fa0 (off := 1) rfl rfl rfl rfl ⟨_, _, _, Go.Proofs.Try.underlying168, rfl, rfl, Go.Proofs.Try.sizeOf3⟩ rfl ?_
              refine O.ld rfl rfl rfl (fun w => ⟨Go.Proofs.Try.isAgg3 w, Go.Proofs.Try.sizeOf3 w⟩) rfl hkc ?_
              refine O.cmp rfl rfl rfl rfl rfl rfl (eqlF (by omega)) ?_
              refine Pl.fin [(0, _), (1, _), (2, _), (6, _), (7, _), (8, _), (9, _), (57, _), (73, _), (87, _)] ⟨rfl, rfl, rfl, rfl, rfl, rfl, rfl, rfl, rfl, rfl, trivial⟩ ?_
              refine Go'.condF rfl ?_
              refine Go'.skip ?_
              -- region 14 (btreeg.go:1379)
              refine Go'.region [(0, 0), (1, 0), (2, 0), (3, 0), (4, 1), (5, 0), (6, 1), (7, 0), (8, 0), (9, 1), (10, 0), (11, 0), (12, 1), (13, 0), (14, 0), (15, 0)] rfl ?_
              refine O.mv rfl rfl rfl rfl rfl ?_
              refine O.mv rfl rfl rfl rfl rfl ?_
              refine O.nc rfl rfl rfl rfl rfl ?_
              refine O.fa0 (off := 3) rfl rfl rfl rfl ⟨_, _, _, Go.Proofs.Try.underlying168, rfl, rfl, Go.Proofs.Try.sizeOf166⟩ rfl ?_
              refine O.ld rfl rfl rfl (fun w => ⟨Go.Proofs.Try.isAgg166 w, Go.Proofs.Try.sizeOf166 w⟩) rfl hI.n.c3 ?_
              refine O.nc rfl rfl rfl rfl rfl ?_
              refine O.ld rfl rfl rfl (fun w => ⟨Go.Proofs.Try.isAgg170 w, Go.Proofs.Try.sizeOf170 w⟩) rfl hI.k.c ?_
              refine O.mv rfl rfl rfl rfl rfl ?_
              refine O.ix (j := i) rfl rfl rfl rfl Go.Proofs.Try.underlying170 Go.Proofs.Try.sizeOf129 rfl rfl (by omega) (by omega) ?_
              refine O.ld rfl rfl rfl (fun w => ⟨Go.Proofs.Try.isAgg129 w, Go.Proofs.Try.sizeOf129 w⟩) rfl hck ?_
              refine O.nc rfl rfl rfl rfl rfl ?_
              refine O.fa0 (off := 1) rfl rfl rfl rfl ⟨_, _, _, Go.Proofs.Try.underlying168, rfl, rfl, Go.Proofs.Try.sizeOf3⟩ rfl ?_
              refine O.ld rfl rfl rfl (fun w => ⟨Go.Proofs.Try.isAgg3 w, Go.Proofs.Try.sizeOf3 w⟩) rfl hkc ?_
              refine O.add (((((Gt.L h k).length) + 1 : Nat) : Int)) rfl rfl rfl rfl rfl rfl (by omega) (by omega) ?_
              refine O.sub (((j - ((Gt.L h k).length + 1) : Nat) : Int)) rfl rfl rfl rfl rfl rfl (by omega) (by omega) ?_
              refine O.asg rfl rfl rfl rfl rfl ?_
              refine Pl.fin [(0, _), (1, _), (2, _), (6, _), (7, _), (8, _), (9, _), (57, _), (73, _), (87, _)] ⟨rfl, rfl, rfl, rfl, rfl, rfl, rfl, rfl, rfl, rfl, trivial⟩ ?_
              refine Go'.inBlock ?_
              -- region 10 (btreeg.go:1373)
              refine Go'.region [(0, 0), (1, 0), (2, 0)] rfl ?_
              refine O.mv rfl rfl rfl rfl rfl ?_
              refine O.add (((i + 1 : Nat) : Int)) rfl rfl rfl rfl rfl rfl (by omega) (by omega) ?_
              refine O.asg rfl rfl rfl rfl rfl ?_
              refine Pl.fin [(0, _), (1, _), (2, _), (6, _), (7, _), (8, _), (9, _), (57, _), (73, _), (87, _)] ⟨rfl, rfl, rfl, rfl, rfl, rfl, rfl, rfl, rfl, rfl, trivial⟩ ?_
              refine Go'.keep [(0, _), (1, _), (2, _), (6, _), (7, _), (8, _), (9, _)] ⟨rfl, rfl, rfl, rfl, rfl, rfl, rfl, trivial⟩ ?_
              refine Go'.inLoop ?_
              exact ih2 (i + 1, j - ((Gt.L h k).length + 1)) H0 ⟨rfl, hlt, by
                simp only
                rw [← hL, List.getElem?_append_right (by omega)]
                obtain ⟨m, hm⟩ : ∃ m, j - (Gt.L h k).length = m + 1 := ⟨j - (Gt.L h k).length - 1, by omega⟩
                rw [hm, List.getElem?_cons_succ, show j - ((Gt.L h k).length + 1) = m by omega], by simp only; omega, by simp only; omega⟩ (by simp only; omega)
        · skip
          obtain rfl : i = X.length := by omega
          have hid := inter_drope (by rw [List.length_map]; exact hKl) hkL
          rw [hid] at hL hj hln
          have hkln := hln
          have hjk := hj
          have hLj : (Gt.L h k)[j]? = (Gt.L h k)[j]? := rfl
          -- region 9 (btreeg.go:1373)
          refine Go'.region [(0, 0), (1, 0), (2, 0), (3, 0), (4, 1), (5, 0), (6, 0)] rfl ?_
          refine O.mv rfl rfl rfl rfl rfl ?_
          refine O.mv rfl rfl rfl rfl rfl ?_
          refine O.nc rfl rfl rfl rfl rfl ?_
          refine O.fa0 (off := 2) rfl rfl rfl rfl ⟨_, _, _, Go.Proofs.Try.underlying168, rfl, rfl, Go.Proofs.Try.sizeOf25⟩ rfl ?_
          refine O.ld rfl rfl rfl (fun w => ⟨Go.Proofs.Try.isAgg25 w, Go.Proofs.Try.sizeOf25 w⟩) rfl hI.n.c2 ?_
          refine O.len rfl rfl rfl rfl Go.Proofs.Try.underlying25 rfl ?_
          refine O.cmp rfl rfl rfl rfl rfl rfl (lssF (by omega)) ?_
          refine Pl.fin [(0, _), (1, _), (2, _), (6, _), (7, _), (8, _), (9, _), (57, _)] ⟨rfl, rfl, rfl, rfl, rfl, rfl, rfl, rfl, trivial⟩ ?_
          refine Go'.condF rfl ?_
          refine Go'.exit rfl ?_
          -- region 15 (btreeg.go:1381)
          refine Go'.region [(0, 0), (1, 0), (2, 0), (3, 0), (4, 1), (5, 0), (6, 1), (7, 0), (8, 0), (9, 0), (10, 2), (11, 0)] rfl ?_
          refine O.mv rfl rfl rfl rfl rfl ?_
          refine O.mv rfl rfl rfl rfl rfl ?_
          refine O.nc rfl rfl rfl rfl rfl ?_
          refine O.fa0 (off := 3) rfl rfl rfl rfl ⟨_, _, _, Go.Proofs.Try.underlying168, rfl, rfl, Go.Proofs.Try.sizeOf166⟩ rfl ?_
          refine O.ld rfl rfl rfl (fun w => ⟨Go.Proofs.Try.isAgg166 w, Go.Proofs.Try.sizeOf166 w⟩) rfl hI.n.c3 ?_
          refine O.nc rfl rfl rfl rfl rfl ?_
          refine O.ld rfl rfl rfl (fun w => ⟨Go.Proofs.Try.isAgg170 w, Go.Proofs.Try.sizeOf170 w⟩) rfl hI.k.c ?_
          refine O.mv rfl rfl rfl rfl rfl ?_
          refine O.ix (j := X.length) rfl rfl rfl rfl Go.Proofs.Try.underlying170 Go.Proofs.Try.sizeOf129 rfl rfl (by omega) (by omega) ?_
          refine O.mv rfl rfl rfl rfl rfl ?_
          refine O.callQ rfl rfl rfl Go.Proofs.Try.call130 rfl (isoLoad_spec mt hck hk0 tc.iso) trivial ?_
          refine O.asg rfl rfl rfl rfl rfl ?_
          refine Pl.fin [(0, _), (1, _), (2, _), (6, _), (7, _), (8, _), (9, _), (57, _)] ⟨rfl, rfl, rfl, rfl, rfl, rfl, rfl, rfl, trivial⟩ ?_
          refine Go'.inBlock ?_
          refine Go'.keep [(0, _), (1, _), (2, _), (6, _), (7, _), (8, _)] ⟨rfl, rfl, rfl, rfl, rfl, rfl, trivial⟩ ?_
          refine Go'.inLoop ?_
          exact ih ⟨h, k, j⟩ H0 ⟨rfl, hgk, Nat.le_trans hh1 hmk, hL, hjk, hkln⟩ (Nat.lt_succ_self h)

theorem getat_spec {B : World} {H : Mem} {tr : Nat} {P : Ps} (hP : PsOk P) {S : Nat → Prop} {l : List (Int × Int)} (hM : MapM H tr P S l) (z : Int) (hll : l.length < 4611686018427387904) :
    Fn Try.prog B 137 [.pointer (some ⟨tr, 0, none⟩), .int .i64 z] H (fun r H' => r = .tuple #[PV (ath l z), .bool (ath l z).isSome] ∧ Fr nowhere H H') := by
  refine fn_of Go.Proofs.Try.func137 rfl Go.Proofs.Try.ntmps137 ?_
  refine (show Go' _ _ _ _ 11 [(0, _), (1, _)] [.code _] _ from ?_)
  refine Go'.seq ?_
  -- region 0 (btreeg.go:1354)
  refine Go'.region [(0, 2), (1, 0)] rfl ?_
  refine O.alloc rfl rfl rfl Go.Proofs.Try.zeroValue27 ?_
  intro H0 M0
  refine ⟨trivial, ?_⟩
  have hs0 := M0.size
  replace hM := hM.fr (M0.fr nowhere) (fun _ _ _ => nw)
  have mw : Wr H0 H.size 0 2 := M0.wr 2 (by decide)
  refine O.asg rfl rfl rfl rfl rfl ?_
  refine Pl.fin [(0, _), (1, _), (4, _), (5, _)] ⟨rfl, rfl, rfl, rfl, trivial⟩ ?_
  refine Go'.seq ?_
  -- region 1 (btreeg.go:1355)
  refine Go'.region [(0, 0), (1, 0), (2, 2), (3, 0), (4, 0), (5, 2), (6, 0)] rfl ?_
  refine O.mv rfl rfl rfl rfl rfl ?_
  refine O.mv rfl rfl rfl rfl rfl ?_
  refine O.call rfl rfl rfl Go.Proofs.Try.call184 rfl (getAt_spec hP hM z false hll) ?_
  rintro _ H2 ⟨rfl, hF2⟩
  have hs2 := hF2.size
  replace mw := hF2.wr mw
  refine ⟨trivial, ?_⟩
  refine O.ext rfl rfl rfl rfl rfl rfl ?_
  refine O.ext rfl rfl rfl rfl rfl rfl ?_
  refine O.st (vs := (EJ.enc ((ath l z).getD (0, 0)))) rfl rfl Go.Proofs.Try.sizeOf27 rfl rfl rfl rfl rfl mw ?_
  intro H3 W3
  refine ⟨trivial, ?_⟩
  refine O.asg rfl rfl rfl rfl rfl ?_
  refine Pl.fin [(4, _), (5, _)] ⟨rfl, rfl, trivial⟩ ?_
  refine Go'.ret (vs := [_, _]) Go.Proofs.Try.func137 Go.Proofs.Try.results137 ⟨⟨_, _, rfl, fun _ _ => run_loadVar_agg (fun w => ⟨Go.Proofs.Try.isAgg27 w, Go.Proofs.Try.sizeOf27 w⟩) rfl W3.all⟩, rfl, trivial⟩ ?_
  exact ⟨rfl, ((M0.fr nowhere).trans hF2).trans' W3.fr (fun _ _ _ h => h) (fun b o hb h => by have h' := h.1; omega)⟩
end
end Go.Bt.FG
namespace Go.Bt.FG
open Go Go.Proofs
set_option maxRecDepth 20000
set_option maxHeartbeats 4000000
set_option linter.unusedVariables false
set_option linter.unusedSectionVars false

theorem FVe (o : Option (Int × Int)) : FV o = .agg (fvs o).toArray := FV_eq o
theorem Gt.Good.some {H : Mem} {P : Ps} : ∀ {h : Nat} {t : Gt EJ h}, Gt.Good H P h t → 1 ≤ (Gt.X h t).length → 1 ≤ (Gt.L h t).length
  | 0, _, _, h1 => h1
  | h + 1, (g, X, K), hg, h1 => Nat.le_trans h1 (Pl.sublist_inter X (K.map (Gt.L h)) (by have := hg.2.2.2.2.2.1; simp only at this; rw [List.length_map, this]; omega)).length_le
section
variable [Inhabited Cx]
end
end Go.Bt.FG
