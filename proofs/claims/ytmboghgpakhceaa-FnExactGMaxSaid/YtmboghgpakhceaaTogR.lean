/- Contracts of functions of the program, proved by walking through their code. Conditions: those that each theorem names. -/
import Derived.Laws.StructEq
import Derived.Test.YtmboghgpakhceaaTogM
import Derived.Test.YtmboghgpakhceaaToHi
namespace Go.Bt.FG
open Go Go.Proofs
set_option maxRecDepth 20000
set_option maxHeartbeats 4000000
set_option linter.unusedVariables false
set_option linter.unusedSectionVars false

theorem fields27 : Try.prog.underlying 27 = some (.struct (Try.prog.fieldsOf 27)) := by unfold Program.fieldsOf; rw [Try.underlying27]
theorem fields68 : Try.prog.underlying 68 = some (.struct (Try.prog.fieldsOf 68)) := by unfold Program.fieldsOf; rw [Try.underlying68]
theorem item_eq (d : Nat) (x : Int × Int) (w : World) : (Op.equalIn (d + 2) 27 (.agg #[.int .i64 x.1, .int .i64 x.2]) (.agg #[.int .i64 x.1, .int .i64 x.2])).run Try.prog w = .ok true w := by
  rw [run_equalIn_agg w (d + 1) 27 _ _ fields27 Try.stoodInHeld27]
  simp [Op.eqFields, Program.fieldsOf, Try.underlying27, part, Try.isAgg3, run_equalIn_int w d 3 _ _ _ _ Try.underlying3]
theorem found_eq (o : Option (Int × Int)) (x y : Operand) (w : World) : (eqGuard .eql 68 x y (.agg (fvs o).toArray) (.agg (fvs o).toArray)).run Try.prog w = .ok () w ∧ (binOp .eql 68 (.agg (fvs o).toArray) (.agg (fvs o).toArray)).run Try.prog w = .ok (.bool true) w := by
  refine ⟨run_eqGuard_agg w _ _ _ _ _ _ Try.eqGuardType68, ?_⟩
  rw [run_eql_struct, run_equalIn_agg w 9999 68 _ _ fields68 Try.stoodInHeld68]
  have h : ∀ x y : Int, (Op.equalIn 9999 27 (.agg #[.int .i64 x, .int .i64 y]) (.agg #[.int .i64 x, .int .i64 y])).run Try.prog w = .ok true w := fun x y => item_eq 9997 (x, y) w
  have hb : ∀ b : Bool, (Op.equalIn 9999 4 (.bool b) (.bool b)).run Try.prog w = .ok true w := fun b => by
    have := run_equalIn_bool' w 9998 4 b b Try.underlying4
    simpa using this
  cases o with
  | none => simp [fvs, Op.eqFields, Program.fieldsOf, Try.underlying68, part, Try.isAgg27, Try.sizeOf27, Try.isAgg4, h, hb]
  | some y => simp [fvs, Op.eqFields, Program.fieldsOf, Try.underlying68, part, Try.isAgg27, Try.sizeOf27, Try.isAgg4, h, hb]

end Go.Bt.FG
namespace Go.Bt.FG
open Go Go.Proofs
set_option maxRecDepth 20000
set_option maxHeartbeats 4000000
set_option linter.unusedVariables false
set_option linter.unusedSectionVars false

theorem FVe (o : Option (Int × Int)) : FV o = .agg (fvs o).toArray := FV_eq o
theorem fvs_len (o : Option (Int × Int)) : (fvs o).length = 3 := by cases o <;> rfl
theorem fvs_ones (o : Option (Int × Int)) : ones (fvs o) = true := by cases o <;> rfl
theorem Gt.Good.some {H : Mem} {P : Ps} : ∀ {h : Nat} {t : Gt EJ h}, Gt.Good H P h t → 1 ≤ (Gt.X h t).length → 1 ≤ (Gt.L h t).length
  | 0, _, _, h1 => h1
  | h + 1, (g, X, K), hg, h1 => Nat.le_trans h1 (Pl.sublist_inter X (K.map (Gt.L h)) (by have := hg.2.2.2.2.2.1; simp only at this; rw [List.length_map, this]; omega)).length_le
theorem last_at {α : Type} (l : List α) : l.getLast? = l[l.length - 1]? := List.getLast?_eq_getElem? ..
theorem ath_last (l : List (Int × Int)) : ath l ((l.length : Int) - 1) = l.getLast? := by
  rw [last_at]
  unfold ath
  cases l with
  | nil => simp
  | cons x t => rw [if_neg (by simp only [List.length_cons]; omega)]; congr 1; simp only [List.length_cons]; omega

section
variable [Inhabited Cx]
theorem maxMut_spec {B : World} {H : Mem} {tr : Nat} {P : Ps} (hP : PsOk P) {S : Nat → Prop} {l : List (Int × Int)} (hM : MapM H tr P S l) (mt : Bool) :
    Fn Try.prog B 182 [.pointer (some ⟨tr, 0, none⟩), .bool mt] H (fun r H' => r = .tuple #[PV l.getLast?, .bool l.getLast?.isSome] ∧ Fr nowhere H H') := by
  have hh1 := hP.h1
  have lt0 := hM.lt
  have hb0 := hM.tc.hb
  refine fn_of Go.Proofs.Try.func182 rfl Go.Proofs.Try.ntmps182 ?_
  refine (show Go' _ _ _ _ 59 [(0, _), (1, _)] [.code _] _ from ?_)
  refine Go'.seq ?_
  -- region 0 (btreeg.go:1255)
  refine Go'.region [(0, 2), (1, 0)] rfl ?_
  refine O.alloc rfl rfl rfl Go.Proofs.Try.zeroValue27 ?_
  intro H0 M0
  refine ⟨trivial, ?_⟩
  have hs0 := M0.size
  replace hM := hM.fr (M0.fr nowhere) (fun _ _ _ => nw)
  have mw : Wr H0 H.size 0 2 := M0.wr 2 (by decide)
  have hF := M0.fr nowhere
  refine O.asg rfl rfl rfl rfl rfl ?_
  refine Pl.fin [(0, _), (1, _), (4, _), (5, _)] ⟨rfl, rfl, rfl, rfl, trivial⟩ ?_
  refine Go'.seq ?_
  refine Go'.seq ?_
  obtain ⟨tc, srt, cnt, own, lt, bs, hr⟩ := hM
  rcases hr with ⟨rfl, hptr⟩ | ⟨h, t, hg, hx1, e, hc, hnt, hown⟩
  · skip
    -- region 1 (btreeg.go:1256)
    refine Go'.region [(0, 0), (1, 0), (2, 2)] rfl ?_
    refine O.mv rfl rfl rfl rfl rfl ?_
    refine O.mv rfl rfl rfl rfl rfl ?_
    refine O.callQ rfl rfl rfl Go.Proofs.Try.call128 rfl lock_spec trivial ?_
    refine Pl.fin [(0, _), (1, _), (4, _), (5, _), (9, _)] ⟨rfl, rfl, rfl, rfl, rfl, trivial⟩ ?_
    refine Go'.condF rfl ?_
    refine Go'.skip ?_
    refine Go'.seq ?_
    refine Go'.seq ?_
    -- region 3 (btreeg.go:1259)
    refine Go'.region [(0, 0), (1, 0), (2, 0), (3, 1), (4, 0)] rfl ?_
    refine O.mv rfl rfl rfl rfl rfl ?_
    refine O.nc rfl rfl rfl rfl rfl ?_
    refine O.fa0 (off := 2) rfl rfl rfl rfl ⟨_, _, _, Go.Proofs.Try.underlying158, rfl, rfl, Go.Proofs.Try.sizeOf129⟩ rfl ?_
    refine O.ld rfl rfl rfl (fun w => ⟨Go.Proofs.Try.isAgg129 w, Go.Proofs.Try.sizeOf129 w⟩) rfl hptr ?_
    refine O.isNil rfl rfl rfl rfl Go.Proofs.Try.underlying129 rfl rfl ?_
    refine Pl.fin [(0, _), (1, _), (4, _), (5, _), (16, _)] ⟨rfl, rfl, rfl, rfl, rfl, trivial⟩ ?_
    refine Go'.condT rfl ?_
    refine Go'.seq ?_
    -- region 4 (btreeg.go:1260)
    refine Go'.region [(0, 0), (1, 0), (2, 0), (3, 1), (4, 2), (5, 0)] rfl ?_
    refine O.mv rfl rfl rfl rfl rfl ?_
    refine O.nc rfl rfl rfl rfl rfl ?_
    refine O.fa0 (off := 7) rfl rfl rfl rfl ⟨_, _, _, Go.Proofs.Try.underlying158, rfl, rfl, Go.Proofs.Try.sizeOf27⟩ rfl ?_
    refine O.lds rfl rfl rfl (fun w => ⟨Go.Proofs.Try.isAgg27 w, Go.Proofs.Try.sizeOf27 w⟩) rfl rfl tc.emp ?_
    refine O.st (vs := (EJ.enc (0, 0))) rfl rfl Go.Proofs.Try.sizeOf27 rfl rfl rfl rfl rfl mw ?_
    intro H3 W3
    replace hF : Fr nowhere H H3 := hF.trans' W3.fr (fun _ _ _ h => h) (fun b o hb h => by have h' := h.1; omega)
    refine ⟨trivial, ?_⟩
    refine O.asg rfl rfl rfl rfl rfl ?_
    refine Pl.fin [(0, _), (1, _), (4, _), (5, _)] ⟨rfl, rfl, rfl, rfl, trivial⟩ ?_
    refine Go'.ret (vs := [_, _]) Go.Proofs.Try.func182 Go.Proofs.Try.results182 ⟨⟨_, _, rfl, fun _ _ => run_loadVar_agg (fun w => ⟨Go.Proofs.Try.isAgg27 w, Go.Proofs.Try.sizeOf27 w⟩) rfl W3.all⟩, rfl, trivial⟩ ?_
    exact ⟨rfl, hF⟩
  · skip
    obtain ⟨kp, hN⟩ := hg.node
    have hc0 := hN.c0
    rw [hg.isoe] at hc0
    have hptr : cl H0 tr 2 = some (.pointer (some ⟨Gt.p h t, 0, none⟩)) := hc
    -- region 1 (btreeg.go:1256)
    refine Go'.region [(0, 0), (1, 0), (2, 2)] rfl ?_
    refine O.mv rfl rfl rfl rfl rfl ?_
    refine O.mv rfl rfl rfl rfl rfl ?_
    refine O.callQ rfl rfl rfl Go.Proofs.Try.call128 rfl lock_spec trivial ?_
    refine Pl.fin [(0, _), (1, _), (4, _), (5, _), (9, _)] ⟨rfl, rfl, rfl, rfl, rfl, trivial⟩ ?_
    refine Go'.condF rfl ?_
    refine Go'.skip ?_
    refine Go'.seq ?_
    refine Go'.seq ?_
    -- region 3 (btreeg.go:1259)
    refine Go'.region [(0, 0), (1, 0), (2, 0), (3, 1), (4, 0)] rfl ?_
    refine O.mv rfl rfl rfl rfl rfl ?_
    refine O.nc rfl rfl rfl rfl rfl ?_
    refine O.fa0 (off := 2) rfl rfl rfl rfl ⟨_, _, _, Go.Proofs.Try.underlying158, rfl, rfl, Go.Proofs.Try.sizeOf129⟩ rfl ?_
    refine O.ld rfl rfl rfl (fun w => ⟨Go.Proofs.Try.isAgg129 w, Go.Proofs.Try.sizeOf129 w⟩) rfl hptr ?_
    refine O.isNil rfl rfl rfl rfl Go.Proofs.Try.underlying129 rfl rfl ?_
    refine Pl.fin [(0, _), (1, _), (4, _), (5, _), (16, _)] ⟨rfl, rfl, rfl, rfl, rfl, trivial⟩ ?_
    refine Go'.condF rfl ?_
    refine Go'.skip ?_
    refine Go'.seq ?_
    -- region 5 (btreeg.go:1262)
    refine Go'.region [(0, 0), (1, 0), (2, 0), (3, 0), (4, 0), (5, 2), (6, 0)] rfl ?_
    refine O.mv rfl rfl rfl rfl rfl ?_
    refine O.mv rfl rfl rfl rfl rfl ?_
    refine O.nc rfl rfl rfl rfl rfl ?_
    refine O.fa0 (off := 2) rfl rfl rfl rfl ⟨_, _, _, Go.Proofs.Try.underlying158, rfl, rfl, Go.Proofs.Try.sizeOf129⟩ rfl ?_
    refine O.mv rfl rfl rfl rfl rfl ?_
    refine O.callQ rfl rfl rfl Go.Proofs.Try.call130 rfl (isoLoad_spec mt hc hc0 tc.iso) trivial ?_
    refine O.asg rfl rfl rfl rfl rfl ?_
    refine Pl.fin [(0, _), (1, _), (4, _), (5, _), (6, _)] ⟨rfl, rfl, rfl, rfl, rfl, trivial⟩ ?_
    refine Go'.block ?_
    refine Go'.loop ?_
    refine Go'.keep [(0, _), (1, _), (4, _), (5, _), (6, _)] ⟨rfl, rfl, rfl, rfl, rfl, trivial⟩ ?_
    refine Go'.ind (σ := (h : Nat) × Gt EJ h) (fun s => s.1) (fun s H' => H' = H0 ∧ Gt.Good H0 P s.1 s.2 ∧ 1 ≤ (Gt.X s.1 s.2).length ∧ (Gt.L s.1 s.2).getLast? = l.getLast?)
      (fun s => [(0, .pointer (some ⟨tr, 0, none⟩)), (1, .bool mt), (4, .pointer (some ⟨H.size, 0, none⟩)), (5, .bool false), (6, .pointer (some ⟨Gt.p s.1 s.2, 0, none⟩))]) ⟨h, t⟩ ⟨rfl, hg, hx1, by rw [e]⟩ rfl ?_
    clear hg hx1 e hc hnt hown hN hc0 hptr t h kp
    rintro ⟨h, t⟩ H2 ⟨hHH, hg, hx1, hL⟩ ih
    have eH : H0 = H2 := hHH.symm
    subst eH
    simp only at hg hx1 hL
    clear hHH
    refine Go'.block ?_
    refine Go'.seq ?_
    refine Go'.seq ?_
    rcases h with _ | h
    · -- a leaf
      obtain ⟨g, X⟩ := t
      have hN : NodeM EJ H0 g X (.pointer none) := hg.1
      replace hx1 : 1 ≤ X.length := hx1
      have hxm : X.length ≤ P.mx := hg.2.2.2
      have hx255 := hP.hx
      replace hL : X.getLast? = l.getLast? := hL
      obtain ⟨y, hy⟩ : ∃ y, X[X.length - 1]? = some y := ⟨X[X.length - 1], List.getElem?_eq_getElem (by omega)⟩
      rw [← hL, last_at, hy]
      -- region 6 (btreeg.go:1264)
      refine Go'.region [(0, 0), (1, 2)] rfl ?_
      refine O.mv rfl rfl rfl rfl rfl ?_
      refine O.callQ rfl rfl rfl Go.Proofs.Try.call133 rfl (leaf_spec hN.c3) trivial ?_
      refine Pl.fin [(0, _), (1, _), (4, _), (5, _), (6, _), (28, _)] ⟨rfl, rfl, rfl, rfl, rfl, rfl, trivial⟩ ?_
      refine Go'.condT rfl ?_
      refine Go'.seq ?_
      -- region 7 (btreeg.go:1265)
      refine Go'.draw (fun _ => True) [(0, 0), (1, 0), (2, 0), (3, 1), (4, 0), (5, 0), (6, 0), (7, 1), (8, 0), (9, 0), (10, 0), (11, 1), (12, 2), (13, 0)] (by kernel_rfl) (by kernel_rfl) (trivial) ?_
      refine O.mv rfl rfl rfl rfl rfl ?_
      refine O.nc rfl rfl rfl rfl rfl ?_
      refine O.fa0 (off := 2) rfl rfl rfl rfl ⟨_, _, _, Go.Proofs.Try.underlying168, rfl, rfl, Go.Proofs.Try.sizeOf25⟩ rfl ?_
      refine O.ld rfl rfl rfl (fun w => ⟨Go.Proofs.Try.isAgg25 w, Go.Proofs.Try.sizeOf25 w⟩) rfl hN.c2 ?_
      refine O.mv rfl rfl rfl rfl rfl ?_
      refine O.nc rfl rfl rfl rfl rfl ?_
      refine O.fa0 (off := 2) rfl rfl rfl rfl ⟨_, _, _, Go.Proofs.Try.underlying168, rfl, rfl, Go.Proofs.Try.sizeOf25⟩ rfl ?_
      refine O.ld rfl rfl rfl (fun w => ⟨Go.Proofs.Try.isAgg25 w, Go.Proofs.Try.sizeOf25 w⟩) rfl hN.c2 ?_
      refine O.len rfl rfl rfl rfl Go.Proofs.Try.underlying25 rfl ?_
      refine O.sub (((X.length - 1 : Nat) : Int)) rfl rfl rfl rfl rfl rfl (by omega) (by omega) ?_
      refine O.ix (j := X.length - 1) rfl rfl rfl rfl Go.Proofs.Try.underlying25 Go.Proofs.Try.sizeOf27 rfl rfl (by omega) (by omega) ?_
      refine O.lds rfl rfl rfl (fun w => ⟨Go.Proofs.Try.isAgg27 w, Go.Proofs.Try.sizeOf27 w⟩) rfl rfl (hN.sl.item hy) ?_
      refine O.st (vs := (EJ.enc y)) rfl rfl Go.Proofs.Try.sizeOf27 rfl rfl rfl rfl rfl mw ?_
      intro H3 W3
      replace hF : Fr nowhere H H3 := hF.trans' W3.fr (fun _ _ _ h => h) (fun b o hb h => by have h' := h.1; omega)
      refine ⟨trivial, ?_⟩
      refine O.asg rfl rfl rfl rfl rfl ?_
      refine Pl.fin [(0, _), (1, _), (4, _), (5, _), (6, _), (28, _)] ⟨rfl, rfl, rfl, rfl, rfl, rfl, trivial⟩ ?_
      refine Go'.ret (vs := [_, _]) Go.Proofs.Try.func182 Go.Proofs.Try.results182 ⟨⟨_, _, rfl, fun _ _ => run_loadVar_agg (fun w => ⟨Go.Proofs.Try.isAgg27 w, Go.Proofs.Try.sizeOf27 w⟩) rfl W3.all⟩, rfl, trivial⟩ ?_
      exact ⟨rfl, hF⟩
    · -- an inner node
      obtain ⟨g, X, K⟩ := t
      have hI : Inn H0 P h g X ((Gt.ps h K).map some) K := hg.inn
      have hKl : K.length = X.length + 1 := hg.2.2.2.2.2.1
      have hxm : X.length ≤ P.mx := hg.2.2.2.2.1
      have hx255 := hP.hx
      obtain ⟨k, hkk⟩ : ∃ k, K[X.length]? = some k := ⟨K[X.length], List.getElem?_eq_getElem (by omega)⟩
      obtain ⟨hgk, hmk, _⟩ := hI.c.1 k (List.mem_of_getElem? hkk)
      obtain ⟨kp, hNk⟩ := hgk.node
      have hc0 := hNk.c0
      rw [hgk.isoe] at hc0
      have hol : ((Gt.ps h K).map some).length = X.length + 1 := by rw [List.length_map, Gt.ps, List.length_map]; exact hKl
      have hok : ((Gt.ps h K).map some)[X.length]? = some (some (Gt.p h k)) := by rw [Gt.ps, List.map_map, List.getElem?_map, hkk]; rfl
      have hck := hI.k.at hok
      have hLk : (Gt.L h k).getLast? = l.getLast? := by
        rw [← hL]
        show _ = (Pl.inter X (K.map (Gt.L h))).getLast?
        have hsp : K = K.take X.length ++ [k] := by
          have h1 := List.take_append_drop X.length K
          rw [← List.getElem_cons_drop (h := by omega), (List.getElem?_eq_some_iff.1 hkk).2, List.drop_of_length_le (by omega)] at h1
          exact h1.symm
        rw [hsp, List.map_append]
        have hf := Pl.inter_focus X [] ((K.take X.length).map (Gt.L h)) (Gt.L h k) [] (by rw [List.length_map, List.length_take]; omega) rfl
        rw [List.append_nil] at hf
        show _ = (Pl.inter X ((K.take X.length).map (Gt.L h) ++ [Gt.L h k])).getLast?
        rw [hf]
        show _ = (Pl.pre X ((K.take X.length).map (Gt.L h)) ++ Gt.L h k ++ []).getLast?
        rw [List.append_nil, List.getLast?_append]
        have h1 := Gt.Good.some hgk (by omega)
        cases hk : (Gt.L h k).getLast? with
        | none => rw [List.getLast?_eq_none_iff] at hk; rw [hk] at h1; simp at h1
        | some y => rfl
      -- region 6 (btreeg.go:1264)
      refine Go'.region [(0, 0), (1, 2)] rfl ?_
      refine O.mv rfl rfl rfl rfl rfl ?_
      refine O.callQ rfl rfl rfl Go.Proofs.Try.call133 rfl (leaf_spec hI.n.c3) trivial ?_
      refine Pl.fin [(0, _), (1, _), (4, _), (5, _), (6, _), (28, _)] ⟨rfl, rfl, rfl, rfl, rfl, rfl, trivial⟩ ?_
      refine Go'.condF rfl ?_
      refine Go'.skip ?_
      -- region 8 (btreeg.go:1267)
      refine Go'.draw (fun _ => True) [(0, 0), (1, 0), (2, 0), (3, 0), (4, 1), (5, 0), (6, 1), (7, 0), (8, 0), (9, 0), (10, 1), (11, 0), (12, 1), (13, 0), (14, 0), (15, 0), (16, 0), (17, 2), (18, 0)] (by kernel_rfl) (by kernel_rfl) (trivial) ?_
      refine O.mv rfl rfl rfl rfl rfl ?_
      refine O.mv rfl rfl rfl rfl rfl ?_
      refine O.nc rfl rfl rfl rfl rfl ?_
      refine O.fa0 (off := 3) rfl rfl rfl rfl ⟨_, _, _, Go.Proofs.Try.underlying168, rfl, rfl, Go.Proofs.Try.sizeOf166⟩ rfl ?_
      refine O.ld rfl rfl rfl (fun w => ⟨Go.Proofs.Try.isAgg166 w, Go.Proofs.Try.sizeOf166 w⟩) rfl hI.n.c3 ?_
      refine O.nc rfl rfl rfl rfl rfl ?_
      refine O.ld rfl rfl rfl (fun w => ⟨Go.Proofs.Try.isAgg170 w, Go.Proofs.Try.sizeOf170 w⟩) rfl hI.k.c ?_
      refine O.mv rfl rfl rfl rfl rfl ?_
      refine O.nc rfl rfl rfl rfl rfl ?_
      refine O.fa0 (off := 3) rfl rfl rfl rfl ⟨_, _, _, Go.Proofs.Try.underlying168, rfl, rfl, Go.Proofs.Try.sizeOf166⟩ rfl ?_
      refine O.ld rfl rfl rfl (fun w => ⟨Go.Proofs.Try.isAgg166 w, Go.Proofs.Try.sizeOf166 w⟩) rfl hI.n.c3 ?_
      refine O.nc rfl rfl rfl rfl rfl ?_
      refine O.ld rfl rfl rfl (fun w => ⟨Go.Proofs.Try.isAgg170 w, Go.Proofs.Try.sizeOf170 w⟩) rfl hI.k.c ?_
      refine O.len rfl rfl rfl rfl Go.Proofs.Try.underlying170 rfl ?_
      refine O.sub (((X.length : Nat) : Int)) rfl rfl rfl rfl rfl rfl (by omega) (by omega) ?_
      refine O.ix (j := X.length) rfl rfl rfl rfl Go.Proofs.Try.underlying170 Go.Proofs.Try.sizeOf129 rfl rfl (by omega) (by omega) ?_
      refine O.mv rfl rfl rfl rfl rfl ?_
      refine O.callQ rfl rfl rfl Go.Proofs.Try.call130 rfl (isoLoad_spec mt hck hc0 tc.iso) trivial ?_
      refine O.asg rfl rfl rfl rfl rfl ?_
      refine Pl.fin [(0, _), (1, _), (4, _), (5, _), (6, _), (28, _)] ⟨rfl, rfl, rfl, rfl, rfl, rfl, trivial⟩ ?_
      refine Go'.inBlock ?_
      refine Go'.keep [(0, _), (1, _), (4, _), (5, _), (6, _)] ⟨rfl, rfl, rfl, rfl, rfl, trivial⟩ ?_
      refine Go'.inLoop ?_
      exact ih ⟨h, k⟩ H0 ⟨rfl, hgk, Nat.le_trans hh1 hmk, hLk⟩ (Nat.lt_succ_self h)

theorem max_spec {B : World} {H : Mem} {tr : Nat} {P : Ps} (hP : PsOk P) {S : Nat → Prop} {l : List (Int × Int)} (hM : MapM H tr P S l) :
    Fn Try.prog B 135 [.pointer (some ⟨tr, 0, none⟩)] H (fun r H' => r = .tuple #[PV l.getLast?, .bool l.getLast?.isSome] ∧ Fr nowhere H H') := by
  refine fn_of Go.Proofs.Try.func135 rfl Go.Proofs.Try.ntmps135 ?_
  refine (show Go' _ _ _ _ 8 [(0, _)] [.code _] _ from ?_)
  refine Go'.seq ?_
  -- region 0 (btreeg.go:1247)
  refine Go'.region [(0, 2), (1, 0)] rfl ?_
  refine O.alloc rfl rfl rfl Go.Proofs.Try.zeroValue27 ?_
  intro H0 M0
  refine ⟨trivial, ?_⟩
  have hs0 := M0.size
  replace hM := hM.fr (M0.fr nowhere) (fun _ _ _ => nw)
  have mw : Wr H0 H.size 0 2 := M0.wr 2 (by decide)
  refine O.asg rfl rfl rfl rfl rfl ?_
  refine Pl.fin [(0, _), (2, _), (3, _)] ⟨rfl, rfl, rfl, trivial⟩ ?_
  refine Go'.seq ?_
  -- region 1 (btreeg.go:1248)
  refine Go'.region [(0, 0), (1, 2), (2, 0), (3, 0), (4, 2), (5, 0)] rfl ?_
  refine O.mv rfl rfl rfl rfl rfl ?_
  refine O.call rfl rfl rfl Go.Proofs.Try.call182 rfl (maxMut_spec hP hM false) ?_
  rintro _ H2 ⟨rfl, hF2⟩
  have hs2 := hF2.size
  replace mw := hF2.wr mw
  refine ⟨trivial, ?_⟩
  refine O.ext rfl rfl rfl rfl rfl rfl ?_
  refine O.ext rfl rfl rfl rfl rfl rfl ?_
  refine O.st (vs := (EJ.enc (l.getLast?.getD (0, 0)))) rfl rfl Go.Proofs.Try.sizeOf27 rfl rfl rfl rfl rfl mw ?_
  intro H3 W3
  refine ⟨trivial, ?_⟩
  refine O.asg rfl rfl rfl rfl rfl ?_
  refine Pl.fin [(2, _), (3, _)] ⟨rfl, rfl, trivial⟩ ?_
  refine Go'.ret (vs := [_, _]) Go.Proofs.Try.func135 Go.Proofs.Try.results135 ⟨⟨_, _, rfl, fun _ _ => run_loadVar_agg (fun w => ⟨Go.Proofs.Try.isAgg27 w, Go.Proofs.Try.sizeOf27 w⟩) rfl W3.all⟩, rfl, trivial⟩ ?_
  exact ⟨rfl, ((M0.fr nowhere).trans hF2).trans' W3.fr (fun _ _ _ h => h) (fun b o hb h => by have h' := h.1; omega)⟩

end
theorem igmax_spec {B : World} {H : Mem} {d : Nat} {nl : Bool} {v u : Value} {ord : List Int} {l : List (Int × Int)} (hd : d = 0 ∨ 2 ≤ d ∧ d ≤ 128) (ho : InS EN H v ord) (hol : ord.length ≤ 4294967296) (hi : InS EJ H u l) (hll : l.length ≤ 4294967296) :
    Fn Try.prog B 79 [.agg #[v, .int .i64 (d : Int), .bool nl], u] H (fun r H' => r = FV (Pl.puts (OO ord) l).getLast? ∧ Fr nowhere H H') := by
  obtain ⟨a, c, hu⟩ := hi.len
  subst hu
  obtain ⟨av, mv, cv, hv⟩ := InS.form ho
  subst hv
  have hF : Fr nowhere H H := Fr.refl _ _
  have hP := PD_ok hd
  refine fn_of Go.Proofs.Try.func79 rfl Go.Proofs.Try.ntmps79 ?_
  refine (show Go' _ _ _ _ 12 [(0, _), (1, _)] [.code _] _ from ?_)
  refine Go'.seq ?_
  -- region 0 (treeg.go:150)
  refine Go'.region [(0, 2), (1, 2)] rfl ?_
  refine O.box rfl rfl rfl rfl ?_
  intro B1 MB1
  refine ⟨trivial, ?_⟩
  have hsB1 := MB1.size
  replace hF := hF.trans (MB1.fr nowhere)
  have mm : Rd B1 H.size 0 [.slice av mv cv, .int .i64 (d : Int), .bool nl] := MB1.rd _ [] (by simp [Value.cells])
  have mm0 : cl B1 H.size 0 = some (.slice av mv cv) := mm 0 _ rfl
  have mm1 : cl B1 H.size (0 + 1) = some (.int .i64 (d : Int)) := mm 1 _ rfl
  refine O.alloc rfl rfl rfl Go.Proofs.Try.zeroValue68 ?_
  intro B2 MB2
  refine ⟨trivial, ?_⟩
  have hsB2 := MB2.size
  replace hF := hF.trans (MB2.fr nowhere)
  replace mm := (MB2.fr nowhere).rd mm (fun _ _ => nw)
  replace mm0 := (MB2.fr nowhere).keep mm0 nw
  replace mm1 := (MB2.fr nowhere).keep mm1 nw
  have mw0 : Wr B2 B1.size 0 3 := MB2.wr 3 (by decide)
  refine Pl.fin [(1, _), (2, _), (4, _)] ⟨rfl, rfl, rfl, trivial⟩ ?_
  refine Go'.seq ?_
  -- region 1 (treeg.go:151)
  refine Go'.region [(0, 1), (1, 0), (2, 2), (3, 2), (4, 0), (5, 0), (6, 2), (7, 2)] rfl ?_
  refine O.lds rfl rfl rfl (fun w => ⟨Go.Proofs.Try.isAgg24 w, Go.Proofs.Try.sizeOf24 w⟩) rfl rfl mm ?_
  refine O.mv rfl rfl rfl rfl rfl ?_
  refine O.call rfl rfl rfl Go.Proofs.Try.call68 rfl (grow_spec hd (ho.fr hF) hol (hi.fr hF) hll) ?_
  rintro _ H3 ⟨I, hIo, hIw, hIb, tr, S, rfl, hM, hF3, hS⟩
  have hs3 := hF3.size
  replace hF := hF.trans hF3
  replace mm := hF3.rd mm (fun _ _ => nw)
  replace mm0 := hF3.keep mm0 nw
  replace mm1 := hF3.keep mm1 nw
  replace mw0 := hF3.wr mw0
  have hSb : ∀ b, S b ∨ (b < cx.base ∧ cx.own b) → B2.size ≤ b := fun b hb => hb.elim (hS b) (fun h => hIw b h.2)
  have hOO : OO ord = OI := by rw [← hIo]; rfl
  have hpl := Pl.puts_length OI l
  have hSlt := hM.lt
  have hbs := hM.tc.hb
  unfold ptr
  refine ⟨trivial, ?_⟩
  refine O.call rfl rfl rfl Go.Proofs.Try.call135 rfl (max_spec hP hM) ?_
  rintro _ H4 ⟨rfl, hF4⟩
  replace hF := hF.trans hF4
  replace mm := hF4.rd mm (fun _ _ => nw)
  replace mm0 := hF4.keep mm0 nw
  replace mm1 := hF4.keep mm1 nw
  replace mw0 := hF4.wr mw0
  rw [← hOO]
  refine ⟨trivial, ?_⟩
  refine O.ext rfl rfl rfl rfl rfl rfl ?_
  refine O.ext rfl rfl rfl rfl rfl rfl ?_
  refine O.call rfl rfl rfl Go.Proofs.Try.call104 rfl ifound_spec ?_
  rintro _ H5 ⟨rfl, hF5⟩
  have hs4 := hF4.size
  have hs5 := hF5.size
  replace hF := hF.trans hF5
  replace mm := hF5.rd mm (fun _ _ => nw)
  replace mm0 := hF5.keep mm0 nw
  replace mm1 := hF5.keep mm1 nw
  replace mw0 := hF5.wr mw0
  rw [FVe]
  refine ⟨trivial, ?_⟩
  refine O.st (vs := (fvs (Pl.puts (OO ord) l).getLast?)) rfl rfl Go.Proofs.Try.sizeOf68 rfl rfl rfl (fvs_len _) (fvs_ones _) mw0 ?_
  intro H6 W6
  have hs6 := W6.size
  replace hF := hF.trans' W6.fr (fun _ _ _ h => h) (fun b o hb h => by have h' := h.1; omega)
  replace mm := W6.fr.rd mm (fun _ _ => nr (.inl (by omega)))
  replace mm0 := W6.fr.keep mm0 (nr (.inl (by omega)))
  replace mm1 := W6.fr.keep mm1 (nr (.inl (by omega)))
  replace mw0 := W6.fr.wr mw0
  refine ⟨trivial, ?_⟩
  refine Pl.fin [(4, _)] ⟨rfl, trivial⟩ ?_
  refine Go'.ret (vs := [_]) Go.Proofs.Try.func79 Go.Proofs.Try.results79 ⟨⟨_, _, rfl, fun _ _ => run_loadVar_agg (fun w => ⟨Go.Proofs.Try.isAgg68 w, Go.Proofs.Try.sizeOf68 w⟩) (fvs_len _) W6.all⟩, trivial⟩ ?_
  exact ⟨rfl, hF⟩

theorem sgmax_spec {B : World} {H : Mem} {z : Int} {nl : Bool} {v u : Value} {ord : List Int} {l : List (Int × Int)} (ho : InS EN H v ord) (hol : ord.length ≤ 4294967296) (hi : InS EJ H u l) (hll : l.length ≤ 4294967296) :
    Fn Try.prog B 80 [.agg #[v, .int .i64 z, .bool nl], u] H (fun r H' => r = FV (Pl.puts (OO ord) l).getLast? ∧ Fr nowhere H H') := by
  have hpl := Pl.puts_length (OO ord) l
  obtain ⟨a, c, hu⟩ := hi.len
  subst hu
  obtain ⟨av, mv, cv, hv⟩ := InS.form ho
  subst hv
  have hF : Fr nowhere H H := Fr.refl _ _
  refine fn_of Go.Proofs.Try.func80 rfl Go.Proofs.Try.ntmps80 ?_
  refine (show Go' _ _ _ _ 15 [(0, _), (1, _)] [.code _] _ from ?_)
  refine Go'.seq ?_
  -- region 0 (tree.go:68)
  refine Go'.region [(0, 2), (1, 2)] rfl ?_
  refine O.box rfl rfl rfl rfl ?_
  intro B1 MB1
  refine ⟨trivial, ?_⟩
  have hsB1 := MB1.size
  replace hF := hF.trans (MB1.fr nowhere)
  have mm : Rd B1 H.size 0 [.slice av mv cv, .int .i64 z, .bool nl] := MB1.rd _ [] (by simp [Value.cells])
  have mm0 : cl B1 H.size 0 = some (.slice av mv cv) := mm 0 _ rfl
  have mm1 : cl B1 H.size (0 + 1) = some (.int .i64 z) := mm 1 _ rfl
  refine O.alloc rfl rfl rfl Go.Proofs.Try.zeroValue68 ?_
  intro B2 MB2
  refine ⟨trivial, ?_⟩
  have hsB2 := MB2.size
  replace hF := hF.trans (MB2.fr nowhere)
  replace mm := (MB2.fr nowhere).rd mm (fun _ _ => nw)
  replace mm0 := (MB2.fr nowhere).keep mm0 nw
  replace mm1 := (MB2.fr nowhere).keep mm1 nw
  have mw0 : Wr B2 B1.size 0 3 := MB2.wr 3 (by decide)
  refine Pl.fin [(1, _), (2, _), (4, _)] ⟨rfl, rfl, rfl, trivial⟩ ?_
  refine Go'.seq ?_
  -- region 1 (tree.go:69)
  refine Go'.region [(0, 0), (1, 1), (2, 0), (3, 2), (4, 0)] rfl ?_
  refine O.faz rfl rfl rfl rfl ⟨_, _, _, Go.Proofs.Try.underlying24, rfl, rfl, Go.Proofs.Try.sizeOf22⟩ rfl ?_
  refine O.ld rfl rfl rfl (fun w => ⟨Go.Proofs.Try.isAgg22 w, Go.Proofs.Try.sizeOf22 w⟩) rfl mm0 ?_
  refine O.mv rfl rfl rfl rfl rfl ?_
  refine O.call rfl rfl rfl Go.Proofs.Try.call42 rfl (tree_spec (ho.fr hF) (by omega) (hi.fr hF) hll) ?_
  rintro tv H4 ⟨hA4, hF4⟩
  replace hF := hF.trans hF4
  replace mm := hF4.rd mm (fun _ _ => nw)
  replace mm0 := hF4.keep mm0 nw
  replace mm1 := hF4.keep mm1 nw
  replace mw0 := hF4.wr mw0
  have hT := hA4.inS
  obtain ⟨ta, tc, rfl⟩ := hT.len
  refine ⟨trivial, ?_⟩
  refine O.asg rfl rfl rfl rfl rfl ?_
  refine Pl.fin [(4, _), (5, _)] ⟨rfl, rfl, trivial⟩ ?_
  refine Go'.seq ?_
  -- region 2 (tree.go:70)
  refine Go'.region [(0, 0), (1, 0), (2, 0), (3, 0), (4, 2), (5, 2)] rfl ?_
  refine O.mv rfl rfl rfl rfl rfl ?_
  refine O.mv rfl rfl rfl rfl rfl ?_
  refine O.len rfl rfl rfl rfl Go.Proofs.Try.underlying25 rfl ?_
  refine O.sub (((((Pl.puts (OO ord) l).length : Nat) : Int) - 1)) rfl rfl rfl rfl rfl rfl (by omega) (by omega) ?_
  refine O.call rfl rfl rfl Go.Proofs.Try.call136 rfl (at_spec ((((Pl.puts (OO ord) l).length : Nat) : Int) - 1) hT (by omega)) ?_
  rintro _ H5 ⟨rfl, hF5⟩
  have hs4 := hF4.size
  have hs5 := hF5.size
  replace hF := hF.trans hF5
  replace mm := hF5.rd mm (fun _ _ => nw)
  replace mm0 := hF5.keep mm0 nw
  replace mm1 := hF5.keep mm1 nw
  replace mw0 := hF5.wr mw0
  rw [ath_last, FVe]
  refine ⟨trivial, ?_⟩
  refine O.st (vs := (fvs (Pl.puts (OO ord) l).getLast?)) rfl rfl Go.Proofs.Try.sizeOf68 rfl rfl rfl (fvs_len _) (fvs_ones _) mw0 ?_
  intro H6 W6
  have hs6 := W6.size
  replace hF := hF.trans' W6.fr (fun _ _ _ h => h) (fun b o hb h => by have h' := h.1; omega)
  replace mm := W6.fr.rd mm (fun _ _ => nr (.inl (by omega)))
  replace mm0 := W6.fr.keep mm0 (nr (.inl (by omega)))
  replace mm1 := W6.fr.keep mm1 (nr (.inl (by omega)))
  replace mw0 := W6.fr.wr mw0
  refine ⟨trivial, ?_⟩
  refine Pl.fin [(4, _)] ⟨rfl, trivial⟩ ?_
  refine Go'.ret (vs := [_]) Go.Proofs.Try.func80 Go.Proofs.Try.results80 ⟨⟨_, _, rfl, fun _ _ => run_loadVar_agg (fun w => ⟨Go.Proofs.Try.isAgg68 w, Go.Proofs.Try.sizeOf68 w⟩) (fvs_len _) W6.all⟩, trivial⟩ ?_
  exact ⟨rfl, hF⟩

theorem lawGMax_spec {B : World} {H : Mem} {d : Nat} {nl : Bool} {v u : Value} {ord : List Int} {l : List (Int × Int)} (hd : d = 0 ∨ 2 ≤ d ∧ d ≤ 128) (ho : InS EN H v ord) (hol : ord.length ≤ 4294967296) (hi : InS EJ H u l) (hll : l.length ≤ 4294967296) :
    Fn Try.prog B 34 [.agg #[v, .int .i64 (d : Int), .bool nl], u] H (fun r H' => r = .bool true ∧ Fr nowhere H H') := by
  obtain ⟨a, c, hu⟩ := hi.len
  subst hu
  obtain ⟨av, mv, cv, hv⟩ := InS.form ho
  subst hv
  have hF : Fr nowhere H H := Fr.refl _ _
  have hP := PD_ok hd
  refine fn_of Go.Proofs.Try.func34 rfl Go.Proofs.Try.ntmps34 ?_
  refine (show Go' _ _ _ _ 16 [(0, _), (1, _)] [.code _] _ from ?_)
  refine Go'.seq ?_
  -- region 0 (exact.go:202)
  refine Go'.region [(0, 2), (1, 0)] rfl ?_
  refine O.box rfl rfl rfl rfl ?_
  intro B1 MB1
  refine ⟨trivial, ?_⟩
  have hsB1 := MB1.size
  replace hF := hF.trans (MB1.fr nowhere)
  have mm : Rd B1 H.size 0 [.slice av mv cv, .int .i64 (d : Int), .bool nl] := MB1.rd _ [] (by simp [Value.cells])
  have mm0 : cl B1 H.size 0 = some (.slice av mv cv) := mm 0 _ rfl
  have mm1 : cl B1 H.size (0 + 1) = some (.int .i64 (d : Int)) := mm 1 _ rfl
  refine O.asg rfl rfl rfl rfl rfl ?_
  refine Pl.fin [(1, _), (2, _), (4, _)] ⟨rfl, rfl, rfl, trivial⟩ ?_
  refine Go'.seq ?_
  -- region 1 (exact.go:203)
  refine Go'.region [(0, 1), (1, 0), (2, 2), (3, 2), (4, 2)] rfl ?_
  refine O.lds rfl rfl rfl (fun w => ⟨Go.Proofs.Try.isAgg24 w, Go.Proofs.Try.sizeOf24 w⟩) rfl rfl mm ?_
  refine O.mv rfl rfl rfl rfl rfl ?_
  refine O.call rfl rfl rfl Go.Proofs.Try.call79 rfl (igmax_spec hd (ho.fr hF) hol (hi.fr hF) hll) ?_
  rintro _ H3 ⟨rfl, hF3⟩
  have hs3 := hF3.size
  replace hF := hF.trans hF3
  replace mm := hF3.rd mm (fun _ _ => nw)
  replace mm0 := hF3.keep mm0 nw
  replace mm1 := hF3.keep mm1 nw
  rw [FVe]
  refine ⟨trivial, ?_⟩
  refine O.alloc rfl rfl rfl Go.Proofs.Try.zeroValue68 ?_
  intro H4 M4
  refine ⟨trivial, ?_⟩
  have hs4 := M4.size
  replace hF := hF.trans (M4.fr nowhere)
  replace mm := (M4.fr nowhere).rd mm (fun _ _ => nw)
  replace mm0 := (M4.fr nowhere).keep mm0 nw
  replace mm1 := (M4.fr nowhere).keep mm1 nw
  have mc0 : Wr H4 H3.size 0 3 := M4.wr 3 (by decide)
  refine O.st (vs := (fvs (Pl.puts (OO ord) l).getLast?)) rfl rfl Go.Proofs.Try.sizeOf68 rfl rfl rfl (fvs_len _) (fvs_ones _) mc0 ?_
  intro H5 W5
  have hs5 := W5.size
  have hsF0 := hF.size
  replace hF := hF.trans' W5.fr (fun _ _ _ h => h) (fun b o hb h => by have h' := h.1; omega)
  replace mm := W5.fr.rd mm (fun _ _ => nr (.inl (by omega)))
  replace mm0 := W5.fr.keep mm0 (nr (.inl (by omega)))
  replace mm1 := W5.fr.keep mm1 (nr (.inl (by omega)))
  have mr0 : Rd H5 H3.size 0 (fvs (Pl.puts (OO ord) l).getLast?) := W5.all
  refine ⟨trivial, ?_⟩
  refine Pl.fin [(1, _), (2, _), (4, _), (5, _)] ⟨rfl, rfl, rfl, rfl, trivial⟩ ?_
  refine Go'.seq ?_
  -- region 2 (exact.go:204)
  refine Go'.region [(0, 1), (1, 0), (2, 2), (3, 2), (4, 2)] rfl ?_
  refine O.lds rfl rfl rfl (fun w => ⟨Go.Proofs.Try.isAgg24 w, Go.Proofs.Try.sizeOf24 w⟩) rfl rfl mm ?_
  refine O.mv rfl rfl rfl rfl rfl ?_
  refine O.call rfl rfl rfl Go.Proofs.Try.call80 rfl (sgmax_spec (ho.fr hF) hol (hi.fr hF) hll) ?_
  rintro _ H6 ⟨rfl, hF6⟩
  have hs6 := hF6.size
  replace hF := hF.trans hF6
  replace mm := hF6.rd mm (fun _ _ => nw)
  replace mm0 := hF6.keep mm0 nw
  replace mm1 := hF6.keep mm1 nw
  replace mr0 := hF6.rd mr0 (fun _ _ => nw)
  rw [FVe]
  refine ⟨trivial, ?_⟩
  refine O.alloc rfl rfl rfl Go.Proofs.Try.zeroValue68 ?_
  intro H7 M7
  refine ⟨trivial, ?_⟩
  have hs7 := M7.size
  replace hF := hF.trans (M7.fr nowhere)
  replace mm := (M7.fr nowhere).rd mm (fun _ _ => nw)
  replace mm0 := (M7.fr nowhere).keep mm0 nw
  replace mm1 := (M7.fr nowhere).keep mm1 nw
  replace mr0 := (M7.fr nowhere).rd mr0 (fun _ _ => nw)
  have mc1 : Wr H7 H6.size 0 3 := M7.wr 3 (by decide)
  refine O.st (vs := (fvs (Pl.puts (OO ord) l).getLast?)) rfl rfl Go.Proofs.Try.sizeOf68 rfl rfl rfl (fvs_len _) (fvs_ones _) mc1 ?_
  intro H8 W8
  have hs8 := W8.size
  have hsF1 := hF.size
  replace hF := hF.trans' W8.fr (fun _ _ _ h => h) (fun b o hb h => by have h' := h.1; omega)
  replace mm := W8.fr.rd mm (fun _ _ => nr (.inl (by omega)))
  replace mm0 := W8.fr.keep mm0 (nr (.inl (by omega)))
  replace mm1 := W8.fr.keep mm1 (nr (.inl (by omega)))
  replace mr0 := W8.fr.rd mr0 (fun _ _ => nr (.inl (by omega)))
  have mr1 : Rd H8 H6.size 0 (fvs (Pl.puts (OO ord) l).getLast?) := W8.all
  refine ⟨trivial, ?_⟩
  refine Pl.fin [(4, _), (5, _), (6, _)] ⟨rfl, rfl, rfl, trivial⟩ ?_
  refine Go'.seq ?_
  -- region 3 (exact.go:205)
  refine Go'.region [(0, 1), (1, 1), (2, 0), (3, 0)] rfl ?_
  refine O.lds rfl rfl rfl (fun w => ⟨Go.Proofs.Try.isAgg68 w, Go.Proofs.Try.sizeOf68 w⟩) rfl (fvs_len _) mr0 ?_
  refine O.lds rfl rfl rfl (fun w => ⟨Go.Proofs.Try.isAgg68 w, Go.Proofs.Try.sizeOf68 w⟩) rfl (fvs_len _) mr1 ?_
  refine O.bin rfl rfl rfl rfl rfl rfl (found_eq (Pl.puts (OO ord) l).getLast? _ _) ?_
  refine O.asg rfl rfl rfl rfl rfl ?_
  refine Pl.fin [(4, _)] ⟨rfl, trivial⟩ ?_
  refine Go'.ret (vs := [_]) Go.Proofs.Try.func34 Go.Proofs.Try.results34 ⟨rfl, trivial⟩ ?_
  exact ⟨rfl, hF⟩

theorem fnExactGMax {B : World} {H : Mem} {z : Int} {nl : Bool} {v u : Value} {ord : List Int} {l : List (Int × Int)} (ho : InS EN H v ord) (hi : InS EJ H u l) :
    Fn Try.prog B 6 [.agg #[v, .int .i64 z, .bool nl], u] H (fun r H' => r = .bool true ∧ Fr nowhere H H') := by
  obtain ⟨a, c, hu⟩ := hi.len
  subst hu
  obtain ⟨av, mv, cv, hv⟩ := InS.form ho
  subst hv
  have hF : Fr nowhere H H := Fr.refl _ _
  refine fn_of Go.Proofs.Try.func6 rfl Go.Proofs.Try.ntmps6 ?_
  refine (show Go' _ _ _ _ 27 [(0, _), (1, _)] [.code _] _ from ?_)
  refine Go'.seq ?_
  -- region 0 (exact.go:195)
  refine Go'.region [(0, 2), (1, 0)] rfl ?_
  refine O.box rfl rfl rfl rfl ?_
  intro B1 MB1
  refine ⟨trivial, ?_⟩
  have hsB1 := MB1.size
  replace hF := hF.trans (MB1.fr nowhere)
  have mm : Rd B1 H.size 0 [.slice av mv cv, .int .i64 z, .bool nl] := MB1.rd _ [] (by simp [Value.cells])
  have mm0 : cl B1 H.size 0 = some (.slice av mv cv) := mm 0 _ rfl
  have mm1 : cl B1 H.size (0 + 1) = some (.int .i64 z) := mm 1 _ rfl
  refine O.asg rfl rfl rfl rfl rfl ?_
  refine Pl.fin [(1, _), (2, _), (4, _)] ⟨rfl, rfl, rfl, trivial⟩ ?_
  refine Go'.seq ?_
  refine Go'.seq ?_
  cases hoz : decide (ord.length ≤ 2147483647)
  · skip
    -- region 1 (exact.go:196)
    refine Go'.region [(0, 1), (1, 2), (2, 0), (3, 0), (4, 0), (5, 0), (6, 0), (7, 0)] rfl ?_
    refine O.lds rfl rfl rfl (fun w => ⟨Go.Proofs.Try.isAgg24 w, Go.Proofs.Try.sizeOf24 w⟩) rfl rfl mm ?_
    refine O.call rfl rfl rfl Go.Proofs.Try.call23 rfl (zzFits1_spec (ho.fr hF) hoz) ?_
    rintro _ H1 ⟨rfl, hF1⟩
    replace hF := hF.trans hF1
    replace mm := hF1.rd mm (fun _ _ => nw)
    replace mm0 := hF1.keep mm0 nw
    replace mm1 := hF1.keep mm1 nw
    refine ⟨trivial, ?_⟩
    refine O.not rfl rfl rfl rfl rfl ?_
    refine O.mv rfl rfl rfl rfl rfl ?_
    refine Pl.pass rfl rfl rfl rfl ?_
    refine Pl.pass rfl rfl rfl rfl ?_
    refine Pl.pass rfl rfl rfl rfl ?_
    refine O.pick rfl rfl rfl rfl rfl rfl ?_
    refine Pl.fin [(1, _), (2, _), (4, _), (12, _)] ⟨rfl, rfl, rfl, rfl, trivial⟩ ?_
    refine Go'.condT rfl ?_
    refine Go'.seq ?_
    -- region 2 (exact.go:197)
    refine Go'.region [(0, 0)] rfl ?_
    refine O.asg rfl rfl rfl rfl rfl ?_
    refine Pl.fin [(1, _), (2, _), (4, _)] ⟨rfl, rfl, rfl, trivial⟩ ?_
    refine Go'.ret (vs := [_]) Go.Proofs.Try.func6 Go.Proofs.Try.results6 ⟨rfl, trivial⟩ ?_
    exact ⟨rfl, hF⟩
  · skip
    have hoz2 := of_decide_eq_true hoz
    by_cases hb_lenl : (2147483647 : Int) < (l.length : Int)
    · skip
      -- region 1 (exact.go:196)
      refine Go'.region [(0, 1), (1, 2), (2, 0), (3, 0), (4, 0), (5, 0), (6, 0), (7, 0)] rfl ?_
      refine O.lds rfl rfl rfl (fun w => ⟨Go.Proofs.Try.isAgg24 w, Go.Proofs.Try.sizeOf24 w⟩) rfl rfl mm ?_
      refine O.call rfl rfl rfl Go.Proofs.Try.call23 rfl (zzFits1_spec (ho.fr hF) hoz) ?_
      rintro _ H1 ⟨rfl, hF1⟩
      replace hF := hF.trans hF1
      replace mm := hF1.rd mm (fun _ _ => nw)
      replace mm0 := hF1.keep mm0 nw
      replace mm1 := hF1.keep mm1 nw
      refine ⟨trivial, ?_⟩
      refine O.not rfl rfl rfl rfl rfl ?_
      refine O.mv rfl rfl rfl rfl rfl ?_
      refine O.mv rfl rfl rfl rfl rfl ?_
      refine O.len rfl rfl rfl rfl Go.Proofs.Try.underlying25 rfl ?_
      refine O.cmp rfl rfl rfl rfl rfl rfl (gtrT (by omega)) ?_
      refine O.pick rfl rfl rfl rfl rfl rfl ?_
      refine Pl.fin [(1, _), (2, _), (4, _), (12, _)] ⟨rfl, rfl, rfl, rfl, trivial⟩ ?_
      refine Go'.condT rfl ?_
      refine Go'.seq ?_
      -- region 2 (exact.go:197)
      refine Go'.region [(0, 0)] rfl ?_
      refine O.asg rfl rfl rfl rfl rfl ?_
      refine Pl.fin [(1, _), (2, _), (4, _)] ⟨rfl, rfl, rfl, trivial⟩ ?_
      refine Go'.ret (vs := [_]) Go.Proofs.Try.func6 Go.Proofs.Try.results6 ⟨rfl, trivial⟩ ?_
      exact ⟨rfl, hF⟩
    · skip
      -- region 1 (exact.go:196)
      refine Go'.region [(0, 1), (1, 2), (2, 0), (3, 0), (4, 0), (5, 0), (6, 0), (7, 0)] rfl ?_
      refine O.lds rfl rfl rfl (fun w => ⟨Go.Proofs.Try.isAgg24 w, Go.Proofs.Try.sizeOf24 w⟩) rfl rfl mm ?_
      refine O.call rfl rfl rfl Go.Proofs.Try.call23 rfl (zzFits1_spec (ho.fr hF) hoz) ?_
      rintro _ H1 ⟨rfl, hF1⟩
      replace hF := hF.trans hF1
      replace mm := hF1.rd mm (fun _ _ => nw)
      replace mm0 := hF1.keep mm0 nw
      replace mm1 := hF1.keep mm1 nw
      refine ⟨trivial, ?_⟩
      refine O.not rfl rfl rfl rfl rfl ?_
      refine O.mv rfl rfl rfl rfl rfl ?_
      refine O.mv rfl rfl rfl rfl rfl ?_
      refine O.len rfl rfl rfl rfl Go.Proofs.Try.underlying25 rfl ?_
      refine O.cmp rfl rfl rfl rfl rfl rfl (gtrF (by omega)) ?_
      refine O.pick rfl rfl rfl rfl rfl rfl ?_
      refine Pl.fin [(1, _), (2, _), (4, _), (12, _)] ⟨rfl, rfl, rfl, rfl, trivial⟩ ?_
      refine Go'.condF rfl ?_
      refine Go'.skip ?_
      refine Go'.seq ?_
      cases hfz : fitsb z
      · skip
        -- region 3 (exact.go:199)
        refine Go'.region [(0, 2), (1, 2), (2, 2), (3, 0), (4, 0), (5, 1), (6, 2), (7, 0), (8, 0), (9, 1), (10, 0), (11, 2), (12, 0), (13, 0), (14, 0)] rfl ?_
        refine O.call rfl rfl rfl Go.Proofs.Try.call30 rfl exMake_spec ?_
        rintro _ H2 ⟨rfl, hF2⟩
        replace hF := hF.trans hF2
        replace mm := hF2.rd mm (fun _ _ => nw)
        replace mm0 := hF2.keep mm0 nw
        replace mm1 := hF2.keep mm1 nw
        refine ⟨trivial, ?_⟩
        refine O.call rfl rfl rfl Go.Proofs.Try.call32 rfl exItems_spec ?_
        rintro ev H3 ⟨hev, hF3⟩
        replace hF := hF.trans hF3
        replace mm := hF3.rd mm (fun _ _ => nw)
        replace mm0 := hF3.keep mm0 nw
        replace mm1 := hF3.keep mm1 nw
        refine ⟨trivial, ?_⟩
        refine O.call rfl rfl rfl Go.Proofs.Try.call34 rfl (lawGMax_spec (d := 2) (by decide) (InS.nil EN _) (by decide) hev (by decide)) ?_
        rintro _ H4 ⟨rfl, hF4⟩
        replace hF := hF.trans hF4
        replace mm := hF4.rd mm (fun _ _ => nw)
        replace mm0 := hF4.keep mm0 nw
        replace mm1 := hF4.keep mm1 nw
        refine ⟨trivial, ?_⟩
        refine O.mv rfl rfl rfl rfl rfl ?_
        refine O.fa0 (off := 1) rfl rfl rfl rfl ⟨_, _, _, Go.Proofs.Try.underlying24, rfl, rfl, Go.Proofs.Try.sizeOf3⟩ rfl ?_
        refine O.ld rfl rfl rfl (fun w => ⟨Go.Proofs.Try.isAgg3 w, Go.Proofs.Try.sizeOf3 w⟩) rfl mm1 ?_
        refine O.callQ rfl rfl rfl Go.Proofs.Try.call33 rfl (fits_spec' hfz) trivial ?_
        refine O.not rfl rfl rfl rfl rfl ?_
        refine O.mv rfl rfl rfl rfl rfl ?_
        refine Pl.pass rfl rfl rfl rfl ?_
        refine Pl.pass rfl rfl rfl rfl ?_
        refine Pl.pass2 rfl rfl rfl rfl trivial ?_
        refine O.pick rfl rfl rfl rfl rfl rfl ?_
        refine O.pick rfl rfl rfl rfl rfl rfl ?_
        refine O.asg rfl rfl rfl rfl rfl ?_
        refine Pl.fin [(4, _)] ⟨rfl, trivial⟩ ?_
        refine Go'.ret (vs := [_]) Go.Proofs.Try.func6 Go.Proofs.Try.results6 ⟨rfl, trivial⟩ ?_
        exact ⟨rfl, hF⟩
      · skip
        obtain ⟨d, rfl, hd⟩ := fitsb_nat hfz
        -- region 3 (exact.go:199)
        refine Go'.region [(0, 2), (1, 2), (2, 2), (3, 0), (4, 0), (5, 1), (6, 2), (7, 0), (8, 0), (9, 1), (10, 0), (11, 2), (12, 0), (13, 0), (14, 0)] rfl ?_
        refine O.call rfl rfl rfl Go.Proofs.Try.call30 rfl exMake_spec ?_
        rintro _ H2 ⟨rfl, hF2⟩
        replace hF := hF.trans hF2
        replace mm := hF2.rd mm (fun _ _ => nw)
        replace mm0 := hF2.keep mm0 nw
        replace mm1 := hF2.keep mm1 nw
        refine ⟨trivial, ?_⟩
        refine O.call rfl rfl rfl Go.Proofs.Try.call32 rfl exItems_spec ?_
        rintro ev H3 ⟨hev, hF3⟩
        replace hF := hF.trans hF3
        replace mm := hF3.rd mm (fun _ _ => nw)
        replace mm0 := hF3.keep mm0 nw
        replace mm1 := hF3.keep mm1 nw
        refine ⟨trivial, ?_⟩
        refine O.call rfl rfl rfl Go.Proofs.Try.call34 rfl (lawGMax_spec (d := 2) (by decide) (InS.nil EN _) (by decide) hev (by decide)) ?_
        rintro _ H4 ⟨rfl, hF4⟩
        replace hF := hF.trans hF4
        replace mm := hF4.rd mm (fun _ _ => nw)
        replace mm0 := hF4.keep mm0 nw
        replace mm1 := hF4.keep mm1 nw
        refine ⟨trivial, ?_⟩
        refine O.mv rfl rfl rfl rfl rfl ?_
        refine O.fa0 (off := 1) rfl rfl rfl rfl ⟨_, _, _, Go.Proofs.Try.underlying24, rfl, rfl, Go.Proofs.Try.sizeOf3⟩ rfl ?_
        refine O.ld rfl rfl rfl (fun w => ⟨Go.Proofs.Try.isAgg3 w, Go.Proofs.Try.sizeOf3 w⟩) rfl mm1 ?_
        refine O.callQ rfl rfl rfl Go.Proofs.Try.call33 rfl (fits_spec' hfz) trivial ?_
        refine O.not rfl rfl rfl rfl rfl ?_
        refine O.mv rfl rfl rfl rfl rfl ?_
        refine O.lds rfl rfl rfl (fun w => ⟨Go.Proofs.Try.isAgg24 w, Go.Proofs.Try.sizeOf24 w⟩) rfl rfl mm ?_
        refine O.mv rfl rfl rfl rfl rfl ?_
        refine O.call rfl rfl rfl Go.Proofs.Try.call34 rfl (lawGMax_spec hd (ho.fr hF) (by omega) (hi.fr hF) (by omega)) ?_
        rintro _ H5 ⟨rfl, hF5⟩
        replace hF := hF.trans hF5
        replace mm := hF5.rd mm (fun _ _ => nw)
        replace mm0 := hF5.keep mm0 nw
        replace mm1 := hF5.keep mm1 nw
        refine ⟨trivial, ?_⟩
        refine O.pick rfl rfl rfl rfl rfl rfl ?_
        refine O.pick rfl rfl rfl rfl rfl rfl ?_
        refine O.asg rfl rfl rfl rfl rfl ?_
        refine Pl.fin [(4, _)] ⟨rfl, trivial⟩ ?_
        refine Go'.ret (vs := [_]) Go.Proofs.Try.func6 Go.Proofs.Try.results6 ⟨rfl, trivial⟩ ?_
        exact ⟨rfl, hF⟩

end Go.Bt.FG
