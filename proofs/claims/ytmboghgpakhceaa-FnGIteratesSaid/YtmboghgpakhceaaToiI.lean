/- Contracts of functions of the program, proved by walking through their code. Conditions: those that each theorem names. -/
import Derived.Test.YtmboghgpakhceaaToiH
namespace Go.Bt.FG
open Go Go.Proofs
set_option maxRecDepth 20000
set_option maxHeartbeats 4000000
set_option linter.unusedVariables false
set_option linter.unusedSectionVars false

section
variable [Inhabited Cx]
theorem ascend_spec {B : World} {g : FuncId} {us cs : List Value} {go : List (Int × Int) → Bool} {M : Nat} (cb : Cb Try.prog B encIt g us cs go M) (hcall : ∀ (args : Array Value) (w : World), (callFunc g args).run Try.prog w = .ok (.enter g args) w) {tr : Nat} {P : Ps} (hP : PsOk P) (mt : Bool) (x : Int × Int) {H : Mem} {S : Nat → Prop} {l : List (Int × Int)} {Z : Nat → Prop} (hM : MapM H tr P S l) (hT : cb.T [] Z H) (hd : ∀ b, S b → ¬ Z b) (hnb : ∀ b, Z b → ¬ (b < cx.base ∧ cx.own b)) (hl : l.length ≤ M) (hM6 : M ≤ 4294967296) {hv : Value} {hz : Nat → Prop} (hk : HintOk H hv hz) (hzS : ∀ b, hz b → ¬ S b) (hzZ : ∀ b, Z b → ¬ hz b) :
    Fn Try.prog B 154 [.pointer (some ⟨tr, 0, none⟩), .agg (EJ.enc x).toArray, .func (.func g) us.toArray cs.toArray, .bool mt, hv] H (fun _ H' => ∃ Z', cb.T (takes go [] (Pl.up OI x (l))).1 Z' H' ∧ Fr (fun b _ => Z b ∨ hz b) H H' ∧ ∀ b, Z' b → Z b ∨ H.size ≤ b) := by
  have hzb := hk.base
  have hTl : ∀ b, Z b → b < H.size := fun b hb => cb.lt hT hb
  refine fn_of Try.func154 rfl Try.ntmps154 ?_
  refine (show Go' _ _ _ _ 29 [(0, _), (1, _), (2, _), (3, _), (4, _)] [.code _] _ from ?_)
  refine Go'.seq ?_
  -- region 0 (btreeg.go:1031)
  refine Go'.region [(0, 2)] rfl ?_
  refine O.box rfl rfl rfl rfl ?_
  intro H0 M0
  refine ⟨trivial, ?_⟩
  have hs0 := M0.size
  have hf0 := M0.fr nowhere
  have mi : Rd H0 H.size 0 (EJ.enc x) := M0.rd _ [] (by simp [Value.cells])
  replace hM := hM.fr hf0 (fun _ _ _ => nw)
  replace hT := cb.fr hT hf0 (fun _ _ _ => nw)
  replace hk := hk.fr hf0 (fun _ _ _ => nw)
  obtain ⟨tc, srt, cnt, own, lt, bs, hr⟩ := hM
  refine Pl.fin [(0, _), (2, _), (3, _), (4, _), (6, _)] ⟨rfl, rfl, rfl, rfl, rfl, trivial⟩ ?_
  refine Go'.seq ?_
  refine Go'.seq ?_
  -- region 1 (btreeg.go:1034)
  refine Go'.region [(0, 0), (1, 0), (2, 2)] rfl ?_
  refine O.mv rfl rfl rfl rfl rfl ?_
  refine O.mv rfl rfl rfl rfl rfl ?_
  refine O.callQ rfl rfl rfl Try.call128 rfl lock_spec trivial ?_
  refine Pl.fin [(0, _), (2, _), (3, _), (4, _), (6, _), (12, _)] ⟨rfl, rfl, rfl, rfl, rfl, rfl, trivial⟩ ?_
  refine Go'.condF rfl ?_
  refine Go'.skip ?_
  refine Go'.seq ?_
  refine Go'.seq ?_
  rcases hr with ⟨rfl, hptr⟩ | ⟨h, t, hg, hx1, e, hc, hnt, hown⟩
  · skip
    -- region 3 (btreeg.go:1037)
    refine Go'.region [(0, 0), (1, 0), (2, 0), (3, 1), (4, 0)] rfl ?_
    refine O.mv rfl rfl rfl rfl rfl ?_
    refine O.nc rfl rfl rfl rfl rfl ?_
    refine O.fa0 (off := 2) rfl rfl rfl rfl ⟨_, _, _, Try.underlying158, rfl, rfl, Try.sizeOf129⟩ rfl ?_
    refine O.ld rfl rfl rfl (fun w => ⟨Try.isAgg129 w, Try.sizeOf129 w⟩) rfl hptr ?_
    refine O.isNil rfl rfl rfl rfl Try.underlying129 rfl rfl ?_
    refine Pl.fin [(0, _), (2, _), (3, _), (4, _), (6, _), (19, _)] ⟨rfl, rfl, rfl, rfl, rfl, rfl, trivial⟩ ?_
    refine Go'.condT rfl ?_
    refine Go'.ret Try.func154 Try.results154 (vs := []) trivial ?_
    exact ⟨Z, hT, hf0.mono (fun _ _ _ h => h.elim), fun b hb => .inl hb⟩
  · skip
    have hptr : cl H0 tr 2 = some (.pointer (some ⟨Gt.p h t, 0, none⟩)) := hc
    have hht := Gt.Good.tall hP hg hx1
    -- region 3 (btreeg.go:1037)
    refine Go'.region [(0, 0), (1, 0), (2, 0), (3, 1), (4, 0)] rfl ?_
    refine O.mv rfl rfl rfl rfl rfl ?_
    refine O.nc rfl rfl rfl rfl rfl ?_
    refine O.fa0 (off := 2) rfl rfl rfl rfl ⟨_, _, _, Try.underlying158, rfl, rfl, Try.sizeOf129⟩ rfl ?_
    refine O.ld rfl rfl rfl (fun w => ⟨Try.isAgg129 w, Try.sizeOf129 w⟩) rfl hptr ?_
    refine O.isNil rfl rfl rfl rfl Try.underlying129 rfl rfl ?_
    refine Pl.fin [(0, _), (2, _), (3, _), (4, _), (6, _), (19, _)] ⟨rfl, rfl, rfl, rfl, rfl, rfl, trivial⟩ ?_
    refine Go'.condF rfl ?_
    refine Go'.skip ?_
    -- region 4 (btreeg.go:1040)
    refine Go'.draw (fun _ => True) [(0, 0), (1, 0), (2, 0), (3, 0), (4, 1), (5, 0), (6, 0), (7, 0), (8, 2)] (by kernel_rfl) (by kernel_rfl) (trivial) ?_
    refine O.mv rfl rfl rfl rfl rfl ?_
    refine O.mv rfl rfl rfl rfl rfl ?_
    refine O.nc rfl rfl rfl rfl rfl ?_
    refine O.fa0 (off := 2) rfl rfl rfl rfl ⟨_, _, _, Try.underlying158, rfl, rfl, Try.sizeOf129⟩ rfl ?_
    refine O.lds rfl rfl rfl (fun w => ⟨Try.isAgg27 w, Try.sizeOf27 w⟩) rfl rfl mi ?_
    refine O.mv rfl rfl rfl rfl rfl ?_
    refine O.mv rfl rfl rfl rfl rfl ?_
    refine O.mv rfl rfl rfl rfl rfl ?_
    refine O.call rfl rfl rfl Try.call190 rfl (nasc cb hcall hP mt x hv hz h (dp := 0) (Z := fun b => Z b ∨ hz b) ⟨tc, hg, hc, fun b o hb hz2 => hz2.elim (hd b (hown b o hb)) (fun h => hzS b h (hown b o hb)), fun b hb => hb.elim (hnb b) (fun h => (hzb b h).1), ⟨Z, hT, hk, fun _ => Iff.rfl, hzZ⟩, by rw [e]; simpa using hl⟩ (by rw [e]; exact srt) hx1 (fun h => h.elim (hd _ own) (fun h => hzS _ h own)) (by rw [e] at hht; omega)) ?_
    rintro _ H2 ⟨rfl, Z2, ⟨Z3, hT3, hk3, hZ3, hZd3⟩, hF2, hZ2⟩
    refine ⟨trivial, ?_⟩
    refine Pl.fin [] trivial ?_
    refine Go'.fall Try.func154 Try.results154 (vs := []) trivial ?_
    rw [e] at hT3
    exact ⟨Z3, hT3, hf0.trans' hF2 (fun _ _ _ h => h.elim) (fun _ _ _ h => h), fun b hb => (hZ2 b ((hZ3 b).2 (.inl hb))).elim (fun h => h.elim .inl (fun h => absurd h (hZd3 b hb))) (fun h => .inr (by omega))⟩

theorem Ascend_spec {B : World} {g : FuncId} {us cs : List Value} {go : List (Int × Int) → Bool} {M : Nat} (cb : Cb Try.prog B encIt g us cs go M) (hcall : ∀ (args : Array Value) (w : World), (callFunc g args).run Try.prog w = .ok (.enter g args) w) {tr : Nat} {P : Ps} (hP : PsOk P) (x : Int × Int) {H : Mem} {S : Nat → Prop} {l : List (Int × Int)} {Z : Nat → Prop} (hM : MapM H tr P S l) (hT : cb.T [] Z H) (hd : ∀ b, S b → ¬ Z b) (hnb : ∀ b, Z b → ¬ (b < cx.base ∧ cx.own b)) (hl : l.length ≤ M) (hM6 : M ≤ 4294967296) :
    Fn Try.prog B 109 [.pointer (some ⟨tr, 0, none⟩), .agg (EJ.enc x).toArray, .func (.func g) us.toArray cs.toArray] H (fun _ H' => ∃ Z', cb.T (takes go [] (Pl.up OI x (l))).1 Z' H' ∧ Fr (fun b _ => Z b) H H' ∧ ∀ b, Z' b → Z b ∨ H.size ≤ b) := by
  refine fn_of Try.func109 rfl Try.ntmps109 ?_
  refine (show Go' _ _ _ _ 10 [(0, _), (1, _), (2, _)] [.code _] _ from ?_)
  refine Go'.seq ?_
  -- region 0 (btreeg.go:1025)
  refine Go'.region [(0, 2)] rfl ?_
  refine O.box rfl rfl rfl rfl ?_
  intro H0 M0
  refine ⟨trivial, ?_⟩
  have hs0 := M0.size
  have hf0 := M0.fr nowhere
  have mi : Rd H0 H.size 0 (EJ.enc x) := M0.rd _ [] (by simp [Value.cells])
  replace hM := hM.fr hf0 (fun _ _ _ => nw)
  replace hT := cb.fr hT hf0 (fun _ _ _ => nw)
  refine Pl.fin [(0, _), (2, _), (4, _)] ⟨rfl, rfl, rfl, trivial⟩ ?_
  -- region 1 (btreeg.go:1026)
  refine Go'.region [(0, 0), (1, 1), (2, 0), (3, 2)] rfl ?_
  refine O.mv rfl rfl rfl rfl rfl ?_
  refine O.lds rfl rfl rfl (fun w => ⟨Try.isAgg27 w, Try.sizeOf27 w⟩) rfl rfl mi ?_
  refine O.mv rfl rfl rfl rfl rfl ?_
  refine O.call rfl rfl rfl Try.call154 rfl (ascend_spec cb hcall hP false x hM hT hd hnb hl hM6 (hv := .pointer none) (hz := fun _ => False) (.inl ⟨rfl, fun _ h => h⟩) (fun _ h => h.elim) (fun _ _ h => h)) ?_
  rintro _ H2 ⟨Z2, hT2, hF2, hZ2⟩
  refine ⟨trivial, ?_⟩
  refine Pl.fin [] trivial ?_
  refine Go'.fall Try.func109 Try.results109 (vs := []) trivial ?_
  exact ⟨Z2, hT2, hf0.trans' hF2 (fun _ _ _ h => h.elim) (fun _ _ _ h => h.elim id (fun h => h.elim)), fun b hb => (hZ2 b hb).imp id (fun h => by omega)⟩

end
end Go.Bt.FG
