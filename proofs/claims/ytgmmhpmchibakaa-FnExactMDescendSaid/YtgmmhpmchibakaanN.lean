/- Contracts of functions of the program, proved by walking through their code. Conditions: those that each theorem names. -/
import Derived.Test.YtgmmhpmchibakaanM
namespace Go.Bt
open Go Go.Proofs
set_option maxRecDepth 20000
set_option maxHeartbeats 4000000
set_option linter.unusedVariables false

theorem scan_spec {B : World} {g : FuncId} {us cs : List Value} {go : List (Int × Int) → Bool} {M : Nat} (cb : Cb Try.prog B encKV g us cs go M) (hcall : ∀ (args : Array Value) (w : World), (callFunc g args).run Try.prog w = .ok (.enter g args) w) {tr : Nat} {P : Ps} (hP : PsOk P) (mt : Bool) {H : Mem} {S : Nat → Prop} {l : List (Int × Int)} {Z : Nat → Prop} (hM : MapM H tr P S l) (hT : cb.T [] Z H) (hd : ∀ b, S b → ¬ Z b) (hl : l.length ≤ M) :
    Fn Try.prog B 94 [.pointer (some ⟨tr, 0, none⟩), .func (.func g) us.toArray cs.toArray, .bool mt] H (fun _ H' => CbPost cb [] Z H l H') := by
  obtain ⟨tc, srt, cnt, own, lt, hr⟩ := hM
  rcases hr with ⟨rfl, hptr⟩ | ⟨h, t, hg, hx1, e, hc, hnt, hown⟩
  · skip
    refine fn_of Go.Proofs.Try.func94 rfl Go.Proofs.Try.ntmps94 ?_
    refine (show Go' _ _ _ _ 18 [(0, _), (1, _), (2, _)] [.code _] _ from ?_)
    refine Go'.seq ?_
    refine Go'.seq ?_
    -- region 0 (map.go:268)
    refine Go'.region [(0, 0), (1, 0), (2, 0), (3, 1), (4, 0)] rfl ?_
    refine O.mv rfl rfl rfl rfl rfl ?_
    refine O.nc rfl rfl rfl rfl rfl ?_
    refine O.fa0 (off := 2) rfl rfl rfl rfl ⟨_, _, _, Go.Proofs.Try.underlying105, rfl, rfl, Go.Proofs.Try.sizeOf103⟩ rfl ?_
    refine O.ld rfl rfl rfl (fun w => ⟨Go.Proofs.Try.isAgg103 w, Go.Proofs.Try.sizeOf103 w⟩) rfl hptr ?_
    refine O.isNil rfl rfl rfl rfl Go.Proofs.Try.underlying103 rfl rfl ?_
    refine Pl.fin [(0, _), (1, _), (2, _), (10, _)] ⟨rfl, rfl, rfl, rfl, trivial⟩ ?_
    refine Go'.condT rfl ?_
    refine Go'.ret Go.Proofs.Try.func94 Go.Proofs.Try.results94 (vs := []) trivial ?_
    exact ⟨Z, hT, Fr.refl _ _, fun b hb => .inl hb⟩
  · skip
    have hptr : cl H tr 2 = some (.pointer (some ⟨Gt.p h t, 0, none⟩)) := hc
    refine fn_of Go.Proofs.Try.func94 rfl Go.Proofs.Try.ntmps94 ?_
    refine (show Go' _ _ _ _ 18 [(0, _), (1, _), (2, _)] [.code _] _ from ?_)
    refine Go'.seq ?_
    refine Go'.seq ?_
    -- region 0 (map.go:268)
    refine Go'.region [(0, 0), (1, 0), (2, 0), (3, 1), (4, 0)] rfl ?_
    refine O.mv rfl rfl rfl rfl rfl ?_
    refine O.nc rfl rfl rfl rfl rfl ?_
    refine O.fa0 (off := 2) rfl rfl rfl rfl ⟨_, _, _, Go.Proofs.Try.underlying105, rfl, rfl, Go.Proofs.Try.sizeOf103⟩ rfl ?_
    refine O.ld rfl rfl rfl (fun w => ⟨Go.Proofs.Try.isAgg103 w, Go.Proofs.Try.sizeOf103 w⟩) rfl hptr ?_
    refine O.isNil rfl rfl rfl rfl Go.Proofs.Try.underlying103 rfl rfl ?_
    refine Pl.fin [(0, _), (1, _), (2, _), (10, _)] ⟨rfl, rfl, rfl, rfl, trivial⟩ ?_
    refine Go'.condF rfl ?_
    refine Go'.skip ?_
    -- region 1 (map.go:271)
    refine Go'.region [(0, 0), (1, 0), (2, 0), (3, 0), (4, 0), (5, 0), (6, 2)] rfl ?_
    refine O.mv rfl rfl rfl rfl rfl ?_
    refine O.mv rfl rfl rfl rfl rfl ?_
    refine O.nc rfl rfl rfl rfl rfl ?_
    refine O.fa0 (off := 2) rfl rfl rfl rfl ⟨_, _, _, Go.Proofs.Try.underlying105, rfl, rfl, Go.Proofs.Try.sizeOf103⟩ rfl ?_
    refine O.mv rfl rfl rfl rfl rfl ?_
    refine O.mv rfl rfl rfl rfl rfl ?_
    refine O.call rfl rfl rfl Go.Proofs.Try.call116 rfl (nscan cb hcall hP mt h ⟨tc, hg, hc, fun b o hb => hd b (hown b o hb), hd _ own, hT, by rw [e]; simpa using hl⟩) ?_
    rintro _ H2 ⟨rfl, hpost⟩
    refine ⟨trivial, ?_⟩
    refine Pl.fin [] trivial ?_
    refine Go'.fall Go.Proofs.Try.func94 Go.Proofs.Try.results94 (vs := []) trivial ?_
    rw [e] at hpost
    exact hpost

theorem Scan_spec {B : World} {g : FuncId} {us cs : List Value} {go : List (Int × Int) → Bool} {M : Nat} (cb : Cb Try.prog B encKV g us cs go M) (hcall : ∀ (args : Array Value) (w : World), (callFunc g args).run Try.prog w = .ok (.enter g args) w) {tr : Nat} {P : Ps} (hP : PsOk P) {H : Mem} {S : Nat → Prop} {l : List (Int × Int)} {Z : Nat → Prop} (hM : MapM H tr P S l) (hT : cb.T [] Z H) (hd : ∀ b, S b → ¬ Z b) (hl : l.length ≤ M) :
    Fn Try.prog B 58 [.pointer (some ⟨tr, 0, none⟩), .func (.func g) us.toArray cs.toArray] H (fun _ H' => CbPost cb [] Z H l H') := by
  refine fn_of Go.Proofs.Try.func58 rfl Go.Proofs.Try.ntmps58 ?_
  refine (show Go' _ _ _ _ 7 [(0, _), (1, _)] [.code _] _ from ?_)
  -- region 0 (map.go:260)
  refine Go'.region [(0, 0), (1, 0), (2, 2)] rfl ?_
  refine O.mv rfl rfl rfl rfl rfl ?_
  refine O.mv rfl rfl rfl rfl rfl ?_
  refine O.call rfl rfl rfl Go.Proofs.Try.call94 rfl (scan_spec cb hcall hP false hM hT hd hl) ?_
  rintro _ H2 hpost
  refine ⟨trivial, ?_⟩
  refine Pl.fin [] trivial ?_
  refine Go'.fall Go.Proofs.Try.func58 Go.Proofs.Try.results58 (vs := []) trivial ?_
  exact hpost

theorem entries_spec {B : World} {H : Mem} {tr : Nat} {P : Ps} (hP : PsOk P) {S : Nat → Prop} {l : List (Int × Int)} (hM : MapM H tr P S l) (hll : l.length ≤ 4294967296) :
    Fn Try.prog B 55 [.pointer (some ⟨tr, 0, none⟩)] H (fun r H' => OutS EJ H' r l ∧ Fr nowhere H H') := by
  have hSl := hM.lt
  refine fn_of Go.Proofs.Try.func55 rfl Go.Proofs.Try.ntmps55 ?_
  refine (show Go' _ _ _ _ 8 [(0, _)] [.code _] _ from ?_)
  refine Go'.seq ?_
  -- region 0 (map.go:21)
  refine Go'.region [(0, 0)] rfl ?_
  refine O.asg rfl rfl rfl rfl rfl ?_
  refine Pl.fin [(0, _), (2, _)] ⟨rfl, rfl, trivial⟩ ?_
  refine Go'.seq ?_
  -- region 1 (map.go:22)
  refine Go'.region [(0, 2)] rfl ?_
  refine O.alloc rfl rfl rfl Go.Proofs.Try.zeroValue22 ?_
  intro H1 M1
  refine ⟨trivial, ?_⟩
  have hs1 := M1.size
  have hD : cl H1 H.size 0 = some (.slice none 0 0) := (M1.cl 0).trans rfl
  have hw := M1.wr 1 (by decide)
  replace hM := hM.fr (M1.fr nowhere) (fun _ _ _ => nw)
  refine Pl.fin [(0, _), (2, _), (3, _)] ⟨rfl, rfl, rfl, trivial⟩ ?_
  refine Go'.seq ?_
  -- region 2 (map.go:23)
  refine Go'.region [(0, 0), (1, 2), (2, 2)] rfl ?_
  refine O.mv rfl rfl rfl rfl rfl ?_
  refine O.call rfl rfl rfl Go.Proofs.Try.call59 rfl (pairs_spec (n := 0) hD hw) ?_
  rintro _ H3 ⟨pb, b2, b3, Z, rfl, hT, hF3, hZ⟩
  replace hM := hM.fr hF3 (fun _ _ _ => nw)
  refine ⟨trivial, ?_⟩
  refine O.call rfl rfl rfl Go.Proofs.Try.call58 rfl (Scan_spec (cbPairs B pb b2 b3 H.size 0) Try.call96 hP hM hT (fun b hb hz => (hZ b hz).elim (fun h => by have := hSl b hb; omega) (fun h => by have := hSl b hb; omega)) (by omega)) ?_
  rintro _ H4 ⟨Z4, hT4, hF4, hZ4⟩
  obtain ⟨v, hv, hov⟩ := PrT.out hT4
  rw [takes_first, firstN, if_pos (.inl (by decide))] at hov
  refine ⟨trivial, ?_⟩
  refine Pl.fin [(2, _), (3, _)] ⟨rfl, rfl, trivial⟩ ?_
  refine Go'.seq ?_
  -- region 3 (map.go:24)
  refine Go'.region [(0, 1), (1, 0)] rfl ?_
  refine O.ld rfl rfl rfl (fun w => ⟨Go.Proofs.Try.isAgg22 w, Go.Proofs.Try.sizeOf22 w⟩) rfl hv ?_
  refine O.asg rfl rfl rfl rfl rfl ?_
  refine Pl.fin [(2, _)] ⟨rfl, trivial⟩ ?_
  refine Go'.ret (vs := [_]) Go.Proofs.Try.func55 Go.Proofs.Try.results55 ⟨rfl, trivial⟩ ?_
  exact ⟨hov, ((M1.fr nowhere).trans hF3).trans' hF4 (fun _ _ _ h => h) (fun b o hb hz => (hZ b hz).elim (fun h => by omega) (fun h => by omega))⟩

end Go.Bt