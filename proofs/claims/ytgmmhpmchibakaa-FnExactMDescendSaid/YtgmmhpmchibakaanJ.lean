/- Contracts of functions of the program, proved by walking through their code. Conditions: those that each theorem names. -/
import Derived.Test.YtgmmhpmchibakaanI
namespace Go.Bt
open Go Go.Proofs
set_option maxRecDepth 20000
set_option maxHeartbeats 4000000
set_option linter.unusedVariables false

theorem reverse_spec {B : World} {g : FuncId} {us cs : List Value} {go : List (Int × Int) → Bool} {M : Nat} (cb : Cb Try.prog B encKV g us cs go M) (hcall : ∀ (args : Array Value) (w : World), (callFunc g args).run Try.prog w = .ok (.enter g args) w) {tr : Nat} {P : Ps} (hP : PsOk P) (mt : Bool) {H : Mem} {S : Nat → Prop} {l : List (Int × Int)} {Z : Nat → Prop} (hM : MapM H tr P S l) (hT : cb.T [] Z H) (hd : ∀ b, S b → ¬ Z b) (hl : l.length ≤ M) :
    Fn Try.prog B 100 [.pointer (some ⟨tr, 0, none⟩), .func (.func g) us.toArray cs.toArray, .bool mt] H (fun _ H' => CbPost cb [] Z H l.reverse H') := by
  obtain ⟨tc, srt, cnt, own, lt, hr⟩ := hM
  rcases hr with ⟨rfl, hptr⟩ | ⟨h, t, hg, hx1, e, hc, hnt, hown⟩
  · skip
    refine fn_of Go.Proofs.Try.func100 rfl Go.Proofs.Try.ntmps100 ?_
    refine (show Go' _ _ _ _ 18 [(0, _), (1, _), (2, _)] [.code _] _ from ?_)
    refine Go'.seq ?_
    refine Go'.seq ?_
    -- region 0 (map.go:548)
    refine Go'.region [(0, 0), (1, 0), (2, 0), (3, 1), (4, 0)] rfl ?_
    refine O.mv rfl rfl rfl rfl rfl ?_
    refine O.nc rfl rfl rfl rfl rfl ?_
    refine O.fa0 (off := 2) rfl rfl rfl rfl ⟨_, _, _, Go.Proofs.Try.underlying105, rfl, rfl, Go.Proofs.Try.sizeOf103⟩ rfl ?_
    refine O.ld rfl rfl rfl (fun w => ⟨Go.Proofs.Try.isAgg103 w, Go.Proofs.Try.sizeOf103 w⟩) rfl hptr ?_
    refine O.isNil rfl rfl rfl rfl Go.Proofs.Try.underlying103 rfl rfl ?_
    refine Pl.fin [(0, _), (1, _), (2, _), (10, _)] ⟨rfl, rfl, rfl, rfl, trivial⟩ ?_
    refine Go'.condT rfl ?_
    refine Go'.ret Go.Proofs.Try.func100 Go.Proofs.Try.results100 (vs := []) trivial ?_
    exact ⟨Z, hT, Fr.refl _ _, fun b hb => .inl hb⟩
  · skip
    have hptr : cl H tr 2 = some (.pointer (some ⟨Gt.p h t, 0, none⟩)) := hc
    refine fn_of Go.Proofs.Try.func100 rfl Go.Proofs.Try.ntmps100 ?_
    refine (show Go' _ _ _ _ 18 [(0, _), (1, _), (2, _)] [.code _] _ from ?_)
    refine Go'.seq ?_
    refine Go'.seq ?_
    -- region 0 (map.go:548)
    refine Go'.region [(0, 0), (1, 0), (2, 0), (3, 1), (4, 0)] rfl ?_
    refine O.mv rfl rfl rfl rfl rfl ?_
    refine O.nc rfl rfl rfl rfl rfl ?_
    refine O.fa0 (off := 2) rfl rfl rfl rfl ⟨_, _, _, Go.Proofs.Try.underlying105, rfl, rfl, Go.Proofs.Try.sizeOf103⟩ rfl ?_
    refine O.ld rfl rfl rfl (fun w => ⟨Go.Proofs.Try.isAgg103 w, Go.Proofs.Try.sizeOf103 w⟩) rfl hptr ?_
    refine O.isNil rfl rfl rfl rfl Go.Proofs.Try.underlying103 rfl rfl ?_
    refine Pl.fin [(0, _), (1, _), (2, _), (10, _)] ⟨rfl, rfl, rfl, rfl, trivial⟩ ?_
    refine Go'.condF rfl ?_
    refine Go'.skip ?_
    -- region 1 (map.go:551)
    refine Go'.region [(0, 0), (1, 0), (2, 0), (3, 0), (4, 0), (5, 0), (6, 2)] rfl ?_
    refine O.mv rfl rfl rfl rfl rfl ?_
    refine O.mv rfl rfl rfl rfl rfl ?_
    refine O.nc rfl rfl rfl rfl rfl ?_
    refine O.fa0 (off := 2) rfl rfl rfl rfl ⟨_, _, _, Go.Proofs.Try.underlying105, rfl, rfl, Go.Proofs.Try.sizeOf103⟩ rfl ?_
    refine O.mv rfl rfl rfl rfl rfl ?_
    refine O.mv rfl rfl rfl rfl rfl ?_
    refine O.call rfl rfl rfl Go.Proofs.Try.call119 rfl (nrev cb hcall hP mt h ⟨tc, hg, hc, fun b o hb => hd b (hown b o hb), hd _ own, hT, by rw [e]; simpa using hl⟩) ?_
    rintro _ H2 ⟨rfl, hpost⟩
    refine ⟨trivial, ?_⟩
    refine Pl.fin [] trivial ?_
    refine Go'.fall Go.Proofs.Try.func100 Go.Proofs.Try.results100 (vs := []) trivial ?_
    rw [e] at hpost
    exact hpost

theorem Reverse_spec {B : World} {g : FuncId} {us cs : List Value} {go : List (Int × Int) → Bool} {M : Nat} (cb : Cb Try.prog B encKV g us cs go M) (hcall : ∀ (args : Array Value) (w : World), (callFunc g args).run Try.prog w = .ok (.enter g args) w) {tr : Nat} {P : Ps} (hP : PsOk P) {H : Mem} {S : Nat → Prop} {l : List (Int × Int)} {Z : Nat → Prop} (hM : MapM H tr P S l) (hT : cb.T [] Z H) (hd : ∀ b, S b → ¬ Z b) (hl : l.length ≤ M) :
    Fn Try.prog B 62 [.pointer (some ⟨tr, 0, none⟩), .func (.func g) us.toArray cs.toArray] H (fun _ H' => CbPost cb [] Z H l.reverse H') := by
  refine fn_of Go.Proofs.Try.func62 rfl Go.Proofs.Try.ntmps62 ?_
  refine (show Go' _ _ _ _ 7 [(0, _), (1, _)] [.code _] _ from ?_)
  -- region 0 (map.go:540)
  refine Go'.region [(0, 0), (1, 0), (2, 2)] rfl ?_
  refine O.mv rfl rfl rfl rfl rfl ?_
  refine O.mv rfl rfl rfl rfl rfl ?_
  refine O.call rfl rfl rfl Go.Proofs.Try.call100 rfl (reverse_spec cb hcall hP false hM hT hd hl) ?_
  rintro _ H2 hpost
  refine ⟨trivial, ?_⟩
  refine Pl.fin [] trivial ?_
  refine Go'.fall Go.Proofs.Try.func62 Go.Proofs.Try.results62 (vs := []) trivial ?_
  exact hpost

theorem PrT.out {pb b2 b3 D : Nat} {n : Int} {acc : List (Int × Int)} {Z : Nat → Prop} {H : Mem} (h : PrT pb b2 b3 D n acc Z H) : ∃ v, cl H D 0 = some v ∧ OutS EJ H v acc := by
  obtain ⟨Z0, hT, _⟩ := h
  rcases hT.sl with ⟨e, k⟩ | ⟨b, o, c, k, hs, _⟩
  · exact ⟨_, k, .inl ⟨rfl, e⟩⟩
  · exact ⟨_, k, .inr ⟨b, o, c, rfl, hs⟩⟩
theorem mreverse_spec {B : World} {H : Mem} {d : Nat} {u : Value} {l : List (Int × Int)} {n : Int} (hd : 2 ≤ d ∧ d ≤ 128) (hi : InS EJ H u l) (hll : l.length ≤ 4294967296) :
    Fn Try.prog B 35 [.int .i64 (d : Int), u, .int .i64 n] H (fun r H' => OutS EJ H' r (firstN (Pl.puts OI l).reverse n) ∧ Fr nowhere H H') := by
  have hP : PsOk ⟨0, 2 * d - 1, d - 1⟩ := ⟨by show 2 * d - 1 = 2 * (d - 1) + 1; omega, by show 1 ≤ d - 1; omega, by show 2 * d - 1 ≤ 255; omega⟩
  have hpl := Pl.puts_length OI l
  refine fn_of Go.Proofs.Try.func35 rfl Go.Proofs.Try.ntmps35 ?_
  refine (show Go' _ _ _ _ 15 [(0, _), (1, _), (2, _)] [.code _] _ from ?_)
  refine Go'.seq ?_
  -- region 0 (map.go:195)
  refine Go'.region [(0, 0)] rfl ?_
  refine O.asg rfl rfl rfl rfl rfl ?_
  refine Pl.fin [(0, _), (1, _), (2, _), (6, _)] ⟨rfl, rfl, rfl, rfl, trivial⟩ ?_
  refine Go'.seq ?_
  -- region 1 (map.go:196)
  refine Go'.region [(0, 2)] rfl ?_
  refine O.alloc rfl rfl rfl Go.Proofs.Try.zeroValue22 ?_
  intro H1 M1
  refine ⟨trivial, ?_⟩
  have hs1 := M1.size
  have hD : cl H1 H.size 0 = some (.slice none 0 0) := (M1.cl 0).trans rfl
  have hw := M1.wr 1 (by decide)
  replace hi := hi.fr (M1.fr nowhere)
  refine Pl.fin [(0, _), (1, _), (2, _), (6, _), (7, _)] ⟨rfl, rfl, rfl, rfl, rfl, trivial⟩ ?_
  refine Go'.seq ?_
  -- region 2 (map.go:197)
  refine Go'.region [(0, 0), (1, 0), (2, 2), (3, 0), (4, 2), (5, 2)] rfl ?_
  refine O.mv rfl rfl rfl rfl rfl ?_
  refine O.mv rfl rfl rfl rfl rfl ?_
  refine O.call rfl rfl rfl Go.Proofs.Try.call52 rfl (growMap_spec hd hi hll) ?_
  rintro _ H2 ⟨tr, S, rfl, hM, hF2, hS⟩
  have hs2 := hF2.size
  replace hD := hF2.keep hD nw
  replace hw := hF2.wr hw
  have hSl := hM.lt
  refine ⟨trivial, ?_⟩
  refine O.mv rfl rfl rfl rfl rfl ?_
  refine O.call rfl rfl rfl Go.Proofs.Try.call59 rfl (pairs_spec (n := n) hD hw) ?_
  rintro _ H3 ⟨pb, b2, b3, Z, rfl, hT, hF3, hZ⟩
  replace hM := hM.fr hF3 (fun _ _ _ => nw)
  refine ⟨trivial, ?_⟩
  refine O.call rfl rfl rfl Go.Proofs.Try.call62 rfl (Reverse_spec (cbPairs B pb b2 b3 H.size n) Try.call96 hP hM hT (fun b hb hz => (hZ b hz).elim (fun h => by have := hS b hb; omega) (fun h => by have := hSl b hb; omega)) (by omega)) ?_
  rintro _ H4 ⟨Z4, hT4, hF4, hZ4⟩
  obtain ⟨v, hv, hov⟩ := PrT.out hT4
  rw [takes_first] at hov
  refine ⟨trivial, ?_⟩
  refine Pl.fin [(6, _), (7, _)] ⟨rfl, rfl, trivial⟩ ?_
  refine Go'.seq ?_
  -- region 3 (map.go:198)
  refine Go'.region [(0, 1), (1, 0)] rfl ?_
  refine O.ld rfl rfl rfl (fun w => ⟨Go.Proofs.Try.isAgg22 w, Go.Proofs.Try.sizeOf22 w⟩) rfl hv ?_
  refine O.asg rfl rfl rfl rfl rfl ?_
  refine Pl.fin [(6, _)] ⟨rfl, trivial⟩ ?_
  refine Go'.ret (vs := [_]) Go.Proofs.Try.func35 Go.Proofs.Try.results35 ⟨rfl, trivial⟩ ?_
  exact ⟨hov, (((M1.fr nowhere).trans hF2).trans hF3).trans' hF4 (fun _ _ _ h => h) (fun b o hb hz => (hZ b hz).elim (fun h => by omega) (fun h => by omega))⟩

end Go.Bt