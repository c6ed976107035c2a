/- Contracts of functions of the program, proved by walking through their code. Conditions: those that each theorem names. -/
import Derived.Test.YtgmmhpmchibakaaTonS
import Derived.Test.YtgmmhpmchibakaaTooB
namespace Go.Bt
open Go Go.Proofs
set_option maxRecDepth 20000
set_option maxHeartbeats 4000000
set_option linter.unusedVariables false

theorem nasc0 {B : World} {g : FuncId} {us cs : List Value} {go : List (Int × Int) → Bool} {M : Nat} (cb : Cb Try.prog B encKV g us cs go M) (hcall : ∀ (args : Array Value) (w : World), (callFunc g args).run Try.prog w = .ok (.enter g args) w) {tr : Nat} {P : Ps} (hP : PsOk P) (mt : Bool) (x : Int × Int) {H : Mem} {bp op : Nat} {acc : List (Int × Int)} {Z : Nat → Prop} {t : Gt EI 0} (hp : VPre cb H tr P 0 t bp op acc Z) (hs : Pl.Srt OI (Gt.L 0 t)) :
    Fn Try.prog B 130 [.pointer (some ⟨tr, 0, none⟩), .pointer (some ⟨bp, op, none⟩), .int .i64 x.1, .func (.func g) us.toArray cs.toArray, .bool mt] H (fun r H' => r = .bool (takes go acc (Pl.up OI x (Gt.L 0 t))).2 ∧ CbPost cb acc Z H (Pl.up OI x (Gt.L 0 t)) H') := by
  obtain ⟨gg, X⟩ := t
  obtain ⟨tc, hg, hc, hnz, hntr, hst, hlen⟩ := hp
  have hN : NodeM EI H gg X (.pointer none) := hg.1
  have hiso : gg.iso = P.iso := hg.2.1
  have hxm : X.length ≤ P.mx := hg.2.2.2
  have hx255 := hP.hx
  replace hs : Pl.Srt OI X := hs
  replace hlen : acc.length + X.length ≤ M := hlen
  have hc0 := hN.c0
  rw [hiso] at hc0
  have hcat : ∀ {Z1 Z2 : Nat → Prop} {H2 H3 : Mem}, Fr (fun x _ => Z x) H H2 → (∀ b, Z1 b → Z b ∨ H.size ≤ b) → Fr (fun x _ => Z1 x) H2 H3 → (∀ b, Z2 b → Z1 b ∨ H2.size ≤ b) → Fr (fun x _ => Z x) H H3 ∧ ∀ b, Z2 b → Z b ∨ H.size ≤ b := by
    intro Z1 Z2 H2 H3 hF hZ1 hF2 hZ2
    have := hF.size
    exact ⟨hF.trans' hF2 (fun _ _ _ h => h) (fun b o hb hz => (hZ1 b hz).elim id (fun h => by omega)), fun b hb => (hZ2 b hb).elim (hZ1 b) (fun h => .inr (by omega))⟩
  have hple := Pl.pos_le OI x X
  show Fn _ _ _ _ _ (fun r H' => r = .bool (takes go acc (Pl.up OI x (X))).2 ∧ CbPost cb acc Z H (Pl.up OI x (X)) H')
  have hltN : ∀ b o, ncl EI gg b o → b < H.size := fun b o hb => NodeM.lt hN hb
  refine fn_of Go.Proofs.Try.func130 rfl Go.Proofs.Try.ntmps130 ?_
  refine (show Go' _ _ _ _ 89 [(0, _), (1, _), (2, _), (3, _), (4, _)] [.code _] _ from ?_)
  refine Go'.seq ?_
  -- region 0 (map.go:510)
  refine Go'.region [(0, 0)] rfl ?_
  refine O.asg rfl rfl rfl rfl rfl ?_
  refine Pl.fin [(0, _), (1, _), (2, _), (3, _), (4, _), (10, _)] ⟨rfl, rfl, rfl, rfl, rfl, rfl, trivial⟩ ?_
  refine Go'.seq ?_
  -- region 1 (map.go:513)
  refine Go'.region [(0, 0), (1, 0), (2, 0), (3, 2), (4, 0)] rfl ?_
  refine O.mv rfl rfl rfl rfl rfl ?_
  refine O.mv rfl rfl rfl rfl rfl ?_
  refine O.mv rfl rfl rfl rfl rfl ?_
  refine O.callQ rfl rfl rfl Go.Proofs.Try.call85 rfl (isoLoad_spec mt hc hc0 tc.iso) trivial ?_
  refine O.asg rfl rfl rfl rfl rfl ?_
  refine Pl.fin [(0, _), (2, _), (3, _), (4, _), (10, _), (11, _)] ⟨rfl, rfl, rfl, rfl, rfl, rfl, trivial⟩ ?_
  refine Go'.seq ?_
  unfold ptr
  -- region 2 (map.go:514)
  refine Go'.region [(0, 0), (1, 0), (2, 0), (3, 2), (4, 0), (5, 0), (6, 0), (7, 0), (8, 0)] rfl ?_
  refine O.mv rfl rfl rfl rfl rfl ?_
  refine O.mv rfl rfl rfl rfl rfl ?_
  refine O.mv rfl rfl rfl rfl rfl ?_
  refine O.callQ rfl rfl rfl Go.Proofs.Try.call114 rfl (search_spec x hN hs (by omega)) trivial ?_
  refine O.mv rfl rfl rfl rfl rfl ?_
  refine O.ext rfl rfl rfl rfl rfl rfl ?_
  refine O.ext rfl rfl rfl rfl rfl rfl ?_
  refine O.asg rfl rfl rfl rfl rfl ?_
  refine O.asg rfl rfl rfl rfl rfl ?_
  refine Pl.fin [(0, _), (2, _), (3, _), (4, _), (10, _), (11, _), (12, _), (13, _)] ⟨rfl, rfl, rfl, rfl, rfl, rfl, rfl, rfl, trivial⟩ ?_
  refine Go'.seq ?_
  refine Go'.seq ?_
  have hlt1 : Pl.fnd OI x X = true → Pl.pos OI x X < X.length := Pl.fnd_pos_lt OI
  have hW : Pl.up OI x (X) = X.drop (Pl.pos OI x X) := rfl
  generalize hFULL : Pl.up OI x (X) = FULL at *
  cases hfd : Pl.fnd OI x X
  · skip
    rw [hfd] at hlt1
    generalize hpi : Pl.pos OI x X = i at *
    -- region 3 (map.go:515)
    refine Go'.region [(0, 0), (1, 0)] rfl ?_
    refine O.mv rfl rfl rfl rfl rfl ?_
    refine O.not rfl rfl rfl rfl rfl ?_
    refine Pl.fin [(0, _), (2, _), (3, _), (4, _), (10, _), (11, _), (12, _), (26, _)] ⟨rfl, rfl, rfl, rfl, rfl, rfl, rfl, rfl, trivial⟩ ?_
    refine Go'.condT rfl ?_
    refine Go'.seq ?_
    -- region 4 (map.go:516)
    refine Go'.region [(0, 0), (1, 2), (2, 0)] rfl ?_
    refine O.mv rfl rfl rfl rfl rfl ?_
    refine O.callQ rfl rfl rfl Go.Proofs.Try.call86 rfl (leaf_spec hN.c3) trivial ?_
    refine O.not rfl rfl rfl rfl rfl ?_
    refine Pl.fin [(0, _), (2, _), (3, _), (4, _), (10, _), (11, _), (12, _), (29, _)] ⟨rfl, rfl, rfl, rfl, rfl, rfl, rfl, rfl, trivial⟩ ?_
    refine Go'.condF rfl ?_
    refine Go'.skip ?_
    refine Go'.seq ?_
    refine Go'.block ?_
    replace hW : FULL = X.drop (i) := hW
    refine Go'.loop ?_
    refine Go'.keep [(3, _), (11, _), (12, _)] ⟨rfl, rfl, rfl, trivial⟩ ?_
    refine Go'.ind (σ := Nat × Int × (Nat → Prop) × List (Int × Int)) (fun s => X.length - s.1) (fun s H' => s.1 ≤ X.length ∧ s.2.1 = (s.1 : Int) ∧ takes go acc FULL = takes go s.2.2.2 (X.drop (s.1)) ∧ cb.T s.2.2.2 s.2.2.1 H' ∧ Fr (fun b _ => Z b) H H' ∧ (∀ b, s.2.2.1 b → Z b ∨ H.size ≤ b) ∧ s.2.2.2.length + (X.drop (s.1)).length ≤ M)
      (fun s => [(3, .func (.func g) us.toArray cs.toArray), (11, .pointer (some ⟨gg.p, 0, none⟩)), (12, .int .i64 s.2.1)]) (i, (i : Int), Z, acc) ⟨by (try simp only) <;> omega, by (try simp only) <;> omega, by rw [hW], hst, Fr.refl _ _, fun b hb => .inl hb, by simp only [List.length_drop]; omega⟩ rfl ?_
    rintro ⟨j, z, Z1, A⟩ H2 ⟨hj, hz, ht, hT, hF, hZ1, hAM⟩ ih
    simp only at hj hz ht hT hZ1 hAM
    subst hz
    replace hN := NodeM.fr EI hN hF (fun x y hxy hz => hnz x y hxy hz)
    refine Go'.seq ?_
    refine Go'.seq ?_
    by_cases hlt : j < X.length
    · skip
      obtain ⟨y, hy⟩ : ∃ y, X[j]? = some y := ⟨X[j], List.getElem?_eq_getElem (by omega)⟩
      obtain ⟨hy1, hy2⟩ := List.getElem?_eq_some_iff.1 hy
      rw [← List.getElem_cons_drop (h := hy1), hy2] at ht hAM
      rw [List.length_cons] at hAM
      refine (show Go' _ _ _ _ _ [(3, .func (.func g) us.toArray cs.toArray), (11, .pointer (some ⟨gg.p, 0, none⟩)), (12, .int .i64 ((j : Int)))] _ _ from ?_)
      -- region 7 (map.go:526)
      refine Go'.region [(0, 0), (1, 0), (2, 0), (3, 0), (4, 1), (5, 0), (6, 0)] rfl ?_
      refine O.mv rfl rfl rfl rfl rfl ?_
      refine O.mv rfl rfl rfl rfl rfl ?_
      refine O.nc rfl rfl rfl rfl rfl ?_
      refine O.fa0 (off := 2) rfl rfl rfl rfl ⟨_, _, _, Go.Proofs.Try.underlying111, rfl, rfl, Go.Proofs.Try.sizeOf108⟩ rfl ?_
      refine O.ld rfl rfl rfl (fun w => ⟨Go.Proofs.Try.isAgg108 w, Go.Proofs.Try.sizeOf108 w⟩) rfl hN.c2 ?_
      refine O.len rfl rfl rfl rfl Go.Proofs.Try.underlying108 rfl ?_
      refine O.cmp rfl rfl rfl rfl rfl rfl (lssT (by omega)) ?_
      refine Pl.fin [(3, _), (11, _), (12, _), (50, _)] ⟨rfl, rfl, rfl, rfl, trivial⟩ ?_
      refine Go'.condT rfl ?_
      refine Go'.skip ?_
      refine Go'.seq ?_
      refine Go'.block ?_
      refine Go'.seq ?_
      refine Go'.seq ?_
      cases hgo : go (A ++ [y])
      · skip
        -- region 9 (map.go:527)
        refine Go'.draw (fun _ => True) [(0, 0), (1, 0), (2, 0), (3, 0), (4, 1), (5, 0), (6, 0), (7, 0), (8, 1), (9, 0), (10, 0), (11, 0), (12, 1), (13, 0), (14, 0), (15, 0), (16, 1), (17, 2), (18, 0)] (by kernel_rfl) (by kernel_rfl) (trivial) ?_
        refine O.mv rfl rfl rfl rfl rfl ?_
        refine O.mv rfl rfl rfl rfl rfl ?_
        refine O.nc rfl rfl rfl rfl rfl ?_
        refine O.fa0 (off := 2) rfl rfl rfl rfl ⟨_, _, _, Go.Proofs.Try.underlying111, rfl, rfl, Go.Proofs.Try.sizeOf108⟩ rfl ?_
        refine O.ld rfl rfl rfl (fun w => ⟨Go.Proofs.Try.isAgg108 w, Go.Proofs.Try.sizeOf108 w⟩) rfl hN.c2 ?_
        refine O.mv rfl rfl rfl rfl rfl ?_
        refine O.ix (j := j) rfl rfl rfl rfl Go.Proofs.Try.underlying108 Go.Proofs.Try.sizeOf100 rfl rfl (by omega) (by omega) ?_
        refine O.fa (off := 1) rfl rfl rfl rfl ⟨_, _, _, Go.Proofs.Try.underlying100, rfl, rfl, Go.Proofs.Try.sizeOf3⟩ rfl ?_
        refine O.ld rfl rfl rfl (fun w => ⟨Go.Proofs.Try.isAgg3 w, Go.Proofs.Try.sizeOf3 w⟩) rfl (hN.sl.cell hy (j := 1) rfl) ?_
        refine O.mv rfl rfl rfl rfl rfl ?_
        refine O.nc rfl rfl rfl rfl rfl ?_
        refine O.fa0 (off := 2) rfl rfl rfl rfl ⟨_, _, _, Go.Proofs.Try.underlying111, rfl, rfl, Go.Proofs.Try.sizeOf108⟩ rfl ?_
        refine O.ld rfl rfl rfl (fun w => ⟨Go.Proofs.Try.isAgg108 w, Go.Proofs.Try.sizeOf108 w⟩) rfl hN.c2 ?_
        refine O.mv rfl rfl rfl rfl rfl ?_
        refine O.ix (j := j) rfl rfl rfl rfl Go.Proofs.Try.underlying108 Go.Proofs.Try.sizeOf100 rfl rfl (by omega) (by omega) ?_
        refine O.faz rfl rfl rfl rfl ⟨_, _, _, Go.Proofs.Try.underlying100, rfl, rfl, Go.Proofs.Try.sizeOf3⟩ rfl ?_
        refine O.ld rfl rfl rfl (fun w => ⟨Go.Proofs.Try.isAgg3 w, Go.Proofs.Try.sizeOf3 w⟩) rfl (hN.sl.cell hy (j := 0) rfl) ?_
        refine O.callC rfl rfl rfl rfl hcall rfl (cb.call y hT (by omega)) ?_
        rintro _ H4 ⟨rfl, Z4, hT4, hF4, hZ4⟩
        rw [hgo]
        obtain ⟨hF5, hZ5⟩ := hcat hF hZ1 hF4 hZ4
        refine ⟨trivial, ?_⟩
        refine O.not rfl rfl rfl rfl rfl ?_
        refine Pl.fin [(3, _), (11, _), (12, _), (50, _), (71, _)] ⟨rfl, rfl, rfl, rfl, rfl, trivial⟩ ?_
        refine Go'.condT rfl ?_
        refine Go'.seq ?_
        -- region 10 (map.go:528)
        refine Go'.region [(0, 0)] rfl ?_
        refine O.asg rfl rfl rfl rfl rfl ?_
        refine Pl.fin [(3, _), (10, _), (11, _), (12, _), (50, _), (71, _)] ⟨rfl, rfl, rfl, rfl, rfl, rfl, trivial⟩ ?_
        refine Go'.ret (vs := [_]) Go.Proofs.Try.func130 Go.Proofs.Try.results130 ⟨rfl, trivial⟩ ?_
        rw [takes_cons, hgo] at ht
        unfold CbPost
        rw [ht]
        exact ⟨rfl, Z4, hT4, hF5, hZ5⟩
      · skip
        -- region 9 (map.go:527)
        refine Go'.draw (fun _ => True) [(0, 0), (1, 0), (2, 0), (3, 0), (4, 1), (5, 0), (6, 0), (7, 0), (8, 1), (9, 0), (10, 0), (11, 0), (12, 1), (13, 0), (14, 0), (15, 0), (16, 1), (17, 2), (18, 0)] (by kernel_rfl) (by kernel_rfl) (trivial) ?_
        refine O.mv rfl rfl rfl rfl rfl ?_
        refine O.mv rfl rfl rfl rfl rfl ?_
        refine O.nc rfl rfl rfl rfl rfl ?_
        refine O.fa0 (off := 2) rfl rfl rfl rfl ⟨_, _, _, Go.Proofs.Try.underlying111, rfl, rfl, Go.Proofs.Try.sizeOf108⟩ rfl ?_
        refine O.ld rfl rfl rfl (fun w => ⟨Go.Proofs.Try.isAgg108 w, Go.Proofs.Try.sizeOf108 w⟩) rfl hN.c2 ?_
        refine O.mv rfl rfl rfl rfl rfl ?_
        refine O.ix (j := j) rfl rfl rfl rfl Go.Proofs.Try.underlying108 Go.Proofs.Try.sizeOf100 rfl rfl (by omega) (by omega) ?_
        refine O.fa (off := 1) rfl rfl rfl rfl ⟨_, _, _, Go.Proofs.Try.underlying100, rfl, rfl, Go.Proofs.Try.sizeOf3⟩ rfl ?_
        refine O.ld rfl rfl rfl (fun w => ⟨Go.Proofs.Try.isAgg3 w, Go.Proofs.Try.sizeOf3 w⟩) rfl (hN.sl.cell hy (j := 1) rfl) ?_
        refine O.mv rfl rfl rfl rfl rfl ?_
        refine O.nc rfl rfl rfl rfl rfl ?_
        refine O.fa0 (off := 2) rfl rfl rfl rfl ⟨_, _, _, Go.Proofs.Try.underlying111, rfl, rfl, Go.Proofs.Try.sizeOf108⟩ rfl ?_
        refine O.ld rfl rfl rfl (fun w => ⟨Go.Proofs.Try.isAgg108 w, Go.Proofs.Try.sizeOf108 w⟩) rfl hN.c2 ?_
        refine O.mv rfl rfl rfl rfl rfl ?_
        refine O.ix (j := j) rfl rfl rfl rfl Go.Proofs.Try.underlying108 Go.Proofs.Try.sizeOf100 rfl rfl (by omega) (by omega) ?_
        refine O.faz rfl rfl rfl rfl ⟨_, _, _, Go.Proofs.Try.underlying100, rfl, rfl, Go.Proofs.Try.sizeOf3⟩ rfl ?_
        refine O.ld rfl rfl rfl (fun w => ⟨Go.Proofs.Try.isAgg3 w, Go.Proofs.Try.sizeOf3 w⟩) rfl (hN.sl.cell hy (j := 0) rfl) ?_
        refine O.callC rfl rfl rfl rfl hcall rfl (cb.call y hT (by omega)) ?_
        rintro _ H4 ⟨rfl, Z4, hT4, hF4, hZ4⟩
        rw [hgo]
        obtain ⟨hF5, hZ5⟩ := hcat hF hZ1 hF4 hZ4
        refine ⟨trivial, ?_⟩
        refine O.not rfl rfl rfl rfl rfl ?_
        refine Pl.fin [(3, _), (11, _), (12, _), (50, _), (71, _)] ⟨rfl, rfl, rfl, rfl, rfl, trivial⟩ ?_
        rw [takes_cons, hgo, if_pos rfl] at ht
        refine Go'.condF rfl ?_
        refine Go'.skip ?_
        refine Go'.seq ?_
        have hN5 := NodeM.fr EI hN hF4 (fun x y hxy hz => (hZ1 x hz).elim (hnz x y hxy) (fun h => by have := hltN x y hxy; omega))
        -- region 11 (map.go:530)
        refine Go'.region [(0, 0), (1, 2), (2, 0)] rfl ?_
        refine O.mv rfl rfl rfl rfl rfl ?_
        refine O.callQ rfl rfl rfl Go.Proofs.Try.call86 rfl (leaf_spec hN5.c3) trivial ?_
        refine O.not rfl rfl rfl rfl rfl ?_
        refine Pl.fin [(3, _), (11, _), (12, _), (50, _), (71, _), (74, _)] ⟨rfl, rfl, rfl, rfl, rfl, rfl, trivial⟩ ?_
        refine Go'.condF rfl ?_
        refine Go'.skip ?_
        refine Go'.inBlock ?_
        -- region 8 (map.go:526)
        refine Go'.region [(0, 0), (1, 0), (2, 0)] rfl ?_
        refine O.mv rfl rfl rfl rfl rfl ?_
        refine O.add (((j + 1 : Nat) : Int)) rfl rfl rfl rfl rfl rfl (by omega) (by omega) ?_
        refine O.asg rfl rfl rfl rfl rfl ?_
        refine Pl.fin [(3, _), (11, _), (12, _), (50, _), (71, _), (74, _)] ⟨rfl, rfl, rfl, rfl, rfl, rfl, trivial⟩ ?_
        refine Go'.keep [(3, _), (11, _), (12, _)] ⟨rfl, rfl, rfl, trivial⟩ ?_
        refine Go'.inLoop ?_
        exact ih (j + 1, _, Z4, A ++ [y]) H4 ⟨by (try simp only) <;> omega, rfl, ht, hT4, hF5, hZ5, by simp only [List.length_append, List.length_singleton]; omega⟩ (by (try simp only) <;> omega)
    · skip
      refine (show Go' _ _ _ _ _ [(3, .func (.func g) us.toArray cs.toArray), (11, .pointer (some ⟨gg.p, 0, none⟩)), (12, .int .i64 ((j : Int)))] _ _ from ?_)
      -- region 7 (map.go:526)
      refine Go'.region [(0, 0), (1, 0), (2, 0), (3, 0), (4, 1), (5, 0), (6, 0)] rfl ?_
      refine O.mv rfl rfl rfl rfl rfl ?_
      refine O.mv rfl rfl rfl rfl rfl ?_
      refine O.nc rfl rfl rfl rfl rfl ?_
      refine O.fa0 (off := 2) rfl rfl rfl rfl ⟨_, _, _, Go.Proofs.Try.underlying111, rfl, rfl, Go.Proofs.Try.sizeOf108⟩ rfl ?_
      refine O.ld rfl rfl rfl (fun w => ⟨Go.Proofs.Try.isAgg108 w, Go.Proofs.Try.sizeOf108 w⟩) rfl hN.c2 ?_
      refine O.len rfl rfl rfl rfl Go.Proofs.Try.underlying108 rfl ?_
      refine O.cmp rfl rfl rfl rfl rfl rfl (lssF (by omega)) ?_
      refine Pl.fin [(3, _), (11, _), (12, _), (50, _)] ⟨rfl, rfl, rfl, rfl, trivial⟩ ?_
      rw [List.drop_of_length_le (by omega)] at ht
      refine Go'.condF rfl ?_
      refine Go'.exit rfl ?_
      refine Go'.seq ?_
      -- region 14 (map.go:536)
      refine Go'.region [(0, 0)] rfl ?_
      refine O.asg rfl rfl rfl rfl rfl ?_
      refine Pl.fin [(10, _)] ⟨rfl, trivial⟩ ?_
      refine Go'.ret (vs := [_]) Go.Proofs.Try.func130 Go.Proofs.Try.results130 ⟨rfl, trivial⟩ ?_
      replace ht : takes go acc FULL = (A, true) := ht
      unfold CbPost
      rw [ht]
      exact ⟨rfl, Z1, hT, hF, hZ1⟩
  · skip
    rw [hfd] at hlt1
    generalize hpi : Pl.pos OI x X = i at *
    -- region 3 (map.go:515)
    refine Go'.region [(0, 0), (1, 0)] rfl ?_
    refine O.mv rfl rfl rfl rfl rfl ?_
    refine O.not rfl rfl rfl rfl rfl ?_
    refine Pl.fin [(0, _), (2, _), (3, _), (4, _), (10, _), (11, _), (12, _), (26, _)] ⟨rfl, rfl, rfl, rfl, rfl, rfl, rfl, rfl, trivial⟩ ?_
    refine Go'.condF rfl ?_
    refine Go'.skip ?_
    refine Go'.seq ?_
    refine Go'.block ?_
    replace hlt1 := hlt1 rfl
    replace hW : FULL = X.drop (i) := hW
    refine Go'.loop ?_
    refine Go'.keep [(3, _), (11, _), (12, _)] ⟨rfl, rfl, rfl, trivial⟩ ?_
    refine Go'.ind (σ := Nat × Int × (Nat → Prop) × List (Int × Int)) (fun s => X.length - s.1) (fun s H' => s.1 ≤ X.length ∧ s.2.1 = (s.1 : Int) ∧ takes go acc FULL = takes go s.2.2.2 (X.drop (s.1)) ∧ cb.T s.2.2.2 s.2.2.1 H' ∧ Fr (fun b _ => Z b) H H' ∧ (∀ b, s.2.2.1 b → Z b ∨ H.size ≤ b) ∧ s.2.2.2.length + (X.drop (s.1)).length ≤ M)
      (fun s => [(3, .func (.func g) us.toArray cs.toArray), (11, .pointer (some ⟨gg.p, 0, none⟩)), (12, .int .i64 s.2.1)]) (i, (i : Int), Z, acc) ⟨by (try simp only) <;> omega, by (try simp only) <;> omega, by rw [hW], hst, Fr.refl _ _, fun b hb => .inl hb, by simp only [List.length_drop]; omega⟩ rfl ?_
    rintro ⟨j, z, Z1, A⟩ H2 ⟨hj, hz, ht, hT, hF, hZ1, hAM⟩ ih
    simp only at hj hz ht hT hZ1 hAM
    subst hz
    replace hN := NodeM.fr EI hN hF (fun x y hxy hz => hnz x y hxy hz)
    refine Go'.seq ?_
    refine Go'.seq ?_
    by_cases hlt : j < X.length
    · skip
      obtain ⟨y, hy⟩ : ∃ y, X[j]? = some y := ⟨X[j], List.getElem?_eq_getElem (by omega)⟩
      obtain ⟨hy1, hy2⟩ := List.getElem?_eq_some_iff.1 hy
      rw [← List.getElem_cons_drop (h := hy1), hy2] at ht hAM
      rw [List.length_cons] at hAM
      refine (show Go' _ _ _ _ _ [(3, .func (.func g) us.toArray cs.toArray), (11, .pointer (some ⟨gg.p, 0, none⟩)), (12, .int .i64 ((j : Int)))] _ _ from ?_)
      -- region 7 (map.go:526)
      refine Go'.region [(0, 0), (1, 0), (2, 0), (3, 0), (4, 1), (5, 0), (6, 0)] rfl ?_
      refine O.mv rfl rfl rfl rfl rfl ?_
      refine O.mv rfl rfl rfl rfl rfl ?_
      refine O.nc rfl rfl rfl rfl rfl ?_
      refine O.fa0 (off := 2) rfl rfl rfl rfl ⟨_, _, _, Go.Proofs.Try.underlying111, rfl, rfl, Go.Proofs.Try.sizeOf108⟩ rfl ?_
      refine O.ld rfl rfl rfl (fun w => ⟨Go.Proofs.Try.isAgg108 w, Go.Proofs.Try.sizeOf108 w⟩) rfl hN.c2 ?_
      refine O.len rfl rfl rfl rfl Go.Proofs.Try.underlying108 rfl ?_
      refine O.cmp rfl rfl rfl rfl rfl rfl (lssT (by omega)) ?_
      refine Pl.fin [(3, _), (11, _), (12, _), (50, _)] ⟨rfl, rfl, rfl, rfl, trivial⟩ ?_
      refine Go'.condT rfl ?_
      refine Go'.skip ?_
      refine Go'.seq ?_
      refine Go'.block ?_
      refine Go'.seq ?_
      refine Go'.seq ?_
      cases hgo : go (A ++ [y])
      · skip
        -- region 9 (map.go:527)
        refine Go'.draw (fun _ => True) [(0, 0), (1, 0), (2, 0), (3, 0), (4, 1), (5, 0), (6, 0), (7, 0), (8, 1), (9, 0), (10, 0), (11, 0), (12, 1), (13, 0), (14, 0), (15, 0), (16, 1), (17, 2), (18, 0)] (by kernel_rfl) (by kernel_rfl) (trivial) ?_
        refine O.mv rfl rfl rfl rfl rfl ?_
        refine O.mv rfl rfl rfl rfl rfl ?_
        refine O.nc rfl rfl rfl rfl rfl ?_
        refine O.fa0 (off := 2) rfl rfl rfl rfl ⟨_, _, _, Go.Proofs.Try.underlying111, rfl, rfl, Go.Proofs.Try.sizeOf108⟩ rfl ?_
        refine O.ld rfl rfl rfl (fun w => ⟨Go.Proofs.Try.isAgg108 w, Go.Proofs.Try.sizeOf108 w⟩) rfl hN.c2 ?_
        refine O.mv rfl rfl rfl rfl rfl ?_
        refine O.ix (j := j) rfl rfl rfl rfl Go.Proofs.Try.underlying108 Go.Proofs.Try.sizeOf100 rfl rfl (by omega) (by omega) ?_
        refine O.fa (off := 1) rfl rfl rfl rfl ⟨_, _, _, Go.Proofs.Try.underlying100, rfl, rfl, Go.Proofs.Try.sizeOf3⟩ rfl ?_
        refine O.ld rfl rfl rfl (fun w => ⟨Go.Proofs.Try.isAgg3 w, Go.Proofs.Try.sizeOf3 w⟩) rfl (hN.sl.cell hy (j := 1) rfl) ?_
        refine O.mv rfl rfl rfl rfl rfl ?_
        refine O.nc rfl rfl rfl rfl rfl ?_
        refine O.fa0 (off := 2) rfl rfl rfl rfl ⟨_, _, _, Go.Proofs.Try.underlying111, rfl, rfl, Go.Proofs.Try.sizeOf108⟩ rfl ?_
        refine O.ld rfl rfl rfl (fun w => ⟨Go.Proofs.Try.isAgg108 w, Go.Proofs.Try.sizeOf108 w⟩) rfl hN.c2 ?_
        refine O.mv rfl rfl rfl rfl rfl ?_
        refine O.ix (j := j) rfl rfl rfl rfl Go.Proofs.Try.underlying108 Go.Proofs.Try.sizeOf100 rfl rfl (by omega) (by omega) ?_
        refine O.faz rfl rfl rfl rfl ⟨_, _, _, Go.Proofs.Try.underlying100, rfl, rfl, Go.Proofs.Try.sizeOf3⟩ rfl ?_
        refine O.ld rfl rfl rfl (fun w => ⟨Go.Proofs.Try.isAgg3 w, Go.Proofs.Try.sizeOf3 w⟩) rfl (hN.sl.cell hy (j := 0) rfl) ?_
        refine O.callC rfl rfl rfl rfl hcall rfl (cb.call y hT (by omega)) ?_
        rintro _ H4 ⟨rfl, Z4, hT4, hF4, hZ4⟩
        rw [hgo]
        obtain ⟨hF5, hZ5⟩ := hcat hF hZ1 hF4 hZ4
        refine ⟨trivial, ?_⟩
        refine O.not rfl rfl rfl rfl rfl ?_
        refine Pl.fin [(3, _), (11, _), (12, _), (50, _), (71, _)] ⟨rfl, rfl, rfl, rfl, rfl, trivial⟩ ?_
        refine Go'.condT rfl ?_
        refine Go'.seq ?_
        -- region 10 (map.go:528)
        refine Go'.region [(0, 0)] rfl ?_
        refine O.asg rfl rfl rfl rfl rfl ?_
        refine Pl.fin [(3, _), (10, _), (11, _), (12, _), (50, _), (71, _)] ⟨rfl, rfl, rfl, rfl, rfl, rfl, trivial⟩ ?_
        refine Go'.ret (vs := [_]) Go.Proofs.Try.func130 Go.Proofs.Try.results130 ⟨rfl, trivial⟩ ?_
        rw [takes_cons, hgo] at ht
        unfold CbPost
        rw [ht]
        exact ⟨rfl, Z4, hT4, hF5, hZ5⟩
      · skip
        -- region 9 (map.go:527)
        refine Go'.draw (fun _ => True) [(0, 0), (1, 0), (2, 0), (3, 0), (4, 1), (5, 0), (6, 0), (7, 0), (8, 1), (9, 0), (10, 0), (11, 0), (12, 1), (13, 0), (14, 0), (15, 0), (16, 1), (17, 2), (18, 0)] (by kernel_rfl) (by kernel_rfl) (trivial) ?_
        refine O.mv rfl rfl rfl rfl rfl ?_
        refine O.mv rfl rfl rfl rfl rfl ?_
        refine O.nc rfl rfl rfl rfl rfl ?_
        refine O.fa0 (off := 2) rfl rfl rfl rfl ⟨_, _, _, Go.Proofs.Try.underlying111, rfl, rfl, Go.Proofs.Try.sizeOf108⟩ rfl ?_
        refine O.ld rfl rfl rfl (fun w => ⟨Go.Proofs.Try.isAgg108 w, Go.Proofs.Try.sizeOf108 w⟩) rfl hN.c2 ?_
        refine O.mv rfl rfl rfl rfl rfl ?_
        refine O.ix (j := j) rfl rfl rfl rfl Go.Proofs.Try.underlying108 Go.Proofs.Try.sizeOf100 rfl rfl (by omega) (by omega) ?_
        refine O.fa (off := 1) rfl rfl rfl rfl ⟨_, _, _, Go.Proofs.Try.underlying100, rfl, rfl, Go.Proofs.Try.sizeOf3⟩ rfl ?_
        refine O.ld rfl rfl rfl (fun w => ⟨Go.Proofs.Try.isAgg3 w, Go.Proofs.Try.sizeOf3 w⟩) rfl (hN.sl.cell hy (j := 1) rfl) ?_
        refine O.mv rfl rfl rfl rfl rfl ?_
        refine O.nc rfl rfl rfl rfl rfl ?_
        refine O.fa0 (off := 2) rfl rfl rfl rfl ⟨_, _, _, Go.Proofs.Try.underlying111, rfl, rfl, Go.Proofs.Try.sizeOf108⟩ rfl ?_
        refine O.ld rfl rfl rfl (fun w => ⟨Go.Proofs.Try.isAgg108 w, Go.Proofs.Try.sizeOf108 w⟩) rfl hN.c2 ?_
        refine O.mv rfl rfl rfl rfl rfl ?_
        refine O.ix (j := j) rfl rfl rfl rfl Go.Proofs.Try.underlying108 Go.Proofs.Try.sizeOf100 rfl rfl (by omega) (by omega) ?_
        refine O.faz rfl rfl rfl rfl ⟨_, _, _, Go.Proofs.Try.underlying100, rfl, rfl, Go.Proofs.Try.sizeOf3⟩ rfl ?_
        refine O.ld rfl rfl rfl (fun w => ⟨Go.Proofs.Try.isAgg3 w, Go.Proofs.Try.sizeOf3 w⟩) rfl (hN.sl.cell hy (j := 0) rfl) ?_
        refine O.callC rfl rfl rfl rfl hcall rfl (cb.call y hT (by omega)) ?_
        rintro _ H4 ⟨rfl, Z4, hT4, hF4, hZ4⟩
        rw [hgo]
        obtain ⟨hF5, hZ5⟩ := hcat hF hZ1 hF4 hZ4
        refine ⟨trivial, ?_⟩
        refine O.not rfl rfl rfl rfl rfl ?_
        refine Pl.fin [(3, _), (11, _), (12, _), (50, _), (71, _)] ⟨rfl, rfl, rfl, rfl, rfl, trivial⟩ ?_
        rw [takes_cons, hgo, if_pos rfl] at ht
        refine Go'.condF rfl ?_
        refine Go'.skip ?_
        refine Go'.seq ?_
        have hN5 := NodeM.fr EI hN hF4 (fun x y hxy hz => (hZ1 x hz).elim (hnz x y hxy) (fun h => by have := hltN x y hxy; omega))
        -- region 11 (map.go:530)
        refine Go'.region [(0, 0), (1, 2), (2, 0)] rfl ?_
        refine O.mv rfl rfl rfl rfl rfl ?_
        refine O.callQ rfl rfl rfl Go.Proofs.Try.call86 rfl (leaf_spec hN5.c3) trivial ?_
        refine O.not rfl rfl rfl rfl rfl ?_
        refine Pl.fin [(3, _), (11, _), (12, _), (50, _), (71, _), (74, _)] ⟨rfl, rfl, rfl, rfl, rfl, rfl, trivial⟩ ?_
        refine Go'.condF rfl ?_
        refine Go'.skip ?_
        refine Go'.inBlock ?_
        -- region 8 (map.go:526)
        refine Go'.region [(0, 0), (1, 0), (2, 0)] rfl ?_
        refine O.mv rfl rfl rfl rfl rfl ?_
        refine O.add (((j + 1 : Nat) : Int)) rfl rfl rfl rfl rfl rfl (by omega) (by omega) ?_
        refine O.asg rfl rfl rfl rfl rfl ?_
        refine Pl.fin [(3, _), (11, _), (12, _), (50, _), (71, _), (74, _)] ⟨rfl, rfl, rfl, rfl, rfl, rfl, trivial⟩ ?_
        refine Go'.keep [(3, _), (11, _), (12, _)] ⟨rfl, rfl, rfl, trivial⟩ ?_
        refine Go'.inLoop ?_
        exact ih (j + 1, _, Z4, A ++ [y]) H4 ⟨by (try simp only) <;> omega, rfl, ht, hT4, hF5, hZ5, by simp only [List.length_append, List.length_singleton]; omega⟩ (by (try simp only) <;> omega)
    · skip
      refine (show Go' _ _ _ _ _ [(3, .func (.func g) us.toArray cs.toArray), (11, .pointer (some ⟨gg.p, 0, none⟩)), (12, .int .i64 ((j : Int)))] _ _ from ?_)
      -- region 7 (map.go:526)
      refine Go'.region [(0, 0), (1, 0), (2, 0), (3, 0), (4, 1), (5, 0), (6, 0)] rfl ?_
      refine O.mv rfl rfl rfl rfl rfl ?_
      refine O.mv rfl rfl rfl rfl rfl ?_
      refine O.nc rfl rfl rfl rfl rfl ?_
      refine O.fa0 (off := 2) rfl rfl rfl rfl ⟨_, _, _, Go.Proofs.Try.underlying111, rfl, rfl, Go.Proofs.Try.sizeOf108⟩ rfl ?_
      refine O.ld rfl rfl rfl (fun w => ⟨Go.Proofs.Try.isAgg108 w, Go.Proofs.Try.sizeOf108 w⟩) rfl hN.c2 ?_
      refine O.len rfl rfl rfl rfl Go.Proofs.Try.underlying108 rfl ?_
      refine O.cmp rfl rfl rfl rfl rfl rfl (lssF (by omega)) ?_
      refine Pl.fin [(3, _), (11, _), (12, _), (50, _)] ⟨rfl, rfl, rfl, rfl, trivial⟩ ?_
      rw [List.drop_of_length_le (by omega)] at ht
      refine Go'.condF rfl ?_
      refine Go'.exit rfl ?_
      refine Go'.seq ?_
      -- region 14 (map.go:536)
      refine Go'.region [(0, 0)] rfl ?_
      refine O.asg rfl rfl rfl rfl rfl ?_
      refine Pl.fin [(10, _)] ⟨rfl, trivial⟩ ?_
      refine Go'.ret (vs := [_]) Go.Proofs.Try.func130 Go.Proofs.Try.results130 ⟨rfl, trivial⟩ ?_
      replace ht : takes go acc FULL = (A, true) := ht
      unfold CbPost
      rw [ht]
      exact ⟨rfl, Z1, hT, hF, hZ1⟩

theorem nasc {B : World} {g : FuncId} {us cs : List Value} {go : List (Int × Int) → Bool} {M : Nat} (cb : Cb Try.prog B encKV g us cs go M) (hcall : ∀ (args : Array Value) (w : World), (callFunc g args).run Try.prog w = .ok (.enter g args) w) {tr : Nat} {P : Ps} (hP : PsOk P) (mt : Bool) (x : Int × Int) : ∀ (h : Nat) {H : Mem} {bp op : Nat} {acc : List (Int × Int)} {Z : Nat → Prop} {t : Gt EI h}, VPre cb H tr P h t bp op acc Z → Pl.Srt OI (Gt.L h t) →
    Fn Try.prog B 130 [.pointer (some ⟨tr, 0, none⟩), .pointer (some ⟨bp, op, none⟩), .int .i64 x.1, .func (.func g) us.toArray cs.toArray, .bool mt] H (fun r H' => r = .bool (takes go acc (Pl.up OI x (Gt.L h t))).2 ∧ CbPost cb acc Z H (Pl.up OI x (Gt.L h t)) H')
  | 0, _, _, _, _, _, _, hp, hs => nasc0 cb hcall hP mt x hp hs
  | h + 1, H, bp, op, acc, Z, (gg, X, K), hp, hs => by
    have ih := @nasc B g us cs go M cb hcall tr P hP mt x h
    obtain ⟨tc, hg, hc, hnz, hntr, hst, hlen⟩ := hp
    have hI : Inn H P h gg X ((Gt.ps h K).map some) K := hg.inn
    have hKl : K.length = X.length + 1 := hg.2.2.2.2.2.1
    have hxm : X.length ≤ P.mx := hg.2.2.2.2.1
    have hx255 := hP.hx
    have hKL : (K.map (Gt.L h)).length = X.length + 1 := by rw [List.length_map]; exact hKl
    have hol : ((Gt.ps h K).map some).length = X.length + 1 := by rw [List.length_map, Gt.ps, List.length_map]; exact hKl
    replace hlen : acc.length + (Pl.inter X (K.map (Gt.L h))).length ≤ M := hlen
    replace hs : Pl.Srt OI (Pl.inter X (K.map (Gt.L h))) := hs
    have hsX : Pl.Srt OI X := hs.sublist (Pl.sublist_inter X _ (by omega))
    have hlt : ∀ x y, innc h gg K x y → x < H.size := fun x y hb => hI.lt hb
    obtain ⟨_, _, _, hkb⟩ := hI.cells
    have htl : tr < H.size := cl_lt tc.iso
    have hc0 := hI.n.c0
    rw [hI.iso] at hc0
    have hin : ∀ H', Fr (fun x _ => Z x) H H' → Inn H' P h gg X ((Gt.ps h K).map some) K := fun H' hf => hI.fr hf (fun x y hxy hz => hnz x y hxy hz)
    have htc : ∀ H', Fr (fun x _ => Z x) H H' → TrC H' tr P.iso P.mx P.mn := fun H' hf => tc.fr hf fun _ _ _ hz => hntr hz
    -- a child at any time
    have hkid : ∀ {H2 : Mem} {Z1 : Nat → Prop} {A : List (Int × Int)} {j : Nat} {k : Gt EI h}, K[j]? = some k → Fr (fun x _ => Z x) H H2 → cb.T A Z1 H2 → (∀ b, Z1 b → Z b ∨ H.size ≤ b) → A.length + (Gt.L h k).length ≤ M → VPre cb H2 tr P h k gg.kb (gg.ko + j * 1) A Z1 := by
      intro H2 Z1 A j k hkk hF hT hZ1 hA
      have hkK : k ∈ K := List.mem_of_getElem? hkk
      have hI2 := hin H2 hF
      have hok : ((Gt.ps h K).map some)[j]? = some (some (Gt.p h k)) := by rw [Gt.ps, List.map_map, List.getElem?_map, hkk]; rfl
      exact ⟨htc H2 hF, (hI2.c.1 k hkK).1, hI2.k.at hok, fun b o hb hz => (hZ1 b hz).elim (fun hz => hnz b o (.inr (.inr ⟨k, hkK, hb⟩)) hz) (fun hz => by have := hlt b o (.inr (.inr ⟨k, hkK, hb⟩)); omega),
        fun hz => (hZ1 _ hz).elim hntr (fun h => by omega), hT, hA⟩
    have hcat : ∀ {Z1 Z2 : Nat → Prop} {H2 H3 : Mem}, Fr (fun x _ => Z x) H H2 → (∀ b, Z1 b → Z b ∨ H.size ≤ b) → Fr (fun x _ => Z1 x) H2 H3 → (∀ b, Z2 b → Z1 b ∨ H2.size ≤ b) → Fr (fun x _ => Z x) H H3 ∧ ∀ b, Z2 b → Z b ∨ H.size ≤ b := by
      intro Z1 Z2 H2 H3 hF hZ1 hF2 hZ2
      have := hF.size
      exact ⟨hF.trans' hF2 (fun _ _ _ h => h) (fun b o hb hz => (hZ1 b hz).elim id (fun h => by omega)), fun b hb => (hZ2 b hb).elim (hZ1 b) (fun h => .inr (by omega))⟩
    have hple := Pl.pos_le OI x X
    have hfle : (Pl.up OI x (Pl.inter X (K.map (Gt.L h)))).length ≤ (Pl.inter X (K.map (Gt.L h))).length := by exact Pl.up_le OI x _
    show Fn _ _ _ _ _ (fun r H' => r = .bool (takes go acc (Pl.up OI x (Pl.inter X (K.map (Gt.L h))))).2 ∧ CbPost cb acc Z H (Pl.up OI x (Pl.inter X (K.map (Gt.L h)))) H')
    refine fn_of Go.Proofs.Try.func130 rfl Go.Proofs.Try.ntmps130 ?_
    refine (show Go' _ _ _ _ 89 [(0, _), (1, _), (2, _), (3, _), (4, _)] [.code _] _ from ?_)
    refine Go'.seq ?_
    -- region 0 (map.go:510)
    refine Go'.region [(0, 0)] rfl ?_
    refine O.asg rfl rfl rfl rfl rfl ?_
    refine Pl.fin [(0, _), (1, _), (2, _), (3, _), (4, _), (10, _)] ⟨rfl, rfl, rfl, rfl, rfl, rfl, trivial⟩ ?_
    refine Go'.seq ?_
    -- region 1 (map.go:513)
    refine Go'.region [(0, 0), (1, 0), (2, 0), (3, 2), (4, 0)] rfl ?_
    refine O.mv rfl rfl rfl rfl rfl ?_
    refine O.mv rfl rfl rfl rfl rfl ?_
    refine O.mv rfl rfl rfl rfl rfl ?_
    refine O.callQ rfl rfl rfl Go.Proofs.Try.call85 rfl (isoLoad_spec mt hc hc0 tc.iso) trivial ?_
    refine O.asg rfl rfl rfl rfl rfl ?_
    refine Pl.fin [(0, _), (2, _), (3, _), (4, _), (10, _), (11, _)] ⟨rfl, rfl, rfl, rfl, rfl, rfl, trivial⟩ ?_
    refine Go'.seq ?_
    unfold ptr
    -- region 2 (map.go:514)
    refine Go'.region [(0, 0), (1, 0), (2, 0), (3, 2), (4, 0), (5, 0), (6, 0), (7, 0), (8, 0)] rfl ?_
    refine O.mv rfl rfl rfl rfl rfl ?_
    refine O.mv rfl rfl rfl rfl rfl ?_
    refine O.mv rfl rfl rfl rfl rfl ?_
    refine O.callQ rfl rfl rfl Go.Proofs.Try.call114 rfl (search_spec x hI.n hsX (by omega)) trivial ?_
    refine O.mv rfl rfl rfl rfl rfl ?_
    refine O.ext rfl rfl rfl rfl rfl rfl ?_
    refine O.ext rfl rfl rfl rfl rfl rfl ?_
    refine O.asg rfl rfl rfl rfl rfl ?_
    refine O.asg rfl rfl rfl rfl rfl ?_
    refine Pl.fin [(0, _), (2, _), (3, _), (4, _), (10, _), (11, _), (12, _), (13, _)] ⟨rfl, rfl, rfl, rfl, rfl, rfl, rfl, rfl, trivial⟩ ?_
    refine Go'.seq ?_
    refine Go'.seq ?_
    cases hfd : Pl.fnd OI x X
    · skip
      obtain ⟨k0, hkk0⟩ : ∃ k, K[Pl.pos OI x X]? = some k := ⟨K[Pl.pos OI x X], List.getElem?_eq_getElem (by omega)⟩
      have hkL0 : (K.map (Gt.L h))[Pl.pos OI x X]? = some (Gt.L h k0) := by rw [List.getElem?_map, hkk0]; rfl
      have hW := (Pl.dn_child OI hs hKL hfd hkL0).2
      have hsk := Pl.child_srt OI hs hKL hfd hkL0
      have hlk : (Gt.L h k0).length ≤ (Pl.inter X (K.map (Gt.L h))).length := by
        rw [(Pl.inter_child OI hs hKL hfd hkL0).1, List.length_append, List.length_append]; omega
      generalize hpi : Pl.pos OI x X = i at *
      generalize hFULL : Pl.up OI x (Pl.inter X (K.map (Gt.L h))) = FULL at *
      -- region 3 (map.go:515)
      refine Go'.region [(0, 0), (1, 0)] rfl ?_
      refine O.mv rfl rfl rfl rfl rfl ?_
      refine O.not rfl rfl rfl rfl rfl ?_
      refine Pl.fin [(0, _), (2, _), (3, _), (4, _), (10, _), (11, _), (12, _), (26, _)] ⟨rfl, rfl, rfl, rfl, rfl, rfl, rfl, rfl, trivial⟩ ?_
      refine Go'.condT rfl ?_
      refine Go'.seq ?_
      -- region 4 (map.go:516)
      refine Go'.region [(0, 0), (1, 2), (2, 0)] rfl ?_
      refine O.mv rfl rfl rfl rfl rfl ?_
      refine O.callQ rfl rfl rfl Go.Proofs.Try.call86 rfl (leaf_spec hI.n.c3) trivial ?_
      refine O.not rfl rfl rfl rfl rfl ?_
      refine Pl.fin [(0, _), (2, _), (3, _), (4, _), (10, _), (11, _), (12, _), (29, _)] ⟨rfl, rfl, rfl, rfl, rfl, rfl, rfl, rfl, trivial⟩ ?_
      refine Go'.condT rfl ?_
      refine Go'.seq ?_
      -- region 5 (map.go:517)
      refine Go'.region [(0, 0), (1, 0), (2, 0), (3, 0), (4, 1), (5, 0), (6, 1), (7, 0), (8, 0), (9, 0), (10, 0), (11, 0), (12, 2), (13, 0)] rfl ?_
      refine O.mv rfl rfl rfl rfl rfl ?_
      refine O.mv rfl rfl rfl rfl rfl ?_
      refine O.nc rfl rfl rfl rfl rfl ?_
      refine O.fa0 (off := 3) rfl rfl rfl rfl ⟨_, _, _, Go.Proofs.Try.underlying111, rfl, rfl, Go.Proofs.Try.sizeOf109⟩ rfl ?_
      refine O.ld rfl rfl rfl (fun w => ⟨Go.Proofs.Try.isAgg109 w, Go.Proofs.Try.sizeOf109 w⟩) rfl hI.n.c3 ?_
      refine O.nc rfl rfl rfl rfl rfl ?_
      refine O.ld rfl rfl rfl (fun w => ⟨Go.Proofs.Try.isAgg112 w, Go.Proofs.Try.sizeOf112 w⟩) rfl hI.k.c ?_
      refine O.mv rfl rfl rfl rfl rfl ?_
      refine O.ix (j := i) rfl rfl rfl rfl Go.Proofs.Try.underlying112 Go.Proofs.Try.sizeOf103 rfl rfl (by omega) (by omega) ?_
      refine O.mv rfl rfl rfl rfl rfl ?_
      refine O.mv rfl rfl rfl rfl rfl ?_
      refine O.mv rfl rfl rfl rfl rfl ?_
      refine O.call rfl rfl rfl Go.Proofs.Try.call130 rfl (ih (hkid hkk0 (Fr.refl _ _) hst (fun b hb => .inl hb) (by omega)) hsk) ?_
      rintro _ H2 ⟨rfl, Z2, hT2, hF2, hZ2⟩
      refine ⟨trivial, ?_⟩
      refine O.not rfl rfl rfl rfl rfl ?_
      refine Pl.fin [(0, _), (3, _), (4, _), (10, _), (11, _), (12, _), (43, _)] ⟨rfl, rfl, rfl, rfl, rfl, rfl, rfl, trivial⟩ ?_
      cases htk0 : (takes go acc (Pl.up OI x (Gt.L h k0))).2
      · skip
        refine Go'.condT rfl ?_
        refine Go'.seq ?_
        -- region 6 (map.go:518)
        refine Go'.region [(0, 0)] rfl ?_
        refine O.asg rfl rfl rfl rfl rfl ?_
        refine Pl.fin [(0, _), (3, _), (4, _), (10, _), (11, _), (12, _)] ⟨rfl, rfl, rfl, rfl, rfl, rfl, trivial⟩ ?_
        refine Go'.ret (vs := [_]) Go.Proofs.Try.func130 Go.Proofs.Try.results130 ⟨rfl, trivial⟩ ?_
        have e2 := takes_halt (r := Pl.post (X.drop (i)) ((K.map (Gt.L h)).drop (i + 1))) htk0
        rw [← hW] at e2
        unfold CbPost
        rw [e2]
        exact ⟨by rw [htk0]; rfl, Z2, hT2, hF2, hZ2⟩
      · skip
        refine Go'.condF rfl ?_
        refine Go'.skip ?_
        refine Go'.seq ?_
        refine Go'.block ?_
        have e2 := takes_rest (r := Pl.post (X.drop (i)) ((K.map (Gt.L h)).drop (i + 1))) htk0
        rw [← hW] at e2
        have htl := takes_length go (Pl.up OI x (Gt.L h k0)) acc
        rw [hW, List.length_append] at hfle
        generalize (takes go acc (Pl.up OI x (Gt.L h k0))).1 = A0 at *
        refine Go'.loop ?_
        refine Go'.keep [(0, _), (3, _), (4, _), (11, _), (12, _)] ⟨rfl, rfl, rfl, rfl, rfl, trivial⟩ ?_
        refine Go'.ind (σ := Nat × Int × (Nat → Prop) × List (Int × Int)) (fun s => X.length - s.1) (fun s H' => s.1 ≤ X.length ∧ s.2.1 = (s.1 : Int) ∧ takes go acc FULL = takes go s.2.2.2 (Pl.post (X.drop (s.1)) ((K.map (Gt.L h)).drop (s.1 + 1))) ∧ cb.T s.2.2.2 s.2.2.1 H' ∧ Fr (fun b _ => Z b) H H' ∧ (∀ b, s.2.2.1 b → Z b ∨ H.size ≤ b) ∧ s.2.2.2.length + (Pl.post (X.drop (s.1)) ((K.map (Gt.L h)).drop (s.1 + 1))).length ≤ M)
          (fun s => [(0, .pointer (some ⟨tr, 0, none⟩)), (3, .func (.func g) us.toArray cs.toArray), (4, .bool mt), (11, .pointer (some ⟨gg.p, 0, none⟩)), (12, .int .i64 s.2.1)]) (i, (i : Int), Z2, A0) ⟨by (try simp only) <;> omega, by (try simp only) <;> omega, e2, hT2, hF2, hZ2, by (try simp only) <;> omega⟩ rfl ?_
        rintro ⟨j, z, Z1, A⟩ H3 ⟨hj, hz, ht, hT, hF, hZ1, hAM⟩ ih2
        simp only at hj hz ht hT hZ1 hAM
        subst hz
        have hI3 := hin H3 hF
        refine Go'.seq ?_
        refine Go'.seq ?_
        by_cases hlt2 : j < X.length
        · skip
          obtain ⟨y, hy⟩ : ∃ y, X[j]? = some y := ⟨X[j], List.getElem?_eq_getElem (by omega)⟩
          obtain ⟨k, hkk⟩ : ∃ k, K[j + 1]? = some k := ⟨K[j + 1], List.getElem?_eq_getElem (by omega)⟩
          have hkL : (K.map (Gt.L h))[j + 1]? = some (Gt.L h k) := by rw [List.getElem?_map, hkk]; rfl
          rw [Pl.post_succ hy hkL] at ht hAM
          rw [List.length_cons, List.length_append] at hAM
          refine (show Go' _ _ _ _ _ [(0, .pointer (some ⟨tr, 0, none⟩)), (3, .func (.func g) us.toArray cs.toArray), (4, .bool mt), (11, .pointer (some ⟨gg.p, 0, none⟩)), (12, .int .i64 ((j : Int)))] _ _ from ?_)
          -- region 7 (map.go:526)
          refine Go'.region [(0, 0), (1, 0), (2, 0), (3, 0), (4, 1), (5, 0), (6, 0)] rfl ?_
          refine O.mv rfl rfl rfl rfl rfl ?_
          refine O.mv rfl rfl rfl rfl rfl ?_
          refine O.nc rfl rfl rfl rfl rfl ?_
          refine O.fa0 (off := 2) rfl rfl rfl rfl ⟨_, _, _, Go.Proofs.Try.underlying111, rfl, rfl, Go.Proofs.Try.sizeOf108⟩ rfl ?_
          refine O.ld rfl rfl rfl (fun w => ⟨Go.Proofs.Try.isAgg108 w, Go.Proofs.Try.sizeOf108 w⟩) rfl hI3.n.c2 ?_
          refine O.len rfl rfl rfl rfl Go.Proofs.Try.underlying108 rfl ?_
          refine O.cmp rfl rfl rfl rfl rfl rfl (lssT (by omega)) ?_
          refine Pl.fin [(0, _), (3, _), (4, _), (11, _), (12, _), (50, _)] ⟨rfl, rfl, rfl, rfl, rfl, rfl, trivial⟩ ?_
          refine Go'.condT rfl ?_
          refine Go'.skip ?_
          refine Go'.seq ?_
          refine Go'.block ?_
          refine Go'.seq ?_
          refine Go'.seq ?_
          cases hgo : go (A ++ [y])
          · skip
            -- region 9 (map.go:527)
            refine Go'.draw (fun _ => True) [(0, 0), (1, 0), (2, 0), (3, 0), (4, 1), (5, 0), (6, 0), (7, 0), (8, 1), (9, 0), (10, 0), (11, 0), (12, 1), (13, 0), (14, 0), (15, 0), (16, 1), (17, 2), (18, 0)] (by kernel_rfl) (by kernel_rfl) (trivial) ?_
            refine O.mv rfl rfl rfl rfl rfl ?_
            refine O.mv rfl rfl rfl rfl rfl ?_
            refine O.nc rfl rfl rfl rfl rfl ?_
            refine O.fa0 (off := 2) rfl rfl rfl rfl ⟨_, _, _, Go.Proofs.Try.underlying111, rfl, rfl, Go.Proofs.Try.sizeOf108⟩ rfl ?_
            refine O.ld rfl rfl rfl (fun w => ⟨Go.Proofs.Try.isAgg108 w, Go.Proofs.Try.sizeOf108 w⟩) rfl hI3.n.c2 ?_
            refine O.mv rfl rfl rfl rfl rfl ?_
            refine O.ix (j := j) rfl rfl rfl rfl Go.Proofs.Try.underlying108 Go.Proofs.Try.sizeOf100 rfl rfl (by omega) (by omega) ?_
            refine O.fa (off := 1) rfl rfl rfl rfl ⟨_, _, _, Go.Proofs.Try.underlying100, rfl, rfl, Go.Proofs.Try.sizeOf3⟩ rfl ?_
            refine O.ld rfl rfl rfl (fun w => ⟨Go.Proofs.Try.isAgg3 w, Go.Proofs.Try.sizeOf3 w⟩) rfl (hI3.n.sl.cell hy (j := 1) rfl) ?_
            refine O.mv rfl rfl rfl rfl rfl ?_
            refine O.nc rfl rfl rfl rfl rfl ?_
            refine O.fa0 (off := 2) rfl rfl rfl rfl ⟨_, _, _, Go.Proofs.Try.underlying111, rfl, rfl, Go.Proofs.Try.sizeOf108⟩ rfl ?_
            refine O.ld rfl rfl rfl (fun w => ⟨Go.Proofs.Try.isAgg108 w, Go.Proofs.Try.sizeOf108 w⟩) rfl hI3.n.c2 ?_
            refine O.mv rfl rfl rfl rfl rfl ?_
            refine O.ix (j := j) rfl rfl rfl rfl Go.Proofs.Try.underlying108 Go.Proofs.Try.sizeOf100 rfl rfl (by omega) (by omega) ?_
            refine O.faz rfl rfl rfl rfl ⟨_, _, _, Go.Proofs.Try.underlying100, rfl, rfl, Go.Proofs.Try.sizeOf3⟩ rfl ?_
            refine O.ld rfl rfl rfl (fun w => ⟨Go.Proofs.Try.isAgg3 w, Go.Proofs.Try.sizeOf3 w⟩) rfl (hI3.n.sl.cell hy (j := 0) rfl) ?_
            refine O.callC rfl rfl rfl rfl hcall rfl (cb.call y hT (by omega)) ?_
            rintro _ H4 ⟨rfl, Z4, hT4, hF4, hZ4⟩
            rw [hgo]
            obtain ⟨hF5, hZ5⟩ := hcat hF hZ1 hF4 hZ4
            refine ⟨trivial, ?_⟩
            refine O.not rfl rfl rfl rfl rfl ?_
            refine Pl.fin [(0, _), (3, _), (4, _), (11, _), (12, _), (50, _), (71, _)] ⟨rfl, rfl, rfl, rfl, rfl, rfl, rfl, trivial⟩ ?_
            refine Go'.condT rfl ?_
            refine Go'.seq ?_
            -- region 10 (map.go:528)
            refine Go'.region [(0, 0)] rfl ?_
            refine O.asg rfl rfl rfl rfl rfl ?_
            refine Pl.fin [(0, _), (3, _), (4, _), (10, _), (11, _), (12, _), (50, _), (71, _)] ⟨rfl, rfl, rfl, rfl, rfl, rfl, rfl, rfl, trivial⟩ ?_
            refine Go'.ret (vs := [_]) Go.Proofs.Try.func130 Go.Proofs.Try.results130 ⟨rfl, trivial⟩ ?_
            rw [takes_cons, hgo] at ht
            unfold CbPost
            rw [ht]
            exact ⟨rfl, Z4, hT4, hF5, hZ5⟩
          · skip
            -- region 9 (map.go:527)
            refine Go'.draw (fun _ => True) [(0, 0), (1, 0), (2, 0), (3, 0), (4, 1), (5, 0), (6, 0), (7, 0), (8, 1), (9, 0), (10, 0), (11, 0), (12, 1), (13, 0), (14, 0), (15, 0), (16, 1), (17, 2), (18, 0)] (by kernel_rfl) (by kernel_rfl) (trivial) ?_
            refine O.mv rfl rfl rfl rfl rfl ?_
            refine O.mv rfl rfl rfl rfl rfl ?_
            refine O.nc rfl rfl rfl rfl rfl ?_
            refine O.fa0 (off := 2) rfl rfl rfl rfl ⟨_, _, _, Go.Proofs.Try.underlying111, rfl, rfl, Go.Proofs.Try.sizeOf108⟩ rfl ?_
            refine O.ld rfl rfl rfl (fun w => ⟨Go.Proofs.Try.isAgg108 w, Go.Proofs.Try.sizeOf108 w⟩) rfl hI3.n.c2 ?_
            refine O.mv rfl rfl rfl rfl rfl ?_
            refine O.ix (j := j) rfl rfl rfl rfl Go.Proofs.Try.underlying108 Go.Proofs.Try.sizeOf100 rfl rfl (by omega) (by omega) ?_
            refine O.fa (off := 1) rfl rfl rfl rfl ⟨_, _, _, Go.Proofs.Try.underlying100, rfl, rfl, Go.Proofs.Try.sizeOf3⟩ rfl ?_
            refine O.ld rfl rfl rfl (fun w => ⟨Go.Proofs.Try.isAgg3 w, Go.Proofs.Try.sizeOf3 w⟩) rfl (hI3.n.sl.cell hy (j := 1) rfl) ?_
            refine O.mv rfl rfl rfl rfl rfl ?_
            refine O.nc rfl rfl rfl rfl rfl ?_
            refine O.fa0 (off := 2) rfl rfl rfl rfl ⟨_, _, _, Go.Proofs.Try.underlying111, rfl, rfl, Go.Proofs.Try.sizeOf108⟩ rfl ?_
            refine O.ld rfl rfl rfl (fun w => ⟨Go.Proofs.Try.isAgg108 w, Go.Proofs.Try.sizeOf108 w⟩) rfl hI3.n.c2 ?_
            refine O.mv rfl rfl rfl rfl rfl ?_
            refine O.ix (j := j) rfl rfl rfl rfl Go.Proofs.Try.underlying108 Go.Proofs.Try.sizeOf100 rfl rfl (by omega) (by omega) ?_
            refine O.faz rfl rfl rfl rfl ⟨_, _, _, Go.Proofs.Try.underlying100, rfl, rfl, Go.Proofs.Try.sizeOf3⟩ rfl ?_
            refine O.ld rfl rfl rfl (fun w => ⟨Go.Proofs.Try.isAgg3 w, Go.Proofs.Try.sizeOf3 w⟩) rfl (hI3.n.sl.cell hy (j := 0) rfl) ?_
            refine O.callC rfl rfl rfl rfl hcall rfl (cb.call y hT (by omega)) ?_
            rintro _ H4 ⟨rfl, Z4, hT4, hF4, hZ4⟩
            rw [hgo]
            obtain ⟨hF5, hZ5⟩ := hcat hF hZ1 hF4 hZ4
            refine ⟨trivial, ?_⟩
            refine O.not rfl rfl rfl rfl rfl ?_
            refine Pl.fin [(0, _), (3, _), (4, _), (11, _), (12, _), (50, _), (71, _)] ⟨rfl, rfl, rfl, rfl, rfl, rfl, rfl, trivial⟩ ?_
            rw [takes_cons, hgo, if_pos rfl] at ht
            refine Go'.condF rfl ?_
            refine Go'.skip ?_
            refine Go'.seq ?_
            have hI4 := hin H4 hF5
            have hAy : (A ++ [y]).length = A.length + 1 := by simp
            -- region 11 (map.go:530)
            refine Go'.region [(0, 0), (1, 2), (2, 0)] rfl ?_
            refine O.mv rfl rfl rfl rfl rfl ?_
            refine O.callQ rfl rfl rfl Go.Proofs.Try.call86 rfl (leaf_spec hI4.n.c3) trivial ?_
            refine O.not rfl rfl rfl rfl rfl ?_
            refine Pl.fin [(0, _), (3, _), (4, _), (11, _), (12, _), (50, _), (71, _), (74, _)] ⟨rfl, rfl, rfl, rfl, rfl, rfl, rfl, rfl, trivial⟩ ?_
            refine Go'.condT rfl ?_
            refine Go'.seq ?_
            -- region 12 (map.go:531)
            refine Go'.region [(0, 0), (1, 0), (2, 0), (3, 0), (4, 1), (5, 0), (6, 1), (7, 0), (8, 0), (9, 0), (10, 0), (11, 0), (12, 2), (13, 0)] rfl ?_
            refine O.mv rfl rfl rfl rfl rfl ?_
            refine O.mv rfl rfl rfl rfl rfl ?_
            refine O.nc rfl rfl rfl rfl rfl ?_
            refine O.fa0 (off := 3) rfl rfl rfl rfl ⟨_, _, _, Go.Proofs.Try.underlying111, rfl, rfl, Go.Proofs.Try.sizeOf109⟩ rfl ?_
            refine O.ld rfl rfl rfl (fun w => ⟨Go.Proofs.Try.isAgg109 w, Go.Proofs.Try.sizeOf109 w⟩) rfl hI4.n.c3 ?_
            refine O.nc rfl rfl rfl rfl rfl ?_
            refine O.ld rfl rfl rfl (fun w => ⟨Go.Proofs.Try.isAgg112 w, Go.Proofs.Try.sizeOf112 w⟩) rfl hI4.k.c ?_
            refine O.mv rfl rfl rfl rfl rfl ?_
            refine O.add (((j + 1 : Nat) : Int)) rfl rfl rfl rfl rfl rfl (by omega) (by omega) ?_
            refine O.ix (j := j + 1) rfl rfl rfl rfl Go.Proofs.Try.underlying112 Go.Proofs.Try.sizeOf103 rfl rfl (by omega) (by omega) ?_
            refine O.mv rfl rfl rfl rfl rfl ?_
            refine O.mv rfl rfl rfl rfl rfl ?_
            refine O.call rfl rfl rfl Go.Proofs.Try.call116 rfl (nscan cb hcall hP mt h (hkid hkk hF5 hT4 hZ5 (by omega))) ?_
            rintro _ H6 ⟨rfl, Z6, hT6, hF6, hZ6⟩
            obtain ⟨hF7, hZ7⟩ := hcat hF5 hZ5 hF6 hZ6
            refine ⟨trivial, ?_⟩
            refine O.not rfl rfl rfl rfl rfl ?_
            refine Pl.fin [(0, _), (3, _), (4, _), (11, _), (12, _), (50, _), (71, _), (74, _), (88, _)] ⟨rfl, rfl, rfl, rfl, rfl, rfl, rfl, rfl, rfl, trivial⟩ ?_
            cases htk2 : (takes go (A ++ [y]) (Gt.L h k)).2
            · skip
              refine Go'.condT rfl ?_
              refine Go'.seq ?_
              -- region 13 (map.go:532)
              refine Go'.region [(0, 0)] rfl ?_
              refine O.asg rfl rfl rfl rfl rfl ?_
              refine Pl.fin [(0, _), (3, _), (4, _), (10, _), (11, _), (12, _), (50, _), (71, _), (74, _), (88, _)] ⟨rfl, rfl, rfl, rfl, rfl, rfl, rfl, rfl, rfl, rfl, trivial⟩ ?_
              refine Go'.ret (vs := [_]) Go.Proofs.Try.func130 Go.Proofs.Try.results130 ⟨rfl, trivial⟩ ?_
              rw [takes_halt htk2] at ht
              unfold CbPost
              rw [ht]
              exact ⟨by rw [htk2]; rfl, Z6, hT6, hF7, hZ7⟩
            · skip
              refine Go'.condF rfl ?_
              refine Go'.skip ?_
              refine Go'.inBlock ?_
              have htl := takes_length go (Gt.L h k) (A ++ [y])
              -- region 8 (map.go:526)
              refine Go'.region [(0, 0), (1, 0), (2, 0)] rfl ?_
              refine O.mv rfl rfl rfl rfl rfl ?_
              refine O.add (((j + 1 : Nat) : Int)) rfl rfl rfl rfl rfl rfl (by omega) (by omega) ?_
              refine O.asg rfl rfl rfl rfl rfl ?_
              refine Pl.fin [(0, _), (3, _), (4, _), (11, _), (12, _), (50, _), (71, _), (74, _), (88, _)] ⟨rfl, rfl, rfl, rfl, rfl, rfl, rfl, rfl, rfl, trivial⟩ ?_
              refine Go'.keep [(0, _), (3, _), (4, _), (11, _), (12, _)] ⟨rfl, rfl, rfl, rfl, rfl, trivial⟩ ?_
              refine Go'.inLoop ?_
              rw [takes_rest htk2] at ht
              generalize (takes go (A ++ [y]) (Gt.L h k)).1 = A6 at *
              exact ih2 (j + 1, _, Z6, A6) H6 ⟨by (try simp only) <;> omega, rfl, ht, hT6, hF7, hZ7, by (try simp only) <;> omega⟩ (by (try simp only) <;> omega)
        · skip
          refine (show Go' _ _ _ _ _ [(0, .pointer (some ⟨tr, 0, none⟩)), (3, .func (.func g) us.toArray cs.toArray), (4, .bool mt), (11, .pointer (some ⟨gg.p, 0, none⟩)), (12, .int .i64 ((j : Int)))] _ _ from ?_)
          -- region 7 (map.go:526)
          refine Go'.region [(0, 0), (1, 0), (2, 0), (3, 0), (4, 1), (5, 0), (6, 0)] rfl ?_
          refine O.mv rfl rfl rfl rfl rfl ?_
          refine O.mv rfl rfl rfl rfl rfl ?_
          refine O.nc rfl rfl rfl rfl rfl ?_
          refine O.fa0 (off := 2) rfl rfl rfl rfl ⟨_, _, _, Go.Proofs.Try.underlying111, rfl, rfl, Go.Proofs.Try.sizeOf108⟩ rfl ?_
          refine O.ld rfl rfl rfl (fun w => ⟨Go.Proofs.Try.isAgg108 w, Go.Proofs.Try.sizeOf108 w⟩) rfl hI3.n.c2 ?_
          refine O.len rfl rfl rfl rfl Go.Proofs.Try.underlying108 rfl ?_
          refine O.cmp rfl rfl rfl rfl rfl rfl (lssF (by omega)) ?_
          refine Pl.fin [(0, _), (3, _), (4, _), (11, _), (12, _), (50, _)] ⟨rfl, rfl, rfl, rfl, rfl, rfl, trivial⟩ ?_
          rw [List.drop_of_length_le (show X.length ≤ j by omega)] at ht
          refine Go'.condF rfl ?_
          refine Go'.exit rfl ?_
          refine Go'.seq ?_
          -- region 14 (map.go:536)
          refine Go'.region [(0, 0)] rfl ?_
          refine O.asg rfl rfl rfl rfl rfl ?_
          refine Pl.fin [(10, _)] ⟨rfl, trivial⟩ ?_
          refine Go'.ret (vs := [_]) Go.Proofs.Try.func130 Go.Proofs.Try.results130 ⟨rfl, trivial⟩ ?_
          replace ht : takes go acc FULL = (A, true) := ht
          unfold CbPost
          rw [ht]
          exact ⟨rfl, Z1, hT, hF, hZ1⟩
    · skip
      have hW := (Pl.dn_found OI hs hKL hfd).2
      have hlt1 := Pl.fnd_pos_lt OI hfd
      generalize hpi : Pl.pos OI x X = i at *
      generalize hFULL : Pl.up OI x (Pl.inter X (K.map (Gt.L h))) = FULL at *
      -- region 3 (map.go:515)
      refine Go'.region [(0, 0), (1, 0)] rfl ?_
      refine O.mv rfl rfl rfl rfl rfl ?_
      refine O.not rfl rfl rfl rfl rfl ?_
      refine Pl.fin [(0, _), (2, _), (3, _), (4, _), (10, _), (11, _), (12, _), (26, _)] ⟨rfl, rfl, rfl, rfl, rfl, rfl, rfl, rfl, trivial⟩ ?_
      refine Go'.condF rfl ?_
      refine Go'.skip ?_
      refine Go'.seq ?_
      refine Go'.block ?_
      refine Go'.loop ?_
      refine Go'.keep [(0, _), (3, _), (4, _), (11, _), (12, _)] ⟨rfl, rfl, rfl, rfl, rfl, trivial⟩ ?_
      refine Go'.ind (σ := Nat × Int × (Nat → Prop) × List (Int × Int)) (fun s => X.length - s.1) (fun s H' => s.1 ≤ X.length ∧ s.2.1 = (s.1 : Int) ∧ takes go acc FULL = takes go s.2.2.2 (Pl.post (X.drop (s.1)) ((K.map (Gt.L h)).drop (s.1 + 1))) ∧ cb.T s.2.2.2 s.2.2.1 H' ∧ Fr (fun b _ => Z b) H H' ∧ (∀ b, s.2.2.1 b → Z b ∨ H.size ≤ b) ∧ s.2.2.2.length + (Pl.post (X.drop (s.1)) ((K.map (Gt.L h)).drop (s.1 + 1))).length ≤ M)
        (fun s => [(0, .pointer (some ⟨tr, 0, none⟩)), (3, .func (.func g) us.toArray cs.toArray), (4, .bool mt), (11, .pointer (some ⟨gg.p, 0, none⟩)), (12, .int .i64 s.2.1)]) (i, (i : Int), Z, acc) ⟨by (try simp only) <;> omega, by (try simp only) <;> omega, by rw [hW], hst, (Fr.refl _ _), fun b hb => .inl hb, by rw [hW] at hfle; simp only; omega⟩ rfl ?_
      rintro ⟨j, z, Z1, A⟩ H3 ⟨hj, hz, ht, hT, hF, hZ1, hAM⟩ ih2
      simp only at hj hz ht hT hZ1 hAM
      subst hz
      have hI3 := hin H3 hF
      refine Go'.seq ?_
      refine Go'.seq ?_
      by_cases hlt2 : j < X.length
      · skip
        obtain ⟨y, hy⟩ : ∃ y, X[j]? = some y := ⟨X[j], List.getElem?_eq_getElem (by omega)⟩
        obtain ⟨k, hkk⟩ : ∃ k, K[j + 1]? = some k := ⟨K[j + 1], List.getElem?_eq_getElem (by omega)⟩
        have hkL : (K.map (Gt.L h))[j + 1]? = some (Gt.L h k) := by rw [List.getElem?_map, hkk]; rfl
        rw [Pl.post_succ hy hkL] at ht hAM
        rw [List.length_cons, List.length_append] at hAM
        refine (show Go' _ _ _ _ _ [(0, .pointer (some ⟨tr, 0, none⟩)), (3, .func (.func g) us.toArray cs.toArray), (4, .bool mt), (11, .pointer (some ⟨gg.p, 0, none⟩)), (12, .int .i64 ((j : Int)))] _ _ from ?_)
        -- region 7 (map.go:526)
        refine Go'.region [(0, 0), (1, 0), (2, 0), (3, 0), (4, 1), (5, 0), (6, 0)] rfl ?_
        refine O.mv rfl rfl rfl rfl rfl ?_
        refine O.mv rfl rfl rfl rfl rfl ?_
        refine O.nc rfl rfl rfl rfl rfl ?_
        refine O.fa0 (off := 2) rfl rfl rfl rfl ⟨_, _, _, Go.Proofs.Try.underlying111, rfl, rfl, Go.Proofs.Try.sizeOf108⟩ rfl ?_
        refine O.ld rfl rfl rfl (fun w => ⟨Go.Proofs.Try.isAgg108 w, Go.Proofs.Try.sizeOf108 w⟩) rfl hI3.n.c2 ?_
        refine O.len rfl rfl rfl rfl Go.Proofs.Try.underlying108 rfl ?_
        refine O.cmp rfl rfl rfl rfl rfl rfl (lssT (by omega)) ?_
        refine Pl.fin [(0, _), (3, _), (4, _), (11, _), (12, _), (50, _)] ⟨rfl, rfl, rfl, rfl, rfl, rfl, trivial⟩ ?_
        refine Go'.condT rfl ?_
        refine Go'.skip ?_
        refine Go'.seq ?_
        refine Go'.block ?_
        refine Go'.seq ?_
        refine Go'.seq ?_
        cases hgo : go (A ++ [y])
        · skip
          -- region 9 (map.go:527)
          refine Go'.draw (fun _ => True) [(0, 0), (1, 0), (2, 0), (3, 0), (4, 1), (5, 0), (6, 0), (7, 0), (8, 1), (9, 0), (10, 0), (11, 0), (12, 1), (13, 0), (14, 0), (15, 0), (16, 1), (17, 2), (18, 0)] (by kernel_rfl) (by kernel_rfl) (trivial) ?_
          refine O.mv rfl rfl rfl rfl rfl ?_
          refine O.mv rfl rfl rfl rfl rfl ?_
          refine O.nc rfl rfl rfl rfl rfl ?_
          refine O.fa0 (off := 2) rfl rfl rfl rfl ⟨_, _, _, Go.Proofs.Try.underlying111, rfl, rfl, Go.Proofs.Try.sizeOf108⟩ rfl ?_
          refine O.ld rfl rfl rfl (fun w => ⟨Go.Proofs.Try.isAgg108 w, Go.Proofs.Try.sizeOf108 w⟩) rfl hI3.n.c2 ?_
          refine O.mv rfl rfl rfl rfl rfl ?_
          refine O.ix (j := j) rfl rfl rfl rfl Go.Proofs.Try.underlying108 Go.Proofs.Try.sizeOf100 rfl rfl (by omega) (by omega) ?_
          refine O.fa (off := 1) rfl rfl rfl rfl ⟨_, _, _, Go.Proofs.Try.underlying100, rfl, rfl, Go.Proofs.Try.sizeOf3⟩ rfl ?_
          refine O.ld rfl rfl rfl (fun w => ⟨Go.Proofs.Try.isAgg3 w, Go.Proofs.Try.sizeOf3 w⟩) rfl (hI3.n.sl.cell hy (j := 1) rfl) ?_
          refine O.mv rfl rfl rfl rfl rfl ?_
          refine O.nc rfl rfl rfl rfl rfl ?_
          refine O.fa0 (off := 2) rfl rfl rfl rfl ⟨_, _, _, Go.Proofs.Try.underlying111, rfl, rfl, Go.Proofs.Try.sizeOf108⟩ rfl ?_
          refine O.ld rfl rfl rfl (fun w => ⟨Go.Proofs.Try.isAgg108 w, Go.Proofs.Try.sizeOf108 w⟩) rfl hI3.n.c2 ?_
          refine O.mv rfl rfl rfl rfl rfl ?_
          refine O.ix (j := j) rfl rfl rfl rfl Go.Proofs.Try.underlying108 Go.Proofs.Try.sizeOf100 rfl rfl (by omega) (by omega) ?_
          refine O.faz rfl rfl rfl rfl ⟨_, _, _, Go.Proofs.Try.underlying100, rfl, rfl, Go.Proofs.Try.sizeOf3⟩ rfl ?_
          refine O.ld rfl rfl rfl (fun w => ⟨Go.Proofs.Try.isAgg3 w, Go.Proofs.Try.sizeOf3 w⟩) rfl (hI3.n.sl.cell hy (j := 0) rfl) ?_
          refine O.callC rfl rfl rfl rfl hcall rfl (cb.call y hT (by omega)) ?_
          rintro _ H4 ⟨rfl, Z4, hT4, hF4, hZ4⟩
          rw [hgo]
          obtain ⟨hF5, hZ5⟩ := hcat hF hZ1 hF4 hZ4
          refine ⟨trivial, ?_⟩
          refine O.not rfl rfl rfl rfl rfl ?_
          refine Pl.fin [(0, _), (3, _), (4, _), (11, _), (12, _), (50, _), (71, _)] ⟨rfl, rfl, rfl, rfl, rfl, rfl, rfl, trivial⟩ ?_
          refine Go'.condT rfl ?_
          refine Go'.seq ?_
          -- region 10 (map.go:528)
          refine Go'.region [(0, 0)] rfl ?_
          refine O.asg rfl rfl rfl rfl rfl ?_
          refine Pl.fin [(0, _), (3, _), (4, _), (10, _), (11, _), (12, _), (50, _), (71, _)] ⟨rfl, rfl, rfl, rfl, rfl, rfl, rfl, rfl, trivial⟩ ?_
          refine Go'.ret (vs := [_]) Go.Proofs.Try.func130 Go.Proofs.Try.results130 ⟨rfl, trivial⟩ ?_
          rw [takes_cons, hgo] at ht
          unfold CbPost
          rw [ht]
          exact ⟨rfl, Z4, hT4, hF5, hZ5⟩
        · skip
          -- region 9 (map.go:527)
          refine Go'.draw (fun _ => True) [(0, 0), (1, 0), (2, 0), (3, 0), (4, 1), (5, 0), (6, 0), (7, 0), (8, 1), (9, 0), (10, 0), (11, 0), (12, 1), (13, 0), (14, 0), (15, 0), (16, 1), (17, 2), (18, 0)] (by kernel_rfl) (by kernel_rfl) (trivial) ?_
          refine O.mv rfl rfl rfl rfl rfl ?_
          refine O.mv rfl rfl rfl rfl rfl ?_
          refine O.nc rfl rfl rfl rfl rfl ?_
          refine O.fa0 (off := 2) rfl rfl rfl rfl ⟨_, _, _, Go.Proofs.Try.underlying111, rfl, rfl, Go.Proofs.Try.sizeOf108⟩ rfl ?_
          refine O.ld rfl rfl rfl (fun w => ⟨Go.Proofs.Try.isAgg108 w, Go.Proofs.Try.sizeOf108 w⟩) rfl hI3.n.c2 ?_
          refine O.mv rfl rfl rfl rfl rfl ?_
          refine O.ix (j := j) rfl rfl rfl rfl Go.Proofs.Try.underlying108 Go.Proofs.Try.sizeOf100 rfl rfl (by omega) (by omega) ?_
          refine O.fa (off := 1) rfl rfl rfl rfl ⟨_, _, _, Go.Proofs.Try.underlying100, rfl, rfl, Go.Proofs.Try.sizeOf3⟩ rfl ?_
          refine O.ld rfl rfl rfl (fun w => ⟨Go.Proofs.Try.isAgg3 w, Go.Proofs.Try.sizeOf3 w⟩) rfl (hI3.n.sl.cell hy (j := 1) rfl) ?_
          refine O.mv rfl rfl rfl rfl rfl ?_
          refine O.nc rfl rfl rfl rfl rfl ?_
          refine O.fa0 (off := 2) rfl rfl rfl rfl ⟨_, _, _, Go.Proofs.Try.underlying111, rfl, rfl, Go.Proofs.Try.sizeOf108⟩ rfl ?_
          refine O.ld rfl rfl rfl (fun w => ⟨Go.Proofs.Try.isAgg108 w, Go.Proofs.Try.sizeOf108 w⟩) rfl hI3.n.c2 ?_
          refine O.mv rfl rfl rfl rfl rfl ?_
          refine O.ix (j := j) rfl rfl rfl rfl Go.Proofs.Try.underlying108 Go.Proofs.Try.sizeOf100 rfl rfl (by omega) (by omega) ?_
          refine O.faz rfl rfl rfl rfl ⟨_, _, _, Go.Proofs.Try.underlying100, rfl, rfl, Go.Proofs.Try.sizeOf3⟩ rfl ?_
          refine O.ld rfl rfl rfl (fun w => ⟨Go.Proofs.Try.isAgg3 w, Go.Proofs.Try.sizeOf3 w⟩) rfl (hI3.n.sl.cell hy (j := 0) rfl) ?_
          refine O.callC rfl rfl rfl rfl hcall rfl (cb.call y hT (by omega)) ?_
          rintro _ H4 ⟨rfl, Z4, hT4, hF4, hZ4⟩
          rw [hgo]
          obtain ⟨hF5, hZ5⟩ := hcat hF hZ1 hF4 hZ4
          refine ⟨trivial, ?_⟩
          refine O.not rfl rfl rfl rfl rfl ?_
          refine Pl.fin [(0, _), (3, _), (4, _), (11, _), (12, _), (50, _), (71, _)] ⟨rfl, rfl, rfl, rfl, rfl, rfl, rfl, trivial⟩ ?_
          rw [takes_cons, hgo, if_pos rfl] at ht
          refine Go'.condF rfl ?_
          refine Go'.skip ?_
          refine Go'.seq ?_
          have hI4 := hin H4 hF5
          have hAy : (A ++ [y]).length = A.length + 1 := by simp
          -- region 11 (map.go:530)
          refine Go'.region [(0, 0), (1, 2), (2, 0)] rfl ?_
          refine O.mv rfl rfl rfl rfl rfl ?_
          refine O.callQ rfl rfl rfl Go.Proofs.Try.call86 rfl (leaf_spec hI4.n.c3) trivial ?_
          refine O.not rfl rfl rfl rfl rfl ?_
          refine Pl.fin [(0, _), (3, _), (4, _), (11, _), (12, _), (50, _), (71, _), (74, _)] ⟨rfl, rfl, rfl, rfl, rfl, rfl, rfl, rfl, trivial⟩ ?_
          refine Go'.condT rfl ?_
          refine Go'.seq ?_
          -- region 12 (map.go:531)
          refine Go'.region [(0, 0), (1, 0), (2, 0), (3, 0), (4, 1), (5, 0), (6, 1), (7, 0), (8, 0), (9, 0), (10, 0), (11, 0), (12, 2), (13, 0)] rfl ?_
          refine O.mv rfl rfl rfl rfl rfl ?_
          refine O.mv rfl rfl rfl rfl rfl ?_
          refine O.nc rfl rfl rfl rfl rfl ?_
          refine O.fa0 (off := 3) rfl rfl rfl rfl ⟨_, _, _, Go.Proofs.Try.underlying111, rfl, rfl, Go.Proofs.Try.sizeOf109⟩ rfl ?_
          refine O.ld rfl rfl rfl (fun w => ⟨Go.Proofs.Try.isAgg109 w, Go.Proofs.Try.sizeOf109 w⟩) rfl hI4.n.c3 ?_
          refine O.nc rfl rfl rfl rfl rfl ?_
          refine O.ld rfl rfl rfl (fun w => ⟨Go.Proofs.Try.isAgg112 w, Go.Proofs.Try.sizeOf112 w⟩) rfl hI4.k.c ?_
          refine O.mv rfl rfl rfl rfl rfl ?_
          refine O.add (((j + 1 : Nat) : Int)) rfl rfl rfl rfl rfl rfl (by omega) (by omega) ?_
          refine O.ix (j := j + 1) rfl rfl rfl rfl Go.Proofs.Try.underlying112 Go.Proofs.Try.sizeOf103 rfl rfl (by omega) (by omega) ?_
          refine O.mv rfl rfl rfl rfl rfl ?_
          refine O.mv rfl rfl rfl rfl rfl ?_
          refine O.call rfl rfl rfl Go.Proofs.Try.call116 rfl (nscan cb hcall hP mt h (hkid hkk hF5 hT4 hZ5 (by omega))) ?_
          rintro _ H6 ⟨rfl, Z6, hT6, hF6, hZ6⟩
          obtain ⟨hF7, hZ7⟩ := hcat hF5 hZ5 hF6 hZ6
          refine ⟨trivial, ?_⟩
          refine O.not rfl rfl rfl rfl rfl ?_
          refine Pl.fin [(0, _), (3, _), (4, _), (11, _), (12, _), (50, _), (71, _), (74, _), (88, _)] ⟨rfl, rfl, rfl, rfl, rfl, rfl, rfl, rfl, rfl, trivial⟩ ?_
          cases htk2 : (takes go (A ++ [y]) (Gt.L h k)).2
          · skip
            refine Go'.condT rfl ?_
            refine Go'.seq ?_
            -- region 13 (map.go:532)
            refine Go'.region [(0, 0)] rfl ?_
            refine O.asg rfl rfl rfl rfl rfl ?_
            refine Pl.fin [(0, _), (3, _), (4, _), (10, _), (11, _), (12, _), (50, _), (71, _), (74, _), (88, _)] ⟨rfl, rfl, rfl, rfl, rfl, rfl, rfl, rfl, rfl, rfl, trivial⟩ ?_
            refine Go'.ret (vs := [_]) Go.Proofs.Try.func130 Go.Proofs.Try.results130 ⟨rfl, trivial⟩ ?_
            rw [takes_halt htk2] at ht
            unfold CbPost
            rw [ht]
            exact ⟨by rw [htk2]; rfl, Z6, hT6, hF7, hZ7⟩
          · skip
            refine Go'.condF rfl ?_
            refine Go'.skip ?_
            refine Go'.inBlock ?_
            have htl := takes_length go (Gt.L h k) (A ++ [y])
            -- region 8 (map.go:526)
            refine Go'.region [(0, 0), (1, 0), (2, 0)] rfl ?_
            refine O.mv rfl rfl rfl rfl rfl ?_
            refine O.add (((j + 1 : Nat) : Int)) rfl rfl rfl rfl rfl rfl (by omega) (by omega) ?_
            refine O.asg rfl rfl rfl rfl rfl ?_
            refine Pl.fin [(0, _), (3, _), (4, _), (11, _), (12, _), (50, _), (71, _), (74, _), (88, _)] ⟨rfl, rfl, rfl, rfl, rfl, rfl, rfl, rfl, rfl, trivial⟩ ?_
            refine Go'.keep [(0, _), (3, _), (4, _), (11, _), (12, _)] ⟨rfl, rfl, rfl, rfl, rfl, trivial⟩ ?_
            refine Go'.inLoop ?_
            rw [takes_rest htk2] at ht
            generalize (takes go (A ++ [y]) (Gt.L h k)).1 = A6 at *
            exact ih2 (j + 1, _, Z6, A6) H6 ⟨by (try simp only) <;> omega, rfl, ht, hT6, hF7, hZ7, by (try simp only) <;> omega⟩ (by (try simp only) <;> omega)
      · skip
        refine (show Go' _ _ _ _ _ [(0, .pointer (some ⟨tr, 0, none⟩)), (3, .func (.func g) us.toArray cs.toArray), (4, .bool mt), (11, .pointer (some ⟨gg.p, 0, none⟩)), (12, .int .i64 ((j : Int)))] _ _ from ?_)
        -- region 7 (map.go:526)
        refine Go'.region [(0, 0), (1, 0), (2, 0), (3, 0), (4, 1), (5, 0), (6, 0)] rfl ?_
        refine O.mv rfl rfl rfl rfl rfl ?_
        refine O.mv rfl rfl rfl rfl rfl ?_
        refine O.nc rfl rfl rfl rfl rfl ?_
        refine O.fa0 (off := 2) rfl rfl rfl rfl ⟨_, _, _, Go.Proofs.Try.underlying111, rfl, rfl, Go.Proofs.Try.sizeOf108⟩ rfl ?_
        refine O.ld rfl rfl rfl (fun w => ⟨Go.Proofs.Try.isAgg108 w, Go.Proofs.Try.sizeOf108 w⟩) rfl hI3.n.c2 ?_
        refine O.len rfl rfl rfl rfl Go.Proofs.Try.underlying108 rfl ?_
        refine O.cmp rfl rfl rfl rfl rfl rfl (lssF (by omega)) ?_
        refine Pl.fin [(0, _), (3, _), (4, _), (11, _), (12, _), (50, _)] ⟨rfl, rfl, rfl, rfl, rfl, rfl, trivial⟩ ?_
        rw [List.drop_of_length_le (show X.length ≤ j by omega)] at ht
        refine Go'.condF rfl ?_
        refine Go'.exit rfl ?_
        refine Go'.seq ?_
        -- region 14 (map.go:536)
        refine Go'.region [(0, 0)] rfl ?_
        refine O.asg rfl rfl rfl rfl rfl ?_
        refine Pl.fin [(10, _)] ⟨rfl, trivial⟩ ?_
        refine Go'.ret (vs := [_]) Go.Proofs.Try.func130 Go.Proofs.Try.results130 ⟨rfl, trivial⟩ ?_
        replace ht : takes go acc FULL = (A, true) := ht
        unfold CbPost
        rw [ht]
        exact ⟨rfl, Z1, hT, hF, hZ1⟩

theorem ascend_spec {B : World} {g : FuncId} {us cs : List Value} {go : List (Int × Int) → Bool} {M : Nat} (cb : Cb Try.prog B encKV g us cs go M) (hcall : ∀ (args : Array Value) (w : World), (callFunc g args).run Try.prog w = .ok (.enter g args) w) {tr : Nat} {P : Ps} (hP : PsOk P) (mt : Bool) (x : Int × Int) {H : Mem} {S : Nat → Prop} {l : List (Int × Int)} {Z : Nat → Prop} (hM : MapM H tr P S l) (hT : cb.T [] Z H) (hd : ∀ b, S b → ¬ Z b) (hl : l.length ≤ M) :
    Fn Try.prog B 107 [.pointer (some ⟨tr, 0, none⟩), .int .i64 x.1, .func (.func g) us.toArray cs.toArray, .bool mt] H (fun _ H' => CbPost cb [] Z H (Pl.up OI x (l)) H') := by
  obtain ⟨tc, srt, cnt, own, lt, hr⟩ := hM
  rcases hr with ⟨rfl, hptr⟩ | ⟨h, t, hg, hx1, e, hc, hnt, hown⟩
  · skip
    refine fn_of Go.Proofs.Try.func107 rfl Go.Proofs.Try.ntmps107 ?_
    refine (show Go' _ _ _ _ 21 [(0, _), (1, _), (2, _), (3, _)] [.code _] _ from ?_)
    refine Go'.seq ?_
    refine Go'.seq ?_
    -- region 0 (map.go:502)
    refine Go'.region [(0, 0), (1, 0), (2, 0), (3, 1), (4, 0)] rfl ?_
    refine O.mv rfl rfl rfl rfl rfl ?_
    refine O.nc rfl rfl rfl rfl rfl ?_
    refine O.fa0 (off := 2) rfl rfl rfl rfl ⟨_, _, _, Go.Proofs.Try.underlying105, rfl, rfl, Go.Proofs.Try.sizeOf103⟩ rfl ?_
    refine O.ld rfl rfl rfl (fun w => ⟨Go.Proofs.Try.isAgg103 w, Go.Proofs.Try.sizeOf103 w⟩) rfl hptr ?_
    refine O.isNil rfl rfl rfl rfl Go.Proofs.Try.underlying103 rfl rfl ?_
    refine Pl.fin [(0, _), (1, _), (2, _), (3, _), (12, _)] ⟨rfl, rfl, rfl, rfl, rfl, trivial⟩ ?_
    refine Go'.condT rfl ?_
    refine Go'.ret Go.Proofs.Try.func107 Go.Proofs.Try.results107 (vs := []) trivial ?_
    exact ⟨Z, hT, Fr.refl _ _, fun b hb => .inl hb⟩
  · skip
    have hptr : cl H tr 2 = some (.pointer (some ⟨Gt.p h t, 0, none⟩)) := hc
    refine fn_of Go.Proofs.Try.func107 rfl Go.Proofs.Try.ntmps107 ?_
    refine (show Go' _ _ _ _ 21 [(0, _), (1, _), (2, _), (3, _)] [.code _] _ from ?_)
    refine Go'.seq ?_
    refine Go'.seq ?_
    -- region 0 (map.go:502)
    refine Go'.region [(0, 0), (1, 0), (2, 0), (3, 1), (4, 0)] rfl ?_
    refine O.mv rfl rfl rfl rfl rfl ?_
    refine O.nc rfl rfl rfl rfl rfl ?_
    refine O.fa0 (off := 2) rfl rfl rfl rfl ⟨_, _, _, Go.Proofs.Try.underlying105, rfl, rfl, Go.Proofs.Try.sizeOf103⟩ rfl ?_
    refine O.ld rfl rfl rfl (fun w => ⟨Go.Proofs.Try.isAgg103 w, Go.Proofs.Try.sizeOf103 w⟩) rfl hptr ?_
    refine O.isNil rfl rfl rfl rfl Go.Proofs.Try.underlying103 rfl rfl ?_
    refine Pl.fin [(0, _), (1, _), (2, _), (3, _), (12, _)] ⟨rfl, rfl, rfl, rfl, rfl, trivial⟩ ?_
    refine Go'.condF rfl ?_
    refine Go'.skip ?_
    -- region 1 (map.go:505)
    refine Go'.region [(0, 0), (1, 0), (2, 0), (3, 0), (4, 0), (5, 0), (6, 0), (7, 2)] rfl ?_
    refine O.mv rfl rfl rfl rfl rfl ?_
    refine O.mv rfl rfl rfl rfl rfl ?_
    refine O.nc rfl rfl rfl rfl rfl ?_
    refine O.fa0 (off := 2) rfl rfl rfl rfl ⟨_, _, _, Go.Proofs.Try.underlying105, rfl, rfl, Go.Proofs.Try.sizeOf103⟩ rfl ?_
    refine O.mv rfl rfl rfl rfl rfl ?_
    refine O.mv rfl rfl rfl rfl rfl ?_
    refine O.mv rfl rfl rfl rfl rfl ?_
    refine O.call rfl rfl rfl Go.Proofs.Try.call130 rfl (nasc cb hcall hP mt x h ⟨tc, hg, hc, fun b o hb => hd b (hown b o hb), hd _ own, hT, by rw [e]; simpa using hl⟩ (by rw [e]; exact srt)) ?_
    rintro _ H2 ⟨rfl, hpost⟩
    refine ⟨trivial, ?_⟩
    refine Pl.fin [] trivial ?_
    refine Go'.fall Go.Proofs.Try.func107 Go.Proofs.Try.results107 (vs := []) trivial ?_
    rw [e] at hpost
    exact hpost

theorem Ascend_spec {B : World} {g : FuncId} {us cs : List Value} {go : List (Int × Int) → Bool} {M : Nat} (cb : Cb Try.prog B encKV g us cs go M) (hcall : ∀ (args : Array Value) (w : World), (callFunc g args).run Try.prog w = .ok (.enter g args) w) {tr : Nat} {P : Ps} (hP : PsOk P) (x : Int × Int) {H : Mem} {S : Nat → Prop} {l : List (Int × Int)} {Z : Nat → Prop} (hM : MapM H tr P S l) (hT : cb.T [] Z H) (hd : ∀ b, S b → ¬ Z b) (hl : l.length ≤ M) :
    Fn Try.prog B 72 [.pointer (some ⟨tr, 0, none⟩), .int .i64 x.1, .func (.func g) us.toArray cs.toArray] H (fun _ H' => CbPost cb [] Z H (Pl.up OI x (l)) H') := by
  refine fn_of Go.Proofs.Try.func72 rfl Go.Proofs.Try.ntmps72 ?_
  refine (show Go' _ _ _ _ 10 [(0, _), (1, _), (2, _)] [.code _] _ from ?_)
  -- region 0 (map.go:494)
  refine Go'.region [(0, 0), (1, 0), (2, 0), (3, 2)] rfl ?_
  refine O.mv rfl rfl rfl rfl rfl ?_
  refine O.mv rfl rfl rfl rfl rfl ?_
  refine O.mv rfl rfl rfl rfl rfl ?_
  refine O.call rfl rfl rfl Go.Proofs.Try.call107 rfl (ascend_spec cb hcall hP false x hM hT hd hl) ?_
  rintro _ H2 hpost
  refine ⟨trivial, ?_⟩
  refine Pl.fin [] trivial ?_
  refine Go'.fall Go.Proofs.Try.func72 Go.Proofs.Try.results72 (vs := []) trivial ?_
  exact hpost

theorem mascend_spec {B : World} {H : Mem} {d : Nat} {u : Value} {l : List (Int × Int)} {x : Int × Int} {n : Int} (hd : 2 ≤ d ∧ d ≤ 128) (hi : InS EJ H u l) (hll : l.length ≤ 4294967296) :
    Fn Try.prog B 41 [.int .i64 (d : Int), u, .int .i64 x.1, .int .i64 n] H (fun r H' => OutS EJ H' r (firstN (Pl.up OI x (Pl.puts OI l)) n) ∧ Fr nowhere H H') := by
  have hP : PsOk ⟨0, 2 * d - 1, d - 1⟩ := ⟨by show 2 * d - 1 = 2 * (d - 1) + 1; omega, by show 1 ≤ d - 1; omega, by show 2 * d - 1 ≤ 255; omega⟩
  have hpl := Pl.puts_length OI l
  refine fn_of Go.Proofs.Try.func41 rfl Go.Proofs.Try.ntmps41 ?_
  refine (show Go' _ _ _ _ 18 [(0, _), (1, _), (2, _), (3, _)] [.code _] _ from ?_)
  refine Go'.seq ?_
  -- region 0 (map.go:216)
  refine Go'.region [(0, 0)] rfl ?_
  refine O.asg rfl rfl rfl rfl rfl ?_
  refine Pl.fin [(0, _), (1, _), (2, _), (3, _), (8, _)] ⟨rfl, rfl, rfl, rfl, rfl, trivial⟩ ?_
  refine Go'.seq ?_
  -- region 1 (map.go:217)
  refine Go'.region [(0, 2)] rfl ?_
  refine O.alloc rfl rfl rfl Go.Proofs.Try.zeroValue22 ?_
  intro H1 M1
  refine ⟨trivial, ?_⟩
  have hs1 := M1.size
  have hD : cl H1 H.size 0 = some (.slice none 0 0) := (M1.cl 0).trans rfl
  have hw := M1.wr 1 (by decide)
  replace hi := hi.fr (M1.fr nowhere)
  refine Pl.fin [(0, _), (1, _), (2, _), (3, _), (8, _), (9, _)] ⟨rfl, rfl, rfl, rfl, rfl, rfl, trivial⟩ ?_
  refine Go'.seq ?_
  -- region 2 (map.go:218)
  refine Go'.region [(0, 0), (1, 0), (2, 2), (3, 0), (4, 0), (5, 2), (6, 2)] rfl ?_
  refine O.mv rfl rfl rfl rfl rfl ?_
  refine O.mv rfl rfl rfl rfl rfl ?_
  refine O.call rfl rfl rfl Go.Proofs.Try.call52 rfl (growMap_spec hd hi hll) ?_
  rintro _ H2 ⟨tr, S, rfl, hM, hF2, hS⟩
  have hs2 := hF2.size
  replace hD := hF2.keep hD nw
  replace hw := hF2.wr hw
  have hSl := hM.lt
  refine ⟨trivial, ?_⟩
  refine O.mv rfl rfl rfl rfl rfl ?_
  refine O.mv rfl rfl rfl rfl rfl ?_
  refine O.call rfl rfl rfl Go.Proofs.Try.call59 rfl (pairs_spec (n := n) hD hw) ?_
  rintro _ H3 ⟨pb, b2, b3, Z, rfl, hT, hF3, hZ⟩
  replace hM := hM.fr hF3 (fun _ _ _ => nw)
  refine ⟨trivial, ?_⟩
  refine O.call rfl rfl rfl Go.Proofs.Try.call72 rfl (Ascend_spec (cbPairs B pb b2 b3 H.size n) Try.call96 hP x hM hT (fun b hb hz => (hZ b hz).elim (fun h => by have := hS b hb; omega) (fun h => by have := hSl b hb; omega)) (by omega)) ?_
  rintro _ H4 ⟨Z4, hT4, hF4, hZ4⟩
  obtain ⟨v, hv, hov⟩ := PrT.out hT4
  rw [takes_first] at hov
  refine ⟨trivial, ?_⟩
  refine Pl.fin [(8, _), (9, _)] ⟨rfl, rfl, trivial⟩ ?_
  refine Go'.seq ?_
  -- region 3 (map.go:219)
  refine Go'.region [(0, 1), (1, 0)] rfl ?_
  refine O.ld rfl rfl rfl (fun w => ⟨Go.Proofs.Try.isAgg22 w, Go.Proofs.Try.sizeOf22 w⟩) rfl hv ?_
  refine O.asg rfl rfl rfl rfl rfl ?_
  refine Pl.fin [(8, _)] ⟨rfl, trivial⟩ ?_
  refine Go'.ret (vs := [_]) Go.Proofs.Try.func41 Go.Proofs.Try.results41 ⟨rfl, trivial⟩ ?_
  exact ⟨hov, (((M1.fr nowhere).trans hF2).trans hF3).trans' hF4 (fun _ _ _ h => h) (fun b o hb hz => (hZ b hz).elim (fun h => by omega) (fun h => by omega))⟩

end Go.Bt
namespace Go.Bt
open Go Go.Proofs
set_option maxRecDepth 20000
set_option maxHeartbeats 4000000
set_option linter.unusedVariables false

namespace Pl
variable {α : Type} (O : Swo α)
theorem dn_nlt {x y : α} {L : List α} (hs : Srt O L) (hy : y ∈ dn O x L) : O.lt x y = false := by
  unfold dn at hy
  obtain ⟨i, hi⟩ := List.mem_iff_getElem?.1 hy
  have hl := (List.getElem?_eq_some_iff.1 hi).1
  rw [List.length_take] at hl
  rw [List.getElem?_take] at hi
  have : i < pos O x L + (fnd O x L).toNat := by omega
  rw [if_pos this] at hi
  exact (dn_step O hs hi).2 this
theorem up_nlt {x y : α} {L : List α} (hs : Srt O L) (hy : y ∈ up O x L) : O.lt y x = false := by
  unfold up at hy
  have h1 := (pos_split O x L).2
  have hs2 : Srt O (L.drop (pos O x L)) := List.Pairwise.sublist (List.drop_sublist _ _) hs
  cases hd : L.drop (pos O x L) with
  | nil => rw [hd] at hy; cases hy
  | cons h t =>
    rw [hd] at hy hs2 h1
    have hh := h1 h rfl
    rcases List.mem_cons.1 hy with rfl | hy
    · exact hh
    · cases hz : O.lt y x with
      | false => rfl
      | true =>
        have := O.trans ((List.pairwise_cons.1 hs2).1 y hy) hz
        rw [hh] at this; cases this
theorem split_true {x : α} {L : List α} (hs : Srt O L) (hf : fnd O x L = true) : ∃ y A C, L = A ++ y :: C ∧ dn O x L = A ++ [y] ∧ up O x L = y :: C ∧ O.lt y x = false ∧ O.lt x y = false := by
  obtain ⟨y, hy, h1, h2⟩ := fnd_at O hs hf
  have hl := (List.getElem?_eq_some_iff.1 hy).1
  have hg := (List.getElem?_eq_some_iff.1 hy).2
  have hd : L.drop (pos O x L) = y :: L.drop (pos O x L + 1) := by rw [← List.getElem_cons_drop (h := hl), hg]
  refine ⟨y, L.take (pos O x L), L.drop (pos O x L + 1), ?_, ?_, hd, h1, h2⟩
  · rw [← hd, List.take_append_drop]
  · unfold dn
    rw [hf, show pos O x L + true.toNat = pos O x L + 1 from rfl, List.take_add_one, hy]
    rfl
theorem split_false {x : α} {L : List α} (hf : fnd O x L = false) : dn O x L ++ up O x L = L ∧ ∀ y, (up O x L)[0]? = some y → O.lt x y = true := by
  constructor
  · unfold dn up
    rw [hf]
    exact List.take_append_drop _ _
  · intro y hy
    unfold up at hy
    rw [List.getElem?_drop, Nat.add_zero] at hy
    unfold fnd at hf
    rw [hy] at hf
    simpa using hf
end Pl

theorem fnMSplits {B : World} {H : Mem} {z : Int} {u : Value} {l : List (Int × Int)} {p : Int} (hi : InS EJ H u l) :
    Fn Try.prog B 12 [.int .i64 z, u, .int .i64 p] H (fun r H' => r = .bool true ∧ Fr nowhere H H') := by
  obtain ⟨a, c, hu⟩ := hi.len
  subst hu
  have hpl := Pl.puts_length OI l
  have hsrt := Pl.puts_srt OI l
  have hf0 : ∀ m : List (Int × Int), firstN m 0 = m := fun m => by unfold firstN; simp
  refine fn_of Go.Proofs.Try.func12 rfl Go.Proofs.Try.ntmps12 ?_
  refine (show Go' _ _ _ _ 90 [(0, _), (1, _), (2, _)] [.code _] _ from ?_)
  refine Go'.seq ?_
  -- region 0 (others.go:225)
  refine Go'.region [(0, 0)] rfl ?_
  refine O.asg rfl rfl rfl rfl rfl ?_
  refine Pl.fin [(0, _), (1, _), (2, _), (6, _)] ⟨rfl, rfl, rfl, rfl, trivial⟩ ?_
  refine Go'.seq ?_
  refine Go'.seq ?_
  by_cases hbig : (2147483647 : Int) < (l.length : Int)
  · skip
    -- region 1 (others.go:226)
    refine Go'.region [(0, 0), (1, 0), (2, 0)] rfl ?_
    refine O.mv rfl rfl rfl rfl rfl ?_
    refine O.len rfl rfl rfl rfl Go.Proofs.Try.underlying22 rfl ?_
    refine O.cmp rfl rfl rfl rfl rfl rfl (gtrT (by omega)) ?_
    refine Pl.fin [(0, _), (1, _), (2, _), (6, _), (15, _)] ⟨rfl, rfl, rfl, rfl, rfl, trivial⟩ ?_
    refine Go'.condT rfl ?_
    refine Go'.seq ?_
    -- region 2 (others.go:227)
    refine Go'.region [(0, 0)] rfl ?_
    refine O.asg rfl rfl rfl rfl rfl ?_
    refine Pl.fin [(0, _), (1, _), (2, _), (6, _)] ⟨rfl, rfl, rfl, rfl, trivial⟩ ?_
    refine Go'.ret (vs := [_]) Go.Proofs.Try.func12 Go.Proofs.Try.results12 ⟨rfl, trivial⟩ ?_
    exact ⟨rfl, Fr.refl _ _⟩
  · skip
    -- region 1 (others.go:226)
    refine Go'.region [(0, 0), (1, 0), (2, 0)] rfl ?_
    refine O.mv rfl rfl rfl rfl rfl ?_
    refine O.len rfl rfl rfl rfl Go.Proofs.Try.underlying22 rfl ?_
    refine O.cmp rfl rfl rfl rfl rfl rfl (gtrF (by omega)) ?_
    refine Pl.fin [(0, _), (1, _), (2, _), (6, _), (15, _)] ⟨rfl, rfl, rfl, rfl, rfl, trivial⟩ ?_
    refine Go'.condF rfl ?_
    refine Go'.skip ?_
    refine Go'.seq ?_
    refine Go'.seq ?_
    cases hfz : fitb z
    · skip
      -- region 3 (others.go:229)
      refine Go'.region [(0, 0), (1, 2), (2, 0)] rfl ?_
      refine O.mv rfl rfl rfl rfl rfl ?_
      refine O.callQ rfl rfl rfl Go.Proofs.Try.call21 rfl (fit_spec' hfz) trivial ?_
      refine O.not rfl rfl rfl rfl rfl ?_
      refine Pl.fin [(0, _), (1, _), (2, _), (6, _), (18, _)] ⟨rfl, rfl, rfl, rfl, rfl, trivial⟩ ?_
      refine Go'.condT rfl ?_
      refine Go'.seq ?_
      -- region 4 (others.go:230)
      refine Go'.region [(0, 2), (1, 0)] rfl ?_
      refine O.call rfl rfl rfl Go.Proofs.Try.call23 rfl aliveM_spec ?_
      rintro _ H1 ⟨rfl, hF1⟩
      refine ⟨trivial, ?_⟩
      refine O.asg rfl rfl rfl rfl rfl ?_
      refine Pl.fin [(0, _), (1, _), (2, _), (6, _)] ⟨rfl, rfl, rfl, rfl, trivial⟩ ?_
      refine Go'.ret (vs := [_]) Go.Proofs.Try.func12 Go.Proofs.Try.results12 ⟨rfl, trivial⟩ ?_
      exact ⟨rfl, hF1⟩
    · skip
      obtain ⟨d, rfl, hd⟩ := fitb_nat hfz
      -- region 3 (others.go:229)
      refine Go'.region [(0, 0), (1, 2), (2, 0)] rfl ?_
      refine O.mv rfl rfl rfl rfl rfl ?_
      refine O.callQ rfl rfl rfl Go.Proofs.Try.call21 rfl (fit_spec' hfz) trivial ?_
      refine O.not rfl rfl rfl rfl rfl ?_
      refine Pl.fin [(0, _), (1, _), (2, _), (6, _), (18, _)] ⟨rfl, rfl, rfl, rfl, rfl, trivial⟩ ?_
      refine Go'.condF rfl ?_
      refine Go'.skip ?_
      refine Go'.seq ?_
      have hdl : (Pl.dn OI (p, (0 : Int)) (Pl.puts OI l)).length ≤ (Pl.puts OI l).length := by unfold Pl.dn; rw [List.length_take]; omega
      have hul : (Pl.up OI (p, (0 : Int)) (Pl.puts OI l)).length ≤ (Pl.puts OI l).length := by unfold Pl.up; rw [List.length_drop]; omega
      have hrl : (Pl.dn OI (p, (0 : Int)) (Pl.puts OI l)).reverse.length = (Pl.dn OI (p, (0 : Int)) (Pl.puts OI l)).length := List.length_reverse
      have hdle := fun y => Pl.dn_nlt OI (x := (p, (0 : Int))) (y := y) hsrt
      have huge := fun y => Pl.up_nlt OI (x := (p, (0 : Int))) (y := y) hsrt
      have hst := Pl.split_true OI (x := (p, (0 : Int))) hsrt
      have hsf := Pl.split_false OI (x := (p, (0 : Int))) (L := Pl.puts OI l)
      generalize hDD : Pl.dn OI (p, (0 : Int)) (Pl.puts OI l) = DD at *
      generalize hUU : Pl.up OI (p, (0 : Int)) (Pl.puts OI l) = UU at *
      clear hsrt
      -- region 5 (others.go:232)
      refine Go'.region [(0, 0), (1, 0), (2, 0), (3, 2), (4, 2), (5, 0), (6, 0), (7, 0), (8, 2), (9, 0), (10, 0)] rfl ?_
      refine O.mv rfl rfl rfl rfl rfl ?_
      refine O.mv rfl rfl rfl rfl rfl ?_
      refine O.mv rfl rfl rfl rfl rfl ?_
      refine O.call rfl rfl rfl Go.Proofs.Try.call40 rfl (mdescend_spec (x := (p, (0 : Int))) hd hi (by omega)) ?_
      rintro v1 H1 ⟨h1, hF1⟩
      replace hi := hi.fr hF1
      rw [hf0, hDD] at h1
      refine ⟨trivial, ?_⟩
      refine O.call rfl rfl rfl Go.Proofs.Try.call36 rfl (SI.turnedA_spec h1.inS (by omega)) ?_
      rintro v2 H2 ⟨h2, hF2⟩
      replace hi := hi.fr hF2
      rw [List.reverse_reverse] at h2
      refine ⟨trivial, ?_⟩
      refine O.mv rfl rfl rfl rfl rfl ?_
      refine O.mv rfl rfl rfl rfl rfl ?_
      refine O.mv rfl rfl rfl rfl rfl ?_
      refine O.call rfl rfl rfl Go.Proofs.Try.call41 rfl (mascend_spec (x := (p, (0 : Int))) hd hi (by omega)) ?_
      rintro v3 H3 ⟨h3, hF3⟩
      replace hi := hi.fr hF3
      rw [hf0, hUU] at h3
      have hD := h2.inS.fr hF3
      have hU := h3.inS
      have hF := (hF1.trans hF2).trans hF3
      clear h1 h2 h3 hF1 hF2 hF3
      obtain ⟨a1, c1, rfl⟩ := hD.len
      obtain ⟨a2, c2, rfl⟩ := hU.len
      refine ⟨trivial, ?_⟩
      refine O.asg rfl rfl rfl rfl rfl ?_
      refine O.asg rfl rfl rfl rfl rfl ?_
      refine Pl.fin [(0, _), (1, _), (2, _), (6, _), (7, _), (8, _)] ⟨rfl, rfl, rfl, rfl, rfl, rfl, trivial⟩ ?_
      refine Go'.seq ?_
      refine Go'.seq ?_
      -- region 6 (others.go:233)
      refine Go'.region [(0, 0), (1, 0), (2, 0)] rfl ?_
      refine O.mv rfl rfl rfl rfl rfl ?_
      refine O.len rfl rfl rfl rfl Go.Proofs.Try.underlying22 rfl ?_
      refine O.mv rfl rfl rfl rfl rfl ?_
      refine Pl.fin [(0, _), (1, _), (2, _), (6, _), (7, _), (8, _), (29, _), (30, _), (31, _)] ⟨rfl, rfl, rfl, rfl, rfl, rfl, rfl, rfl, rfl, trivial⟩ ?_
      refine Go'.block ?_
      refine Go'.loop ?_
      refine Go'.keep [(0, _), (1, _), (2, _), (7, _), (8, _), (29, _), (30, _), (31, _)] ⟨rfl, rfl, rfl, rfl, rfl, rfl, rfl, rfl, trivial⟩ ?_
      refine Go'.ind (σ := Nat) (fun j => DD.length - j) (fun j H' => Fr nowhere H3 H' ∧ j ≤ DD.length)
        (fun j => [(0, .int .i64 (d : Int)), (1, .slice a l.length c), (2, .int .i64 p), (7, .slice a1 DD.length c1), (8, .slice a2 UU.length c2), (29, .slice a1 DD.length c1), (30, .int .i64 (DD.length : Int)), (31, .int .i64 (j : Int))]) 0 ⟨Fr.refl _ _, Nat.zero_le _⟩ rfl ?_
      rintro j H4 ⟨hF2, hjl⟩ ih
      have hL2 := hD.fr hF2
      have hsz := hF2.size
      refine Go'.seq ?_
      by_cases hlt : j < DD.length
      · skip
        obtain ⟨y, hy⟩ : ∃ y, DD[j]? = some y := ⟨DD[j], List.getElem?_eq_getElem hlt⟩
        obtain ⟨b, o, c', e, hr⟩ := hL2.at hy
        cases e
        have hyp : y.1 ≤ p := by
          have := of_decide_eq_false (hdle y (List.mem_of_getElem? hy))
          simp only at this; omega
        -- region 7 (others.go:233)
        refine Go'.region [(0, 0)] rfl ?_
        refine O.cmp rfl rfl rfl rfl rfl rfl (lssT (by omega)) ?_
        refine Pl.fin [(0, _), (1, _), (2, _), (7, _), (8, _), (29, _), (30, _), (31, _), (32, _)] ⟨rfl, rfl, rfl, rfl, rfl, rfl, rfl, rfl, rfl, trivial⟩ ?_
        refine Go'.seq ?_
        refine Go'.condT rfl ?_
        refine Go'.skip ?_
        refine Go'.seq ?_
        refine Go'.block ?_
        refine Go'.seq ?_
        -- region 8 (others.go:233)
        refine Go'.region [(0, 0), (1, 1), (2, 2), (3, 2)] rfl ?_
        refine O.ix (j := j) rfl rfl rfl rfl Go.Proofs.Try.underlying22 Go.Proofs.Try.sizeOf35 rfl rfl (by omega) hlt ?_
        refine O.lds rfl rfl rfl (fun w => ⟨Go.Proofs.Try.isAgg35 w, Go.Proofs.Try.sizeOf35 w⟩) rfl rfl hr ?_
        refine O.alloc rfl rfl rfl Go.Proofs.Try.zeroValue35 ?_
        intro H5 M3
        refine ⟨trivial, ?_⟩
        have hs3 := M3.size
        have m3 : Wr H5 H4.size 0 2 := M3.wr 2 (by decide)
        refine O.st rfl rfl Go.Proofs.Try.sizeOf35 rfl rfl rfl rfl rfl m3 ?_
        intro H6 W4
        have hs4 := W4.size
        have hF4 : Fr nowhere H3 H6 := hF2.trans' ((M3.fr nowhere).trans' W4.fr (Z := nowhere) (fun _ _ _ h => h) (fun b o hb hz => by have h1 := hz.1; omega)) (fun _ _ _ h => h) (fun _ _ _ h => h)
        have hx4 : Rd H6 H4.size 0 (EJ.enc y) := W4.all
        refine ⟨trivial, ?_⟩
        refine Pl.fin [(0, _), (1, _), (2, _), (7, _), (8, _), (10, _), (29, _), (30, _), (31, _), (32, _)] ⟨rfl, rfl, rfl, rfl, rfl, rfl, rfl, rfl, rfl, rfl, trivial⟩ ?_
        refine Go'.seq ?_
        -- region 9 (others.go:234)
        refine Go'.region [(0, 0), (1, 1), (2, 0), (3, 0)] rfl ?_
        refine O.faz rfl rfl rfl rfl ⟨_, _, _, Go.Proofs.Try.underlying35, rfl, rfl, Go.Proofs.Try.sizeOf3⟩ rfl ?_
        refine O.ld rfl rfl rfl (fun w => ⟨Go.Proofs.Try.isAgg3 w, Go.Proofs.Try.sizeOf3 w⟩) rfl (hx4 0 _ rfl) ?_
        refine O.mv rfl rfl rfl rfl rfl ?_
        refine O.cmp rfl rfl rfl rfl rfl rfl (gtrF (by omega)) ?_
        refine Pl.fin [(0, _), (1, _), (2, _), (7, _), (8, _), (10, _), (29, _), (30, _), (31, _), (32, _), (38, _)] ⟨rfl, rfl, rfl, rfl, rfl, rfl, rfl, rfl, rfl, rfl, rfl, trivial⟩ ?_
        refine Go'.condF rfl ?_
        refine Go'.skip ?_
        refine Go'.inBlock ?_
        -- region 11 (others.go:233)
        refine Go'.region [(0, 0), (1, 0)] rfl ?_
        refine O.add (((j + 1 : Nat) : Int)) rfl rfl rfl rfl rfl rfl (by omega) (by omega) ?_
        refine O.mv rfl rfl rfl rfl rfl ?_
        refine Pl.fin [(0, _), (1, _), (2, _), (7, _), (8, _), (10, _), (29, _), (30, _), (31, _), (32, _), (38, _)] ⟨rfl, rfl, rfl, rfl, rfl, rfl, rfl, rfl, rfl, rfl, rfl, trivial⟩ ?_
        refine Go'.keep [(0, _), (1, _), (2, _), (7, _), (8, _), (29, _), (30, _), (31, _)] ⟨rfl, rfl, rfl, rfl, rfl, rfl, rfl, rfl, trivial⟩ ?_
        refine Go'.inLoop ?_
        exact ih (j + 1) H6 ⟨hF4, hlt⟩ (by omega)
      · skip
        -- region 7 (others.go:233)
        refine Go'.region [(0, 0)] rfl ?_
        refine O.cmp rfl rfl rfl rfl rfl rfl (lssF (by omega)) ?_
        refine Pl.fin [(0, _), (1, _), (2, _), (7, _), (8, _), (29, _), (30, _), (31, _), (32, _)] ⟨rfl, rfl, rfl, rfl, rfl, rfl, rfl, rfl, rfl, trivial⟩ ?_
        refine Go'.seq ?_
        refine Go'.condF rfl ?_
        refine Go'.exit rfl ?_
        refine Go'.seq ?_
        refine Go'.seq ?_
        clear ih hL2
        replace hi := hi.fr hF2
        replace hD := hD.fr hF2
        replace hU := hU.fr hF2
        replace hF := hF.trans hF2
        clear hF2 hjl hlt hsz
        -- region 12 (others.go:238)
        refine Go'.region [(0, 0), (1, 0), (2, 0)] rfl ?_
        refine O.mv rfl rfl rfl rfl rfl ?_
        refine O.len rfl rfl rfl rfl Go.Proofs.Try.underlying22 rfl ?_
        refine O.mv rfl rfl rfl rfl rfl ?_
        refine Pl.fin [(0, _), (1, _), (2, _), (7, _), (8, _), (40, _), (41, _), (42, _)] ⟨rfl, rfl, rfl, rfl, rfl, rfl, rfl, rfl, trivial⟩ ?_
        refine Go'.block ?_
        refine Go'.loop ?_
        refine Go'.keep [(0, _), (1, _), (2, _), (7, _), (8, _), (40, _), (41, _), (42, _)] ⟨rfl, rfl, rfl, rfl, rfl, rfl, rfl, rfl, trivial⟩ ?_
        refine Go'.ind (σ := Nat) (fun j => UU.length - j) (fun j H' => Fr nowhere H4 H' ∧ j ≤ UU.length)
          (fun j => [(0, .int .i64 (d : Int)), (1, .slice a l.length c), (2, .int .i64 p), (7, .slice a1 DD.length c1), (8, .slice a2 UU.length c2), (40, .slice a2 UU.length c2), (41, .int .i64 (UU.length : Int)), (42, .int .i64 (j : Int))]) 0 ⟨Fr.refl _ _, Nat.zero_le _⟩ rfl ?_
        rintro j H7 ⟨hF2, hjl⟩ ih
        have hL2 := hU.fr hF2
        have hsz := hF2.size
        refine Go'.seq ?_
        by_cases hlt : j < UU.length
        · skip
          obtain ⟨y, hy⟩ : ∃ y, UU[j]? = some y := ⟨UU[j], List.getElem?_eq_getElem hlt⟩
          obtain ⟨b, o, c', e, hr⟩ := hL2.at hy
          cases e
          have hyp : p ≤ y.1 := by
            have := of_decide_eq_false (huge y (List.mem_of_getElem? hy))
            simp only at this; omega
          -- region 13 (others.go:238)
          refine Go'.region [(0, 0)] rfl ?_
          refine O.cmp rfl rfl rfl rfl rfl rfl (lssT (by omega)) ?_
          refine Pl.fin [(0, _), (1, _), (2, _), (7, _), (8, _), (40, _), (41, _), (42, _), (43, _)] ⟨rfl, rfl, rfl, rfl, rfl, rfl, rfl, rfl, rfl, trivial⟩ ?_
          refine Go'.seq ?_
          refine Go'.condT rfl ?_
          refine Go'.skip ?_
          refine Go'.seq ?_
          refine Go'.block ?_
          refine Go'.seq ?_
          -- region 14 (others.go:238)
          refine Go'.region [(0, 0), (1, 1), (2, 2), (3, 2)] rfl ?_
          refine O.ix (j := j) rfl rfl rfl rfl Go.Proofs.Try.underlying22 Go.Proofs.Try.sizeOf35 rfl rfl (by omega) hlt ?_
          refine O.lds rfl rfl rfl (fun w => ⟨Go.Proofs.Try.isAgg35 w, Go.Proofs.Try.sizeOf35 w⟩) rfl rfl hr ?_
          refine O.alloc rfl rfl rfl Go.Proofs.Try.zeroValue35 ?_
          intro H8 M3
          refine ⟨trivial, ?_⟩
          have hs3 := M3.size
          have m3 : Wr H8 H7.size 0 2 := M3.wr 2 (by decide)
          refine O.st rfl rfl Go.Proofs.Try.sizeOf35 rfl rfl rfl rfl rfl m3 ?_
          intro H9 W4
          have hs4 := W4.size
          have hF4 : Fr nowhere H4 H9 := hF2.trans' ((M3.fr nowhere).trans' W4.fr (Z := nowhere) (fun _ _ _ h => h) (fun b o hb hz => by have h1 := hz.1; omega)) (fun _ _ _ h => h) (fun _ _ _ h => h)
          have hx4 : Rd H9 H7.size 0 (EJ.enc y) := W4.all
          refine ⟨trivial, ?_⟩
          refine Pl.fin [(0, _), (1, _), (2, _), (7, _), (8, _), (12, _), (40, _), (41, _), (42, _), (43, _)] ⟨rfl, rfl, rfl, rfl, rfl, rfl, rfl, rfl, rfl, rfl, trivial⟩ ?_
          refine Go'.seq ?_
          -- region 15 (others.go:239)
          refine Go'.region [(0, 0), (1, 1), (2, 0), (3, 0)] rfl ?_
          refine O.faz rfl rfl rfl rfl ⟨_, _, _, Go.Proofs.Try.underlying35, rfl, rfl, Go.Proofs.Try.sizeOf3⟩ rfl ?_
          refine O.ld rfl rfl rfl (fun w => ⟨Go.Proofs.Try.isAgg3 w, Go.Proofs.Try.sizeOf3 w⟩) rfl (hx4 0 _ rfl) ?_
          refine O.mv rfl rfl rfl rfl rfl ?_
          refine O.cmp rfl rfl rfl rfl rfl rfl (lssF (by omega)) ?_
          refine Pl.fin [(0, _), (1, _), (2, _), (7, _), (8, _), (12, _), (40, _), (41, _), (42, _), (43, _), (49, _)] ⟨rfl, rfl, rfl, rfl, rfl, rfl, rfl, rfl, rfl, rfl, rfl, trivial⟩ ?_
          refine Go'.condF rfl ?_
          refine Go'.skip ?_
          refine Go'.inBlock ?_
          -- region 17 (others.go:238)
          refine Go'.region [(0, 0), (1, 0)] rfl ?_
          refine O.add (((j + 1 : Nat) : Int)) rfl rfl rfl rfl rfl rfl (by omega) (by omega) ?_
          refine O.mv rfl rfl rfl rfl rfl ?_
          refine Pl.fin [(0, _), (1, _), (2, _), (7, _), (8, _), (12, _), (40, _), (41, _), (42, _), (43, _), (49, _)] ⟨rfl, rfl, rfl, rfl, rfl, rfl, rfl, rfl, rfl, rfl, rfl, trivial⟩ ?_
          refine Go'.keep [(0, _), (1, _), (2, _), (7, _), (8, _), (40, _), (41, _), (42, _)] ⟨rfl, rfl, rfl, rfl, rfl, rfl, rfl, rfl, trivial⟩ ?_
          refine Go'.inLoop ?_
          exact ih (j + 1) H9 ⟨hF4, hlt⟩ (by omega)
        · skip
          -- region 13 (others.go:238)
          refine Go'.region [(0, 0)] rfl ?_
          refine O.cmp rfl rfl rfl rfl rfl rfl (lssF (by omega)) ?_
          refine Pl.fin [(0, _), (1, _), (2, _), (7, _), (8, _), (40, _), (41, _), (42, _), (43, _)] ⟨rfl, rfl, rfl, rfl, rfl, rfl, rfl, rfl, rfl, trivial⟩ ?_
          refine Go'.seq ?_
          refine Go'.condF rfl ?_
          refine Go'.exit rfl ?_
          refine Go'.seq ?_
          refine Go'.seq ?_
          clear ih hL2
          replace hi := hi.fr hF2
          replace hD := hD.fr hF2
          replace hU := hU.fr hF2
          replace hF := hF.trans hF2
          clear hF2 hjl hlt hsz
          rcases hfd : Pl.fnd OI (p, (0 : Int)) (Pl.puts OI l) with _ | _
          · skip
            obtain ⟨hsp, hne⟩ := hsf hfd
            clear hst hsf
            rcases UU with _ | ⟨y, UU⟩
            · skip
              have h00 : ([] : List (Int × Int)).length = 0 := rfl
              -- region 18 (others.go:243)
              refine Go'.region [(0, 0), (1, 0), (2, 0), (3, 0), (4, 0), (5, 0), (6, 0), (7, 1), (8, 0), (9, 0), (10, 0)] rfl ?_
              refine O.mv rfl rfl rfl rfl rfl ?_
              refine O.len rfl rfl rfl rfl Go.Proofs.Try.underlying22 rfl ?_
              refine O.cmp rfl rfl rfl rfl rfl rfl (gtrF (by omega)) ?_
              refine O.mv rfl rfl rfl rfl rfl ?_
              refine Pl.pass rfl rfl rfl rfl ?_
              refine Pl.pass rfl rfl rfl rfl ?_
              refine Pl.pass rfl rfl rfl rfl ?_
              refine Pl.pass rfl rfl rfl rfl ?_
              refine Pl.pass rfl rfl rfl rfl ?_
              refine Pl.pass rfl rfl rfl rfl ?_
              refine O.pick rfl rfl rfl rfl rfl rfl ?_
              refine Pl.fin [(0, _), (1, _), (7, _), (8, _), (61, _)] ⟨rfl, rfl, rfl, rfl, rfl, trivial⟩ ?_
              refine Go'.condF rfl ?_
              refine Go'.skip ?_
              refine Go'.seq ?_
              have hcl : ([DD, ([] : List (Int × Int))].flatten : List (Int × Int)) = Pl.puts OI l := by rw [List.flatten_cons, List.flatten_cons, List.flatten_nil, List.append_nil]; exact hsp
              have hcll := congrArg List.length hcl
              -- region 22 (others.go:249)
              refine Go'.region [(0, 0), (1, 0), (2, 2), (3, 2), (4, 0), (5, 0), (6, 2), (7, 2), (8, 0), (9, 2), (10, 0), (11, 0)] rfl ?_
              refine O.mv rfl rfl rfl rfl rfl ?_
              refine O.mv rfl rfl rfl rfl rfl ?_
              refine O.bsl (cs := (row SI.ESl [(a1, DD.length, c1), (a2, ([] : List (Int × Int)).length, c2)])) rfl rfl rfl ⟨Go.Proofs.Try.underlying87, Go.Proofs.Try.sizeOf22, Go.Proofs.Try.zeroValue22, ⟨_, Go.Proofs.Try.typeInfo22, rfl⟩, rfl, by decide, by decide⟩ rfl (by decide) (by kernel_rfl) ?_
              intro Ha Ma
              have hev : InS SI.ESl Ha (.slice (some ⟨H7.size, 0, none⟩) 2 2) [(a1, DD.length, c1), (a2, ([] : List (Int × Int)).length, c2)] := .inl ⟨H7.size, 0, 2, rfl, Nat.le_refl _, Ma.rd _ [] (by simp [row, SI.ESl])⟩
              have hFa := Ma.fr nowhere
              have hess : SI.InSS EJ Ha [(a1, DD.length, c1), (a2, ([] : List (Int × Int)).length, c2)] [DD, ([] : List (Int × Int))] := ⟨hD.fr hFa, hU.fr hFa, trivial⟩
              refine ⟨trivial, ?_⟩
              refine O.call rfl rfl rfl Go.Proofs.Try.call42 rfl (SI.concatA_spec hev hess (by rw [hcll]; omega) (by simp only [List.length_cons, List.length_nil]; omega)) ?_
              rintro vb Hb ⟨hb, hFb⟩
              rw [hcl] at hb
              have hFab := hFa.trans hFb
              refine ⟨trivial, ?_⟩
              refine O.mv rfl rfl rfl rfl rfl ?_
              refine O.mv rfl rfl rfl rfl rfl ?_
              refine O.call rfl rfl rfl Go.Proofs.Try.call29 rfl (mscan_spec hd (hi.fr hFab) (by omega)) ?_
              rintro vc Hc ⟨hc, hFc⟩
              rw [hf0] at hc
              refine ⟨trivial, ?_⟩
              refine O.callQ rfl rfl rfl Go.Proofs.Try.call27 rfl (eqItems_spec (hb.inS.fr hFc) hc.inS (by omega)) trivial ?_
              refine O.mv rfl rfl rfl rfl rfl ?_
              refine O.call rfl rfl rfl Go.Proofs.Try.call23 rfl aliveM_spec ?_
              rintro _ Hd ⟨rfl, hFd⟩
              refine ⟨trivial, ?_⟩
              refine O.pick rfl rfl rfl rfl rfl rfl ?_
              refine O.asg rfl rfl rfl rfl rfl ?_
              refine Pl.fin [(6, _)] ⟨rfl, trivial⟩ ?_
              refine Go'.ret (vs := [_]) Go.Proofs.Try.func12 Go.Proofs.Try.results12 ⟨rfl, trivial⟩ ?_
              exact ⟨rfl, ((hF.trans hFab).trans hFc).trans hFd⟩
            · skip
              have hy : (y :: UU)[0]? = some y := rfl
              have hlU : (y :: UU).length = UU.length + 1 := rfl
              obtain ⟨b, o, c', e, hr⟩ := hU.at hy
              cases e
              have hyp : y.1 ≠ p := by
                have := of_decide_eq_true (hne y hy)
                simp only at this; omega
              -- region 18 (others.go:243)
              refine Go'.region [(0, 0), (1, 0), (2, 0), (3, 0), (4, 0), (5, 0), (6, 0), (7, 1), (8, 0), (9, 0), (10, 0)] rfl ?_
              refine O.mv rfl rfl rfl rfl rfl ?_
              refine O.len rfl rfl rfl rfl Go.Proofs.Try.underlying22 rfl ?_
              refine O.cmp rfl rfl rfl rfl rfl rfl (gtrT (by omega)) ?_
              refine O.mv rfl rfl rfl rfl rfl ?_
              refine O.mv rfl rfl rfl rfl rfl ?_
              refine O.ix (j := 0) rfl rfl rfl rfl Go.Proofs.Try.underlying22 Go.Proofs.Try.sizeOf35 rfl rfl rfl (by simp) ?_
              refine O.faz rfl rfl rfl rfl ⟨_, _, _, Go.Proofs.Try.underlying35, rfl, rfl, Go.Proofs.Try.sizeOf3⟩ rfl ?_
              refine O.ld rfl rfl rfl (fun w => ⟨Go.Proofs.Try.isAgg3 w, Go.Proofs.Try.sizeOf3 w⟩) rfl (hr 0 _ rfl) ?_
              refine O.mv rfl rfl rfl rfl rfl ?_
              refine O.cmp rfl rfl rfl rfl rfl rfl (eqlF (by omega)) ?_
              refine O.pick rfl rfl rfl rfl rfl rfl ?_
              refine Pl.fin [(0, _), (1, _), (7, _), (8, _), (61, _)] ⟨rfl, rfl, rfl, rfl, rfl, trivial⟩ ?_
              refine Go'.condF rfl ?_
              refine Go'.skip ?_
              refine Go'.seq ?_
              have hcl : ([DD, (y :: UU)].flatten : List (Int × Int)) = Pl.puts OI l := by rw [List.flatten_cons, List.flatten_cons, List.flatten_nil, List.append_nil]; exact hsp
              have hcll := congrArg List.length hcl
              -- region 22 (others.go:249)
              refine Go'.region [(0, 0), (1, 0), (2, 2), (3, 2), (4, 0), (5, 0), (6, 2), (7, 2), (8, 0), (9, 2), (10, 0), (11, 0)] rfl ?_
              refine O.mv rfl rfl rfl rfl rfl ?_
              refine O.mv rfl rfl rfl rfl rfl ?_
              refine O.bsl (cs := (row SI.ESl [(a1, DD.length, c1), ((some ⟨b, o, none⟩), (y :: UU).length, c2)])) rfl rfl rfl ⟨Go.Proofs.Try.underlying87, Go.Proofs.Try.sizeOf22, Go.Proofs.Try.zeroValue22, ⟨_, Go.Proofs.Try.typeInfo22, rfl⟩, rfl, by decide, by decide⟩ rfl (by decide) (by kernel_rfl) ?_
              intro Ha Ma
              have hev : InS SI.ESl Ha (.slice (some ⟨H7.size, 0, none⟩) 2 2) [(a1, DD.length, c1), ((some ⟨b, o, none⟩), (y :: UU).length, c2)] := .inl ⟨H7.size, 0, 2, rfl, Nat.le_refl _, Ma.rd _ [] (by simp [row, SI.ESl])⟩
              have hFa := Ma.fr nowhere
              have hess : SI.InSS EJ Ha [(a1, DD.length, c1), ((some ⟨b, o, none⟩), (y :: UU).length, c2)] [DD, (y :: UU)] := ⟨hD.fr hFa, hU.fr hFa, trivial⟩
              refine ⟨trivial, ?_⟩
              refine O.call rfl rfl rfl Go.Proofs.Try.call42 rfl (SI.concatA_spec hev hess (by rw [hcll]; omega) (by simp only [List.length_cons, List.length_nil]; omega)) ?_
              rintro vb Hb ⟨hb, hFb⟩
              rw [hcl] at hb
              have hFab := hFa.trans hFb
              refine ⟨trivial, ?_⟩
              refine O.mv rfl rfl rfl rfl rfl ?_
              refine O.mv rfl rfl rfl rfl rfl ?_
              refine O.call rfl rfl rfl Go.Proofs.Try.call29 rfl (mscan_spec hd (hi.fr hFab) (by omega)) ?_
              rintro vc Hc ⟨hc, hFc⟩
              rw [hf0] at hc
              refine ⟨trivial, ?_⟩
              refine O.callQ rfl rfl rfl Go.Proofs.Try.call27 rfl (eqItems_spec (hb.inS.fr hFc) hc.inS (by omega)) trivial ?_
              refine O.mv rfl rfl rfl rfl rfl ?_
              refine O.call rfl rfl rfl Go.Proofs.Try.call23 rfl aliveM_spec ?_
              rintro _ Hd ⟨rfl, hFd⟩
              refine ⟨trivial, ?_⟩
              refine O.pick rfl rfl rfl rfl rfl rfl ?_
              refine O.asg rfl rfl rfl rfl rfl ?_
              refine Pl.fin [(6, _)] ⟨rfl, trivial⟩ ?_
              refine Go'.ret (vs := [_]) Go.Proofs.Try.func12 Go.Proofs.Try.results12 ⟨rfl, trivial⟩ ?_
              exact ⟨rfl, ((hF.trans hFab).trans hFc).trans hFd⟩
          · skip
            obtain ⟨y, A, C, e1, e2, e3, h1, h2⟩ := hst hfd
            clear hst hsf hdle huge
            subst e2 e3
            have hyp : y.1 = p := by
              have g1 := of_decide_eq_false h1
              have g2 := of_decide_eq_false h2
              simp only at g1 g2; omega
            have hy : (y :: C)[0]? = some y := rfl
            obtain ⟨b, o, c', e, hr⟩ := hU.at hy
            cases e
            have hlA : (A ++ [y]).length = A.length + 1 := by simp
            have hy2 : (A ++ [y])[A.length]? = some y := by simp
            obtain ⟨b', o', c', e, hr'⟩ := hD.at hy2
            cases e
            have hlC : (y :: C).length = C.length + 1 := rfl
            -- region 18 (others.go:243)
            refine Go'.region [(0, 0), (1, 0), (2, 0), (3, 0), (4, 0), (5, 0), (6, 0), (7, 1), (8, 0), (9, 0), (10, 0)] rfl ?_
            refine O.mv rfl rfl rfl rfl rfl ?_
            refine O.len rfl rfl rfl rfl Go.Proofs.Try.underlying22 rfl ?_
            refine O.cmp rfl rfl rfl rfl rfl rfl (gtrT (by omega)) ?_
            refine O.mv rfl rfl rfl rfl rfl ?_
            refine O.mv rfl rfl rfl rfl rfl ?_
            refine O.ix (j := 0) rfl rfl rfl rfl Go.Proofs.Try.underlying22 Go.Proofs.Try.sizeOf35 rfl rfl rfl (by simp) ?_
            refine O.faz rfl rfl rfl rfl ⟨_, _, _, Go.Proofs.Try.underlying35, rfl, rfl, Go.Proofs.Try.sizeOf3⟩ rfl ?_
            refine O.ld rfl rfl rfl (fun w => ⟨Go.Proofs.Try.isAgg3 w, Go.Proofs.Try.sizeOf3 w⟩) rfl (hr 0 _ rfl) ?_
            refine O.mv rfl rfl rfl rfl rfl ?_
            refine O.cmp rfl rfl rfl rfl rfl rfl (eqlT (by omega)) ?_
            refine O.pick rfl rfl rfl rfl rfl rfl ?_
            refine Pl.fin [(0, _), (1, _), (7, _), (8, _), (61, _)] ⟨rfl, rfl, rfl, rfl, rfl, trivial⟩ ?_
            refine Go'.condT rfl ?_
            refine Go'.seq ?_
            refine Go'.seq ?_
            -- region 19 (others.go:244)
            refine Go'.draw (fun _ => True) [(0, 0), (1, 0), (2, 0), (3, 0), (4, 0), (5, 0), (6, 0), (7, 0), (8, 0), (9, 1), (10, 0), (11, 0), (12, 1), (13, 0), (14, 0)] (by kernel_rfl) (by kernel_rfl) (trivial) ?_
            refine O.mv rfl rfl rfl rfl rfl ?_
            refine O.len rfl rfl rfl rfl Go.Proofs.Try.underlying22 rfl ?_
            refine O.cmp rfl rfl rfl rfl rfl rfl (eqlF (by omega)) ?_
            refine O.mv rfl rfl rfl rfl rfl ?_
            refine O.mv rfl rfl rfl rfl rfl ?_
            refine O.mv rfl rfl rfl rfl rfl ?_
            refine O.len rfl rfl rfl rfl Go.Proofs.Try.underlying22 rfl ?_
            refine O.sub (((((A ++ [y]).length) - 1 : Nat) : Int)) rfl rfl rfl rfl rfl rfl (by omega) (by omega) ?_
            refine O.ix (j := ((A ++ [y]).length) - 1) rfl rfl rfl rfl Go.Proofs.Try.underlying22 Go.Proofs.Try.sizeOf35 rfl rfl (by omega) (by omega) ?_
            refine O.lds rfl rfl rfl (fun w => ⟨Go.Proofs.Try.isAgg35 w, Go.Proofs.Try.sizeOf35 w⟩) rfl rfl (by rw [show (A ++ [y]).length - 1 = A.length by omega]; exact hr') ?_
            refine O.mv rfl rfl rfl rfl rfl ?_
            refine O.ix (j := 0) rfl rfl rfl rfl Go.Proofs.Try.underlying22 Go.Proofs.Try.sizeOf35 rfl rfl rfl (by omega) ?_
            refine O.lds rfl rfl rfl (fun w => ⟨Go.Proofs.Try.isAgg35 w, Go.Proofs.Try.sizeOf35 w⟩) rfl rfl hr ?_
            refine O.bin rfl rfl rfl rfl rfl rfl (item_neq y _ _) ?_
            refine O.pick rfl rfl rfl rfl rfl rfl ?_
            refine Pl.fin [(0, _), (1, _), (7, _), (8, _), (76, _)] ⟨rfl, rfl, rfl, rfl, rfl, trivial⟩ ?_
            refine Go'.condF rfl ?_
            refine Go'.skip ?_
            -- region 21 (others.go:247)
            refine Go'.region [(0, 0), (1, 0), (2, 0)] rfl ?_
            refine O.mv rfl rfl rfl rfl rfl ?_
            refine O.slcIn (E := EJ) (jl := 1) (jh := (y :: C).length) rfl rfl rfl rfl Go.Proofs.Try.underlying22 Go.Proofs.Try.sizeOf35 rfl hU rfl ⟨_, by rfl⟩ (by omega) (by omega) ?_
            intro v8 hU3
            rw [List.take_of_length_le (by rw [List.length_drop]; omega), show (y :: C).drop 1 = C from rfl] at hU3
            obtain ⟨a3, c3, rfl⟩ := hU3.len
            refine O.asg rfl rfl rfl rfl rfl ?_
            refine Pl.fin [(0, _), (1, _), (7, _), (8, _)] ⟨rfl, rfl, rfl, rfl, trivial⟩ ?_
            refine Go'.seq ?_
            have hcl : ([(A ++ [y]), C].flatten : List (Int × Int)) = Pl.puts OI l := by rw [List.flatten_cons, List.flatten_cons, List.flatten_nil, List.append_nil]; exact (by rw [e1]; simp)
            have hcll := congrArg List.length hcl
            -- region 22 (others.go:249)
            refine Go'.region [(0, 0), (1, 0), (2, 2), (3, 2), (4, 0), (5, 0), (6, 2), (7, 2), (8, 0), (9, 2), (10, 0), (11, 0)] rfl ?_
            refine O.mv rfl rfl rfl rfl rfl ?_
            refine O.mv rfl rfl rfl rfl rfl ?_
            refine O.bsl (cs := (row SI.ESl [((some ⟨b', o', none⟩), (A ++ [y]).length, c1), (a3, C.length, c3)])) rfl rfl rfl ⟨Go.Proofs.Try.underlying87, Go.Proofs.Try.sizeOf22, Go.Proofs.Try.zeroValue22, ⟨_, Go.Proofs.Try.typeInfo22, rfl⟩, rfl, by decide, by decide⟩ rfl (by decide) (by kernel_rfl) ?_
            intro Ha Ma
            have hev : InS SI.ESl Ha (.slice (some ⟨H7.size, 0, none⟩) 2 2) [((some ⟨b', o', none⟩), (A ++ [y]).length, c1), (a3, C.length, c3)] := .inl ⟨H7.size, 0, 2, rfl, Nat.le_refl _, Ma.rd _ [] (by simp [row, SI.ESl])⟩
            have hFa := Ma.fr nowhere
            have hess : SI.InSS EJ Ha [((some ⟨b', o', none⟩), (A ++ [y]).length, c1), (a3, C.length, c3)] [(A ++ [y]), C] := ⟨hD.fr hFa, hU3.fr hFa, trivial⟩
            refine ⟨trivial, ?_⟩
            refine O.call rfl rfl rfl Go.Proofs.Try.call42 rfl (SI.concatA_spec hev hess (by rw [hcll]; omega) (by simp only [List.length_cons, List.length_nil]; omega)) ?_
            rintro vb Hb ⟨hb, hFb⟩
            rw [hcl] at hb
            have hFab := hFa.trans hFb
            refine ⟨trivial, ?_⟩
            refine O.mv rfl rfl rfl rfl rfl ?_
            refine O.mv rfl rfl rfl rfl rfl ?_
            refine O.call rfl rfl rfl Go.Proofs.Try.call29 rfl (mscan_spec hd (hi.fr hFab) (by omega)) ?_
            rintro vc Hc ⟨hc, hFc⟩
            rw [hf0] at hc
            refine ⟨trivial, ?_⟩
            refine O.callQ rfl rfl rfl Go.Proofs.Try.call27 rfl (eqItems_spec (hb.inS.fr hFc) hc.inS (by omega)) trivial ?_
            refine O.mv rfl rfl rfl rfl rfl ?_
            refine O.call rfl rfl rfl Go.Proofs.Try.call23 rfl aliveM_spec ?_
            rintro _ Hd ⟨rfl, hFd⟩
            refine ⟨trivial, ?_⟩
            refine O.pick rfl rfl rfl rfl rfl rfl ?_
            refine O.asg rfl rfl rfl rfl rfl ?_
            refine Pl.fin [(6, _)] ⟨rfl, trivial⟩ ?_
            refine Go'.ret (vs := [_]) Go.Proofs.Try.func12 Go.Proofs.Try.results12 ⟨rfl, trivial⟩ ?_
            exact ⟨rfl, ((hF.trans hFab).trans hFc).trans hFd⟩

end Go.Bt
