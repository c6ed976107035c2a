/- Contracts of functions of the program, proved by walking through their code. Conditions: those that each theorem names. -/
import Derived.Test.YtgmmhpmchibakaaTonO
import Derived.Test.YtgmmhpmchibakaaTonM
namespace Go.Bt
open Go Go.Proofs
set_option maxRecDepth 20000
set_option maxHeartbeats 4000000
set_option linter.unusedVariables false

theorem ndesc0 {B : World} {g : FuncId} {us cs : List Value} {go : List (Int × Int) → Bool} {M : Nat} (cb : Cb Try.prog B encKV g us cs go M) (hcall : ∀ (args : Array Value) (w : World), (callFunc g args).run Try.prog w = .ok (.enter g args) w) {tr : Nat} {P : Ps} (hP : PsOk P) (mt : Bool) (x : Int × Int) {H : Mem} {bp op : Nat} {acc : List (Int × Int)} {Z : Nat → Prop} {t : Gt EI 0} (hp : VPre cb H tr P 0 t bp op acc Z) (hs : Pl.Srt OI (Gt.L 0 t)) :
    Fn Try.prog B 129 [.pointer (some ⟨tr, 0, none⟩), .pointer (some ⟨bp, op, none⟩), .int .i64 x.1, .func (.func g) us.toArray cs.toArray, .bool mt] H (fun r H' => r = .bool (takes go acc ((Pl.dn OI x (Gt.L 0 t)).reverse)).2 ∧ CbPost cb acc Z H ((Pl.dn OI x (Gt.L 0 t)).reverse) H') := by
  obtain ⟨gg, X⟩ := t
  obtain ⟨tc, hg, hc, hnz, hntr, hst, hlen⟩ := hp
  have hN : NodeM EI H gg X (.pointer none) := hg.1
  have hiso : gg.iso = P.iso := hg.2.1
  have hxm : X.length ≤ P.mx := hg.2.2.2
  have hx255 := hP.hx
  replace hs : Pl.Srt OI X := hs
  replace hlen : acc.length + X.length ≤ M := hlen
  have hc0 := hN.c0
  rw [hiso] at hc0
  have hcat : ∀ {Z1 Z2 : Nat → Prop} {H2 H3 : Mem}, Fr (fun x _ => Z x) H H2 → (∀ b, Z1 b → Z b ∨ H.size ≤ b) → Fr (fun x _ => Z1 x) H2 H3 → (∀ b, Z2 b → Z1 b ∨ H2.size ≤ b) → Fr (fun x _ => Z x) H H3 ∧ ∀ b, Z2 b → Z b ∨ H.size ≤ b := by
    intro Z1 Z2 H2 H3 hF hZ1 hF2 hZ2
    have := hF.size
    exact ⟨hF.trans' hF2 (fun _ _ _ h => h) (fun b o hb hz => (hZ1 b hz).elim id (fun h => by omega)), fun b hb => (hZ2 b hb).elim (hZ1 b) (fun h => .inr (by omega))⟩
  have hple := Pl.pos_le OI x X
  show Fn _ _ _ _ _ (fun r H' => r = .bool (takes go acc ((Pl.dn OI x (X)).reverse)).2 ∧ CbPost cb acc Z H ((Pl.dn OI x (X)).reverse) H')
  have hltN : ∀ b o, ncl EI gg b o → b < H.size := fun b o hb => NodeM.lt hN hb
  refine fn_of Go.Proofs.Try.func129 rfl Go.Proofs.Try.ntmps129 ?_
  refine (show Go' _ _ _ _ 85 [(0, _), (1, _), (2, _), (3, _), (4, _)] [.code _] _ from ?_)
  refine Go'.seq ?_
  -- region 0 (map.go:602)
  refine Go'.region [(0, 0)] rfl ?_
  refine O.asg rfl rfl rfl rfl rfl ?_
  refine Pl.fin [(0, _), (1, _), (2, _), (3, _), (4, _), (10, _)] ⟨rfl, rfl, rfl, rfl, rfl, rfl, trivial⟩ ?_
  refine Go'.seq ?_
  -- region 1 (map.go:605)
  refine Go'.region [(0, 0), (1, 0), (2, 0), (3, 2), (4, 0)] rfl ?_
  refine O.mv rfl rfl rfl rfl rfl ?_
  refine O.mv rfl rfl rfl rfl rfl ?_
  refine O.mv rfl rfl rfl rfl rfl ?_
  refine O.callQ rfl rfl rfl Go.Proofs.Try.call85 rfl (isoLoad_spec mt hc hc0 tc.iso) trivial ?_
  refine O.asg rfl rfl rfl rfl rfl ?_
  refine Pl.fin [(0, _), (2, _), (3, _), (4, _), (10, _), (11, _)] ⟨rfl, rfl, rfl, rfl, rfl, rfl, trivial⟩ ?_
  refine Go'.seq ?_
  unfold ptr
  -- region 2 (map.go:606)
  refine Go'.region [(0, 0), (1, 0), (2, 0), (3, 2), (4, 0), (5, 0), (6, 0), (7, 0), (8, 0)] rfl ?_
  refine O.mv rfl rfl rfl rfl rfl ?_
  refine O.mv rfl rfl rfl rfl rfl ?_
  refine O.mv rfl rfl rfl rfl rfl ?_
  refine O.callQ rfl rfl rfl Go.Proofs.Try.call114 rfl (search_spec x hN hs (by omega)) trivial ?_
  refine O.mv rfl rfl rfl rfl rfl ?_
  refine O.ext rfl rfl rfl rfl rfl rfl ?_
  refine O.ext rfl rfl rfl rfl rfl rfl ?_
  refine O.asg rfl rfl rfl rfl rfl ?_
  refine O.asg rfl rfl rfl rfl rfl ?_
  refine Pl.fin [(0, _), (2, _), (3, _), (4, _), (10, _), (11, _), (12, _), (13, _)] ⟨rfl, rfl, rfl, rfl, rfl, rfl, rfl, rfl, trivial⟩ ?_
  refine Go'.seq ?_
  refine Go'.seq ?_
  have hlt1 : Pl.fnd OI x X = true → Pl.pos OI x X < X.length := Pl.fnd_pos_lt OI
  have hW : (Pl.dn OI x (X)).reverse = (X.take (Pl.pos OI x X + (Pl.fnd OI x X).toNat)).reverse := rfl
  generalize hFULL : (Pl.dn OI x (X)).reverse = FULL at *
  cases hfd : Pl.fnd OI x X
  · skip
    rw [hfd] at hW hlt1
    generalize hpi : Pl.pos OI x X = i at *
    -- region 3 (map.go:607)
    refine Go'.region [(0, 0), (1, 0)] rfl ?_
    refine O.mv rfl rfl rfl rfl rfl ?_
    refine O.not rfl rfl rfl rfl rfl ?_
    refine Pl.fin [(0, _), (2, _), (3, _), (4, _), (10, _), (11, _), (12, _), (26, _)] ⟨rfl, rfl, rfl, rfl, rfl, rfl, rfl, rfl, trivial⟩ ?_
    refine Go'.condT rfl ?_
    refine Go'.seq ?_
    refine Go'.seq ?_
    -- region 4 (map.go:608)
    refine Go'.region [(0, 0), (1, 2), (2, 0)] rfl ?_
    refine O.mv rfl rfl rfl rfl rfl ?_
    refine O.callQ rfl rfl rfl Go.Proofs.Try.call86 rfl (leaf_spec hN.c3) trivial ?_
    refine O.not rfl rfl rfl rfl rfl ?_
    refine Pl.fin [(0, _), (2, _), (3, _), (4, _), (10, _), (11, _), (12, _), (29, _)] ⟨rfl, rfl, rfl, rfl, rfl, rfl, rfl, rfl, trivial⟩ ?_
    refine Go'.condF rfl ?_
    refine Go'.skip ?_
    -- region 7 (map.go:613)
    refine Go'.region [(0, 0), (1, 0), (2, 0)] rfl ?_
    refine O.mv rfl rfl rfl rfl rfl ?_
    refine O.sub ((i : Int) - 1) rfl rfl rfl rfl rfl rfl (by omega) (by omega) ?_
    refine O.asg rfl rfl rfl rfl rfl ?_
    refine Pl.fin [(0, _), (3, _), (4, _), (10, _), (11, _), (12, _)] ⟨rfl, rfl, rfl, rfl, rfl, rfl, trivial⟩ ?_
    refine Go'.seq ?_
    refine Go'.block ?_
    replace hW : FULL = (X.take (i)).reverse := hW
    refine Go'.loop ?_
    refine Go'.keep [(3, _), (11, _), (12, _)] ⟨rfl, rfl, rfl, trivial⟩ ?_
    refine Go'.ind (σ := Nat × Int × (Nat → Prop) × List (Int × Int)) (fun s => s.1) (fun s H' => s.1 ≤ X.length ∧ s.2.1 = (s.1 : Int) - 1 ∧ takes go acc FULL = takes go s.2.2.2 ((X.take (s.1)).reverse) ∧ cb.T s.2.2.2 s.2.2.1 H' ∧ Fr (fun b _ => Z b) H H' ∧ (∀ b, s.2.2.1 b → Z b ∨ H.size ≤ b) ∧ s.2.2.2.length + ((X.take (s.1)).reverse).length ≤ M)
      (fun s => [(3, .func (.func g) us.toArray cs.toArray), (11, .pointer (some ⟨gg.p, 0, none⟩)), (12, .int .i64 s.2.1)]) (i, (i : Int) - 1, Z, acc) ⟨by (try simp only) <;> omega, by (try simp only) <;> omega, by rw [hW], hst, Fr.refl _ _, fun b hb => .inl hb, by simp only [List.length_reverse, List.length_take]; omega⟩ rfl ?_
    rintro ⟨j, z, Z1, A⟩ H2 ⟨hj, hz, ht, hT, hF, hZ1, hAM⟩ ih
    simp only at hj hz ht hT hZ1 hAM
    subst hz
    replace hN := NodeM.fr EI hN hF (fun x y hxy hz => hnz x y hxy hz)
    refine Go'.seq ?_
    refine Go'.seq ?_
    rcases j with _ | j
    · skip
      -- region 8 (map.go:615)
      refine Go'.region [(0, 0), (1, 0)] rfl ?_
      refine O.mv rfl rfl rfl rfl rfl ?_
      refine O.cmp rfl rfl rfl rfl rfl rfl (geqF (by show ((0 : Nat) : Int) - 1 < 0; omega)) ?_
      refine Pl.fin [(3, _), (11, _), (12, _), (47, _)] ⟨rfl, rfl, rfl, rfl, trivial⟩ ?_
      rw [List.take_zero] at ht
      refine Go'.condF rfl ?_
      refine Go'.exit rfl ?_
      refine Go'.seq ?_
      -- region 15 (map.go:625)
      refine Go'.region [(0, 0)] rfl ?_
      refine O.asg rfl rfl rfl rfl rfl ?_
      refine Pl.fin [(10, _)] ⟨rfl, trivial⟩ ?_
      refine Go'.ret (vs := [_]) Go.Proofs.Try.func129 Go.Proofs.Try.results129 ⟨rfl, trivial⟩ ?_
      replace ht : takes go acc FULL = (A, true) := ht
      unfold CbPost
      rw [ht]
      exact ⟨rfl, Z1, hT, hF, hZ1⟩
    · skip
      obtain ⟨y, hy⟩ : ∃ y, X[j]? = some y := ⟨X[j], List.getElem?_eq_getElem (by omega)⟩
      rw [List.take_add_one, hy, Option.toList_some, List.reverse_append, List.reverse_singleton, List.singleton_append] at ht hAM
      have ej : (((j + 1 : Nat) : Int) - 1) = (j : Int) := by omega
      refine (show Go' _ _ _ _ _ [(3, .func (.func g) us.toArray cs.toArray), (11, .pointer (some ⟨gg.p, 0, none⟩)), (12, .int .i64 (((j + 1 : Nat) : Int) - 1))] _ _ from ?_)
      rw [ej]
      rw [List.length_cons] at hAM
      -- region 8 (map.go:615)
      refine Go'.region [(0, 0), (1, 0)] rfl ?_
      refine O.mv rfl rfl rfl rfl rfl ?_
      refine O.cmp rfl rfl rfl rfl rfl rfl (geqT (by omega)) ?_
      refine Pl.fin [(3, _), (11, _), (12, _), (47, _)] ⟨rfl, rfl, rfl, rfl, trivial⟩ ?_
      refine Go'.condT rfl ?_
      refine Go'.skip ?_
      refine Go'.seq ?_
      refine Go'.block ?_
      refine Go'.seq ?_
      refine Go'.seq ?_
      cases hgo : go (A ++ [y])
      · skip
        -- region 10 (map.go:616)
        refine Go'.draw (fun _ => True) [(0, 0), (1, 0), (2, 0), (3, 0), (4, 1), (5, 0), (6, 0), (7, 0), (8, 1), (9, 0), (10, 0), (11, 0), (12, 1), (13, 0), (14, 0), (15, 0), (16, 1), (17, 2), (18, 0)] (by kernel_rfl) (by kernel_rfl) (trivial) ?_
        refine O.mv rfl rfl rfl rfl rfl ?_
        refine O.mv rfl rfl rfl rfl rfl ?_
        refine O.nc rfl rfl rfl rfl rfl ?_
        refine O.fa0 (off := 2) rfl rfl rfl rfl ⟨_, _, _, Go.Proofs.Try.underlying111, rfl, rfl, Go.Proofs.Try.sizeOf108⟩ rfl ?_
        refine O.ld rfl rfl rfl (fun w => ⟨Go.Proofs.Try.isAgg108 w, Go.Proofs.Try.sizeOf108 w⟩) rfl hN.c2 ?_
        refine O.mv rfl rfl rfl rfl rfl ?_
        refine O.ix (j := j) rfl rfl rfl rfl Go.Proofs.Try.underlying108 Go.Proofs.Try.sizeOf100 rfl rfl (by omega) (by omega) ?_
        refine O.fa (off := 1) rfl rfl rfl rfl ⟨_, _, _, Go.Proofs.Try.underlying100, rfl, rfl, Go.Proofs.Try.sizeOf3⟩ rfl ?_
        refine O.ld rfl rfl rfl (fun w => ⟨Go.Proofs.Try.isAgg3 w, Go.Proofs.Try.sizeOf3 w⟩) rfl (hN.sl.cell hy (j := 1) rfl) ?_
        refine O.mv rfl rfl rfl rfl rfl ?_
        refine O.nc rfl rfl rfl rfl rfl ?_
        refine O.fa0 (off := 2) rfl rfl rfl rfl ⟨_, _, _, Go.Proofs.Try.underlying111, rfl, rfl, Go.Proofs.Try.sizeOf108⟩ rfl ?_
        refine O.ld rfl rfl rfl (fun w => ⟨Go.Proofs.Try.isAgg108 w, Go.Proofs.Try.sizeOf108 w⟩) rfl hN.c2 ?_
        refine O.mv rfl rfl rfl rfl rfl ?_
        refine O.ix (j := j) rfl rfl rfl rfl Go.Proofs.Try.underlying108 Go.Proofs.Try.sizeOf100 rfl rfl (by omega) (by omega) ?_
        refine O.faz rfl rfl rfl rfl ⟨_, _, _, Go.Proofs.Try.underlying100, rfl, rfl, Go.Proofs.Try.sizeOf3⟩ rfl ?_
        refine O.ld rfl rfl rfl (fun w => ⟨Go.Proofs.Try.isAgg3 w, Go.Proofs.Try.sizeOf3 w⟩) rfl (hN.sl.cell hy (j := 0) rfl) ?_
        refine O.callC rfl rfl rfl rfl hcall rfl (cb.call y hT (by omega)) ?_
        rintro _ H4 ⟨rfl, Z4, hT4, hF4, hZ4⟩
        rw [hgo]
        obtain ⟨hF5, hZ5⟩ := hcat hF hZ1 hF4 hZ4
        refine ⟨trivial, ?_⟩
        refine O.not rfl rfl rfl rfl rfl ?_
        refine Pl.fin [(3, _), (11, _), (12, _), (47, _), (68, _)] ⟨rfl, rfl, rfl, rfl, rfl, trivial⟩ ?_
        refine Go'.condT rfl ?_
        refine Go'.seq ?_
        -- region 11 (map.go:617)
        refine Go'.region [(0, 0)] rfl ?_
        refine O.asg rfl rfl rfl rfl rfl ?_
        refine Pl.fin [(3, _), (10, _), (11, _), (12, _), (47, _), (68, _)] ⟨rfl, rfl, rfl, rfl, rfl, rfl, trivial⟩ ?_
        refine Go'.ret (vs := [_]) Go.Proofs.Try.func129 Go.Proofs.Try.results129 ⟨rfl, trivial⟩ ?_
        rw [takes_cons, hgo] at ht
        unfold CbPost
        rw [ht]
        exact ⟨rfl, Z4, hT4, hF5, hZ5⟩
      · skip
        -- region 10 (map.go:616)
        refine Go'.draw (fun _ => True) [(0, 0), (1, 0), (2, 0), (3, 0), (4, 1), (5, 0), (6, 0), (7, 0), (8, 1), (9, 0), (10, 0), (11, 0), (12, 1), (13, 0), (14, 0), (15, 0), (16, 1), (17, 2), (18, 0)] (by kernel_rfl) (by kernel_rfl) (trivial) ?_
        refine O.mv rfl rfl rfl rfl rfl ?_
        refine O.mv rfl rfl rfl rfl rfl ?_
        refine O.nc rfl rfl rfl rfl rfl ?_
        refine O.fa0 (off := 2) rfl rfl rfl rfl ⟨_, _, _, Go.Proofs.Try.underlying111, rfl, rfl, Go.Proofs.Try.sizeOf108⟩ rfl ?_
        refine O.ld rfl rfl rfl (fun w => ⟨Go.Proofs.Try.isAgg108 w, Go.Proofs.Try.sizeOf108 w⟩) rfl hN.c2 ?_
        refine O.mv rfl rfl rfl rfl rfl ?_
        refine O.ix (j := j) rfl rfl rfl rfl Go.Proofs.Try.underlying108 Go.Proofs.Try.sizeOf100 rfl rfl (by omega) (by omega) ?_
        refine O.fa (off := 1) rfl rfl rfl rfl ⟨_, _, _, Go.Proofs.Try.underlying100, rfl, rfl, Go.Proofs.Try.sizeOf3⟩ rfl ?_
        refine O.ld rfl rfl rfl (fun w => ⟨Go.Proofs.Try.isAgg3 w, Go.Proofs.Try.sizeOf3 w⟩) rfl (hN.sl.cell hy (j := 1) rfl) ?_
        refine O.mv rfl rfl rfl rfl rfl ?_
        refine O.nc rfl rfl rfl rfl rfl ?_
        refine O.fa0 (off := 2) rfl rfl rfl rfl ⟨_, _, _, Go.Proofs.Try.underlying111, rfl, rfl, Go.Proofs.Try.sizeOf108⟩ rfl ?_
        refine O.ld rfl rfl rfl (fun w => ⟨Go.Proofs.Try.isAgg108 w, Go.Proofs.Try.sizeOf108 w⟩) rfl hN.c2 ?_
        refine O.mv rfl rfl rfl rfl rfl ?_
        refine O.ix (j := j) rfl rfl rfl rfl Go.Proofs.Try.underlying108 Go.Proofs.Try.sizeOf100 rfl rfl (by omega) (by omega) ?_
        refine O.faz rfl rfl rfl rfl ⟨_, _, _, Go.Proofs.Try.underlying100, rfl, rfl, Go.Proofs.Try.sizeOf3⟩ rfl ?_
        refine O.ld rfl rfl rfl (fun w => ⟨Go.Proofs.Try.isAgg3 w, Go.Proofs.Try.sizeOf3 w⟩) rfl (hN.sl.cell hy (j := 0) rfl) ?_
        refine O.callC rfl rfl rfl rfl hcall rfl (cb.call y hT (by omega)) ?_
        rintro _ H4 ⟨rfl, Z4, hT4, hF4, hZ4⟩
        rw [hgo]
        obtain ⟨hF5, hZ5⟩ := hcat hF hZ1 hF4 hZ4
        refine ⟨trivial, ?_⟩
        refine O.not rfl rfl rfl rfl rfl ?_
        refine Pl.fin [(3, _), (11, _), (12, _), (47, _), (68, _)] ⟨rfl, rfl, rfl, rfl, rfl, trivial⟩ ?_
        rw [takes_cons, hgo, if_pos rfl] at ht
        refine Go'.condF rfl ?_
        refine Go'.skip ?_
        refine Go'.seq ?_
        have hN5 := NodeM.fr EI hN hF4 (fun x y hxy hz => (hZ1 x hz).elim (hnz x y hxy) (fun h => by have := hltN x y hxy; omega))
        -- region 12 (map.go:619)
        refine Go'.region [(0, 0), (1, 2), (2, 0)] rfl ?_
        refine O.mv rfl rfl rfl rfl rfl ?_
        refine O.callQ rfl rfl rfl Go.Proofs.Try.call86 rfl (leaf_spec hN5.c3) trivial ?_
        refine O.not rfl rfl rfl rfl rfl ?_
        refine Pl.fin [(3, _), (11, _), (12, _), (47, _), (68, _), (71, _)] ⟨rfl, rfl, rfl, rfl, rfl, rfl, trivial⟩ ?_
        refine Go'.condF rfl ?_
        refine Go'.skip ?_
        refine Go'.inBlock ?_
        -- region 9 (map.go:615)
        refine Go'.region [(0, 0), (1, 0), (2, 0)] rfl ?_
        refine O.mv rfl rfl rfl rfl rfl ?_
        refine O.sub (((j : Nat) : Int) - 1) rfl rfl rfl rfl rfl rfl (by omega) (by omega) ?_
        refine O.asg rfl rfl rfl rfl rfl ?_
        refine Pl.fin [(3, _), (11, _), (12, _), (47, _), (68, _), (71, _)] ⟨rfl, rfl, rfl, rfl, rfl, rfl, trivial⟩ ?_
        refine Go'.keep [(3, _), (11, _), (12, _)] ⟨rfl, rfl, rfl, trivial⟩ ?_
        refine Go'.inLoop ?_
        exact ih (j, _, Z4, A ++ [y]) H4 ⟨by (try simp only) <;> omega, rfl, ht, hT4, hF5, hZ5, by simp only [List.length_append, List.length_singleton]; omega⟩ (by (try simp only) <;> omega)
  · skip
    rw [hfd] at hW hlt1
    generalize hpi : Pl.pos OI x X = i at *
    -- region 3 (map.go:607)
    refine Go'.region [(0, 0), (1, 0)] rfl ?_
    refine O.mv rfl rfl rfl rfl rfl ?_
    refine O.not rfl rfl rfl rfl rfl ?_
    refine Pl.fin [(0, _), (2, _), (3, _), (4, _), (10, _), (11, _), (12, _), (26, _)] ⟨rfl, rfl, rfl, rfl, rfl, rfl, rfl, rfl, trivial⟩ ?_
    refine Go'.condF rfl ?_
    refine Go'.skip ?_
    refine Go'.seq ?_
    refine Go'.block ?_
    replace hlt1 := hlt1 rfl
    replace hW : FULL = (X.take (i + 1)).reverse := hW
    refine Go'.loop ?_
    refine Go'.keep [(3, _), (11, _), (12, _)] ⟨rfl, rfl, rfl, trivial⟩ ?_
    refine Go'.ind (σ := Nat × Int × (Nat → Prop) × List (Int × Int)) (fun s => s.1) (fun s H' => s.1 ≤ X.length ∧ s.2.1 = (s.1 : Int) - 1 ∧ takes go acc FULL = takes go s.2.2.2 ((X.take (s.1)).reverse) ∧ cb.T s.2.2.2 s.2.2.1 H' ∧ Fr (fun b _ => Z b) H H' ∧ (∀ b, s.2.2.1 b → Z b ∨ H.size ≤ b) ∧ s.2.2.2.length + ((X.take (s.1)).reverse).length ≤ M)
      (fun s => [(3, .func (.func g) us.toArray cs.toArray), (11, .pointer (some ⟨gg.p, 0, none⟩)), (12, .int .i64 s.2.1)]) (i + 1, (i : Int), Z, acc) ⟨by (try simp only) <;> omega, by (try simp only) <;> omega, by rw [hW], hst, Fr.refl _ _, fun b hb => .inl hb, by simp only [List.length_reverse, List.length_take]; omega⟩ rfl ?_
    rintro ⟨j, z, Z1, A⟩ H2 ⟨hj, hz, ht, hT, hF, hZ1, hAM⟩ ih
    simp only at hj hz ht hT hZ1 hAM
    subst hz
    replace hN := NodeM.fr EI hN hF (fun x y hxy hz => hnz x y hxy hz)
    refine Go'.seq ?_
    refine Go'.seq ?_
    rcases j with _ | j
    · skip
      -- region 8 (map.go:615)
      refine Go'.region [(0, 0), (1, 0)] rfl ?_
      refine O.mv rfl rfl rfl rfl rfl ?_
      refine O.cmp rfl rfl rfl rfl rfl rfl (geqF (by show ((0 : Nat) : Int) - 1 < 0; omega)) ?_
      refine Pl.fin [(3, _), (11, _), (12, _), (47, _)] ⟨rfl, rfl, rfl, rfl, trivial⟩ ?_
      rw [List.take_zero] at ht
      refine Go'.condF rfl ?_
      refine Go'.exit rfl ?_
      refine Go'.seq ?_
      -- region 15 (map.go:625)
      refine Go'.region [(0, 0)] rfl ?_
      refine O.asg rfl rfl rfl rfl rfl ?_
      refine Pl.fin [(10, _)] ⟨rfl, trivial⟩ ?_
      refine Go'.ret (vs := [_]) Go.Proofs.Try.func129 Go.Proofs.Try.results129 ⟨rfl, trivial⟩ ?_
      replace ht : takes go acc FULL = (A, true) := ht
      unfold CbPost
      rw [ht]
      exact ⟨rfl, Z1, hT, hF, hZ1⟩
    · skip
      obtain ⟨y, hy⟩ : ∃ y, X[j]? = some y := ⟨X[j], List.getElem?_eq_getElem (by omega)⟩
      rw [List.take_add_one, hy, Option.toList_some, List.reverse_append, List.reverse_singleton, List.singleton_append] at ht hAM
      have ej : (((j + 1 : Nat) : Int) - 1) = (j : Int) := by omega
      refine (show Go' _ _ _ _ _ [(3, .func (.func g) us.toArray cs.toArray), (11, .pointer (some ⟨gg.p, 0, none⟩)), (12, .int .i64 (((j + 1 : Nat) : Int) - 1))] _ _ from ?_)
      rw [ej]
      rw [List.length_cons] at hAM
      -- region 8 (map.go:615)
      refine Go'.region [(0, 0), (1, 0)] rfl ?_
      refine O.mv rfl rfl rfl rfl rfl ?_
      refine O.cmp rfl rfl rfl rfl rfl rfl (geqT (by omega)) ?_
      refine Pl.fin [(3, _), (11, _), (12, _), (47, _)] ⟨rfl, rfl, rfl, rfl, trivial⟩ ?_
      refine Go'.condT rfl ?_
      refine Go'.skip ?_
      refine Go'.seq ?_
      refine Go'.block ?_
      refine Go'.seq ?_
      refine Go'.seq ?_
      cases hgo : go (A ++ [y])
      · skip
        -- region 10 (map.go:616)
        refine Go'.draw (fun _ => True) [(0, 0), (1, 0), (2, 0), (3, 0), (4, 1), (5, 0), (6, 0), (7, 0), (8, 1), (9, 0), (10, 0), (11, 0), (12, 1), (13, 0), (14, 0), (15, 0), (16, 1), (17, 2), (18, 0)] (by kernel_rfl) (by kernel_rfl) (trivial) ?_
        refine O.mv rfl rfl rfl rfl rfl ?_
        refine O.mv rfl rfl rfl rfl rfl ?_
        refine O.nc rfl rfl rfl rfl rfl ?_
        refine O.fa0 (off := 2) rfl rfl rfl rfl ⟨_, _, _, Go.Proofs.Try.underlying111, rfl, rfl, Go.Proofs.Try.sizeOf108⟩ rfl ?_
        refine O.ld rfl rfl rfl (fun w => ⟨Go.Proofs.Try.isAgg108 w, Go.Proofs.Try.sizeOf108 w⟩) rfl hN.c2 ?_
        refine O.mv rfl rfl rfl rfl rfl ?_
        refine O.ix (j := j) rfl rfl rfl rfl Go.Proofs.Try.underlying108 Go.Proofs.Try.sizeOf100 rfl rfl (by omega) (by omega) ?_
        refine O.fa (off := 1) rfl rfl rfl rfl ⟨_, _, _, Go.Proofs.Try.underlying100, rfl, rfl, Go.Proofs.Try.sizeOf3⟩ rfl ?_
        refine O.ld rfl rfl rfl (fun w => ⟨Go.Proofs.Try.isAgg3 w, Go.Proofs.Try.sizeOf3 w⟩) rfl (hN.sl.cell hy (j := 1) rfl) ?_
        refine O.mv rfl rfl rfl rfl rfl ?_
        refine O.nc rfl rfl rfl rfl rfl ?_
        refine O.fa0 (off := 2) rfl rfl rfl rfl ⟨_, _, _, Go.Proofs.Try.underlying111, rfl, rfl, Go.Proofs.Try.sizeOf108⟩ rfl ?_
        refine O.ld rfl rfl rfl (fun w => ⟨Go.Proofs.Try.isAgg108 w, Go.Proofs.Try.sizeOf108 w⟩) rfl hN.c2 ?_
        refine O.mv rfl rfl rfl rfl rfl ?_
        refine O.ix (j := j) rfl rfl rfl rfl Go.Proofs.Try.underlying108 Go.Proofs.Try.sizeOf100 rfl rfl (by omega) (by omega) ?_
        refine O.faz rfl rfl rfl rfl ⟨_, _, _, Go.Proofs.Try.underlying100, rfl, rfl, Go.Proofs.Try.sizeOf3⟩ rfl ?_
        refine O.ld rfl rfl rfl (fun w => ⟨Go.Proofs.Try.isAgg3 w, Go.Proofs.Try.sizeOf3 w⟩) rfl (hN.sl.cell hy (j := 0) rfl) ?_
        refine O.callC rfl rfl rfl rfl hcall rfl (cb.call y hT (by omega)) ?_
        rintro _ H4 ⟨rfl, Z4, hT4, hF4, hZ4⟩
        rw [hgo]
        obtain ⟨hF5, hZ5⟩ := hcat hF hZ1 hF4 hZ4
        refine ⟨trivial, ?_⟩
        refine O.not rfl rfl rfl rfl rfl ?_
        refine Pl.fin [(3, _), (11, _), (12, _), (47, _), (68, _)] ⟨rfl, rfl, rfl, rfl, rfl, trivial⟩ ?_
        refine Go'.condT rfl ?_
        refine Go'.seq ?_
        -- region 11 (map.go:617)
        refine Go'.region [(0, 0)] rfl ?_
        refine O.asg rfl rfl rfl rfl rfl ?_
        refine Pl.fin [(3, _), (10, _), (11, _), (12, _), (47, _), (68, _)] ⟨rfl, rfl, rfl, rfl, rfl, rfl, trivial⟩ ?_
        refine Go'.ret (vs := [_]) Go.Proofs.Try.func129 Go.Proofs.Try.results129 ⟨rfl, trivial⟩ ?_
        rw [takes_cons, hgo] at ht
        unfold CbPost
        rw [ht]
        exact ⟨rfl, Z4, hT4, hF5, hZ5⟩
      · skip
        -- region 10 (map.go:616)
        refine Go'.draw (fun _ => True) [(0, 0), (1, 0), (2, 0), (3, 0), (4, 1), (5, 0), (6, 0), (7, 0), (8, 1), (9, 0), (10, 0), (11, 0), (12, 1), (13, 0), (14, 0), (15, 0), (16, 1), (17, 2), (18, 0)] (by kernel_rfl) (by kernel_rfl) (trivial) ?_
        refine O.mv rfl rfl rfl rfl rfl ?_
        refine O.mv rfl rfl rfl rfl rfl ?_
        refine O.nc rfl rfl rfl rfl rfl ?_
        refine O.fa0 (off := 2) rfl rfl rfl rfl ⟨_, _, _, Go.Proofs.Try.underlying111, rfl, rfl, Go.Proofs.Try.sizeOf108⟩ rfl ?_
        refine O.ld rfl rfl rfl (fun w => ⟨Go.Proofs.Try.isAgg108 w, Go.Proofs.Try.sizeOf108 w⟩) rfl hN.c2 ?_
        refine O.mv rfl rfl rfl rfl rfl ?_
        refine O.ix (j := j) rfl rfl rfl rfl Go.Proofs.Try.underlying108 Go.Proofs.Try.sizeOf100 rfl rfl (by omega) (by omega) ?_
        refine O.fa (off := 1) rfl rfl rfl rfl ⟨_, _, _, Go.Proofs.Try.underlying100, rfl, rfl, Go.Proofs.Try.sizeOf3⟩ rfl ?_
        refine O.ld rfl rfl rfl (fun w => ⟨Go.Proofs.Try.isAgg3 w, Go.Proofs.Try.sizeOf3 w⟩) rfl (hN.sl.cell hy (j := 1) rfl) ?_
        refine O.mv rfl rfl rfl rfl rfl ?_
        refine O.nc rfl rfl rfl rfl rfl ?_
        refine O.fa0 (off := 2) rfl rfl rfl rfl ⟨_, _, _, Go.Proofs.Try.underlying111, rfl, rfl, Go.Proofs.Try.sizeOf108⟩ rfl ?_
        refine O.ld rfl rfl rfl (fun w => ⟨Go.Proofs.Try.isAgg108 w, Go.Proofs.Try.sizeOf108 w⟩) rfl hN.c2 ?_
        refine O.mv rfl rfl rfl rfl rfl ?_
        refine O.ix (j := j) rfl rfl rfl rfl Go.Proofs.Try.underlying108 Go.Proofs.Try.sizeOf100 rfl rfl (by omega) (by omega) ?_
        refine O.faz rfl rfl rfl rfl ⟨_, _, _, Go.Proofs.Try.underlying100, rfl, rfl, Go.Proofs.Try.sizeOf3⟩ rfl ?_
        refine O.ld rfl rfl rfl (fun w => ⟨Go.Proofs.Try.isAgg3 w, Go.Proofs.Try.sizeOf3 w⟩) rfl (hN.sl.cell hy (j := 0) rfl) ?_
        refine O.callC rfl rfl rfl rfl hcall rfl (cb.call y hT (by omega)) ?_
        rintro _ H4 ⟨rfl, Z4, hT4, hF4, hZ4⟩
        rw [hgo]
        obtain ⟨hF5, hZ5⟩ := hcat hF hZ1 hF4 hZ4
        refine ⟨trivial, ?_⟩
        refine O.not rfl rfl rfl rfl rfl ?_
        refine Pl.fin [(3, _), (11, _), (12, _), (47, _), (68, _)] ⟨rfl, rfl, rfl, rfl, rfl, trivial⟩ ?_
        rw [takes_cons, hgo, if_pos rfl] at ht
        refine Go'.condF rfl ?_
        refine Go'.skip ?_
        refine Go'.seq ?_
        have hN5 := NodeM.fr EI hN hF4 (fun x y hxy hz => (hZ1 x hz).elim (hnz x y hxy) (fun h => by have := hltN x y hxy; omega))
        -- region 12 (map.go:619)
        refine Go'.region [(0, 0), (1, 2), (2, 0)] rfl ?_
        refine O.mv rfl rfl rfl rfl rfl ?_
        refine O.callQ rfl rfl rfl Go.Proofs.Try.call86 rfl (leaf_spec hN5.c3) trivial ?_
        refine O.not rfl rfl rfl rfl rfl ?_
        refine Pl.fin [(3, _), (11, _), (12, _), (47, _), (68, _), (71, _)] ⟨rfl, rfl, rfl, rfl, rfl, rfl, trivial⟩ ?_
        refine Go'.condF rfl ?_
        refine Go'.skip ?_
        refine Go'.inBlock ?_
        -- region 9 (map.go:615)
        refine Go'.region [(0, 0), (1, 0), (2, 0)] rfl ?_
        refine O.mv rfl rfl rfl rfl rfl ?_
        refine O.sub (((j : Nat) : Int) - 1) rfl rfl rfl rfl rfl rfl (by omega) (by omega) ?_
        refine O.asg rfl rfl rfl rfl rfl ?_
        refine Pl.fin [(3, _), (11, _), (12, _), (47, _), (68, _), (71, _)] ⟨rfl, rfl, rfl, rfl, rfl, rfl, trivial⟩ ?_
        refine Go'.keep [(3, _), (11, _), (12, _)] ⟨rfl, rfl, rfl, trivial⟩ ?_
        refine Go'.inLoop ?_
        exact ih (j, _, Z4, A ++ [y]) H4 ⟨by (try simp only) <;> omega, rfl, ht, hT4, hF5, hZ5, by simp only [List.length_append, List.length_singleton]; omega⟩ (by (try simp only) <;> omega)

theorem ndesc {B : World} {g : FuncId} {us cs : List Value} {go : List (Int × Int) → Bool} {M : Nat} (cb : Cb Try.prog B encKV g us cs go M) (hcall : ∀ (args : Array Value) (w : World), (callFunc g args).run Try.prog w = .ok (.enter g args) w) {tr : Nat} {P : Ps} (hP : PsOk P) (mt : Bool) (x : Int × Int) : ∀ (h : Nat) {H : Mem} {bp op : Nat} {acc : List (Int × Int)} {Z : Nat → Prop} {t : Gt EI h}, VPre cb H tr P h t bp op acc Z → Pl.Srt OI (Gt.L h t) →
    Fn Try.prog B 129 [.pointer (some ⟨tr, 0, none⟩), .pointer (some ⟨bp, op, none⟩), .int .i64 x.1, .func (.func g) us.toArray cs.toArray, .bool mt] H (fun r H' => r = .bool (takes go acc ((Pl.dn OI x (Gt.L h t)).reverse)).2 ∧ CbPost cb acc Z H ((Pl.dn OI x (Gt.L h t)).reverse) H')
  | 0, _, _, _, _, _, _, hp, hs => ndesc0 cb hcall hP mt x hp hs
  | h + 1, H, bp, op, acc, Z, (gg, X, K), hp, hs => by
    have ih := @ndesc B g us cs go M cb hcall tr P hP mt x h
    obtain ⟨tc, hg, hc, hnz, hntr, hst, hlen⟩ := hp
    have hI : Inn H P h gg X ((Gt.ps h K).map some) K := hg.inn
    have hKl : K.length = X.length + 1 := hg.2.2.2.2.2.1
    have hxm : X.length ≤ P.mx := hg.2.2.2.2.1
    have hx255 := hP.hx
    have hKL : (K.map (Gt.L h)).length = X.length + 1 := by rw [List.length_map]; exact hKl
    have hol : ((Gt.ps h K).map some).length = X.length + 1 := by rw [List.length_map, Gt.ps, List.length_map]; exact hKl
    replace hlen : acc.length + (Pl.inter X (K.map (Gt.L h))).length ≤ M := hlen
    replace hs : Pl.Srt OI (Pl.inter X (K.map (Gt.L h))) := hs
    have hsX : Pl.Srt OI X := hs.sublist (Pl.sublist_inter X _ (by omega))
    have hlt : ∀ x y, innc h gg K x y → x < H.size := fun x y hb => hI.lt hb
    obtain ⟨_, _, _, hkb⟩ := hI.cells
    have htl : tr < H.size := cl_lt tc.iso
    have hc0 := hI.n.c0
    rw [hI.iso] at hc0
    have hin : ∀ H', Fr (fun x _ => Z x) H H' → Inn H' P h gg X ((Gt.ps h K).map some) K := fun H' hf => hI.fr hf (fun x y hxy hz => hnz x y hxy hz)
    have htc : ∀ H', Fr (fun x _ => Z x) H H' → TrC H' tr P.iso P.mx P.mn := fun H' hf => tc.fr hf fun _ _ _ hz => hntr hz
    -- a child at any time
    have hkid : ∀ {H2 : Mem} {Z1 : Nat → Prop} {A : List (Int × Int)} {j : Nat} {k : Gt EI h}, K[j]? = some k → Fr (fun x _ => Z x) H H2 → cb.T A Z1 H2 → (∀ b, Z1 b → Z b ∨ H.size ≤ b) → A.length + (Gt.L h k).length ≤ M → VPre cb H2 tr P h k gg.kb (gg.ko + j * 1) A Z1 := by
      intro H2 Z1 A j k hkk hF hT hZ1 hA
      have hkK : k ∈ K := List.mem_of_getElem? hkk
      have hI2 := hin H2 hF
      have hok : ((Gt.ps h K).map some)[j]? = some (some (Gt.p h k)) := by rw [Gt.ps, List.map_map, List.getElem?_map, hkk]; rfl
      exact ⟨htc H2 hF, (hI2.c.1 k hkK).1, hI2.k.at hok, fun b o hb hz => (hZ1 b hz).elim (fun hz => hnz b o (.inr (.inr ⟨k, hkK, hb⟩)) hz) (fun hz => by have := hlt b o (.inr (.inr ⟨k, hkK, hb⟩)); omega),
        fun hz => (hZ1 _ hz).elim hntr (fun h => by omega), hT, hA⟩
    have hcat : ∀ {Z1 Z2 : Nat → Prop} {H2 H3 : Mem}, Fr (fun x _ => Z x) H H2 → (∀ b, Z1 b → Z b ∨ H.size ≤ b) → Fr (fun x _ => Z1 x) H2 H3 → (∀ b, Z2 b → Z1 b ∨ H2.size ≤ b) → Fr (fun x _ => Z x) H H3 ∧ ∀ b, Z2 b → Z b ∨ H.size ≤ b := by
      intro Z1 Z2 H2 H3 hF hZ1 hF2 hZ2
      have := hF.size
      exact ⟨hF.trans' hF2 (fun _ _ _ h => h) (fun b o hb hz => (hZ1 b hz).elim id (fun h => by omega)), fun b hb => (hZ2 b hb).elim (hZ1 b) (fun h => .inr (by omega))⟩
    have hple := Pl.pos_le OI x X
    have hfle : ((Pl.dn OI x (Pl.inter X (K.map (Gt.L h)))).reverse).length ≤ (Pl.inter X (K.map (Gt.L h))).length := by rw [List.length_reverse]; exact Pl.dn_le OI x _
    show Fn _ _ _ _ _ (fun r H' => r = .bool (takes go acc ((Pl.dn OI x (Pl.inter X (K.map (Gt.L h)))).reverse)).2 ∧ CbPost cb acc Z H ((Pl.dn OI x (Pl.inter X (K.map (Gt.L h)))).reverse) H')
    refine fn_of Go.Proofs.Try.func129 rfl Go.Proofs.Try.ntmps129 ?_
    refine (show Go' _ _ _ _ 85 [(0, _), (1, _), (2, _), (3, _), (4, _)] [.code _] _ from ?_)
    refine Go'.seq ?_
    -- region 0 (map.go:602)
    refine Go'.region [(0, 0)] rfl ?_
    refine O.asg rfl rfl rfl rfl rfl ?_
    refine Pl.fin [(0, _), (1, _), (2, _), (3, _), (4, _), (10, _)] ⟨rfl, rfl, rfl, rfl, rfl, rfl, trivial⟩ ?_
    refine Go'.seq ?_
    -- region 1 (map.go:605)
    refine Go'.region [(0, 0), (1, 0), (2, 0), (3, 2), (4, 0)] rfl ?_
    refine O.mv rfl rfl rfl rfl rfl ?_
    refine O.mv rfl rfl rfl rfl rfl ?_
    refine O.mv rfl rfl rfl rfl rfl ?_
    refine O.callQ rfl rfl rfl Go.Proofs.Try.call85 rfl (isoLoad_spec mt hc hc0 tc.iso) trivial ?_
    refine O.asg rfl rfl rfl rfl rfl ?_
    refine Pl.fin [(0, _), (2, _), (3, _), (4, _), (10, _), (11, _)] ⟨rfl, rfl, rfl, rfl, rfl, rfl, trivial⟩ ?_
    refine Go'.seq ?_
    unfold ptr
    -- region 2 (map.go:606)
    refine Go'.region [(0, 0), (1, 0), (2, 0), (3, 2), (4, 0), (5, 0), (6, 0), (7, 0), (8, 0)] rfl ?_
    refine O.mv rfl rfl rfl rfl rfl ?_
    refine O.mv rfl rfl rfl rfl rfl ?_
    refine O.mv rfl rfl rfl rfl rfl ?_
    refine O.callQ rfl rfl rfl Go.Proofs.Try.call114 rfl (search_spec x hI.n hsX (by omega)) trivial ?_
    refine O.mv rfl rfl rfl rfl rfl ?_
    refine O.ext rfl rfl rfl rfl rfl rfl ?_
    refine O.ext rfl rfl rfl rfl rfl rfl ?_
    refine O.asg rfl rfl rfl rfl rfl ?_
    refine O.asg rfl rfl rfl rfl rfl ?_
    refine Pl.fin [(0, _), (2, _), (3, _), (4, _), (10, _), (11, _), (12, _), (13, _)] ⟨rfl, rfl, rfl, rfl, rfl, rfl, rfl, rfl, trivial⟩ ?_
    refine Go'.seq ?_
    refine Go'.seq ?_
    cases hfd : Pl.fnd OI x X
    · skip
      obtain ⟨k0, hkk0⟩ : ∃ k, K[Pl.pos OI x X]? = some k := ⟨K[Pl.pos OI x X], List.getElem?_eq_getElem (by omega)⟩
      have hkL0 : (K.map (Gt.L h))[Pl.pos OI x X]? = some (Gt.L h k0) := by rw [List.getElem?_map, hkk0]; rfl
      have hW := (Pl.dn_child OI hs hKL hfd hkL0).1
      have hsk := Pl.child_srt OI hs hKL hfd hkL0
      have hlk : (Gt.L h k0).length ≤ (Pl.inter X (K.map (Gt.L h))).length := by
        rw [(Pl.inter_child OI hs hKL hfd hkL0).1, List.length_append, List.length_append]; omega
      generalize hpi : Pl.pos OI x X = i at *
      replace hW := congrArg List.reverse hW
      rw [List.reverse_append] at hW
      generalize hFULL : (Pl.dn OI x (Pl.inter X (K.map (Gt.L h)))).reverse = FULL at *
      -- region 3 (map.go:607)
      refine Go'.region [(0, 0), (1, 0)] rfl ?_
      refine O.mv rfl rfl rfl rfl rfl ?_
      refine O.not rfl rfl rfl rfl rfl ?_
      refine Pl.fin [(0, _), (2, _), (3, _), (4, _), (10, _), (11, _), (12, _), (26, _)] ⟨rfl, rfl, rfl, rfl, rfl, rfl, rfl, rfl, trivial⟩ ?_
      refine Go'.condT rfl ?_
      refine Go'.seq ?_
      refine Go'.seq ?_
      -- region 4 (map.go:608)
      refine Go'.region [(0, 0), (1, 2), (2, 0)] rfl ?_
      refine O.mv rfl rfl rfl rfl rfl ?_
      refine O.callQ rfl rfl rfl Go.Proofs.Try.call86 rfl (leaf_spec hI.n.c3) trivial ?_
      refine O.not rfl rfl rfl rfl rfl ?_
      refine Pl.fin [(0, _), (2, _), (3, _), (4, _), (10, _), (11, _), (12, _), (29, _)] ⟨rfl, rfl, rfl, rfl, rfl, rfl, rfl, rfl, trivial⟩ ?_
      refine Go'.condT rfl ?_
      refine Go'.seq ?_
      -- region 5 (map.go:609)
      refine Go'.region [(0, 0), (1, 0), (2, 0), (3, 0), (4, 1), (5, 0), (6, 1), (7, 0), (8, 0), (9, 0), (10, 0), (11, 0), (12, 2), (13, 0)] rfl ?_
      refine O.mv rfl rfl rfl rfl rfl ?_
      refine O.mv rfl rfl rfl rfl rfl ?_
      refine O.nc rfl rfl rfl rfl rfl ?_
      refine O.fa0 (off := 3) rfl rfl rfl rfl ⟨_, _, _, Go.Proofs.Try.underlying111, rfl, rfl, Go.Proofs.Try.sizeOf109⟩ rfl ?_
      refine O.ld rfl rfl rfl (fun w => ⟨Go.Proofs.Try.isAgg109 w, Go.Proofs.Try.sizeOf109 w⟩) rfl hI.n.c3 ?_
      refine O.nc rfl rfl rfl rfl rfl ?_
      refine O.ld rfl rfl rfl (fun w => ⟨Go.Proofs.Try.isAgg112 w, Go.Proofs.Try.sizeOf112 w⟩) rfl hI.k.c ?_
      refine O.mv rfl rfl rfl rfl rfl ?_
      refine O.ix (j := i) rfl rfl rfl rfl Go.Proofs.Try.underlying112 Go.Proofs.Try.sizeOf103 rfl rfl (by omega) (by omega) ?_
      refine O.mv rfl rfl rfl rfl rfl ?_
      refine O.mv rfl rfl rfl rfl rfl ?_
      refine O.mv rfl rfl rfl rfl rfl ?_
      refine O.call rfl rfl rfl Go.Proofs.Try.call129 rfl (ih (hkid hkk0 (Fr.refl _ _) hst (fun b hb => .inl hb) (by omega)) hsk) ?_
      rintro _ H2 ⟨rfl, Z2, hT2, hF2, hZ2⟩
      refine ⟨trivial, ?_⟩
      refine O.not rfl rfl rfl rfl rfl ?_
      refine Pl.fin [(0, _), (3, _), (4, _), (10, _), (11, _), (12, _), (43, _)] ⟨rfl, rfl, rfl, rfl, rfl, rfl, rfl, trivial⟩ ?_
      cases htk0 : (takes go acc ((Pl.dn OI x (Gt.L h k0)).reverse)).2
      · skip
        refine Go'.condT rfl ?_
        refine Go'.seq ?_
        -- region 6 (map.go:610)
        refine Go'.region [(0, 0)] rfl ?_
        refine O.asg rfl rfl rfl rfl rfl ?_
        refine Pl.fin [(0, _), (3, _), (4, _), (10, _), (11, _), (12, _)] ⟨rfl, rfl, rfl, rfl, rfl, rfl, trivial⟩ ?_
        refine Go'.ret (vs := [_]) Go.Proofs.Try.func129 Go.Proofs.Try.results129 ⟨rfl, trivial⟩ ?_
        have e2 := takes_halt (r := (Pl.pre (X.take (i)) ((K.map (Gt.L h)).take (i))).reverse) htk0
        rw [← hW] at e2
        unfold CbPost
        rw [e2]
        exact ⟨by rw [htk0]; rfl, Z2, hT2, hF2, hZ2⟩
      · skip
        refine Go'.condF rfl ?_
        refine Go'.skip ?_
        -- region 7 (map.go:613)
        refine Go'.region [(0, 0), (1, 0), (2, 0)] rfl ?_
        refine O.mv rfl rfl rfl rfl rfl ?_
        refine O.sub ((i : Int) - 1) rfl rfl rfl rfl rfl rfl (by omega) (by omega) ?_
        refine O.asg rfl rfl rfl rfl rfl ?_
        refine Pl.fin [(0, _), (3, _), (4, _), (10, _), (11, _), (12, _)] ⟨rfl, rfl, rfl, rfl, rfl, rfl, trivial⟩ ?_
        refine Go'.seq ?_
        refine Go'.block ?_
        have e2 := takes_rest (r := (Pl.pre (X.take (i)) ((K.map (Gt.L h)).take (i))).reverse) htk0
        rw [← hW] at e2
        have htl := takes_length go ((Pl.dn OI x (Gt.L h k0)).reverse) acc
        rw [hW, List.length_append] at hfle
        generalize (takes go acc ((Pl.dn OI x (Gt.L h k0)).reverse)).1 = A0 at *
        refine Go'.loop ?_
        refine Go'.keep [(0, _), (3, _), (4, _), (11, _), (12, _)] ⟨rfl, rfl, rfl, rfl, rfl, trivial⟩ ?_
        refine Go'.ind (σ := Nat × Int × (Nat → Prop) × List (Int × Int)) (fun s => s.1) (fun s H' => s.1 ≤ X.length ∧ s.2.1 = (s.1 : Int) - 1 ∧ takes go acc FULL = takes go s.2.2.2 ((Pl.pre (X.take (s.1)) ((K.map (Gt.L h)).take (s.1))).reverse) ∧ cb.T s.2.2.2 s.2.2.1 H' ∧ Fr (fun b _ => Z b) H H' ∧ (∀ b, s.2.2.1 b → Z b ∨ H.size ≤ b) ∧ s.2.2.2.length + ((Pl.pre (X.take (s.1)) ((K.map (Gt.L h)).take (s.1))).reverse).length ≤ M)
          (fun s => [(0, .pointer (some ⟨tr, 0, none⟩)), (3, .func (.func g) us.toArray cs.toArray), (4, .bool mt), (11, .pointer (some ⟨gg.p, 0, none⟩)), (12, .int .i64 s.2.1)]) (i, (i : Int) - 1, Z2, A0) ⟨by (try simp only) <;> omega, by (try simp only) <;> omega, e2, hT2, hF2, hZ2, by (try simp only) <;> omega⟩ rfl ?_
        rintro ⟨j, z, Z1, A⟩ H3 ⟨hj, hz, ht, hT, hF, hZ1, hAM⟩ ih2
        simp only at hj hz ht hT hZ1 hAM
        subst hz
        have hI3 := hin H3 hF
        refine Go'.seq ?_
        refine Go'.seq ?_
        rcases j with _ | j
        · skip
          -- region 8 (map.go:615)
          refine Go'.region [(0, 0), (1, 0)] rfl ?_
          refine O.mv rfl rfl rfl rfl rfl ?_
          refine O.cmp rfl rfl rfl rfl rfl rfl (geqF (by show ((0 : Nat) : Int) - 1 < 0; omega)) ?_
          refine Pl.fin [(0, _), (3, _), (4, _), (11, _), (12, _), (47, _)] ⟨rfl, rfl, rfl, rfl, rfl, rfl, trivial⟩ ?_
          rw [List.take_zero] at ht
          refine Go'.condF rfl ?_
          refine Go'.exit rfl ?_
          refine Go'.seq ?_
          -- region 15 (map.go:625)
          refine Go'.region [(0, 0)] rfl ?_
          refine O.asg rfl rfl rfl rfl rfl ?_
          refine Pl.fin [(10, _)] ⟨rfl, trivial⟩ ?_
          refine Go'.ret (vs := [_]) Go.Proofs.Try.func129 Go.Proofs.Try.results129 ⟨rfl, trivial⟩ ?_
          replace ht : takes go acc FULL = (A, true) := ht
          unfold CbPost
          rw [ht]
          exact ⟨rfl, Z1, hT, hF, hZ1⟩
        · skip
          obtain ⟨y, hy⟩ : ∃ y, X[j]? = some y := ⟨X[j], List.getElem?_eq_getElem (by omega)⟩
          obtain ⟨k, hkk⟩ : ∃ k, K[j]? = some k := ⟨K[j], List.getElem?_eq_getElem (by omega)⟩
          have hkL : (K.map (Gt.L h))[j]? = some (Gt.L h k) := by rw [List.getElem?_map, hkk]; rfl
          rw [Pl.pre_succ hy hkL, List.reverse_append, List.reverse_append, List.reverse_singleton, List.append_assoc, List.singleton_append] at ht hAM
          have ej : (((j + 1 : Nat) : Int) - 1) = (j : Int) := by omega
          refine (show Go' _ _ _ _ _ [(0, .pointer (some ⟨tr, 0, none⟩)), (3, .func (.func g) us.toArray cs.toArray), (4, .bool mt), (11, .pointer (some ⟨gg.p, 0, none⟩)), (12, .int .i64 (((j + 1 : Nat) : Int) - 1))] _ _ from ?_)
          rw [ej]
          rw [List.length_cons, List.length_append] at hAM
          have hkr : (Gt.L h k).reverse.length = (Gt.L h k).length := List.length_reverse
          -- region 8 (map.go:615)
          refine Go'.region [(0, 0), (1, 0)] rfl ?_
          refine O.mv rfl rfl rfl rfl rfl ?_
          refine O.cmp rfl rfl rfl rfl rfl rfl (geqT (by omega)) ?_
          refine Pl.fin [(0, _), (3, _), (4, _), (11, _), (12, _), (47, _)] ⟨rfl, rfl, rfl, rfl, rfl, rfl, trivial⟩ ?_
          refine Go'.condT rfl ?_
          refine Go'.skip ?_
          refine Go'.seq ?_
          refine Go'.block ?_
          refine Go'.seq ?_
          refine Go'.seq ?_
          cases hgo : go (A ++ [y])
          · skip
            -- region 10 (map.go:616)
            refine Go'.draw (fun _ => True) [(0, 0), (1, 0), (2, 0), (3, 0), (4, 1), (5, 0), (6, 0), (7, 0), (8, 1), (9, 0), (10, 0), (11, 0), (12, 1), (13, 0), (14, 0), (15, 0), (16, 1), (17, 2), (18, 0)] (by kernel_rfl) (by kernel_rfl) (trivial) ?_
            refine O.mv rfl rfl rfl rfl rfl ?_
            refine O.mv rfl rfl rfl rfl rfl ?_
            refine O.nc rfl rfl rfl rfl rfl ?_
            refine O.fa0 (off := 2) rfl rfl rfl rfl ⟨_, _, _, Go.Proofs.Try.underlying111, rfl, rfl, Go.Proofs.Try.sizeOf108⟩ rfl ?_
            refine O.ld rfl rfl rfl (fun w => ⟨Go.Proofs.Try.isAgg108 w, Go.Proofs.Try.sizeOf108 w⟩) rfl hI3.n.c2 ?_
            refine O.mv rfl rfl rfl rfl rfl ?_
            refine O.ix (j := j) rfl rfl rfl rfl Go.Proofs.Try.underlying108 Go.Proofs.Try.sizeOf100 rfl rfl (by omega) (by omega) ?_
            refine O.fa (off := 1) rfl rfl rfl rfl ⟨_, _, _, Go.Proofs.Try.underlying100, rfl, rfl, Go.Proofs.Try.sizeOf3⟩ rfl ?_
            refine O.ld rfl rfl rfl (fun w => ⟨Go.Proofs.Try.isAgg3 w, Go.Proofs.Try.sizeOf3 w⟩) rfl (hI3.n.sl.cell hy (j := 1) rfl) ?_
            refine O.mv rfl rfl rfl rfl rfl ?_
            refine O.nc rfl rfl rfl rfl rfl ?_
            refine O.fa0 (off := 2) rfl rfl rfl rfl ⟨_, _, _, Go.Proofs.Try.underlying111, rfl, rfl, Go.Proofs.Try.sizeOf108⟩ rfl ?_
            refine O.ld rfl rfl rfl (fun w => ⟨Go.Proofs.Try.isAgg108 w, Go.Proofs.Try.sizeOf108 w⟩) rfl hI3.n.c2 ?_
            refine O.mv rfl rfl rfl rfl rfl ?_
            refine O.ix (j := j) rfl rfl rfl rfl Go.Proofs.Try.underlying108 Go.Proofs.Try.sizeOf100 rfl rfl (by omega) (by omega) ?_
            refine O.faz rfl rfl rfl rfl ⟨_, _, _, Go.Proofs.Try.underlying100, rfl, rfl, Go.Proofs.Try.sizeOf3⟩ rfl ?_
            refine O.ld rfl rfl rfl (fun w => ⟨Go.Proofs.Try.isAgg3 w, Go.Proofs.Try.sizeOf3 w⟩) rfl (hI3.n.sl.cell hy (j := 0) rfl) ?_
            refine O.callC rfl rfl rfl rfl hcall rfl (cb.call y hT (by omega)) ?_
            rintro _ H4 ⟨rfl, Z4, hT4, hF4, hZ4⟩
            rw [hgo]
            obtain ⟨hF5, hZ5⟩ := hcat hF hZ1 hF4 hZ4
            refine ⟨trivial, ?_⟩
            refine O.not rfl rfl rfl rfl rfl ?_
            refine Pl.fin [(0, _), (3, _), (4, _), (11, _), (12, _), (47, _), (68, _)] ⟨rfl, rfl, rfl, rfl, rfl, rfl, rfl, trivial⟩ ?_
            refine Go'.condT rfl ?_
            refine Go'.seq ?_
            -- region 11 (map.go:617)
            refine Go'.region [(0, 0)] rfl ?_
            refine O.asg rfl rfl rfl rfl rfl ?_
            refine Pl.fin [(0, _), (3, _), (4, _), (10, _), (11, _), (12, _), (47, _), (68, _)] ⟨rfl, rfl, rfl, rfl, rfl, rfl, rfl, rfl, trivial⟩ ?_
            refine Go'.ret (vs := [_]) Go.Proofs.Try.func129 Go.Proofs.Try.results129 ⟨rfl, trivial⟩ ?_
            rw [takes_cons, hgo] at ht
            unfold CbPost
            rw [ht]
            exact ⟨rfl, Z4, hT4, hF5, hZ5⟩
          · skip
            -- region 10 (map.go:616)
            refine Go'.draw (fun _ => True) [(0, 0), (1, 0), (2, 0), (3, 0), (4, 1), (5, 0), (6, 0), (7, 0), (8, 1), (9, 0), (10, 0), (11, 0), (12, 1), (13, 0), (14, 0), (15, 0), (16, 1), (17, 2), (18, 0)] (by kernel_rfl) (by kernel_rfl) (trivial) ?_
            refine O.mv rfl rfl rfl rfl rfl ?_
            refine O.mv rfl rfl rfl rfl rfl ?_
            refine O.nc rfl rfl rfl rfl rfl ?_
            refine O.fa0 (off := 2) rfl rfl rfl rfl ⟨_, _, _, Go.Proofs.Try.underlying111, rfl, rfl, Go.Proofs.Try.sizeOf108⟩ rfl ?_
            refine O.ld rfl rfl rfl (fun w => ⟨Go.Proofs.Try.isAgg108 w, Go.Proofs.Try.sizeOf108 w⟩) rfl hI3.n.c2 ?_
            refine O.mv rfl rfl rfl rfl rfl ?_
            refine O.ix (j := j) rfl rfl rfl rfl Go.Proofs.Try.underlying108 Go.Proofs.Try.sizeOf100 rfl rfl (by omega) (by omega) ?_
            refine O.fa (off := 1) rfl rfl rfl rfl ⟨_, _, _, Go.Proofs.Try.underlying100, rfl, rfl, Go.Proofs.Try.sizeOf3⟩ rfl ?_
            refine O.ld rfl rfl rfl (fun w => ⟨Go.Proofs.Try.isAgg3 w, Go.Proofs.Try.sizeOf3 w⟩) rfl (hI3.n.sl.cell hy (j := 1) rfl) ?_
            refine O.mv rfl rfl rfl rfl rfl ?_
            refine O.nc rfl rfl rfl rfl rfl ?_
            refine O.fa0 (off := 2) rfl rfl rfl rfl ⟨_, _, _, Go.Proofs.Try.underlying111, rfl, rfl, Go.Proofs.Try.sizeOf108⟩ rfl ?_
            refine O.ld rfl rfl rfl (fun w => ⟨Go.Proofs.Try.isAgg108 w, Go.Proofs.Try.sizeOf108 w⟩) rfl hI3.n.c2 ?_
            refine O.mv rfl rfl rfl rfl rfl ?_
            refine O.ix (j := j) rfl rfl rfl rfl Go.Proofs.Try.underlying108 Go.Proofs.Try.sizeOf100 rfl rfl (by omega) (by omega) ?_
            refine O.faz rfl rfl rfl rfl ⟨_, _, _, Go.Proofs.Try.underlying100, rfl, rfl, Go.Proofs.Try.sizeOf3⟩ rfl ?_
            refine O.ld rfl rfl rfl (fun w => ⟨Go.Proofs.Try.isAgg3 w, Go.Proofs.Try.sizeOf3 w⟩) rfl (hI3.n.sl.cell hy (j := 0) rfl) ?_
            refine O.callC rfl rfl rfl rfl hcall rfl (cb.call y hT (by omega)) ?_
            rintro _ H4 ⟨rfl, Z4, hT4, hF4, hZ4⟩
            rw [hgo]
            obtain ⟨hF5, hZ5⟩ := hcat hF hZ1 hF4 hZ4
            refine ⟨trivial, ?_⟩
            refine O.not rfl rfl rfl rfl rfl ?_
            refine Pl.fin [(0, _), (3, _), (4, _), (11, _), (12, _), (47, _), (68, _)] ⟨rfl, rfl, rfl, rfl, rfl, rfl, rfl, trivial⟩ ?_
            rw [takes_cons, hgo, if_pos rfl] at ht
            refine Go'.condF rfl ?_
            refine Go'.skip ?_
            refine Go'.seq ?_
            have hI4 := hin H4 hF5
            have hAy : (A ++ [y]).length = A.length + 1 := by simp
            -- region 12 (map.go:619)
            refine Go'.region [(0, 0), (1, 2), (2, 0)] rfl ?_
            refine O.mv rfl rfl rfl rfl rfl ?_
            refine O.callQ rfl rfl rfl Go.Proofs.Try.call86 rfl (leaf_spec hI4.n.c3) trivial ?_
            refine O.not rfl rfl rfl rfl rfl ?_
            refine Pl.fin [(0, _), (3, _), (4, _), (11, _), (12, _), (47, _), (68, _), (71, _)] ⟨rfl, rfl, rfl, rfl, rfl, rfl, rfl, rfl, trivial⟩ ?_
            refine Go'.condT rfl ?_
            refine Go'.seq ?_
            -- region 13 (map.go:620)
            refine Go'.region [(0, 0), (1, 0), (2, 0), (3, 0), (4, 1), (5, 0), (6, 1), (7, 0), (8, 0), (9, 0), (10, 0), (11, 2), (12, 0)] rfl ?_
            refine O.mv rfl rfl rfl rfl rfl ?_
            refine O.mv rfl rfl rfl rfl rfl ?_
            refine O.nc rfl rfl rfl rfl rfl ?_
            refine O.fa0 (off := 3) rfl rfl rfl rfl ⟨_, _, _, Go.Proofs.Try.underlying111, rfl, rfl, Go.Proofs.Try.sizeOf109⟩ rfl ?_
            refine O.ld rfl rfl rfl (fun w => ⟨Go.Proofs.Try.isAgg109 w, Go.Proofs.Try.sizeOf109 w⟩) rfl hI4.n.c3 ?_
            refine O.nc rfl rfl rfl rfl rfl ?_
            refine O.ld rfl rfl rfl (fun w => ⟨Go.Proofs.Try.isAgg112 w, Go.Proofs.Try.sizeOf112 w⟩) rfl hI4.k.c ?_
            refine O.mv rfl rfl rfl rfl rfl ?_
            refine O.ix (j := j) rfl rfl rfl rfl Go.Proofs.Try.underlying112 Go.Proofs.Try.sizeOf103 rfl rfl (by omega) (by omega) ?_
            refine O.mv rfl rfl rfl rfl rfl ?_
            refine O.mv rfl rfl rfl rfl rfl ?_
            refine O.call rfl rfl rfl Go.Proofs.Try.call119 rfl (nrev cb hcall hP mt h (hkid hkk hF5 hT4 hZ5 (by omega))) ?_
            rintro _ H6 ⟨rfl, Z6, hT6, hF6, hZ6⟩
            obtain ⟨hF7, hZ7⟩ := hcat hF5 hZ5 hF6 hZ6
            refine ⟨trivial, ?_⟩
            refine O.not rfl rfl rfl rfl rfl ?_
            refine Pl.fin [(0, _), (3, _), (4, _), (11, _), (12, _), (47, _), (68, _), (71, _), (84, _)] ⟨rfl, rfl, rfl, rfl, rfl, rfl, rfl, rfl, rfl, trivial⟩ ?_
            cases htk2 : (takes go (A ++ [y]) (Gt.L h k).reverse).2
            · skip
              refine Go'.condT rfl ?_
              refine Go'.seq ?_
              -- region 14 (map.go:621)
              refine Go'.region [(0, 0)] rfl ?_
              refine O.asg rfl rfl rfl rfl rfl ?_
              refine Pl.fin [(0, _), (3, _), (4, _), (10, _), (11, _), (12, _), (47, _), (68, _), (71, _), (84, _)] ⟨rfl, rfl, rfl, rfl, rfl, rfl, rfl, rfl, rfl, rfl, trivial⟩ ?_
              refine Go'.ret (vs := [_]) Go.Proofs.Try.func129 Go.Proofs.Try.results129 ⟨rfl, trivial⟩ ?_
              rw [takes_halt htk2] at ht
              unfold CbPost
              rw [ht]
              exact ⟨by rw [htk2]; rfl, Z6, hT6, hF7, hZ7⟩
            · skip
              refine Go'.condF rfl ?_
              refine Go'.skip ?_
              refine Go'.inBlock ?_
              have htl := takes_length go (Gt.L h k).reverse (A ++ [y])
              -- region 9 (map.go:615)
              refine Go'.region [(0, 0), (1, 0), (2, 0)] rfl ?_
              refine O.mv rfl rfl rfl rfl rfl ?_
              refine O.sub (((j : Nat) : Int) - 1) rfl rfl rfl rfl rfl rfl (by omega) (by omega) ?_
              refine O.asg rfl rfl rfl rfl rfl ?_
              refine Pl.fin [(0, _), (3, _), (4, _), (11, _), (12, _), (47, _), (68, _), (71, _), (84, _)] ⟨rfl, rfl, rfl, rfl, rfl, rfl, rfl, rfl, rfl, trivial⟩ ?_
              refine Go'.keep [(0, _), (3, _), (4, _), (11, _), (12, _)] ⟨rfl, rfl, rfl, rfl, rfl, trivial⟩ ?_
              refine Go'.inLoop ?_
              rw [takes_rest htk2] at ht
              generalize (takes go (A ++ [y]) (Gt.L h k).reverse).1 = A6 at *
              exact ih2 (j, _, Z6, A6) H6 ⟨by (try simp only) <;> omega, rfl, ht, hT6, hF7, hZ7, by (try simp only) <;> omega⟩ (by (try simp only) <;> omega)
    · skip
      have hW := (Pl.dn_found OI hs hKL hfd).1
      have hlt1 := Pl.fnd_pos_lt OI hfd
      generalize hpi : Pl.pos OI x X = i at *
      replace hW := congrArg List.reverse hW
      generalize hFULL : (Pl.dn OI x (Pl.inter X (K.map (Gt.L h)))).reverse = FULL at *
      -- region 3 (map.go:607)
      refine Go'.region [(0, 0), (1, 0)] rfl ?_
      refine O.mv rfl rfl rfl rfl rfl ?_
      refine O.not rfl rfl rfl rfl rfl ?_
      refine Pl.fin [(0, _), (2, _), (3, _), (4, _), (10, _), (11, _), (12, _), (26, _)] ⟨rfl, rfl, rfl, rfl, rfl, rfl, rfl, rfl, trivial⟩ ?_
      refine Go'.condF rfl ?_
      refine Go'.skip ?_
      refine Go'.seq ?_
      refine Go'.block ?_
      refine Go'.loop ?_
      refine Go'.keep [(0, _), (3, _), (4, _), (11, _), (12, _)] ⟨rfl, rfl, rfl, rfl, rfl, trivial⟩ ?_
      refine Go'.ind (σ := Nat × Int × (Nat → Prop) × List (Int × Int)) (fun s => s.1) (fun s H' => s.1 ≤ X.length ∧ s.2.1 = (s.1 : Int) - 1 ∧ takes go acc FULL = takes go s.2.2.2 ((Pl.pre (X.take (s.1)) ((K.map (Gt.L h)).take (s.1))).reverse) ∧ cb.T s.2.2.2 s.2.2.1 H' ∧ Fr (fun b _ => Z b) H H' ∧ (∀ b, s.2.2.1 b → Z b ∨ H.size ≤ b) ∧ s.2.2.2.length + ((Pl.pre (X.take (s.1)) ((K.map (Gt.L h)).take (s.1))).reverse).length ≤ M)
        (fun s => [(0, .pointer (some ⟨tr, 0, none⟩)), (3, .func (.func g) us.toArray cs.toArray), (4, .bool mt), (11, .pointer (some ⟨gg.p, 0, none⟩)), (12, .int .i64 s.2.1)]) (i + 1, (i : Int), Z, acc) ⟨by (try simp only) <;> omega, by (try simp only) <;> omega, by rw [hW], hst, (Fr.refl _ _), fun b hb => .inl hb, by rw [hW] at hfle; simp only; omega⟩ rfl ?_
      rintro ⟨j, z, Z1, A⟩ H3 ⟨hj, hz, ht, hT, hF, hZ1, hAM⟩ ih2
      simp only at hj hz ht hT hZ1 hAM
      subst hz
      have hI3 := hin H3 hF
      refine Go'.seq ?_
      refine Go'.seq ?_
      rcases j with _ | j
      · skip
        -- region 8 (map.go:615)
        refine Go'.region [(0, 0), (1, 0)] rfl ?_
        refine O.mv rfl rfl rfl rfl rfl ?_
        refine O.cmp rfl rfl rfl rfl rfl rfl (geqF (by show ((0 : Nat) : Int) - 1 < 0; omega)) ?_
        refine Pl.fin [(0, _), (3, _), (4, _), (11, _), (12, _), (47, _)] ⟨rfl, rfl, rfl, rfl, rfl, rfl, trivial⟩ ?_
        rw [List.take_zero] at ht
        refine Go'.condF rfl ?_
        refine Go'.exit rfl ?_
        refine Go'.seq ?_
        -- region 15 (map.go:625)
        refine Go'.region [(0, 0)] rfl ?_
        refine O.asg rfl rfl rfl rfl rfl ?_
        refine Pl.fin [(10, _)] ⟨rfl, trivial⟩ ?_
        refine Go'.ret (vs := [_]) Go.Proofs.Try.func129 Go.Proofs.Try.results129 ⟨rfl, trivial⟩ ?_
        replace ht : takes go acc FULL = (A, true) := ht
        unfold CbPost
        rw [ht]
        exact ⟨rfl, Z1, hT, hF, hZ1⟩
      · skip
        obtain ⟨y, hy⟩ : ∃ y, X[j]? = some y := ⟨X[j], List.getElem?_eq_getElem (by omega)⟩
        obtain ⟨k, hkk⟩ : ∃ k, K[j]? = some k := ⟨K[j], List.getElem?_eq_getElem (by omega)⟩
        have hkL : (K.map (Gt.L h))[j]? = some (Gt.L h k) := by rw [List.getElem?_map, hkk]; rfl
        rw [Pl.pre_succ hy hkL, List.reverse_append, List.reverse_append, List.reverse_singleton, List.append_assoc, List.singleton_append] at ht hAM
        have ej : (((j + 1 : Nat) : Int) - 1) = (j : Int) := by omega
        refine (show Go' _ _ _ _ _ [(0, .pointer (some ⟨tr, 0, none⟩)), (3, .func (.func g) us.toArray cs.toArray), (4, .bool mt), (11, .pointer (some ⟨gg.p, 0, none⟩)), (12, .int .i64 (((j + 1 : Nat) : Int) - 1))] _ _ from ?_)
        rw [ej]
        rw [List.length_cons, List.length_append] at hAM
        have hkr : (Gt.L h k).reverse.length = (Gt.L h k).length := List.length_reverse
        -- region 8 (map.go:615)
        refine Go'.region [(0, 0), (1, 0)] rfl ?_
        refine O.mv rfl rfl rfl rfl rfl ?_
        refine O.cmp rfl rfl rfl rfl rfl rfl (geqT (by omega)) ?_
        refine Pl.fin [(0, _), (3, _), (4, _), (11, _), (12, _), (47, _)] ⟨rfl, rfl, rfl, rfl, rfl, rfl, trivial⟩ ?_
        refine Go'.condT rfl ?_
        refine Go'.skip ?_
        refine Go'.seq ?_
        refine Go'.block ?_
        refine Go'.seq ?_
        refine Go'.seq ?_
        cases hgo : go (A ++ [y])
        · skip
          -- region 10 (map.go:616)
          refine Go'.draw (fun _ => True) [(0, 0), (1, 0), (2, 0), (3, 0), (4, 1), (5, 0), (6, 0), (7, 0), (8, 1), (9, 0), (10, 0), (11, 0), (12, 1), (13, 0), (14, 0), (15, 0), (16, 1), (17, 2), (18, 0)] (by kernel_rfl) (by kernel_rfl) (trivial) ?_
          refine O.mv rfl rfl rfl rfl rfl ?_
          refine O.mv rfl rfl rfl rfl rfl ?_
          refine O.nc rfl rfl rfl rfl rfl ?_
          refine O.fa0 (off := 2) rfl rfl rfl rfl ⟨_, _, _, Go.Proofs.Try.underlying111, rfl, rfl, Go.Proofs.Try.sizeOf108⟩ rfl ?_
          refine O.ld rfl rfl rfl (fun w => ⟨Go.Proofs.Try.isAgg108 w, Go.Proofs.Try.sizeOf108 w⟩) rfl hI3.n.c2 ?_
          refine O.mv rfl rfl rfl rfl rfl ?_
          refine O.ix (j := j) rfl rfl rfl rfl Go.Proofs.Try.underlying108 Go.Proofs.Try.sizeOf100 rfl rfl (by omega) (by omega) ?_
          refine O.fa (off := 1) rfl rfl rfl rfl ⟨_, _, _, Go.Proofs.Try.underlying100, rfl, rfl, Go.Proofs.Try.sizeOf3⟩ rfl ?_
          refine O.ld rfl rfl rfl (fun w => ⟨Go.Proofs.Try.isAgg3 w, Go.Proofs.Try.sizeOf3 w⟩) rfl (hI3.n.sl.cell hy (j := 1) rfl) ?_
          refine O.mv rfl rfl rfl rfl rfl ?_
          refine O.nc rfl rfl rfl rfl rfl ?_
          refine O.fa0 (off := 2) rfl rfl rfl rfl ⟨_, _, _, Go.Proofs.Try.underlying111, rfl, rfl, Go.Proofs.Try.sizeOf108⟩ rfl ?_
          refine O.ld rfl rfl rfl (fun w => ⟨Go.Proofs.Try.isAgg108 w, Go.Proofs.Try.sizeOf108 w⟩) rfl hI3.n.c2 ?_
          refine O.mv rfl rfl rfl rfl rfl ?_
          refine O.ix (j := j) rfl rfl rfl rfl Go.Proofs.Try.underlying108 Go.Proofs.Try.sizeOf100 rfl rfl (by omega) (by omega) ?_
          refine O.faz rfl rfl rfl rfl ⟨_, _, _, Go.Proofs.Try.underlying100, rfl, rfl, Go.Proofs.Try.sizeOf3⟩ rfl ?_
          refine O.ld rfl rfl rfl (fun w => ⟨Go.Proofs.Try.isAgg3 w, Go.Proofs.Try.sizeOf3 w⟩) rfl (hI3.n.sl.cell hy (j := 0) rfl) ?_
          refine O.callC rfl rfl rfl rfl hcall rfl (cb.call y hT (by omega)) ?_
          rintro _ H4 ⟨rfl, Z4, hT4, hF4, hZ4⟩
          rw [hgo]
          obtain ⟨hF5, hZ5⟩ := hcat hF hZ1 hF4 hZ4
          refine ⟨trivial, ?_⟩
          refine O.not rfl rfl rfl rfl rfl ?_
          refine Pl.fin [(0, _), (3, _), (4, _), (11, _), (12, _), (47, _), (68, _)] ⟨rfl, rfl, rfl, rfl, rfl, rfl, rfl, trivial⟩ ?_
          refine Go'.condT rfl ?_
          refine Go'.seq ?_
          -- region 11 (map.go:617)
          refine Go'.region [(0, 0)] rfl ?_
          refine O.asg rfl rfl rfl rfl rfl ?_
          refine Pl.fin [(0, _), (3, _), (4, _), (10, _), (11, _), (12, _), (47, _), (68, _)] ⟨rfl, rfl, rfl, rfl, rfl, rfl, rfl, rfl, trivial⟩ ?_
          refine Go'.ret (vs := [_]) Go.Proofs.Try.func129 Go.Proofs.Try.results129 ⟨rfl, trivial⟩ ?_
          rw [takes_cons, hgo] at ht
          unfold CbPost
          rw [ht]
          exact ⟨rfl, Z4, hT4, hF5, hZ5⟩
        · skip
          -- region 10 (map.go:616)
          refine Go'.draw (fun _ => True) [(0, 0), (1, 0), (2, 0), (3, 0), (4, 1), (5, 0), (6, 0), (7, 0), (8, 1), (9, 0), (10, 0), (11, 0), (12, 1), (13, 0), (14, 0), (15, 0), (16, 1), (17, 2), (18, 0)] (by kernel_rfl) (by kernel_rfl) (trivial) ?_
          refine O.mv rfl rfl rfl rfl rfl ?_
          refine O.mv rfl rfl rfl rfl rfl ?_
          refine O.nc rfl rfl rfl rfl rfl ?_
          refine O.fa0 (off := 2) rfl rfl rfl rfl ⟨_, _, _, Go.Proofs.Try.underlying111, rfl, rfl, Go.Proofs.Try.sizeOf108⟩ rfl ?_
          refine O.ld rfl rfl rfl (fun w => ⟨Go.Proofs.Try.isAgg108 w, Go.Proofs.Try.sizeOf108 w⟩) rfl hI3.n.c2 ?_
          refine O.mv rfl rfl rfl rfl rfl ?_
          refine O.ix (j := j) rfl rfl rfl rfl Go.Proofs.Try.underlying108 Go.Proofs.Try.sizeOf100 rfl rfl (by omega) (by omega) ?_
          refine O.fa (off := 1) rfl rfl rfl rfl ⟨_, _, _, Go.Proofs.Try.underlying100, rfl, rfl, Go.Proofs.Try.sizeOf3⟩ rfl ?_
          refine O.ld rfl rfl rfl (fun w => ⟨Go.Proofs.Try.isAgg3 w, Go.Proofs.Try.sizeOf3 w⟩) rfl (hI3.n.sl.cell hy (j := 1) rfl) ?_
          refine O.mv rfl rfl rfl rfl rfl ?_
          refine O.nc rfl rfl rfl rfl rfl ?_
          refine O.fa0 (off := 2) rfl rfl rfl rfl ⟨_, _, _, Go.Proofs.Try.underlying111, rfl, rfl, Go.Proofs.Try.sizeOf108⟩ rfl ?_
          refine O.ld rfl rfl rfl (fun w => ⟨Go.Proofs.Try.isAgg108 w, Go.Proofs.Try.sizeOf108 w⟩) rfl hI3.n.c2 ?_
          refine O.mv rfl rfl rfl rfl rfl ?_
          refine O.ix (j := j) rfl rfl rfl rfl Go.Proofs.Try.underlying108 Go.Proofs.Try.sizeOf100 rfl rfl (by omega) (by omega) ?_
          refine O.faz rfl rfl rfl rfl ⟨_, _, _, Go.Proofs.Try.underlying100, rfl, rfl, Go.Proofs.Try.sizeOf3⟩ rfl ?_
          refine O.ld rfl rfl rfl (fun w => ⟨Go.Proofs.Try.isAgg3 w, Go.Proofs.Try.sizeOf3 w⟩) rfl (hI3.n.sl.cell hy (j := 0) rfl) ?_
          refine O.callC rfl rfl rfl rfl hcall rfl (cb.call y hT (by omega)) ?_
          rintro _ H4 ⟨rfl, Z4, hT4, hF4, hZ4⟩
          rw [hgo]
          obtain ⟨hF5, hZ5⟩ := hcat hF hZ1 hF4 hZ4
          refine ⟨trivial, ?_⟩
          refine O.not rfl rfl rfl rfl rfl ?_
          refine Pl.fin [(0, _), (3, _), (4, _), (11, _), (12, _), (47, _), (68, _)] ⟨rfl, rfl, rfl, rfl, rfl, rfl, rfl, trivial⟩ ?_
          rw [takes_cons, hgo, if_pos rfl] at ht
          refine Go'.condF rfl ?_
          refine Go'.skip ?_
          refine Go'.seq ?_
          have hI4 := hin H4 hF5
          have hAy : (A ++ [y]).length = A.length + 1 := by simp
          -- region 12 (map.go:619)
          refine Go'.region [(0, 0), (1, 2), (2, 0)] rfl ?_
          refine O.mv rfl rfl rfl rfl rfl ?_
          refine O.callQ rfl rfl rfl Go.Proofs.Try.call86 rfl (leaf_spec hI4.n.c3) trivial ?_
          refine O.not rfl rfl rfl rfl rfl ?_
          refine Pl.fin [(0, _), (3, _), (4, _), (11, _), (12, _), (47, _), (68, _), (71, _)] ⟨rfl, rfl, rfl, rfl, rfl, rfl, rfl, rfl, trivial⟩ ?_
          refine Go'.condT rfl ?_
          refine Go'.seq ?_
          -- region 13 (map.go:620)
          refine Go'.region [(0, 0), (1, 0), (2, 0), (3, 0), (4, 1), (5, 0), (6, 1), (7, 0), (8, 0), (9, 0), (10, 0), (11, 2), (12, 0)] rfl ?_
          refine O.mv rfl rfl rfl rfl rfl ?_
          refine O.mv rfl rfl rfl rfl rfl ?_
          refine O.nc rfl rfl rfl rfl rfl ?_
          refine O.fa0 (off := 3) rfl rfl rfl rfl ⟨_, _, _, Go.Proofs.Try.underlying111, rfl, rfl, Go.Proofs.Try.sizeOf109⟩ rfl ?_
          refine O.ld rfl rfl rfl (fun w => ⟨Go.Proofs.Try.isAgg109 w, Go.Proofs.Try.sizeOf109 w⟩) rfl hI4.n.c3 ?_
          refine O.nc rfl rfl rfl rfl rfl ?_
          refine O.ld rfl rfl rfl (fun w => ⟨Go.Proofs.Try.isAgg112 w, Go.Proofs.Try.sizeOf112 w⟩) rfl hI4.k.c ?_
          refine O.mv rfl rfl rfl rfl rfl ?_
          refine O.ix (j := j) rfl rfl rfl rfl Go.Proofs.Try.underlying112 Go.Proofs.Try.sizeOf103 rfl rfl (by omega) (by omega) ?_
          refine O.mv rfl rfl rfl rfl rfl ?_
          refine O.mv rfl rfl rfl rfl rfl ?_
          refine O.call rfl rfl rfl Go.Proofs.Try.call119 rfl (nrev cb hcall hP mt h (hkid hkk hF5 hT4 hZ5 (by omega))) ?_
          rintro _ H6 ⟨rfl, Z6, hT6, hF6, hZ6⟩
          obtain ⟨hF7, hZ7⟩ := hcat hF5 hZ5 hF6 hZ6
          refine ⟨trivial, ?_⟩
          refine O.not rfl rfl rfl rfl rfl ?_
          refine Pl.fin [(0, _), (3, _), (4, _), (11, _), (12, _), (47, _), (68, _), (71, _), (84, _)] ⟨rfl, rfl, rfl, rfl, rfl, rfl, rfl, rfl, rfl, trivial⟩ ?_
          cases htk2 : (takes go (A ++ [y]) (Gt.L h k).reverse).2
          · skip
            refine Go'.condT rfl ?_
            refine Go'.seq ?_
            -- region 14 (map.go:621)
            refine Go'.region [(0, 0)] rfl ?_
            refine O.asg rfl rfl rfl rfl rfl ?_
            refine Pl.fin [(0, _), (3, _), (4, _), (10, _), (11, _), (12, _), (47, _), (68, _), (71, _), (84, _)] ⟨rfl, rfl, rfl, rfl, rfl, rfl, rfl, rfl, rfl, rfl, trivial⟩ ?_
            refine Go'.ret (vs := [_]) Go.Proofs.Try.func129 Go.Proofs.Try.results129 ⟨rfl, trivial⟩ ?_
            rw [takes_halt htk2] at ht
            unfold CbPost
            rw [ht]
            exact ⟨by rw [htk2]; rfl, Z6, hT6, hF7, hZ7⟩
          · skip
            refine Go'.condF rfl ?_
            refine Go'.skip ?_
            refine Go'.inBlock ?_
            have htl := takes_length go (Gt.L h k).reverse (A ++ [y])
            -- region 9 (map.go:615)
            refine Go'.region [(0, 0), (1, 0), (2, 0)] rfl ?_
            refine O.mv rfl rfl rfl rfl rfl ?_
            refine O.sub (((j : Nat) : Int) - 1) rfl rfl rfl rfl rfl rfl (by omega) (by omega) ?_
            refine O.asg rfl rfl rfl rfl rfl ?_
            refine Pl.fin [(0, _), (3, _), (4, _), (11, _), (12, _), (47, _), (68, _), (71, _), (84, _)] ⟨rfl, rfl, rfl, rfl, rfl, rfl, rfl, rfl, rfl, trivial⟩ ?_
            refine Go'.keep [(0, _), (3, _), (4, _), (11, _), (12, _)] ⟨rfl, rfl, rfl, rfl, rfl, trivial⟩ ?_
            refine Go'.inLoop ?_
            rw [takes_rest htk2] at ht
            generalize (takes go (A ++ [y]) (Gt.L h k).reverse).1 = A6 at *
            exact ih2 (j, _, Z6, A6) H6 ⟨by (try simp only) <;> omega, rfl, ht, hT6, hF7, hZ7, by (try simp only) <;> omega⟩ (by (try simp only) <;> omega)

theorem descend_spec {B : World} {g : FuncId} {us cs : List Value} {go : List (Int × Int) → Bool} {M : Nat} (cb : Cb Try.prog B encKV g us cs go M) (hcall : ∀ (args : Array Value) (w : World), (callFunc g args).run Try.prog w = .ok (.enter g args) w) {tr : Nat} {P : Ps} (hP : PsOk P) (mt : Bool) (x : Int × Int) {H : Mem} {S : Nat → Prop} {l : List (Int × Int)} {Z : Nat → Prop} (hM : MapM H tr P S l) (hT : cb.T [] Z H) (hd : ∀ b, S b → ¬ Z b) (hl : l.length ≤ M) :
    Fn Try.prog B 106 [.pointer (some ⟨tr, 0, none⟩), .int .i64 x.1, .func (.func g) us.toArray cs.toArray, .bool mt] H (fun _ H' => CbPost cb [] Z H ((Pl.dn OI x (l)).reverse) H') := by
  obtain ⟨tc, srt, cnt, own, lt, hr⟩ := hM
  rcases hr with ⟨rfl, hptr⟩ | ⟨h, t, hg, hx1, e, hc, hnt, hown⟩
  · skip
    refine fn_of Go.Proofs.Try.func106 rfl Go.Proofs.Try.ntmps106 ?_
    refine (show Go' _ _ _ _ 21 [(0, _), (1, _), (2, _), (3, _)] [.code _] _ from ?_)
    refine Go'.seq ?_
    refine Go'.seq ?_
    -- region 0 (map.go:596)
    refine Go'.region [(0, 0), (1, 0), (2, 0), (3, 1), (4, 0)] rfl ?_
    refine O.mv rfl rfl rfl rfl rfl ?_
    refine O.nc rfl rfl rfl rfl rfl ?_
    refine O.fa0 (off := 2) rfl rfl rfl rfl ⟨_, _, _, Go.Proofs.Try.underlying105, rfl, rfl, Go.Proofs.Try.sizeOf103⟩ rfl ?_
    refine O.ld rfl rfl rfl (fun w => ⟨Go.Proofs.Try.isAgg103 w, Go.Proofs.Try.sizeOf103 w⟩) rfl hptr ?_
    refine O.isNil rfl rfl rfl rfl Go.Proofs.Try.underlying103 rfl rfl ?_
    refine Pl.fin [(0, _), (1, _), (2, _), (3, _), (12, _)] ⟨rfl, rfl, rfl, rfl, rfl, trivial⟩ ?_
    refine Go'.condT rfl ?_
    refine Go'.ret Go.Proofs.Try.func106 Go.Proofs.Try.results106 (vs := []) trivial ?_
    exact ⟨Z, hT, Fr.refl _ _, fun b hb => .inl hb⟩
  · skip
    have hptr : cl H tr 2 = some (.pointer (some ⟨Gt.p h t, 0, none⟩)) := hc
    refine fn_of Go.Proofs.Try.func106 rfl Go.Proofs.Try.ntmps106 ?_
    refine (show Go' _ _ _ _ 21 [(0, _), (1, _), (2, _), (3, _)] [.code _] _ from ?_)
    refine Go'.seq ?_
    refine Go'.seq ?_
    -- region 0 (map.go:596)
    refine Go'.region [(0, 0), (1, 0), (2, 0), (3, 1), (4, 0)] rfl ?_
    refine O.mv rfl rfl rfl rfl rfl ?_
    refine O.nc rfl rfl rfl rfl rfl ?_
    refine O.fa0 (off := 2) rfl rfl rfl rfl ⟨_, _, _, Go.Proofs.Try.underlying105, rfl, rfl, Go.Proofs.Try.sizeOf103⟩ rfl ?_
    refine O.ld rfl rfl rfl (fun w => ⟨Go.Proofs.Try.isAgg103 w, Go.Proofs.Try.sizeOf103 w⟩) rfl hptr ?_
    refine O.isNil rfl rfl rfl rfl Go.Proofs.Try.underlying103 rfl rfl ?_
    refine Pl.fin [(0, _), (1, _), (2, _), (3, _), (12, _)] ⟨rfl, rfl, rfl, rfl, rfl, trivial⟩ ?_
    refine Go'.condF rfl ?_
    refine Go'.skip ?_
    -- region 1 (map.go:599)
    refine Go'.region [(0, 0), (1, 0), (2, 0), (3, 0), (4, 0), (5, 0), (6, 0), (7, 2)] rfl ?_
    refine O.mv rfl rfl rfl rfl rfl ?_
    refine O.mv rfl rfl rfl rfl rfl ?_
    refine O.nc rfl rfl rfl rfl rfl ?_
    refine O.fa0 (off := 2) rfl rfl rfl rfl ⟨_, _, _, Go.Proofs.Try.underlying105, rfl, rfl, Go.Proofs.Try.sizeOf103⟩ rfl ?_
    refine O.mv rfl rfl rfl rfl rfl ?_
    refine O.mv rfl rfl rfl rfl rfl ?_
    refine O.mv rfl rfl rfl rfl rfl ?_
    refine O.call rfl rfl rfl Go.Proofs.Try.call129 rfl (ndesc cb hcall hP mt x h ⟨tc, hg, hc, fun b o hb => hd b (hown b o hb), hd _ own, hT, by rw [e]; simpa using hl⟩ (by rw [e]; exact srt)) ?_
    rintro _ H2 ⟨rfl, hpost⟩
    refine ⟨trivial, ?_⟩
    refine Pl.fin [] trivial ?_
    refine Go'.fall Go.Proofs.Try.func106 Go.Proofs.Try.results106 (vs := []) trivial ?_
    rw [e] at hpost
    exact hpost

theorem Descend_spec {B : World} {g : FuncId} {us cs : List Value} {go : List (Int × Int) → Bool} {M : Nat} (cb : Cb Try.prog B encKV g us cs go M) (hcall : ∀ (args : Array Value) (w : World), (callFunc g args).run Try.prog w = .ok (.enter g args) w) {tr : Nat} {P : Ps} (hP : PsOk P) (x : Int × Int) {H : Mem} {S : Nat → Prop} {l : List (Int × Int)} {Z : Nat → Prop} (hM : MapM H tr P S l) (hT : cb.T [] Z H) (hd : ∀ b, S b → ¬ Z b) (hl : l.length ≤ M) :
    Fn Try.prog B 71 [.pointer (some ⟨tr, 0, none⟩), .int .i64 x.1, .func (.func g) us.toArray cs.toArray] H (fun _ H' => CbPost cb [] Z H ((Pl.dn OI x (l)).reverse) H') := by
  refine fn_of Go.Proofs.Try.func71 rfl Go.Proofs.Try.ntmps71 ?_
  refine (show Go' _ _ _ _ 10 [(0, _), (1, _), (2, _)] [.code _] _ from ?_)
  -- region 0 (map.go:584)
  refine Go'.region [(0, 0), (1, 0), (2, 0), (3, 2)] rfl ?_
  refine O.mv rfl rfl rfl rfl rfl ?_
  refine O.mv rfl rfl rfl rfl rfl ?_
  refine O.mv rfl rfl rfl rfl rfl ?_
  refine O.call rfl rfl rfl Go.Proofs.Try.call106 rfl (descend_spec cb hcall hP false x hM hT hd hl) ?_
  rintro _ H2 hpost
  refine ⟨trivial, ?_⟩
  refine Pl.fin [] trivial ?_
  refine Go'.fall Go.Proofs.Try.func71 Go.Proofs.Try.results71 (vs := []) trivial ?_
  exact hpost

theorem mdescend_spec {B : World} {H : Mem} {d : Nat} {u : Value} {l : List (Int × Int)} {x : Int × Int} {n : Int} (hd : 2 ≤ d ∧ d ≤ 128) (hi : InS EJ H u l) (hll : l.length ≤ 4294967296) :
    Fn Try.prog B 40 [.int .i64 (d : Int), u, .int .i64 x.1, .int .i64 n] H (fun r H' => OutS EJ H' r (firstN (Pl.dn OI x (Pl.puts OI l)).reverse n) ∧ Fr nowhere H H') := by
  have hP : PsOk ⟨0, 2 * d - 1, d - 1⟩ := ⟨by show 2 * d - 1 = 2 * (d - 1) + 1; omega, by show 1 ≤ d - 1; omega, by show 2 * d - 1 ≤ 255; omega⟩
  have hpl := Pl.puts_length OI l
  refine fn_of Go.Proofs.Try.func40 rfl Go.Proofs.Try.ntmps40 ?_
  refine (show Go' _ _ _ _ 18 [(0, _), (1, _), (2, _), (3, _)] [.code _] _ from ?_)
  refine Go'.seq ?_
  -- region 0 (map.go:223)
  refine Go'.region [(0, 0)] rfl ?_
  refine O.asg rfl rfl rfl rfl rfl ?_
  refine Pl.fin [(0, _), (1, _), (2, _), (3, _), (8, _)] ⟨rfl, rfl, rfl, rfl, rfl, trivial⟩ ?_
  refine Go'.seq ?_
  -- region 1 (map.go:224)
  refine Go'.region [(0, 2)] rfl ?_
  refine O.alloc rfl rfl rfl Go.Proofs.Try.zeroValue22 ?_
  intro H1 M1
  refine ⟨trivial, ?_⟩
  have hs1 := M1.size
  have hD : cl H1 H.size 0 = some (.slice none 0 0) := (M1.cl 0).trans rfl
  have hw := M1.wr 1 (by decide)
  replace hi := hi.fr (M1.fr nowhere)
  refine Pl.fin [(0, _), (1, _), (2, _), (3, _), (8, _), (9, _)] ⟨rfl, rfl, rfl, rfl, rfl, rfl, trivial⟩ ?_
  refine Go'.seq ?_
  -- region 2 (map.go:225)
  refine Go'.region [(0, 0), (1, 0), (2, 2), (3, 0), (4, 0), (5, 2), (6, 2)] rfl ?_
  refine O.mv rfl rfl rfl rfl rfl ?_
  refine O.mv rfl rfl rfl rfl rfl ?_
  refine O.call rfl rfl rfl Go.Proofs.Try.call52 rfl (growMap_spec hd hi hll) ?_
  rintro _ H2 ⟨tr, S, rfl, hM, hF2, hS⟩
  have hs2 := hF2.size
  replace hD := hF2.keep hD nw
  replace hw := hF2.wr hw
  have hSl := hM.lt
  refine ⟨trivial, ?_⟩
  refine O.mv rfl rfl rfl rfl rfl ?_
  refine O.mv rfl rfl rfl rfl rfl ?_
  refine O.call rfl rfl rfl Go.Proofs.Try.call59 rfl (pairs_spec (n := n) hD hw) ?_
  rintro _ H3 ⟨pb, b2, b3, Z, rfl, hT, hF3, hZ⟩
  replace hM := hM.fr hF3 (fun _ _ _ => nw)
  refine ⟨trivial, ?_⟩
  refine O.call rfl rfl rfl Go.Proofs.Try.call71 rfl (Descend_spec (cbPairs B pb b2 b3 H.size n) Try.call96 hP x hM hT (fun b hb hz => (hZ b hz).elim (fun h => by have := hS b hb; omega) (fun h => by have := hSl b hb; omega)) (by omega)) ?_
  rintro _ H4 ⟨Z4, hT4, hF4, hZ4⟩
  obtain ⟨v, hv, hov⟩ := PrT.out hT4
  rw [takes_first] at hov
  refine ⟨trivial, ?_⟩
  refine Pl.fin [(8, _), (9, _)] ⟨rfl, rfl, trivial⟩ ?_
  refine Go'.seq ?_
  -- region 3 (map.go:226)
  refine Go'.region [(0, 1), (1, 0)] rfl ?_
  refine O.ld rfl rfl rfl (fun w => ⟨Go.Proofs.Try.isAgg22 w, Go.Proofs.Try.sizeOf22 w⟩) rfl hv ?_
  refine O.asg rfl rfl rfl rfl rfl ?_
  refine Pl.fin [(8, _)] ⟨rfl, trivial⟩ ?_
  refine Go'.ret (vs := [_]) Go.Proofs.Try.func40 Go.Proofs.Try.results40 ⟨rfl, trivial⟩ ?_
  exact ⟨hov, (((M1.fr nowhere).trans hF2).trans hF3).trans' hF4 (fun _ _ _ h => h) (fun b o hb hz => (hZ b hz).elim (fun h => by omega) (fun h => by omega))⟩

end Go.Bt
namespace Go.Bt
open Go Go.Proofs
set_option maxRecDepth 20000
set_option maxHeartbeats 4000000
set_option linter.unusedVariables false

theorem Pl.dn_step {α : Type} (O : Pl.Swo α) {x : α} {l : List α} (hs : Pl.Srt O l) {i : Nat} {y : α} (hy : l[i]? = some y) : O.lt x y = false ↔ i < Pl.pos O x l + (Pl.fnd O x l).toNat := by
  obtain ⟨hil, hy2⟩ := List.getElem?_eq_some_iff.1 hy
  have hp := Pl.pos_split O x l
  have hd := hs.drop_pos O (x := x)
  cases hf : Pl.fnd O x l with
  | false =>
    have ha := Pl.after_pos O hs hf
    simp only [Bool.toNat_false, Nat.add_zero]
    constructor
    · intro h
      rcases Nat.lt_or_ge i (Pl.pos O x l) with h1 | h1
      · exact h1
      · have := ha y (List.mem_iff_getElem?.2 ⟨i - Pl.pos O x l, by rw [List.getElem?_drop, Nat.add_sub_cancel' h1]; exact hy⟩)
        rw [h] at this; cases this
    · intro h
      have := hp.1 y (List.mem_iff_getElem?.2 ⟨i, by rw [List.getElem?_take_of_lt h]; exact hy⟩)
      exact O.asy this
  | true =>
    obtain ⟨z, hz, h1, h2⟩ := Pl.fnd_at O hs hf
    simp only [Bool.toNat_true]
    constructor
    · intro h
      rcases Nat.lt_or_ge i (Pl.pos O x l + 1) with h3 | h3
      · exact h3
      · have h4 := List.pairwise_iff_getElem.1 hs (Pl.pos O x l) i (List.getElem?_eq_some_iff.1 hz).1 hil (by omega)
        rw [(List.getElem?_eq_some_iff.1 hz).2, hy2] at h4
        rw [O.lt_of_le_of_lt h1 h4] at h; cases h
    · intro h
      rcases Nat.lt_or_ge i (Pl.pos O x l) with h3 | h3
      · have := hp.1 y (List.mem_iff_getElem?.2 ⟨i, by rw [List.getElem?_take_of_lt h3]; exact hy⟩)
        exact O.asy this
      · obtain rfl : i = Pl.pos O x l := by omega
        rw [hy] at hz; cases hz; exact h2

end Go.Bt
