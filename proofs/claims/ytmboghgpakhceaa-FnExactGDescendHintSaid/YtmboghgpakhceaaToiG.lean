/- Contracts of functions of the program, proved by walking through their code. Conditions: those that each theorem names. -/
import Derived.Test.YtmboghgpakhceaaTogR
import Derived.Test.YtmboghgpakhceaaToiB
import Derived.Test.YtmboghgpakhceaaToHi
import Derived.Test.YtmboghgpakhceaaToKi
namespace Go.Bt.FG
open Go Go.Proofs
set_option maxRecDepth 20000
set_option maxHeartbeats 4000000
set_option linter.unusedVariables false
set_option linter.unusedSectionVars false

section
variable [Inhabited Cx]
theorem HintM.new {H H' : Mem} {c : Array Value} {e : TypeId} (M : Made H H' c e) (hu : ∀ i, i < 8 → c[i]? = some (.bool false)) (hp : ∀ i, i < 8 → c[8 + i]? = some (.int .u8 0)) (hs : 16 ≤ c.size) (he : e < 1000 := by decide) : HintM H' H.size :=
  ⟨fun i hi => ⟨false, (M.cl i).trans (hu i hi)⟩, fun i hi => ⟨0, by decide, (M.cl (8 + i)).trans (hp i hi)⟩, M.wr 16 hs he⟩
end
end Go.Bt.FG
namespace Go.Bt.FG
open Go Go.Proofs
set_option maxRecDepth 20000
set_option maxHeartbeats 4000000
set_option linter.unusedVariables false
set_option linter.unusedSectionVars false

section
variable [Inhabited Cx]
variable {B : World} {g : FuncId} {us cs : List Value} {go : List (Int × Int) → Bool} {M : Nat}
theorem CbPost.rebase {cb : Cb Try.prog B encIt g us cs go M} {acc l : List (Int × Int)} {Z : Nat → Prop} {H H1 H' : Mem} (hf : Fr (fun b _ => Z b) H H1) (h : CbPost cb acc Z H1 l H') : CbPost cb acc Z H l H' := by
  obtain ⟨Z', h1, h2, h3⟩ := h
  exact ⟨Z', h1, hf.trans h2, fun b hb => (h3 b hb).imp id (fun h => Nat.le_trans hf.size h)⟩
/-- A function that items are handed to, with a hint beside what it keeps. -/
def cbH (cb : Cb Try.prog B encIt g us cs go M) (hv : Value) (hz : Nat → Prop) : Cb Try.prog B encIt g us cs go M where
  T := fun acc Z H => ∃ Z0, cb.T acc Z0 H ∧ HintOk H hv hz ∧ (∀ b, Z b ↔ Z0 b ∨ hz b) ∧ ∀ b, Z0 b → ¬ hz b
  fr := fun ⟨Z0, h1, h2, h3, h4⟩ hf hy => ⟨Z0, cb.fr h1 hf (fun b o hb => hy b o ((h3 b).2 (.inl hb))), h2.fr hf (fun b o hb => hy b o ((h3 b).2 (.inr hb))), h3, h4⟩
  lt := fun ⟨Z0, h1, h2, h3, _⟩ hb => ((h3 _).1 hb).elim (cb.lt h1) (fun h => (h2.base _ h).2)
  call := fun x ⟨Z0, h1, h2, h3, h4⟩ hl => (cb.call x h1 hl).mono fun _ H' ⟨e, Z1, g1, g2, g3⟩ =>
    ⟨e, fun b => Z1 b ∨ hz b, ⟨Z1, g1, h2.fr g2 (fun b o hb hb2 => h4 b hb2 hb), fun _ => Iff.rfl, fun b hb hb2 => (g3 b hb).elim (fun h => h4 b h hb2) (fun h => by have := (h2.base b hb2).2; omega)⟩,
      g2.mono (fun b o _ hb => (h3 b).2 (.inl hb)), fun b hb => hb.elim (fun hb => (g3 b hb).imp (fun h => (h3 b).2 (.inl h)) id) (fun hb => .inl ((h3 b).2 (.inr hb)))⟩
theorem VPre.fr0 {cb : Cb Try.prog B encIt g us cs go M} {H H' : Mem} {tr : Nat} {P : Ps} {h : Nat} {t : Gt EJ h} {bp op : Nat} {acc : List (Int × Int)} {Z : Nat → Prop} {Y : Nat → Nat → Prop} (hp : VPre cb H tr P h t bp op acc Z) (hf : Fr Y H H') (hy : ∀ b o, Y b o → Z b) (hbp : ¬ Z bp) (hst : cb.T acc Z H') : VPre cb H' tr P h t bp op acc Z :=
  ⟨hp.tc.fr hf (fun b o hb _ hz => hp.nb b (hy b o hz) hb), hp.g.fr hf (fun b o hb hz => hp.nz b o hb (hy b o hz)), hf.keep hp.cel (fun hz => hbp (hy _ _ hz)), hp.nz, hp.nb, hst, hp.len⟩
end
section
variable [Inhabited Cx]
theorem ndesc0 {B : World} {g : FuncId} {us cs : List Value} {go : List (Int × Int) → Bool} {M : Nat} (cb : Cb Try.prog B encIt g us cs go M) (hcall : ∀ (args : Array Value) (w : World), (callFunc g args).run Try.prog w = .ok (.enter g args) w) {tr : Nat} {P : Ps} (hP : PsOk P) (mt : Bool) (x : Int × Int) (hv : Value) (hz : Nat → Prop) {Ha : Mem} {bp op dp : Nat} {acc : List (Int × Int)} {Z : Nat → Prop} {t : Gt EJ 0} (hpa : VPre (cbH cb hv hz) Ha tr P 0 t bp op acc Z) (hs : Pl.Srt OI (Gt.L 0 t)) (hx1 : 1 ≤ (Gt.X 0 t).length) (hbp : ¬ Z bp) (hdp : dp < 4611686018427387904) :
    Fn Try.prog B 191 [.pointer (some ⟨tr, 0, none⟩), .pointer (some ⟨bp, op, none⟩), .agg (EJ.enc x).toArray, hv, .int .i64 (dp : Int), .func (.func g) us.toArray cs.toArray, .bool mt] Ha (fun r H' => r = .bool (takes go acc ((Pl.dn OI x (Gt.L 0 t)).reverse)).2 ∧ CbPost (cbH cb hv hz) acc Z Ha ((Pl.dn OI x (Gt.L 0 t)).reverse) H') := by
  obtain ⟨gg, X⟩ := t
  replace hx1 : 1 ≤ X.length := hx1
  have hsX : Pl.Srt OI X := hs
  refine fn_of Try.func191 rfl Try.ntmps191 ?_
  refine (show Go' _ _ _ _ 85 [(0, _), (1, _), (2, _), (3, _), (4, _), (5, _), (6, _)] [.code _] _ from ?_)
  refine Go'.seq ?_
  -- region 0 (btreeg.go:1157)
  refine Go'.region [(0, 2), (1, 0)] rfl ?_
  refine O.box rfl rfl rfl rfl ?_
  intro H0 M0
  refine ⟨trivial, ?_⟩
  have hs0 := M0.size
  have hf0 := M0.fr nowhere
  have mi : Rd H0 Ha.size 0 (EJ.enc x) := M0.rd _ [] (by simp [Value.cells])
  have hza : ∀ b, Z b → b < Ha.size := fun b hb => (cbH cb hv hz).lt hpa.st hb
  replace hpa := hpa.fr0 hf0 (fun _ _ h => h.elim) hbp ((cbH cb hv hz).fr hpa.st hf0 (fun _ _ _ => nw))
  refine O.asg rfl rfl rfl rfl rfl ?_
  refine Pl.fin [(0, _), (1, _), (3, _), (4, _), (5, _), (6, _), (9, _), (14, _)] ⟨rfl, rfl, rfl, rfl, rfl, rfl, rfl, rfl, trivial⟩ ?_
  refine Go'.seq ?_
  have hNa : NodeM EJ H0 gg X (.pointer none) := hpa.g.1
  have hca := hNa.c0
  rw [show gg.iso = P.iso from hpa.g.2.1] at hca
  have hxma : X.length ≤ P.mx := hpa.g.2.2.2
  have hx255a := hP.hx
  obtain ⟨Z0, hT0, hk0, hZe, hZd⟩ := hpa.st
  have hzZ : ∀ b, hz b → Z b := fun b hb => (hZe b).2 (.inr hb)
  -- region 1 (btreeg.go:1160)
  refine Go'.region [(0, 0), (1, 0), (2, 0), (3, 2), (4, 0)] rfl ?_
  refine O.mv rfl rfl rfl rfl rfl ?_
  refine O.mv rfl rfl rfl rfl rfl ?_
  refine O.mv rfl rfl rfl rfl rfl ?_
  refine O.callQ rfl rfl rfl Try.call130 rfl (isoLoad_spec mt hpa.cel hca hpa.tc.iso) trivial ?_
  refine O.asg rfl rfl rfl rfl rfl ?_
  refine Pl.fin [(0, _), (3, _), (4, _), (5, _), (6, _), (9, _), (14, _), (15, _)] ⟨rfl, rfl, rfl, rfl, rfl, rfl, rfl, rfl, trivial⟩ ?_
  refine Go'.seq ?_
  unfold ptr
  -- region 2 (btreeg.go:1161)
  refine Go'.region [(0, 0), (1, 0), (2, 1), (3, 0), (4, 0), (5, 2), (6, 0), (7, 0), (8, 0), (9, 0), (10, 0)] rfl ?_
  refine O.mv rfl rfl rfl rfl rfl ?_
  refine O.mv rfl rfl rfl rfl rfl ?_
  refine O.lds rfl rfl rfl (fun w => ⟨Try.isAgg27 w, Try.sizeOf27 w⟩) rfl rfl mi ?_
  refine O.mv rfl rfl rfl rfl rfl ?_
  refine O.mv rfl rfl rfl rfl rfl ?_
  refine O.call rfl rfl rfl Try.call131 rfl (find_spec hpa.tc x hNa (hsX) (by omega) hx1 hk0 (fun b o hb hn => hpa.nz b o (hn) (hzZ b hb)) (by omega)) ?_
  rintro _ H ⟨rfl, hFf, hkf⟩
  have hff : Fr (fun b _ => Z b) Ha H := hf0.trans' hFf (fun _ _ _ h => h.elim) (fun b _ _ h => hzZ b h)
  replace mi := hFf.rd mi (fun _ _ h => by have := hza _ (hzZ _ h); omega)
  have hp := hpa.fr0 hFf (fun b _ h => hzZ b h) hbp ⟨Z0, cb.fr hT0 hFf (fun b o hb hb2 => hZd b hb hb2), hkf, hZe, hZd⟩
  refine ⟨trivial, ?_⟩
  refine O.mv rfl rfl rfl rfl rfl ?_
  refine O.ext rfl rfl rfl rfl rfl rfl ?_
  refine O.ext rfl rfl rfl rfl rfl rfl ?_
  refine O.asg rfl rfl rfl rfl rfl ?_
  refine O.asg rfl rfl rfl rfl rfl ?_
  refine Pl.fin [(0, _), (3, _), (4, _), (5, _), (6, _), (9, _), (14, _), (15, _), (16, _), (17, _)] ⟨rfl, rfl, rfl, rfl, rfl, rfl, rfl, rfl, rfl, rfl, trivial⟩ ?_
  refine Go'.seq ?_
  refine Go'.seq ?_
  refine Go'.mono (Q := fun r H' => r = .bool (takes go acc ((Pl.dn OI x (X)).reverse)).2 ∧ CbPost (cbH cb hv hz) acc Z H ((Pl.dn OI x (X)).reverse) H') (fun v H' hq => ⟨hq.1, CbPost.rebase hff hq.2⟩) ?_
  have hsza := hff.size
  clear hpa hca hk0 hT0 hkf hFf hff hNa
  obtain ⟨tc, hg, hc, hnz, hntr, hst, hlen⟩ := hp
  have hN : NodeM EJ H gg X (.pointer none) := hg.1
  have hiso : gg.iso = P.iso := hg.2.1
  have hxm : X.length ≤ P.mx := hg.2.2.2
  have hx255 := hP.hx
  replace hs : Pl.Srt OI X := hs
  replace hlen : acc.length + X.length ≤ M := hlen
  have hc0 := hN.c0
  rw [hiso] at hc0
  have hcat : ∀ {Z1 Z2 : Nat → Prop} {H2 H3 : Mem}, Fr (fun x _ => Z x) H H2 → (∀ b, Z1 b → Z b ∨ H.size ≤ b) → Fr (fun x _ => Z1 x) H2 H3 → (∀ b, Z2 b → Z1 b ∨ H2.size ≤ b) → Fr (fun x _ => Z x) H H3 ∧ ∀ b, Z2 b → Z b ∨ H.size ≤ b := by
    intro Z1 Z2 H2 H3 hF hZ1 hF2 hZ2
    have := hF.size
    exact ⟨hF.trans' hF2 (fun _ _ _ h => h) (fun b o hb hz => (hZ1 b hz).elim id (fun h => by omega)), fun b hb => (hZ2 b hb).elim (hZ1 b) (fun h => .inr (by omega))⟩
  have hple := Pl.pos_le OI x X
  have hltN : ∀ b o, ncl EJ gg b o → b < H.size := fun b o hb => NodeM.lt hN hb
  show Go' _ _ _ (fun r H' => r = .bool (takes go acc ((Pl.dn OI x (X)).reverse)).2 ∧ CbPost (cbH cb hv hz) acc Z H ((Pl.dn OI x (X)).reverse) H') _ _ _ _
  have hlt1 : Pl.fnd OI x X = true → Pl.pos OI x X < X.length := Pl.fnd_pos_lt OI
  have hW : (Pl.dn OI x (X)).reverse = (X.take (Pl.pos OI x X + (Pl.fnd OI x X).toNat)).reverse := rfl
  generalize hFULL : (Pl.dn OI x (X)).reverse = FULL at *
  cases hfd : Pl.fnd OI x X
  · skip
    rw [hfd] at hW hlt1
    generalize hpi : Pl.pos OI x X = i at *
    -- region 3 (btreeg.go:1162)
    refine Go'.region [(0, 0), (1, 0)] rfl ?_
    refine O.mv rfl rfl rfl rfl rfl ?_
    refine O.not rfl rfl rfl rfl rfl ?_
    refine Pl.fin [(0, _), (3, _), (4, _), (5, _), (6, _), (9, _), (14, _), (15, _), (16, _), (32, _)] ⟨rfl, rfl, rfl, rfl, rfl, rfl, rfl, rfl, rfl, rfl, trivial⟩ ?_
    refine Go'.condT rfl ?_
    refine Go'.seq ?_
    refine Go'.seq ?_
    -- region 4 (btreeg.go:1163)
    refine Go'.region [(0, 0), (1, 2), (2, 0)] rfl ?_
    refine O.mv rfl rfl rfl rfl rfl ?_
    refine O.callQ rfl rfl rfl Try.call133 rfl (leaf_spec hN.c3) trivial ?_
    refine O.not rfl rfl rfl rfl rfl ?_
    refine Pl.fin [(0, _), (3, _), (4, _), (5, _), (6, _), (9, _), (14, _), (15, _), (16, _), (35, _)] ⟨rfl, rfl, rfl, rfl, rfl, rfl, rfl, rfl, rfl, rfl, trivial⟩ ?_
    refine Go'.condF rfl ?_
    refine Go'.skip ?_
    -- region 7 (btreeg.go:1169)
    refine Go'.region [(0, 0), (1, 0), (2, 0)] rfl ?_
    refine O.mv rfl rfl rfl rfl rfl ?_
    refine O.sub ((i : Int) - 1) rfl rfl rfl rfl rfl rfl (by omega) (by omega) ?_
    refine O.asg rfl rfl rfl rfl rfl ?_
    refine Pl.fin [(0, _), (5, _), (6, _), (14, _), (15, _), (16, _)] ⟨rfl, rfl, rfl, rfl, rfl, rfl, trivial⟩ ?_
    refine Go'.seq ?_
    refine Go'.block ?_
    replace hW : FULL = (X.take (i)).reverse := hW
    refine Go'.loop ?_
    refine Go'.keep [(5, _), (15, _), (16, _)] ⟨rfl, rfl, rfl, trivial⟩ ?_
    refine Go'.ind (σ := Nat × Int × (Nat → Prop) × List (Int × Int)) (fun s => s.1) (fun s H' => s.1 ≤ X.length ∧ s.2.1 = (s.1 : Int) - 1 ∧ takes go acc FULL = takes go s.2.2.2 ((X.take (s.1)).reverse) ∧ (cbH cb hv hz).T s.2.2.2 s.2.2.1 H' ∧ Fr (fun b _ => Z b) H H' ∧ (∀ b, s.2.2.1 b → Z b ∨ H.size ≤ b) ∧ s.2.2.2.length + ((X.take (s.1)).reverse).length ≤ M)
      (fun s => [(5, .func (.func g) us.toArray cs.toArray), (15, .pointer (some ⟨gg.p, 0, none⟩)), (16, .int .i64 s.2.1)]) (i, (i : Int) - 1, Z, acc) ⟨by (try simp only) <;> omega, by (try simp only) <;> omega, by rw [hW], hst, Fr.refl _ _, fun b hb => .inl hb, by simp only [List.length_reverse, List.length_take]; omega⟩ rfl ?_
    rintro ⟨j, z, Z1, A⟩ H2 ⟨hj, hz, ht, hT, hF, hZ1, hAM⟩ ih
    simp only at hj hz ht hT hZ1 hAM
    subst hz
    replace hN := NodeM.fr EJ hN hF (fun x y hxy hz => hnz x y hxy hz)
    refine Go'.seq ?_
    refine Go'.seq ?_
    rcases j with _ | j
    · skip
      -- region 8 (btreeg.go:1171)
      refine Go'.region [(0, 0), (1, 0)] rfl ?_
      refine O.mv rfl rfl rfl rfl rfl ?_
      refine O.cmp rfl rfl rfl rfl rfl rfl (geqF (by show ((0 : Nat) : Int) - 1 < 0; omega)) ?_
      refine Pl.fin [(5, _), (15, _), (16, _), (56, _)] ⟨rfl, rfl, rfl, rfl, trivial⟩ ?_
      rw [List.take_zero] at ht
      refine Go'.condF rfl ?_
      refine Go'.exit rfl ?_
      refine Go'.seq ?_
      -- region 15 (btreeg.go:1181)
      refine Go'.region [(0, 0)] rfl ?_
      refine O.asg rfl rfl rfl rfl rfl ?_
      refine Pl.fin [(14, _)] ⟨rfl, trivial⟩ ?_
      refine Go'.ret (vs := [_]) Try.func191 Try.results191 ⟨rfl, trivial⟩ ?_
      replace ht : takes go acc FULL = (A, true) := ht
      unfold CbPost
      rw [ht]
      exact ⟨rfl, Z1, hT, hF, hZ1⟩
    · skip
      obtain ⟨y, hy⟩ : ∃ y, X[j]? = some y := ⟨X[j], List.getElem?_eq_getElem (by omega)⟩
      rw [List.take_add_one, hy, Option.toList_some, List.reverse_append, List.reverse_singleton, List.singleton_append] at ht hAM
      have ej : (((j + 1 : Nat) : Int) - 1) = (j : Int) := by omega
      refine (show Go' _ _ _ _ _ [(5, .func (.func g) us.toArray cs.toArray), (15, .pointer (some ⟨gg.p, 0, none⟩)), (16, .int .i64 (((j + 1 : Nat) : Int) - 1))] _ _ from ?_)
      rw [ej]
      rw [List.length_cons] at hAM
      -- region 8 (btreeg.go:1171)
      refine Go'.region [(0, 0), (1, 0)] rfl ?_
      refine O.mv rfl rfl rfl rfl rfl ?_
      refine O.cmp rfl rfl rfl rfl rfl rfl (geqT (by omega)) ?_
      refine Pl.fin [(5, _), (15, _), (16, _), (56, _)] ⟨rfl, rfl, rfl, rfl, trivial⟩ ?_
      refine Go'.condT rfl ?_
      refine Go'.skip ?_
      refine Go'.seq ?_
      refine Go'.block ?_
      refine Go'.seq ?_
      refine Go'.seq ?_
      cases hgo : go (A ++ [y])
      · skip
        -- region 10 (btreeg.go:1172)
        refine Go'.region [(0, 0), (1, 0), (2, 0), (3, 0), (4, 1), (5, 0), (6, 0), (7, 1), (8, 2), (9, 0)] rfl ?_
        refine O.mv rfl rfl rfl rfl rfl ?_
        refine O.mv rfl rfl rfl rfl rfl ?_
        refine O.nc rfl rfl rfl rfl rfl ?_
        refine O.fa0 (off := 2) rfl rfl rfl rfl ⟨_, _, _, Try.underlying168, rfl, rfl, Try.sizeOf25⟩ rfl ?_
        refine O.ld rfl rfl rfl (fun w => ⟨Try.isAgg25 w, Try.sizeOf25 w⟩) rfl hN.c2 ?_
        refine O.mv rfl rfl rfl rfl rfl ?_
        refine O.ix (j := j) rfl rfl rfl rfl Try.underlying25 Try.sizeOf27 rfl rfl (by omega) (by omega) ?_
        refine O.lds rfl rfl rfl (fun w => ⟨Try.isAgg27 w, Try.sizeOf27 w⟩) rfl rfl (hN.sl.item hy) ?_
        refine O.callC rfl rfl rfl rfl hcall rfl ((cbH cb hv hz).call y hT (by omega)) ?_
        rintro _ H4 ⟨rfl, Z4, hT4, hF4, hZ4⟩
        rw [hgo]
        obtain ⟨hF5, hZ5⟩ := hcat hF hZ1 hF4 hZ4
        refine ⟨trivial, ?_⟩
        refine O.not rfl rfl rfl rfl rfl ?_
        refine Pl.fin [(5, _), (15, _), (16, _), (56, _), (68, _)] ⟨rfl, rfl, rfl, rfl, rfl, trivial⟩ ?_
        refine Go'.condT rfl ?_
        refine Go'.seq ?_
        -- region 11 (btreeg.go:1173)
        refine Go'.region [(0, 0)] rfl ?_
        refine O.asg rfl rfl rfl rfl rfl ?_
        refine Pl.fin [(5, _), (14, _), (15, _), (16, _), (56, _), (68, _)] ⟨rfl, rfl, rfl, rfl, rfl, rfl, trivial⟩ ?_
        refine Go'.ret (vs := [_]) Try.func191 Try.results191 ⟨rfl, trivial⟩ ?_
        rw [takes_cons, hgo] at ht
        unfold CbPost
        rw [ht]
        exact ⟨rfl, Z4, hT4, hF5, hZ5⟩
      · skip
        -- region 10 (btreeg.go:1172)
        refine Go'.region [(0, 0), (1, 0), (2, 0), (3, 0), (4, 1), (5, 0), (6, 0), (7, 1), (8, 2), (9, 0)] rfl ?_
        refine O.mv rfl rfl rfl rfl rfl ?_
        refine O.mv rfl rfl rfl rfl rfl ?_
        refine O.nc rfl rfl rfl rfl rfl ?_
        refine O.fa0 (off := 2) rfl rfl rfl rfl ⟨_, _, _, Try.underlying168, rfl, rfl, Try.sizeOf25⟩ rfl ?_
        refine O.ld rfl rfl rfl (fun w => ⟨Try.isAgg25 w, Try.sizeOf25 w⟩) rfl hN.c2 ?_
        refine O.mv rfl rfl rfl rfl rfl ?_
        refine O.ix (j := j) rfl rfl rfl rfl Try.underlying25 Try.sizeOf27 rfl rfl (by omega) (by omega) ?_
        refine O.lds rfl rfl rfl (fun w => ⟨Try.isAgg27 w, Try.sizeOf27 w⟩) rfl rfl (hN.sl.item hy) ?_
        refine O.callC rfl rfl rfl rfl hcall rfl ((cbH cb hv hz).call y hT (by omega)) ?_
        rintro _ H4 ⟨rfl, Z4, hT4, hF4, hZ4⟩
        rw [hgo]
        obtain ⟨hF5, hZ5⟩ := hcat hF hZ1 hF4 hZ4
        refine ⟨trivial, ?_⟩
        refine O.not rfl rfl rfl rfl rfl ?_
        refine Pl.fin [(5, _), (15, _), (16, _), (56, _), (68, _)] ⟨rfl, rfl, rfl, rfl, rfl, trivial⟩ ?_
        rw [takes_cons, hgo, if_pos rfl] at ht
        refine Go'.condF rfl ?_
        refine Go'.skip ?_
        refine Go'.seq ?_
        have hN5 := NodeM.fr EJ hN hF4 (fun x y hxy hz => (hZ1 x hz).elim (hnz x y hxy) (fun h => by have := hltN x y hxy; omega))
        -- region 12 (btreeg.go:1175)
        refine Go'.region [(0, 0), (1, 2), (2, 0)] rfl ?_
        refine O.mv rfl rfl rfl rfl rfl ?_
        refine O.callQ rfl rfl rfl Try.call133 rfl (leaf_spec hN5.c3) trivial ?_
        refine O.not rfl rfl rfl rfl rfl ?_
        refine Pl.fin [(5, _), (15, _), (16, _), (56, _), (68, _), (71, _)] ⟨rfl, rfl, rfl, rfl, rfl, rfl, trivial⟩ ?_
        refine Go'.condF rfl ?_
        refine Go'.skip ?_
        refine Go'.inBlock ?_
        -- region 9 (btreeg.go:1171)
        refine Go'.region [(0, 0), (1, 0), (2, 0)] rfl ?_
        refine O.mv rfl rfl rfl rfl rfl ?_
        refine O.sub (((j : Nat) : Int) - 1) rfl rfl rfl rfl rfl rfl (by omega) (by omega) ?_
        refine O.asg rfl rfl rfl rfl rfl ?_
        refine Pl.fin [(5, _), (15, _), (16, _), (56, _), (68, _), (71, _)] ⟨rfl, rfl, rfl, rfl, rfl, rfl, trivial⟩ ?_
        refine Go'.keep [(5, _), (15, _), (16, _)] ⟨rfl, rfl, rfl, trivial⟩ ?_
        refine Go'.inLoop ?_
        exact ih (j, _, Z4, A ++ [y]) H4 ⟨by (try simp only) <;> omega, rfl, ht, hT4, hF5, hZ5, by simp only [List.length_append, List.length_singleton]; omega⟩ (by (try simp only) <;> omega)
  · skip
    rw [hfd] at hW hlt1
    generalize hpi : Pl.pos OI x X = i at *
    -- region 3 (btreeg.go:1162)
    refine Go'.region [(0, 0), (1, 0)] rfl ?_
    refine O.mv rfl rfl rfl rfl rfl ?_
    refine O.not rfl rfl rfl rfl rfl ?_
    refine Pl.fin [(0, _), (3, _), (4, _), (5, _), (6, _), (9, _), (14, _), (15, _), (16, _), (32, _)] ⟨rfl, rfl, rfl, rfl, rfl, rfl, rfl, rfl, rfl, rfl, trivial⟩ ?_
    refine Go'.condF rfl ?_
    refine Go'.skip ?_
    refine Go'.seq ?_
    refine Go'.block ?_
    replace hlt1 := hlt1 rfl
    replace hW : FULL = (X.take (i + 1)).reverse := hW
    refine Go'.loop ?_
    refine Go'.keep [(5, _), (15, _), (16, _)] ⟨rfl, rfl, rfl, trivial⟩ ?_
    refine Go'.ind (σ := Nat × Int × (Nat → Prop) × List (Int × Int)) (fun s => s.1) (fun s H' => s.1 ≤ X.length ∧ s.2.1 = (s.1 : Int) - 1 ∧ takes go acc FULL = takes go s.2.2.2 ((X.take (s.1)).reverse) ∧ (cbH cb hv hz).T s.2.2.2 s.2.2.1 H' ∧ Fr (fun b _ => Z b) H H' ∧ (∀ b, s.2.2.1 b → Z b ∨ H.size ≤ b) ∧ s.2.2.2.length + ((X.take (s.1)).reverse).length ≤ M)
      (fun s => [(5, .func (.func g) us.toArray cs.toArray), (15, .pointer (some ⟨gg.p, 0, none⟩)), (16, .int .i64 s.2.1)]) (i + 1, (i : Int), Z, acc) ⟨by (try simp only) <;> omega, by (try simp only) <;> omega, by rw [hW], hst, Fr.refl _ _, fun b hb => .inl hb, by simp only [List.length_reverse, List.length_take]; omega⟩ rfl ?_
    rintro ⟨j, z, Z1, A⟩ H2 ⟨hj, hz, ht, hT, hF, hZ1, hAM⟩ ih
    simp only at hj hz ht hT hZ1 hAM
    subst hz
    replace hN := NodeM.fr EJ hN hF (fun x y hxy hz => hnz x y hxy hz)
    refine Go'.seq ?_
    refine Go'.seq ?_
    rcases j with _ | j
    · skip
      -- region 8 (btreeg.go:1171)
      refine Go'.region [(0, 0), (1, 0)] rfl ?_
      refine O.mv rfl rfl rfl rfl rfl ?_
      refine O.cmp rfl rfl rfl rfl rfl rfl (geqF (by show ((0 : Nat) : Int) - 1 < 0; omega)) ?_
      refine Pl.fin [(5, _), (15, _), (16, _), (56, _)] ⟨rfl, rfl, rfl, rfl, trivial⟩ ?_
      rw [List.take_zero] at ht
      refine Go'.condF rfl ?_
      refine Go'.exit rfl ?_
      refine Go'.seq ?_
      -- region 15 (btreeg.go:1181)
      refine Go'.region [(0, 0)] rfl ?_
      refine O.asg rfl rfl rfl rfl rfl ?_
      refine Pl.fin [(14, _)] ⟨rfl, trivial⟩ ?_
      refine Go'.ret (vs := [_]) Try.func191 Try.results191 ⟨rfl, trivial⟩ ?_
      replace ht : takes go acc FULL = (A, true) := ht
      unfold CbPost
      rw [ht]
      exact ⟨rfl, Z1, hT, hF, hZ1⟩
    · skip
      obtain ⟨y, hy⟩ : ∃ y, X[j]? = some y := ⟨X[j], List.getElem?_eq_getElem (by omega)⟩
      rw [List.take_add_one, hy, Option.toList_some, List.reverse_append, List.reverse_singleton, List.singleton_append] at ht hAM
      have ej : (((j + 1 : Nat) : Int) - 1) = (j : Int) := by omega
      refine (show Go' _ _ _ _ _ [(5, .func (.func g) us.toArray cs.toArray), (15, .pointer (some ⟨gg.p, 0, none⟩)), (16, .int .i64 (((j + 1 : Nat) : Int) - 1))] _ _ from ?_)
      rw [ej]
      rw [List.length_cons] at hAM
      -- region 8 (btreeg.go:1171)
      refine Go'.region [(0, 0), (1, 0)] rfl ?_
      refine O.mv rfl rfl rfl rfl rfl ?_
      refine O.cmp rfl rfl rfl rfl rfl rfl (geqT (by omega)) ?_
      refine Pl.fin [(5, _), (15, _), (16, _), (56, _)] ⟨rfl, rfl, rfl, rfl, trivial⟩ ?_
      refine Go'.condT rfl ?_
      refine Go'.skip ?_
      refine Go'.seq ?_
      refine Go'.block ?_
      refine Go'.seq ?_
      refine Go'.seq ?_
      cases hgo : go (A ++ [y])
      · skip
        -- region 10 (btreeg.go:1172)
        refine Go'.region [(0, 0), (1, 0), (2, 0), (3, 0), (4, 1), (5, 0), (6, 0), (7, 1), (8, 2), (9, 0)] rfl ?_
        refine O.mv rfl rfl rfl rfl rfl ?_
        refine O.mv rfl rfl rfl rfl rfl ?_
        refine O.nc rfl rfl rfl rfl rfl ?_
        refine O.fa0 (off := 2) rfl rfl rfl rfl ⟨_, _, _, Try.underlying168, rfl, rfl, Try.sizeOf25⟩ rfl ?_
        refine O.ld rfl rfl rfl (fun w => ⟨Try.isAgg25 w, Try.sizeOf25 w⟩) rfl hN.c2 ?_
        refine O.mv rfl rfl rfl rfl rfl ?_
        refine O.ix (j := j) rfl rfl rfl rfl Try.underlying25 Try.sizeOf27 rfl rfl (by omega) (by omega) ?_
        refine O.lds rfl rfl rfl (fun w => ⟨Try.isAgg27 w, Try.sizeOf27 w⟩) rfl rfl (hN.sl.item hy) ?_
        refine O.callC rfl rfl rfl rfl hcall rfl ((cbH cb hv hz).call y hT (by omega)) ?_
        rintro _ H4 ⟨rfl, Z4, hT4, hF4, hZ4⟩
        rw [hgo]
        obtain ⟨hF5, hZ5⟩ := hcat hF hZ1 hF4 hZ4
        refine ⟨trivial, ?_⟩
        refine O.not rfl rfl rfl rfl rfl ?_
        refine Pl.fin [(5, _), (15, _), (16, _), (56, _), (68, _)] ⟨rfl, rfl, rfl, rfl, rfl, trivial⟩ ?_
        refine Go'.condT rfl ?_
        refine Go'.seq ?_
        -- region 11 (btreeg.go:1173)
        refine Go'.region [(0, 0)] rfl ?_
        refine O.asg rfl rfl rfl rfl rfl ?_
        refine Pl.fin [(5, _), (14, _), (15, _), (16, _), (56, _), (68, _)] ⟨rfl, rfl, rfl, rfl, rfl, rfl, trivial⟩ ?_
        refine Go'.ret (vs := [_]) Try.func191 Try.results191 ⟨rfl, trivial⟩ ?_
        rw [takes_cons, hgo] at ht
        unfold CbPost
        rw [ht]
        exact ⟨rfl, Z4, hT4, hF5, hZ5⟩
      · skip
        -- region 10 (btreeg.go:1172)
        refine Go'.region [(0, 0), (1, 0), (2, 0), (3, 0), (4, 1), (5, 0), (6, 0), (7, 1), (8, 2), (9, 0)] rfl ?_
        refine O.mv rfl rfl rfl rfl rfl ?_
        refine O.mv rfl rfl rfl rfl rfl ?_
        refine O.nc rfl rfl rfl rfl rfl ?_
        refine O.fa0 (off := 2) rfl rfl rfl rfl ⟨_, _, _, Try.underlying168, rfl, rfl, Try.sizeOf25⟩ rfl ?_
        refine O.ld rfl rfl rfl (fun w => ⟨Try.isAgg25 w, Try.sizeOf25 w⟩) rfl hN.c2 ?_
        refine O.mv rfl rfl rfl rfl rfl ?_
        refine O.ix (j := j) rfl rfl rfl rfl Try.underlying25 Try.sizeOf27 rfl rfl (by omega) (by omega) ?_
        refine O.lds rfl rfl rfl (fun w => ⟨Try.isAgg27 w, Try.sizeOf27 w⟩) rfl rfl (hN.sl.item hy) ?_
        refine O.callC rfl rfl rfl rfl hcall rfl ((cbH cb hv hz).call y hT (by omega)) ?_
        rintro _ H4 ⟨rfl, Z4, hT4, hF4, hZ4⟩
        rw [hgo]
        obtain ⟨hF5, hZ5⟩ := hcat hF hZ1 hF4 hZ4
        refine ⟨trivial, ?_⟩
        refine O.not rfl rfl rfl rfl rfl ?_
        refine Pl.fin [(5, _), (15, _), (16, _), (56, _), (68, _)] ⟨rfl, rfl, rfl, rfl, rfl, trivial⟩ ?_
        rw [takes_cons, hgo, if_pos rfl] at ht
        refine Go'.condF rfl ?_
        refine Go'.skip ?_
        refine Go'.seq ?_
        have hN5 := NodeM.fr EJ hN hF4 (fun x y hxy hz => (hZ1 x hz).elim (hnz x y hxy) (fun h => by have := hltN x y hxy; omega))
        -- region 12 (btreeg.go:1175)
        refine Go'.region [(0, 0), (1, 2), (2, 0)] rfl ?_
        refine O.mv rfl rfl rfl rfl rfl ?_
        refine O.callQ rfl rfl rfl Try.call133 rfl (leaf_spec hN5.c3) trivial ?_
        refine O.not rfl rfl rfl rfl rfl ?_
        refine Pl.fin [(5, _), (15, _), (16, _), (56, _), (68, _), (71, _)] ⟨rfl, rfl, rfl, rfl, rfl, rfl, trivial⟩ ?_
        refine Go'.condF rfl ?_
        refine Go'.skip ?_
        refine Go'.inBlock ?_
        -- region 9 (btreeg.go:1171)
        refine Go'.region [(0, 0), (1, 0), (2, 0)] rfl ?_
        refine O.mv rfl rfl rfl rfl rfl ?_
        refine O.sub (((j : Nat) : Int) - 1) rfl rfl rfl rfl rfl rfl (by omega) (by omega) ?_
        refine O.asg rfl rfl rfl rfl rfl ?_
        refine Pl.fin [(5, _), (15, _), (16, _), (56, _), (68, _), (71, _)] ⟨rfl, rfl, rfl, rfl, rfl, rfl, trivial⟩ ?_
        refine Go'.keep [(5, _), (15, _), (16, _)] ⟨rfl, rfl, rfl, trivial⟩ ?_
        refine Go'.inLoop ?_
        exact ih (j, _, Z4, A ++ [y]) H4 ⟨by (try simp only) <;> omega, rfl, ht, hT4, hF5, hZ5, by simp only [List.length_append, List.length_singleton]; omega⟩ (by (try simp only) <;> omega)

theorem ndesc {B : World} {g : FuncId} {us cs : List Value} {go : List (Int × Int) → Bool} {M : Nat} (cb : Cb Try.prog B encIt g us cs go M) (hcall : ∀ (args : Array Value) (w : World), (callFunc g args).run Try.prog w = .ok (.enter g args) w) {tr : Nat} {P : Ps} (hP : PsOk P) (mt : Bool) (x : Int × Int) (hv : Value) (hz : Nat → Prop) : ∀ (h : Nat) {Ha : Mem} {bp op dp : Nat} {acc : List (Int × Int)} {Z : Nat → Prop} {t : Gt EJ h}, VPre (cbH cb hv hz) Ha tr P h t bp op acc Z → Pl.Srt OI (Gt.L h t) → 1 ≤ (Gt.X h t).length → ¬ Z bp → dp + h < 4611686018427387904 →
    Fn Try.prog B 191 [.pointer (some ⟨tr, 0, none⟩), .pointer (some ⟨bp, op, none⟩), .agg (EJ.enc x).toArray, hv, .int .i64 (dp : Int), .func (.func g) us.toArray cs.toArray, .bool mt] Ha (fun r H' => r = .bool (takes go acc ((Pl.dn OI x (Gt.L h t)).reverse)).2 ∧ CbPost (cbH cb hv hz) acc Z Ha ((Pl.dn OI x (Gt.L h t)).reverse) H')
  | 0, _, _, _, _, _, _, _, hp, hs, hx, hb, hd => ndesc0 cb hcall hP mt x hv hz hp hs hx hb hd
  | h + 1, Ha, bp, op, dp, acc, Z, (gg, X, K), hpa, hs, hx1, hbp, hdp => by
    have ih := @ndesc B g us cs go M cb hcall tr P hP mt x hv hz h
    replace hx1 : 1 ≤ X.length := hx1
    have hsX : Pl.Srt OI X := (show Pl.Srt OI (Pl.inter X (K.map (Gt.L h))) from hs).sublist (Pl.sublist_inter X _ (by rw [List.length_map]; have := hpa.g.2.2.2.2.2.1; simp only at this; omega))
    refine fn_of Try.func191 rfl Try.ntmps191 ?_
    refine (show Go' _ _ _ _ 85 [(0, _), (1, _), (2, _), (3, _), (4, _), (5, _), (6, _)] [.code _] _ from ?_)
    refine Go'.seq ?_
    -- region 0 (btreeg.go:1157)
    refine Go'.region [(0, 2), (1, 0)] rfl ?_
    refine O.box rfl rfl rfl rfl ?_
    intro H0 M0
    refine ⟨trivial, ?_⟩
    have hs0 := M0.size
    have hf0 := M0.fr nowhere
    have mi : Rd H0 Ha.size 0 (EJ.enc x) := M0.rd _ [] (by simp [Value.cells])
    have hza : ∀ b, Z b → b < Ha.size := fun b hb => (cbH cb hv hz).lt hpa.st hb
    replace hpa := hpa.fr0 hf0 (fun _ _ h => h.elim) hbp ((cbH cb hv hz).fr hpa.st hf0 (fun _ _ _ => nw))
    refine O.asg rfl rfl rfl rfl rfl ?_
    refine Pl.fin [(0, _), (1, _), (3, _), (4, _), (5, _), (6, _), (9, _), (14, _)] ⟨rfl, rfl, rfl, rfl, rfl, rfl, rfl, rfl, trivial⟩ ?_
    refine Go'.seq ?_
    have hIa : Inn H0 P h gg X ((Gt.ps h K).map some) K := Gt.Good.inn hpa.g
    have hca := hIa.n.c0
    rw [hIa.iso] at hca
    have hxma : X.length ≤ P.mx := hpa.g.2.2.2.2.1
    have hKla : K.length = X.length + 1 := hpa.g.2.2.2.2.2.1
    have hx255a := hP.hx
    obtain ⟨Z0, hT0, hk0, hZe, hZd⟩ := hpa.st
    have hzZ : ∀ b, hz b → Z b := fun b hb => (hZe b).2 (.inr hb)
    -- region 1 (btreeg.go:1160)
    refine Go'.region [(0, 0), (1, 0), (2, 0), (3, 2), (4, 0)] rfl ?_
    refine O.mv rfl rfl rfl rfl rfl ?_
    refine O.mv rfl rfl rfl rfl rfl ?_
    refine O.mv rfl rfl rfl rfl rfl ?_
    refine O.callQ rfl rfl rfl Try.call130 rfl (isoLoad_spec mt hpa.cel hca hpa.tc.iso) trivial ?_
    refine O.asg rfl rfl rfl rfl rfl ?_
    refine Pl.fin [(0, _), (3, _), (4, _), (5, _), (6, _), (9, _), (14, _), (15, _)] ⟨rfl, rfl, rfl, rfl, rfl, rfl, rfl, rfl, trivial⟩ ?_
    refine Go'.seq ?_
    unfold ptr
    -- region 2 (btreeg.go:1161)
    refine Go'.region [(0, 0), (1, 0), (2, 1), (3, 0), (4, 0), (5, 2), (6, 0), (7, 0), (8, 0), (9, 0), (10, 0)] rfl ?_
    refine O.mv rfl rfl rfl rfl rfl ?_
    refine O.mv rfl rfl rfl rfl rfl ?_
    refine O.lds rfl rfl rfl (fun w => ⟨Try.isAgg27 w, Try.sizeOf27 w⟩) rfl rfl mi ?_
    refine O.mv rfl rfl rfl rfl rfl ?_
    refine O.mv rfl rfl rfl rfl rfl ?_
    refine O.call rfl rfl rfl Try.call131 rfl (find_spec hpa.tc x hIa.n (hsX) (by omega) hx1 hk0 (fun b o hb hn => hpa.nz b o (.inl hn) (hzZ b hb)) (by omega)) ?_
    rintro _ H ⟨rfl, hFf, hkf⟩
    have hff : Fr (fun b _ => Z b) Ha H := hf0.trans' hFf (fun _ _ _ h => h.elim) (fun b _ _ h => hzZ b h)
    replace mi := hFf.rd mi (fun _ _ h => by have := hza _ (hzZ _ h); omega)
    have hp := hpa.fr0 hFf (fun b _ h => hzZ b h) hbp ⟨Z0, cb.fr hT0 hFf (fun b o hb hb2 => hZd b hb hb2), hkf, hZe, hZd⟩
    refine ⟨trivial, ?_⟩
    refine O.mv rfl rfl rfl rfl rfl ?_
    refine O.ext rfl rfl rfl rfl rfl rfl ?_
    refine O.ext rfl rfl rfl rfl rfl rfl ?_
    refine O.asg rfl rfl rfl rfl rfl ?_
    refine O.asg rfl rfl rfl rfl rfl ?_
    refine Pl.fin [(0, _), (3, _), (4, _), (5, _), (6, _), (9, _), (14, _), (15, _), (16, _), (17, _)] ⟨rfl, rfl, rfl, rfl, rfl, rfl, rfl, rfl, rfl, rfl, trivial⟩ ?_
    refine Go'.seq ?_
    refine Go'.seq ?_
    refine Go'.mono (Q := fun r H' => r = .bool (takes go acc ((Pl.dn OI x (Pl.inter X (K.map (Gt.L h)))).reverse)).2 ∧ CbPost (cbH cb hv hz) acc Z H ((Pl.dn OI x (Pl.inter X (K.map (Gt.L h)))).reverse) H') (fun v H' hq => ⟨hq.1, CbPost.rebase hff hq.2⟩) ?_
    have hsza := hff.size
    clear hpa hca hk0 hT0 hkf hFf hff hIa
    obtain ⟨tc, hg, hc, hnz, hntr, hst, hlen⟩ := hp
    have hI : Inn H P h gg X ((Gt.ps h K).map some) K := hg.inn
    have hKl : K.length = X.length + 1 := hg.2.2.2.2.2.1
    have hxm : X.length ≤ P.mx := hg.2.2.2.2.1
    have hx255 := hP.hx
    have hKL : (K.map (Gt.L h)).length = X.length + 1 := by rw [List.length_map]; exact hKl
    have hol : ((Gt.ps h K).map some).length = X.length + 1 := by rw [List.length_map, Gt.ps, List.length_map]; exact hKl
    replace hlen : acc.length + (Pl.inter X (K.map (Gt.L h))).length ≤ M := hlen
    replace hs : Pl.Srt OI (Pl.inter X (K.map (Gt.L h))) := hs
    have hsX : Pl.Srt OI X := hs.sublist (Pl.sublist_inter X _ (by omega))
    have hlt : ∀ x y, innc h gg K x y → x < H.size := fun x y hb => hI.lt hb
    obtain ⟨_, _, _, hkb⟩ := hI.cells
    have htl : tr < H.size := cl_lt tc.iso
    have hc0 := hI.n.c0
    rw [hI.iso] at hc0
    have hin : ∀ H', Fr (fun x _ => Z x) H H' → Inn H' P h gg X ((Gt.ps h K).map some) K := fun H' hf => hI.fr hf (fun x y hxy hz => hnz x y hxy hz)
    have htc : ∀ H', Fr (fun x _ => Z x) H H' → TrC H' tr P.iso P.mx P.mn := fun H' hf => tc.fr hf fun b o hb _ hz => hntr b hz hb
    -- a child at any time
    have hkid : ∀ {H2 : Mem} {Z1 : Nat → Prop} {A : List (Int × Int)} {j : Nat} {k : Gt EJ h}, K[j]? = some k → Fr (fun x _ => Z x) H H2 → (cbH cb hv hz).T A Z1 H2 → (∀ b, Z1 b → Z b ∨ H.size ≤ b) → A.length + (Gt.L h k).length ≤ M → VPre (cbH cb hv hz) H2 tr P h k gg.kb (gg.ko + j * 1) A Z1 := by
      intro H2 Z1 A j k hkk hF hT hZ1 hA
      have hkK : k ∈ K := List.mem_of_getElem? hkk
      have hI2 := hin H2 hF
      have hok : ((Gt.ps h K).map some)[j]? = some (some (Gt.p h k)) := by rw [Gt.ps, List.map_map, List.getElem?_map, hkk]; rfl
      exact ⟨htc H2 hF, (hI2.c.1 k hkK).1, hI2.k.at hok, fun b o hb hz => (hZ1 b hz).elim (fun hz => hnz b o (.inr (.inr ⟨k, hkK, hb⟩)) hz) (fun hz => by have := hlt b o (.inr (.inr ⟨k, hkK, hb⟩)); omega),
        fun b hz hb => (hZ1 b hz).elim (fun h => hntr b h hb) (fun h => by have := tc.hb; omega), hT, hA⟩
    have hcat : ∀ {Z1 Z2 : Nat → Prop} {H2 H3 : Mem}, Fr (fun x _ => Z x) H H2 → (∀ b, Z1 b → Z b ∨ H.size ≤ b) → Fr (fun x _ => Z1 x) H2 H3 → (∀ b, Z2 b → Z1 b ∨ H2.size ≤ b) → Fr (fun x _ => Z x) H H3 ∧ ∀ b, Z2 b → Z b ∨ H.size ≤ b := by
      intro Z1 Z2 H2 H3 hF hZ1 hF2 hZ2
      have := hF.size
      exact ⟨hF.trans' hF2 (fun _ _ _ h => h) (fun b o hb hz => (hZ1 b hz).elim id (fun h => by omega)), fun b hb => (hZ2 b hb).elim (hZ1 b) (fun h => .inr (by omega))⟩
    have hple := Pl.pos_le OI x X
    have hfle : ((Pl.dn OI x (Pl.inter X (K.map (Gt.L h)))).reverse).length ≤ (Pl.inter X (K.map (Gt.L h))).length := by rw [List.length_reverse]; exact Pl.dn_le OI x _
    have hkz : ¬ Z gg.kb := fun e => hnz gg.kb gg.ko (.inr (.inl (show kcl gg gg.kb gg.ko from .inr ⟨rfl, Nat.le_refl _, by have := hI.k.kc; omega⟩))) e
    show Go' _ _ _ (fun r H' => r = .bool (takes go acc ((Pl.dn OI x (Pl.inter X (K.map (Gt.L h)))).reverse)).2 ∧ CbPost (cbH cb hv hz) acc Z H ((Pl.dn OI x (Pl.inter X (K.map (Gt.L h)))).reverse) H') _ _ _ _
    cases hfd : Pl.fnd OI x X
    · skip
      obtain ⟨k0, hkk0⟩ : ∃ k, K[Pl.pos OI x X]? = some k := ⟨K[Pl.pos OI x X], List.getElem?_eq_getElem (by omega)⟩
      have hkL0 : (K.map (Gt.L h))[Pl.pos OI x X]? = some (Gt.L h k0) := by rw [List.getElem?_map, hkk0]; rfl
      have hW := (Pl.dn_child OI hs hKL hfd hkL0).1
      have hsk := Pl.child_srt OI hs hKL hfd hkL0
      have hlk : (Gt.L h k0).length ≤ (Pl.inter X (K.map (Gt.L h))).length := by
        rw [(Pl.inter_child OI hs hKL hfd hkL0).1, List.length_append, List.length_append]; omega
      generalize hpi : Pl.pos OI x X = i at *
      replace hW := congrArg List.reverse hW
      rw [List.reverse_append] at hW
      generalize hFULL : (Pl.dn OI x (Pl.inter X (K.map (Gt.L h)))).reverse = FULL at *
      -- region 3 (btreeg.go:1162)
      refine Go'.region [(0, 0), (1, 0)] rfl ?_
      refine O.mv rfl rfl rfl rfl rfl ?_
      refine O.not rfl rfl rfl rfl rfl ?_
      refine Pl.fin [(0, _), (3, _), (4, _), (5, _), (6, _), (9, _), (14, _), (15, _), (16, _), (32, _)] ⟨rfl, rfl, rfl, rfl, rfl, rfl, rfl, rfl, rfl, rfl, trivial⟩ ?_
      refine Go'.condT rfl ?_
      refine Go'.seq ?_
      refine Go'.seq ?_
      -- region 4 (btreeg.go:1163)
      refine Go'.region [(0, 0), (1, 2), (2, 0)] rfl ?_
      refine O.mv rfl rfl rfl rfl rfl ?_
      refine O.callQ rfl rfl rfl Try.call133 rfl (leaf_spec hI.n.c3) trivial ?_
      refine O.not rfl rfl rfl rfl rfl ?_
      refine Pl.fin [(0, _), (3, _), (4, _), (5, _), (6, _), (9, _), (14, _), (15, _), (16, _), (35, _)] ⟨rfl, rfl, rfl, rfl, rfl, rfl, rfl, rfl, rfl, rfl, trivial⟩ ?_
      refine Go'.condT rfl ?_
      refine Go'.seq ?_
      -- region 5 (btreeg.go:1164)
      refine Go'.draw (fun _ => True) [(0, 0), (1, 0), (2, 0), (3, 0), (4, 1), (5, 0), (6, 1), (7, 0), (8, 0), (9, 1), (10, 0), (11, 0), (12, 0), (13, 0), (14, 0), (15, 2), (16, 0)] (by kernel_rfl) (by kernel_rfl) (trivial) ?_
      refine O.mv rfl rfl rfl rfl rfl ?_
      refine O.mv rfl rfl rfl rfl rfl ?_
      refine O.nc rfl rfl rfl rfl rfl ?_
      refine O.fa0 (off := 3) rfl rfl rfl rfl ⟨_, _, _, Try.underlying168, rfl, rfl, Try.sizeOf166⟩ rfl ?_
      refine O.ld rfl rfl rfl (fun w => ⟨Try.isAgg166 w, Try.sizeOf166 w⟩) rfl hI.n.c3 ?_
      refine O.nc rfl rfl rfl rfl rfl ?_
      refine O.ld rfl rfl rfl (fun w => ⟨Try.isAgg170 w, Try.sizeOf170 w⟩) rfl hI.k.c ?_
      refine O.mv rfl rfl rfl rfl rfl ?_
      refine O.ix (j := i) rfl rfl rfl rfl Try.underlying170 Try.sizeOf129 rfl rfl (by omega) (by omega) ?_
      refine O.lds rfl rfl rfl (fun w => ⟨Try.isAgg27 w, Try.sizeOf27 w⟩) rfl rfl mi ?_
      refine O.mv rfl rfl rfl rfl rfl ?_
      refine O.mv rfl rfl rfl rfl rfl ?_
      refine O.add (((dp + 1 : Nat) : Int)) rfl rfl rfl rfl rfl rfl (by omega) (by omega) ?_
      refine O.mv rfl rfl rfl rfl rfl ?_
      refine O.mv rfl rfl rfl rfl rfl ?_
      refine O.call rfl rfl rfl Try.call191 rfl (ih (dp := dp + 1) (hkid hkk0 (Fr.refl _ _) hst (fun b hb => .inl hb) (by omega)) hsk (Nat.le_trans hP.h1 (hI.c.1 k0 (List.mem_of_getElem? hkk0)).2.1) hkz (by omega)) ?_
      rintro _ H2 ⟨rfl, Z2, hT2, hF2, hZ2⟩
      refine ⟨trivial, ?_⟩
      refine O.not rfl rfl rfl rfl rfl ?_
      refine Pl.fin [(0, _), (5, _), (6, _), (14, _), (15, _), (16, _), (52, _)] ⟨rfl, rfl, rfl, rfl, rfl, rfl, rfl, trivial⟩ ?_
      cases htk0 : (takes go acc ((Pl.dn OI x (Gt.L h k0)).reverse)).2
      · skip
        refine Go'.condT rfl ?_
        refine Go'.seq ?_
        -- region 6 (btreeg.go:1166)
        refine Go'.region [(0, 0)] rfl ?_
        refine O.asg rfl rfl rfl rfl rfl ?_
        refine Pl.fin [(0, _), (5, _), (6, _), (14, _), (15, _), (16, _)] ⟨rfl, rfl, rfl, rfl, rfl, rfl, trivial⟩ ?_
        refine Go'.ret (vs := [_]) Try.func191 Try.results191 ⟨rfl, trivial⟩ ?_
        have e2 := takes_halt (r := (Pl.pre (X.take (i)) ((K.map (Gt.L h)).take (i))).reverse) htk0
        rw [← hW] at e2
        unfold CbPost
        rw [e2]
        exact ⟨by rw [htk0]; rfl, Z2, hT2, hF2, hZ2⟩
      · skip
        refine Go'.condF rfl ?_
        refine Go'.skip ?_
        -- region 7 (btreeg.go:1169)
        refine Go'.region [(0, 0), (1, 0), (2, 0)] rfl ?_
        refine O.mv rfl rfl rfl rfl rfl ?_
        refine O.sub ((i : Int) - 1) rfl rfl rfl rfl rfl rfl (by omega) (by omega) ?_
        refine O.asg rfl rfl rfl rfl rfl ?_
        refine Pl.fin [(0, _), (5, _), (6, _), (14, _), (15, _), (16, _)] ⟨rfl, rfl, rfl, rfl, rfl, rfl, trivial⟩ ?_
        refine Go'.seq ?_
        refine Go'.block ?_
        have e2 := takes_rest (r := (Pl.pre (X.take (i)) ((K.map (Gt.L h)).take (i))).reverse) htk0
        rw [← hW] at e2
        have htl := takes_length go ((Pl.dn OI x (Gt.L h k0)).reverse) acc
        rw [hW, List.length_append] at hfle
        generalize (takes go acc ((Pl.dn OI x (Gt.L h k0)).reverse)).1 = A0 at *
        refine Go'.loop ?_
        refine Go'.keep [(0, _), (5, _), (6, _), (15, _), (16, _)] ⟨rfl, rfl, rfl, rfl, rfl, trivial⟩ ?_
        refine Go'.ind (σ := Nat × Int × (Nat → Prop) × List (Int × Int)) (fun s => s.1) (fun s H' => s.1 ≤ X.length ∧ s.2.1 = (s.1 : Int) - 1 ∧ takes go acc FULL = takes go s.2.2.2 ((Pl.pre (X.take (s.1)) ((K.map (Gt.L h)).take (s.1))).reverse) ∧ (cbH cb hv hz).T s.2.2.2 s.2.2.1 H' ∧ Fr (fun b _ => Z b) H H' ∧ (∀ b, s.2.2.1 b → Z b ∨ H.size ≤ b) ∧ s.2.2.2.length + ((Pl.pre (X.take (s.1)) ((K.map (Gt.L h)).take (s.1))).reverse).length ≤ M)
          (fun s => [(0, .pointer (some ⟨tr, 0, none⟩)), (5, .func (.func g) us.toArray cs.toArray), (6, .bool mt), (15, .pointer (some ⟨gg.p, 0, none⟩)), (16, .int .i64 s.2.1)]) (i, (i : Int) - 1, Z2, A0) ⟨by (try simp only) <;> omega, by (try simp only) <;> omega, e2, hT2, hF2, hZ2, by (try simp only) <;> omega⟩ rfl ?_
        rintro ⟨j, z, Z1, A⟩ H3 ⟨hj, hz, ht, hT, hF, hZ1, hAM⟩ ih2
        simp only at hj hz ht hT hZ1 hAM
        subst hz
        have hI3 := hin H3 hF
        refine Go'.seq ?_
        refine Go'.seq ?_
        rcases j with _ | j
        · skip
          -- region 8 (btreeg.go:1171)
          refine Go'.region [(0, 0), (1, 0)] rfl ?_
          refine O.mv rfl rfl rfl rfl rfl ?_
          refine O.cmp rfl rfl rfl rfl rfl rfl (geqF (by show ((0 : Nat) : Int) - 1 < 0; omega)) ?_
          refine Pl.fin [(0, _), (5, _), (6, _), (15, _), (16, _), (56, _)] ⟨rfl, rfl, rfl, rfl, rfl, rfl, trivial⟩ ?_
          rw [List.take_zero] at ht
          refine Go'.condF rfl ?_
          refine Go'.exit rfl ?_
          refine Go'.seq ?_
          -- region 15 (btreeg.go:1181)
          refine Go'.region [(0, 0)] rfl ?_
          refine O.asg rfl rfl rfl rfl rfl ?_
          refine Pl.fin [(14, _)] ⟨rfl, trivial⟩ ?_
          refine Go'.ret (vs := [_]) Try.func191 Try.results191 ⟨rfl, trivial⟩ ?_
          replace ht : takes go acc FULL = (A, true) := ht
          unfold CbPost
          rw [ht]
          exact ⟨rfl, Z1, hT, hF, hZ1⟩
        · skip
          obtain ⟨y, hy⟩ : ∃ y, X[j]? = some y := ⟨X[j], List.getElem?_eq_getElem (by omega)⟩
          obtain ⟨k, hkk⟩ : ∃ k, K[j]? = some k := ⟨K[j], List.getElem?_eq_getElem (by omega)⟩
          have hkL : (K.map (Gt.L h))[j]? = some (Gt.L h k) := by rw [List.getElem?_map, hkk]; rfl
          rw [Pl.pre_succ hy hkL, List.reverse_append, List.reverse_append, List.reverse_singleton, List.append_assoc, List.singleton_append] at ht hAM
          have ej : (((j + 1 : Nat) : Int) - 1) = (j : Int) := by omega
          refine (show Go' _ _ _ _ _ [(0, .pointer (some ⟨tr, 0, none⟩)), (5, .func (.func g) us.toArray cs.toArray), (6, .bool mt), (15, .pointer (some ⟨gg.p, 0, none⟩)), (16, .int .i64 (((j + 1 : Nat) : Int) - 1))] _ _ from ?_)
          rw [ej]
          rw [List.length_cons, List.length_append] at hAM
          have hkr : (Gt.L h k).reverse.length = (Gt.L h k).length := List.length_reverse
          -- region 8 (btreeg.go:1171)
          refine Go'.region [(0, 0), (1, 0)] rfl ?_
          refine O.mv rfl rfl rfl rfl rfl ?_
          refine O.cmp rfl rfl rfl rfl rfl rfl (geqT (by omega)) ?_
          refine Pl.fin [(0, _), (5, _), (6, _), (15, _), (16, _), (56, _)] ⟨rfl, rfl, rfl, rfl, rfl, rfl, trivial⟩ ?_
          refine Go'.condT rfl ?_
          refine Go'.skip ?_
          refine Go'.seq ?_
          refine Go'.block ?_
          refine Go'.seq ?_
          refine Go'.seq ?_
          cases hgo : go (A ++ [y])
          · skip
            -- region 10 (btreeg.go:1172)
            refine Go'.region [(0, 0), (1, 0), (2, 0), (3, 0), (4, 1), (5, 0), (6, 0), (7, 1), (8, 2), (9, 0)] rfl ?_
            refine O.mv rfl rfl rfl rfl rfl ?_
            refine O.mv rfl rfl rfl rfl rfl ?_
            refine O.nc rfl rfl rfl rfl rfl ?_
            refine O.fa0 (off := 2) rfl rfl rfl rfl ⟨_, _, _, Try.underlying168, rfl, rfl, Try.sizeOf25⟩ rfl ?_
            refine O.ld rfl rfl rfl (fun w => ⟨Try.isAgg25 w, Try.sizeOf25 w⟩) rfl hI3.n.c2 ?_
            refine O.mv rfl rfl rfl rfl rfl ?_
            refine O.ix (j := j) rfl rfl rfl rfl Try.underlying25 Try.sizeOf27 rfl rfl (by omega) (by omega) ?_
            refine O.lds rfl rfl rfl (fun w => ⟨Try.isAgg27 w, Try.sizeOf27 w⟩) rfl rfl (hI3.n.sl.item hy) ?_
            refine O.callC rfl rfl rfl rfl hcall rfl ((cbH cb hv hz).call y hT (by omega)) ?_
            rintro _ H4 ⟨rfl, Z4, hT4, hF4, hZ4⟩
            rw [hgo]
            obtain ⟨hF5, hZ5⟩ := hcat hF hZ1 hF4 hZ4
            refine ⟨trivial, ?_⟩
            refine O.not rfl rfl rfl rfl rfl ?_
            refine Pl.fin [(0, _), (5, _), (6, _), (15, _), (16, _), (56, _), (68, _)] ⟨rfl, rfl, rfl, rfl, rfl, rfl, rfl, trivial⟩ ?_
            refine Go'.condT rfl ?_
            refine Go'.seq ?_
            -- region 11 (btreeg.go:1173)
            refine Go'.region [(0, 0)] rfl ?_
            refine O.asg rfl rfl rfl rfl rfl ?_
            refine Pl.fin [(0, _), (5, _), (6, _), (14, _), (15, _), (16, _), (56, _), (68, _)] ⟨rfl, rfl, rfl, rfl, rfl, rfl, rfl, rfl, trivial⟩ ?_
            refine Go'.ret (vs := [_]) Try.func191 Try.results191 ⟨rfl, trivial⟩ ?_
            rw [takes_cons, hgo] at ht
            unfold CbPost
            rw [ht]
            exact ⟨rfl, Z4, hT4, hF5, hZ5⟩
          · skip
            -- region 10 (btreeg.go:1172)
            refine Go'.region [(0, 0), (1, 0), (2, 0), (3, 0), (4, 1), (5, 0), (6, 0), (7, 1), (8, 2), (9, 0)] rfl ?_
            refine O.mv rfl rfl rfl rfl rfl ?_
            refine O.mv rfl rfl rfl rfl rfl ?_
            refine O.nc rfl rfl rfl rfl rfl ?_
            refine O.fa0 (off := 2) rfl rfl rfl rfl ⟨_, _, _, Try.underlying168, rfl, rfl, Try.sizeOf25⟩ rfl ?_
            refine O.ld rfl rfl rfl (fun w => ⟨Try.isAgg25 w, Try.sizeOf25 w⟩) rfl hI3.n.c2 ?_
            refine O.mv rfl rfl rfl rfl rfl ?_
            refine O.ix (j := j) rfl rfl rfl rfl Try.underlying25 Try.sizeOf27 rfl rfl (by omega) (by omega) ?_
            refine O.lds rfl rfl rfl (fun w => ⟨Try.isAgg27 w, Try.sizeOf27 w⟩) rfl rfl (hI3.n.sl.item hy) ?_
            refine O.callC rfl rfl rfl rfl hcall rfl ((cbH cb hv hz).call y hT (by omega)) ?_
            rintro _ H4 ⟨rfl, Z4, hT4, hF4, hZ4⟩
            rw [hgo]
            obtain ⟨hF5, hZ5⟩ := hcat hF hZ1 hF4 hZ4
            refine ⟨trivial, ?_⟩
            refine O.not rfl rfl rfl rfl rfl ?_
            refine Pl.fin [(0, _), (5, _), (6, _), (15, _), (16, _), (56, _), (68, _)] ⟨rfl, rfl, rfl, rfl, rfl, rfl, rfl, trivial⟩ ?_
            rw [takes_cons, hgo, if_pos rfl] at ht
            refine Go'.condF rfl ?_
            refine Go'.skip ?_
            refine Go'.seq ?_
            have hI4 := hin H4 hF5
            have hAy : (A ++ [y]).length = A.length + 1 := by simp
            -- region 12 (btreeg.go:1175)
            refine Go'.region [(0, 0), (1, 2), (2, 0)] rfl ?_
            refine O.mv rfl rfl rfl rfl rfl ?_
            refine O.callQ rfl rfl rfl Try.call133 rfl (leaf_spec hI4.n.c3) trivial ?_
            refine O.not rfl rfl rfl rfl rfl ?_
            refine Pl.fin [(0, _), (5, _), (6, _), (15, _), (16, _), (56, _), (68, _), (71, _)] ⟨rfl, rfl, rfl, rfl, rfl, rfl, rfl, rfl, trivial⟩ ?_
            refine Go'.condT rfl ?_
            refine Go'.seq ?_
            -- region 13 (btreeg.go:1176)
            refine Go'.region [(0, 0), (1, 0), (2, 0), (3, 0), (4, 1), (5, 0), (6, 1), (7, 0), (8, 0), (9, 0), (10, 0), (11, 2), (12, 0)] rfl ?_
            refine O.mv rfl rfl rfl rfl rfl ?_
            refine O.mv rfl rfl rfl rfl rfl ?_
            refine O.nc rfl rfl rfl rfl rfl ?_
            refine O.fa0 (off := 3) rfl rfl rfl rfl ⟨_, _, _, Try.underlying168, rfl, rfl, Try.sizeOf166⟩ rfl ?_
            refine O.ld rfl rfl rfl (fun w => ⟨Try.isAgg166 w, Try.sizeOf166 w⟩) rfl hI4.n.c3 ?_
            refine O.nc rfl rfl rfl rfl rfl ?_
            refine O.ld rfl rfl rfl (fun w => ⟨Try.isAgg170 w, Try.sizeOf170 w⟩) rfl hI4.k.c ?_
            refine O.mv rfl rfl rfl rfl rfl ?_
            refine O.ix (j := j) rfl rfl rfl rfl Try.underlying170 Try.sizeOf129 rfl rfl (by omega) (by omega) ?_
            refine O.mv rfl rfl rfl rfl rfl ?_
            refine O.mv rfl rfl rfl rfl rfl ?_
            refine O.call rfl rfl rfl Try.call189 rfl (nrev (cbH cb hv hz) hcall hP mt h (hkid hkk hF5 hT4 hZ5 (by omega))) ?_
            rintro _ H6 ⟨rfl, Z6, hT6, hF6, hZ6⟩
            obtain ⟨hF7, hZ7⟩ := hcat hF5 hZ5 hF6 hZ6
            refine ⟨trivial, ?_⟩
            refine O.not rfl rfl rfl rfl rfl ?_
            refine Pl.fin [(0, _), (5, _), (6, _), (15, _), (16, _), (56, _), (68, _), (71, _), (84, _)] ⟨rfl, rfl, rfl, rfl, rfl, rfl, rfl, rfl, rfl, trivial⟩ ?_
            cases htk2 : (takes go (A ++ [y]) (Gt.L h k).reverse).2
            · skip
              refine Go'.condT rfl ?_
              refine Go'.seq ?_
              -- region 14 (btreeg.go:1177)
              refine Go'.region [(0, 0)] rfl ?_
              refine O.asg rfl rfl rfl rfl rfl ?_
              refine Pl.fin [(0, _), (5, _), (6, _), (14, _), (15, _), (16, _), (56, _), (68, _), (71, _), (84, _)] ⟨rfl, rfl, rfl, rfl, rfl, rfl, rfl, rfl, rfl, rfl, trivial⟩ ?_
              refine Go'.ret (vs := [_]) Try.func191 Try.results191 ⟨rfl, trivial⟩ ?_
              rw [takes_halt htk2] at ht
              unfold CbPost
              rw [ht]
              exact ⟨by rw [htk2]; rfl, Z6, hT6, hF7, hZ7⟩
            · skip
              refine Go'.condF rfl ?_
              refine Go'.skip ?_
              refine Go'.inBlock ?_
              have htl := takes_length go (Gt.L h k).reverse (A ++ [y])
              -- region 9 (btreeg.go:1171)
              refine Go'.region [(0, 0), (1, 0), (2, 0)] rfl ?_
              refine O.mv rfl rfl rfl rfl rfl ?_
              refine O.sub (((j : Nat) : Int) - 1) rfl rfl rfl rfl rfl rfl (by omega) (by omega) ?_
              refine O.asg rfl rfl rfl rfl rfl ?_
              refine Pl.fin [(0, _), (5, _), (6, _), (15, _), (16, _), (56, _), (68, _), (71, _), (84, _)] ⟨rfl, rfl, rfl, rfl, rfl, rfl, rfl, rfl, rfl, trivial⟩ ?_
              refine Go'.keep [(0, _), (5, _), (6, _), (15, _), (16, _)] ⟨rfl, rfl, rfl, rfl, rfl, trivial⟩ ?_
              refine Go'.inLoop ?_
              rw [takes_rest htk2] at ht
              generalize (takes go (A ++ [y]) (Gt.L h k).reverse).1 = A6 at *
              exact ih2 (j, _, Z6, A6) H6 ⟨by (try simp only) <;> omega, rfl, ht, hT6, hF7, hZ7, by (try simp only) <;> omega⟩ (by (try simp only) <;> omega)
    · skip
      have hW := (Pl.dn_found OI hs hKL hfd).1
      have hlt1 := Pl.fnd_pos_lt OI hfd
      generalize hpi : Pl.pos OI x X = i at *
      replace hW := congrArg List.reverse hW
      generalize hFULL : (Pl.dn OI x (Pl.inter X (K.map (Gt.L h)))).reverse = FULL at *
      -- region 3 (btreeg.go:1162)
      refine Go'.region [(0, 0), (1, 0)] rfl ?_
      refine O.mv rfl rfl rfl rfl rfl ?_
      refine O.not rfl rfl rfl rfl rfl ?_
      refine Pl.fin [(0, _), (3, _), (4, _), (5, _), (6, _), (9, _), (14, _), (15, _), (16, _), (32, _)] ⟨rfl, rfl, rfl, rfl, rfl, rfl, rfl, rfl, rfl, rfl, trivial⟩ ?_
      refine Go'.condF rfl ?_
      refine Go'.skip ?_
      refine Go'.seq ?_
      refine Go'.block ?_
      refine Go'.loop ?_
      refine Go'.keep [(0, _), (5, _), (6, _), (15, _), (16, _)] ⟨rfl, rfl, rfl, rfl, rfl, trivial⟩ ?_
      refine Go'.ind (σ := Nat × Int × (Nat → Prop) × List (Int × Int)) (fun s => s.1) (fun s H' => s.1 ≤ X.length ∧ s.2.1 = (s.1 : Int) - 1 ∧ takes go acc FULL = takes go s.2.2.2 ((Pl.pre (X.take (s.1)) ((K.map (Gt.L h)).take (s.1))).reverse) ∧ (cbH cb hv hz).T s.2.2.2 s.2.2.1 H' ∧ Fr (fun b _ => Z b) H H' ∧ (∀ b, s.2.2.1 b → Z b ∨ H.size ≤ b) ∧ s.2.2.2.length + ((Pl.pre (X.take (s.1)) ((K.map (Gt.L h)).take (s.1))).reverse).length ≤ M)
        (fun s => [(0, .pointer (some ⟨tr, 0, none⟩)), (5, .func (.func g) us.toArray cs.toArray), (6, .bool mt), (15, .pointer (some ⟨gg.p, 0, none⟩)), (16, .int .i64 s.2.1)]) (i + 1, (i : Int), Z, acc) ⟨by (try simp only) <;> omega, by (try simp only) <;> omega, by rw [hW], hst, (Fr.refl _ _), fun b hb => .inl hb, by rw [hW] at hfle; simp only; omega⟩ rfl ?_
      rintro ⟨j, z, Z1, A⟩ H3 ⟨hj, hz, ht, hT, hF, hZ1, hAM⟩ ih2
      simp only at hj hz ht hT hZ1 hAM
      subst hz
      have hI3 := hin H3 hF
      refine Go'.seq ?_
      refine Go'.seq ?_
      rcases j with _ | j
      · skip
        -- region 8 (btreeg.go:1171)
        refine Go'.region [(0, 0), (1, 0)] rfl ?_
        refine O.mv rfl rfl rfl rfl rfl ?_
        refine O.cmp rfl rfl rfl rfl rfl rfl (geqF (by show ((0 : Nat) : Int) - 1 < 0; omega)) ?_
        refine Pl.fin [(0, _), (5, _), (6, _), (15, _), (16, _), (56, _)] ⟨rfl, rfl, rfl, rfl, rfl, rfl, trivial⟩ ?_
        rw [List.take_zero] at ht
        refine Go'.condF rfl ?_
        refine Go'.exit rfl ?_
        refine Go'.seq ?_
        -- region 15 (btreeg.go:1181)
        refine Go'.region [(0, 0)] rfl ?_
        refine O.asg rfl rfl rfl rfl rfl ?_
        refine Pl.fin [(14, _)] ⟨rfl, trivial⟩ ?_
        refine Go'.ret (vs := [_]) Try.func191 Try.results191 ⟨rfl, trivial⟩ ?_
        replace ht : takes go acc FULL = (A, true) := ht
        unfold CbPost
        rw [ht]
        exact ⟨rfl, Z1, hT, hF, hZ1⟩
      · skip
        obtain ⟨y, hy⟩ : ∃ y, X[j]? = some y := ⟨X[j], List.getElem?_eq_getElem (by omega)⟩
        obtain ⟨k, hkk⟩ : ∃ k, K[j]? = some k := ⟨K[j], List.getElem?_eq_getElem (by omega)⟩
        have hkL : (K.map (Gt.L h))[j]? = some (Gt.L h k) := by rw [List.getElem?_map, hkk]; rfl
        rw [Pl.pre_succ hy hkL, List.reverse_append, List.reverse_append, List.reverse_singleton, List.append_assoc, List.singleton_append] at ht hAM
        have ej : (((j + 1 : Nat) : Int) - 1) = (j : Int) := by omega
        refine (show Go' _ _ _ _ _ [(0, .pointer (some ⟨tr, 0, none⟩)), (5, .func (.func g) us.toArray cs.toArray), (6, .bool mt), (15, .pointer (some ⟨gg.p, 0, none⟩)), (16, .int .i64 (((j + 1 : Nat) : Int) - 1))] _ _ from ?_)
        rw [ej]
        rw [List.length_cons, List.length_append] at hAM
        have hkr : (Gt.L h k).reverse.length = (Gt.L h k).length := List.length_reverse
        -- region 8 (btreeg.go:1171)
        refine Go'.region [(0, 0), (1, 0)] rfl ?_
        refine O.mv rfl rfl rfl rfl rfl ?_
        refine O.cmp rfl rfl rfl rfl rfl rfl (geqT (by omega)) ?_
        refine Pl.fin [(0, _), (5, _), (6, _), (15, _), (16, _), (56, _)] ⟨rfl, rfl, rfl, rfl, rfl, rfl, trivial⟩ ?_
        refine Go'.condT rfl ?_
        refine Go'.skip ?_
        refine Go'.seq ?_
        refine Go'.block ?_
        refine Go'.seq ?_
        refine Go'.seq ?_
        cases hgo : go (A ++ [y])
        · skip
          -- region 10 (btreeg.go:1172)
          refine Go'.region [(0, 0), (1, 0), (2, 0), (3, 0), (4, 1), (5, 0), (6, 0), (7, 1), (8, 2), (9, 0)] rfl ?_
          refine O.mv rfl rfl rfl rfl rfl ?_
          refine O.mv rfl rfl rfl rfl rfl ?_
          refine O.nc rfl rfl rfl rfl rfl ?_
          refine O.fa0 (off := 2) rfl rfl rfl rfl ⟨_, _, _, Try.underlying168, rfl, rfl, Try.sizeOf25⟩ rfl ?_
          refine O.ld rfl rfl rfl (fun w => ⟨Try.isAgg25 w, Try.sizeOf25 w⟩) rfl hI3.n.c2 ?_
          refine O.mv rfl rfl rfl rfl rfl ?_
          refine O.ix (j := j) rfl rfl rfl rfl Try.underlying25 Try.sizeOf27 rfl rfl (by omega) (by omega) ?_
          refine O.lds rfl rfl rfl (fun w => ⟨Try.isAgg27 w, Try.sizeOf27 w⟩) rfl rfl (hI3.n.sl.item hy) ?_
          refine O.callC rfl rfl rfl rfl hcall rfl ((cbH cb hv hz).call y hT (by omega)) ?_
          rintro _ H4 ⟨rfl, Z4, hT4, hF4, hZ4⟩
          rw [hgo]
          obtain ⟨hF5, hZ5⟩ := hcat hF hZ1 hF4 hZ4
          refine ⟨trivial, ?_⟩
          refine O.not rfl rfl rfl rfl rfl ?_
          refine Pl.fin [(0, _), (5, _), (6, _), (15, _), (16, _), (56, _), (68, _)] ⟨rfl, rfl, rfl, rfl, rfl, rfl, rfl, trivial⟩ ?_
          refine Go'.condT rfl ?_
          refine Go'.seq ?_
          -- region 11 (btreeg.go:1173)
          refine Go'.region [(0, 0)] rfl ?_
          refine O.asg rfl rfl rfl rfl rfl ?_
          refine Pl.fin [(0, _), (5, _), (6, _), (14, _), (15, _), (16, _), (56, _), (68, _)] ⟨rfl, rfl, rfl, rfl, rfl, rfl, rfl, rfl, trivial⟩ ?_
          refine Go'.ret (vs := [_]) Try.func191 Try.results191 ⟨rfl, trivial⟩ ?_
          rw [takes_cons, hgo] at ht
          unfold CbPost
          rw [ht]
          exact ⟨rfl, Z4, hT4, hF5, hZ5⟩
        · skip
          -- region 10 (btreeg.go:1172)
          refine Go'.region [(0, 0), (1, 0), (2, 0), (3, 0), (4, 1), (5, 0), (6, 0), (7, 1), (8, 2), (9, 0)] rfl ?_
          refine O.mv rfl rfl rfl rfl rfl ?_
          refine O.mv rfl rfl rfl rfl rfl ?_
          refine O.nc rfl rfl rfl rfl rfl ?_
          refine O.fa0 (off := 2) rfl rfl rfl rfl ⟨_, _, _, Try.underlying168, rfl, rfl, Try.sizeOf25⟩ rfl ?_
          refine O.ld rfl rfl rfl (fun w => ⟨Try.isAgg25 w, Try.sizeOf25 w⟩) rfl hI3.n.c2 ?_
          refine O.mv rfl rfl rfl rfl rfl ?_
          refine O.ix (j := j) rfl rfl rfl rfl Try.underlying25 Try.sizeOf27 rfl rfl (by omega) (by omega) ?_
          refine O.lds rfl rfl rfl (fun w => ⟨Try.isAgg27 w, Try.sizeOf27 w⟩) rfl rfl (hI3.n.sl.item hy) ?_
          refine O.callC rfl rfl rfl rfl hcall rfl ((cbH cb hv hz).call y hT (by omega)) ?_
          rintro _ H4 ⟨rfl, Z4, hT4, hF4, hZ4⟩
          rw [hgo]
          obtain ⟨hF5, hZ5⟩ := hcat hF hZ1 hF4 hZ4
          refine ⟨trivial, ?_⟩
          refine O.not rfl rfl rfl rfl rfl ?_
          refine Pl.fin [(0, _), (5, _), (6, _), (15, _), (16, _), (56, _), (68, _)] ⟨rfl, rfl, rfl, rfl, rfl, rfl, rfl, trivial⟩ ?_
          rw [takes_cons, hgo, if_pos rfl] at ht
          refine Go'.condF rfl ?_
          refine Go'.skip ?_
          refine Go'.seq ?_
          have hI4 := hin H4 hF5
          have hAy : (A ++ [y]).length = A.length + 1 := by simp
          -- region 12 (btreeg.go:1175)
          refine Go'.region [(0, 0), (1, 2), (2, 0)] rfl ?_
          refine O.mv rfl rfl rfl rfl rfl ?_
          refine O.callQ rfl rfl rfl Try.call133 rfl (leaf_spec hI4.n.c3) trivial ?_
          refine O.not rfl rfl rfl rfl rfl ?_
          refine Pl.fin [(0, _), (5, _), (6, _), (15, _), (16, _), (56, _), (68, _), (71, _)] ⟨rfl, rfl, rfl, rfl, rfl, rfl, rfl, rfl, trivial⟩ ?_
          refine Go'.condT rfl ?_
          refine Go'.seq ?_
          -- region 13 (btreeg.go:1176)
          refine Go'.region [(0, 0), (1, 0), (2, 0), (3, 0), (4, 1), (5, 0), (6, 1), (7, 0), (8, 0), (9, 0), (10, 0), (11, 2), (12, 0)] rfl ?_
          refine O.mv rfl rfl rfl rfl rfl ?_
          refine O.mv rfl rfl rfl rfl rfl ?_
          refine O.nc rfl rfl rfl rfl rfl ?_
          refine O.fa0 (off := 3) rfl rfl rfl rfl ⟨_, _, _, Try.underlying168, rfl, rfl, Try.sizeOf166⟩ rfl ?_
          refine O.ld rfl rfl rfl (fun w => ⟨Try.isAgg166 w, Try.sizeOf166 w⟩) rfl hI4.n.c3 ?_
          refine O.nc rfl rfl rfl rfl rfl ?_
          refine O.ld rfl rfl rfl (fun w => ⟨Try.isAgg170 w, Try.sizeOf170 w⟩) rfl hI4.k.c ?_
          refine O.mv rfl rfl rfl rfl rfl ?_
          refine O.ix (j := j) rfl rfl rfl rfl Try.underlying170 Try.sizeOf129 rfl rfl (by omega) (by omega) ?_
          refine O.mv rfl rfl rfl rfl rfl ?_
          refine O.mv rfl rfl rfl rfl rfl ?_
          refine O.call rfl rfl rfl Try.call189 rfl (nrev (cbH cb hv hz) hcall hP mt h (hkid hkk hF5 hT4 hZ5 (by omega))) ?_
          rintro _ H6 ⟨rfl, Z6, hT6, hF6, hZ6⟩
          obtain ⟨hF7, hZ7⟩ := hcat hF5 hZ5 hF6 hZ6
          refine ⟨trivial, ?_⟩
          refine O.not rfl rfl rfl rfl rfl ?_
          refine Pl.fin [(0, _), (5, _), (6, _), (15, _), (16, _), (56, _), (68, _), (71, _), (84, _)] ⟨rfl, rfl, rfl, rfl, rfl, rfl, rfl, rfl, rfl, trivial⟩ ?_
          cases htk2 : (takes go (A ++ [y]) (Gt.L h k).reverse).2
          · skip
            refine Go'.condT rfl ?_
            refine Go'.seq ?_
            -- region 14 (btreeg.go:1177)
            refine Go'.region [(0, 0)] rfl ?_
            refine O.asg rfl rfl rfl rfl rfl ?_
            refine Pl.fin [(0, _), (5, _), (6, _), (14, _), (15, _), (16, _), (56, _), (68, _), (71, _), (84, _)] ⟨rfl, rfl, rfl, rfl, rfl, rfl, rfl, rfl, rfl, rfl, trivial⟩ ?_
            refine Go'.ret (vs := [_]) Try.func191 Try.results191 ⟨rfl, trivial⟩ ?_
            rw [takes_halt htk2] at ht
            unfold CbPost
            rw [ht]
            exact ⟨by rw [htk2]; rfl, Z6, hT6, hF7, hZ7⟩
          · skip
            refine Go'.condF rfl ?_
            refine Go'.skip ?_
            refine Go'.inBlock ?_
            have htl := takes_length go (Gt.L h k).reverse (A ++ [y])
            -- region 9 (btreeg.go:1171)
            refine Go'.region [(0, 0), (1, 0), (2, 0)] rfl ?_
            refine O.mv rfl rfl rfl rfl rfl ?_
            refine O.sub (((j : Nat) : Int) - 1) rfl rfl rfl rfl rfl rfl (by omega) (by omega) ?_
            refine O.asg rfl rfl rfl rfl rfl ?_
            refine Pl.fin [(0, _), (5, _), (6, _), (15, _), (16, _), (56, _), (68, _), (71, _), (84, _)] ⟨rfl, rfl, rfl, rfl, rfl, rfl, rfl, rfl, rfl, trivial⟩ ?_
            refine Go'.keep [(0, _), (5, _), (6, _), (15, _), (16, _)] ⟨rfl, rfl, rfl, rfl, rfl, trivial⟩ ?_
            refine Go'.inLoop ?_
            rw [takes_rest htk2] at ht
            generalize (takes go (A ++ [y]) (Gt.L h k).reverse).1 = A6 at *
            exact ih2 (j, _, Z6, A6) H6 ⟨by (try simp only) <;> omega, rfl, ht, hT6, hF7, hZ7, by (try simp only) <;> omega⟩ (by (try simp only) <;> omega)

end
end Go.Bt.FG
