/- Contracts of functions of the program, proved by walking through their code. Conditions: those that each theorem names. -/
import Derived.Test.YtmboghgpakhceaaTogA
import Derived.Test.YtmboghgpakhceaaToIt
import Derived.Test.YtmboghgpakhceaaToSo
import Derived.Test.YtmboghgpakhceaaTogC
namespace Go.Bt.FG
open Go Go.Proofs
set_option maxRecDepth 20000
set_option maxHeartbeats 4000000
set_option linter.unusedVariables false
set_option linter.unusedSectionVars false
variable [Inhabited Cx]

theorem run_shr1 (t : TypeId) (x y : Operand) (a : Nat) (w : World) : (eqGuard .shr t x y (.int .u64 (a : Int)) (.int .u64 1)).run Try.prog w = .ok () w ∧ (binOp .shr t (.int .u64 (a : Int)) (.int .u64 1)).run Try.prog w = .ok (.int .u64 ((a / 2 : Nat) : Int)) w := by
  refine ⟨run_eqGuard_int _ _ _ _ _ _ _ _ w, ?_⟩
  simp only [binOp, Op.shift]
  rw [if_neg (by omega)]
  simp only [Sem.run_pure]
  congr 2
  show (a : Int).fdiv (2 ^ 1) = _
  rw [Int.fdiv_eq_ediv_of_nonneg _ (by decide)]
  rfl

theorem bsearch_spec {B : World} {H : Mem} {tr id mx mn : Nat} (tc : TrC H tr id mx mn) {g : Ng} {X : List (Int × Int)} {kp : Value} (x : Int × Int) (hn : NodeM EJ H g X kp) (hs : Pl.Srt OI X) (hl : X.length ≤ 255) :
    Fn Try.prog B 179 [.pointer (some ⟨tr, 0, none⟩), .pointer (some ⟨g.p, 0, none⟩), .agg (EJ.enc x).toArray] H (fun v H' => v = .tuple #[.int .i64 ((Pl.pos OI x X : Nat) : Int), .bool (Pl.fnd OI x X)] ∧ Fr nowhere H H') := by
  refine fn_of Try.func179 rfl Try.ntmps179 ?_
  refine (show Go' _ _ _ _ 64 [(0, _), (1, _), (2, _)] [.code _] _ from ?_)
  refine Go'.seq ?_
  -- region 0 (btreeg.go:90)
  refine Go'.region [(0, 2), (1, 0), (2, 0)] rfl ?_
  refine O.box rfl rfl rfl rfl ?_
  intro H1 M1
  refine ⟨trivial, ?_⟩
  have hF1 := M1.fr nowhere
  have hs1 := M1.size
  replace tc := tc.fr hF1 (fun _ _ _ _ => nw)
  replace hn := NodeM.fr EJ hn hF1 (fun _ _ _ => nw)
  have mk : Rd H1 H.size 0 (EJ.enc x) := M1.rd _ [] (by simp [Value.cells])
  refine O.asg rfl rfl rfl rfl rfl ?_
  refine O.asg rfl rfl rfl rfl rfl ?_
  refine Pl.fin [(0, _), (1, _), (5, _), (6, _), (7, _)] ⟨rfl, rfl, rfl, rfl, rfl, trivial⟩ ?_
  refine Go'.seq ?_
  -- region 1 (btreeg.go:91)
  refine Go'.draw (fun _ => True) [(0, 0), (1, 0), (2, 0), (3, 1), (4, 0), (5, 0), (6, 0)] (by kernel_rfl) (by kernel_rfl) (trivial) ?_
  refine O.mv rfl rfl rfl rfl rfl ?_
  refine O.nc rfl rfl rfl rfl rfl ?_
  refine O.fa0 (off := 2) rfl rfl rfl rfl ⟨_, _, _, Try.underlying168, rfl, rfl, Try.sizeOf25⟩ rfl ?_
  refine O.ld rfl rfl rfl (fun w => ⟨Try.isAgg25 w, Try.sizeOf25 w⟩) rfl hn.c2 ?_
  refine O.len rfl rfl rfl rfl Try.underlying25 rfl ?_
  refine O.asg rfl rfl rfl rfl rfl ?_
  refine O.asg rfl rfl rfl rfl rfl ?_
  refine Pl.fin [(0, _), (1, _), (5, _), (6, _), (7, _), (8, _), (9, _)] ⟨rfl, rfl, rfl, rfl, rfl, rfl, rfl, trivial⟩ ?_
  refine Go'.seq ?_
  refine Go'.block ?_
  refine Go'.loop ?_
  refine Go'.keep [(0, _), (1, _), (5, _), (8, _), (9, _)] ⟨rfl, rfl, rfl, rfl, rfl, trivial⟩ ?_
  refine Go'.ind (σ := Nat × Nat) (fun s => s.2 - s.1) (fun s H' => Fr nowhere H1 H' ∧ s.1 ≤ s.2 ∧ s.2 ≤ X.length ∧ (∀ j y, X[j]? = some y → j < s.1 → OI.lt x y = false) ∧ (∀ j y, X[j]? = some y → s.2 ≤ j → OI.lt x y = true))
    (fun s => [(0, .pointer (some ⟨tr, 0, none⟩)), (1, .pointer (some ⟨g.p, 0, none⟩)), (5, .pointer (some ⟨H.size, 0, none⟩)), (8, .int .i64 (s.1 : Int)), (9, .int .i64 (s.2 : Int))]) (0, X.length) ⟨Fr.refl _ _, Nat.zero_le _, Nat.le_refl _, fun j y _ h => by simp at h, fun j y h1 h2 => by
      have := (List.getElem?_eq_some_iff.1 h1).1; simp only at h2; omega⟩ rfl ?_
  rintro ⟨lo, hi⟩ H2 ⟨hF2, hlh, hhl, hlo, hhi⟩ ih
  simp only at hlh hhl hlo hhi
  replace tc := tc.fr hF2 (fun _ _ _ _ => nw)
  replace hn := NodeM.fr EJ hn hF2 (fun _ _ _ => nw)
  replace mk := hF2.rd mk (fun _ _ => nw)
  refine Go'.seq ?_
  refine Go'.seq ?_
  by_cases hlt : lo < hi
  · -- a round
    -- region 2 (btreeg.go:92)
    refine Go'.region [(0, 0), (1, 0), (2, 0)] rfl ?_
    refine O.mv rfl rfl rfl rfl rfl ?_
    refine O.mv rfl rfl rfl rfl rfl ?_
    refine O.cmp rfl rfl rfl rfl rfl rfl (lssT (by omega)) ?_
    refine Pl.fin [(0, _), (1, _), (5, _), (8, _), (9, _), (18, _)] ⟨rfl, rfl, rfl, rfl, rfl, rfl, trivial⟩ ?_
    refine Go'.condT rfl ?_
    refine Go'.skip ?_
    refine Go'.block ?_
    refine Go'.seq ?_
    -- region 3 (btreeg.go:93)
    refine Go'.region [(0, 0), (1, 0), (2, 0), (3, 2), (4, 0), (5, 2), (6, 0)] rfl ?_
    refine O.mv rfl rfl rfl rfl rfl ?_
    refine O.mv rfl rfl rfl rfl rfl ?_
    refine O.add (((lo + hi : Nat) : Int)) rfl rfl rfl rfl rfl rfl (by omega) (by omega) ?_
    refine O.cvk .u64 (v := ((lo + hi : Nat) : Int)) rfl rfl rfl (by rw [Try.underlying3]; rfl) Try.underlying230 rfl rfl (wrap_idU (by omega)) trivial ?_
    refine O.bin rfl rfl rfl rfl rfl rfl (run_shr1 _ _ _ (lo + hi)) ?_
    refine O.cvi (v := (((lo + hi) / 2 : Nat) : Int)) rfl rfl rfl (by rw [Try.underlying230]; rfl) Try.underlying3 rfl rfl (wrap_id (by omega)) trivial ?_
    refine O.asg rfl rfl rfl rfl rfl ?_
    refine Pl.fin [(0, _), (1, _), (5, _), (8, _), (9, _), (10, _), (18, _)] ⟨rfl, rfl, rfl, rfl, rfl, rfl, rfl, trivial⟩ ?_
    refine Go'.seq ?_
    obtain ⟨y, hy⟩ : ∃ y, X[(lo + hi) / 2]? = some y := ⟨X[(lo + hi) / 2], by simp⟩
    -- region 4 (btreeg.go:94)
    refine Go'.draw (fun _ => True) [(0, 0), (1, 0), (2, 0), (3, 1), (4, 1), (5, 0), (6, 0), (7, 0), (8, 1), (9, 0), (10, 0), (11, 1), (12, 2), (13, 0)] (by kernel_rfl) (by kernel_rfl) (trivial) ?_
    refine O.mv rfl rfl rfl rfl rfl ?_
    refine O.nc rfl rfl rfl rfl rfl ?_
    refine O.fa0 (off := 6) rfl rfl rfl rfl ⟨_, _, _, Try.underlying158, rfl, rfl, Try.sizeOf88⟩ rfl ?_
    refine O.ld rfl rfl rfl (fun w => ⟨Try.isAgg88 w, Try.sizeOf88 w⟩) rfl tc.le ?_
    refine O.lds rfl rfl rfl (fun w => ⟨Try.isAgg27 w, Try.sizeOf27 w⟩) rfl rfl mk ?_
    refine O.mv rfl rfl rfl rfl rfl ?_
    refine O.nc rfl rfl rfl rfl rfl ?_
    refine O.fa0 (off := 2) rfl rfl rfl rfl ⟨_, _, _, Try.underlying168, rfl, rfl, Try.sizeOf25⟩ rfl ?_
    refine O.ld rfl rfl rfl (fun w => ⟨Try.isAgg25 w, Try.sizeOf25 w⟩) rfl hn.c2 ?_
    refine O.mv rfl rfl rfl rfl rfl ?_
    refine O.ix (j := (lo + hi) / 2) rfl rfl rfl rfl Try.underlying25 Try.sizeOf27 rfl rfl (by omega) (by omega) ?_
    refine O.lds rfl rfl rfl (fun w => ⟨Try.isAgg27 w, Try.sizeOf27 w⟩) rfl rfl (hn.sl.item hy) ?_
    refine O.callC rfl rfl rfl rfl Try.call170 rfl (less_spec tc x y) ?_
    rintro _ H3 ⟨rfl, hF3⟩
    replace hF2 := hF2.trans hF3
    refine ⟨trivial, ?_⟩
    refine O.not rfl rfl rfl rfl rfl ?_
    refine Pl.fin [(0, _), (1, _), (5, _), (8, _), (9, _), (10, _), (18, _), (38, _)] ⟨rfl, rfl, rfl, rfl, rfl, rfl, rfl, rfl, trivial⟩ ?_
    cases hky : OI.lt x y
    · -- not less
      refine Go'.condT rfl ?_
      -- region 5 (btreeg.go:95)
      refine Go'.region [(0, 0), (1, 0), (2, 0)] rfl ?_
      refine O.mv rfl rfl rfl rfl rfl ?_
      refine O.add (((((lo + hi) / 2) + 1 : Nat) : Int)) rfl rfl rfl rfl rfl rfl (by omega) (by omega) ?_
      refine O.asg rfl rfl rfl rfl rfl ?_
      refine Pl.fin [(0, _), (1, _), (5, _), (8, _), (9, _), (10, _), (18, _), (38, _)] ⟨rfl, rfl, rfl, rfl, rfl, rfl, rfl, rfl, trivial⟩ ?_
      refine Go'.inBlock ?_
      refine Go'.keep [(0, _), (1, _), (5, _), (8, _), (9, _)] ⟨rfl, rfl, rfl, rfl, rfl, trivial⟩ ?_
      refine Go'.inLoop ?_
      exact ih ((lo + hi) / 2 + 1, hi) H3 ⟨hF2, by simp only; omega, hhl, fun j z hz hj => by
        simp only at hj
        have hjl := (List.getElem?_eq_some_iff.1 hz).1
        rcases Nat.lt_or_ge j ((lo + hi) / 2) with h | h
        · have h2 := List.pairwise_iff_getElem.1 hs j ((lo + hi) / 2) hjl (by omega) h
          rw [(List.getElem?_eq_some_iff.1 hz).2, (List.getElem?_eq_some_iff.1 hy).2] at h2
          exact OI.ntr hky (OI.asy h2)
        · have : j = (lo + hi) / 2 := by omega
          subst this
          rw [hy] at hz
          cases hz
          exact hky, hhi⟩ (by simp only; omega)
    · -- less
      refine Go'.condF rfl ?_
      -- region 6 (btreeg.go:97)
      refine Go'.region [(0, 0), (1, 0)] rfl ?_
      refine O.mv rfl rfl rfl rfl rfl ?_
      refine O.asg rfl rfl rfl rfl rfl ?_
      refine Pl.fin [(0, _), (1, _), (5, _), (8, _), (9, _), (10, _), (18, _), (38, _)] ⟨rfl, rfl, rfl, rfl, rfl, rfl, rfl, rfl, trivial⟩ ?_
      refine Go'.inBlock ?_
      refine Go'.keep [(0, _), (1, _), (5, _), (8, _), (9, _)] ⟨rfl, rfl, rfl, rfl, rfl, trivial⟩ ?_
      refine Go'.inLoop ?_
      exact ih (lo, (lo + hi) / 2) H3 ⟨hF2, by simp only; omega, by simp only; omega, hlo, fun j z hz hj => by
        simp only at hj
        have hjl := (List.getElem?_eq_some_iff.1 hz).1
        rcases Nat.lt_or_ge ((lo + hi) / 2) j with h | h
        · have h2 := List.pairwise_iff_getElem.1 hs ((lo + hi) / 2) j (by omega) hjl h
          rw [(List.getElem?_eq_some_iff.1 hz).2, (List.getElem?_eq_some_iff.1 hy).2] at h2
          exact OI.trans hky h2
        · have : j = (lo + hi) / 2 := by omega
          subst this
          rw [hy] at hz
          cases hz
          exact hky⟩ (by simp only; omega)
  · -- the end
    obtain rfl : hi = lo := by omega
    -- region 2 (btreeg.go:92)
    refine Go'.region [(0, 0), (1, 0), (2, 0)] rfl ?_
    refine O.mv rfl rfl rfl rfl rfl ?_
    refine O.mv rfl rfl rfl rfl rfl ?_
    refine O.cmp rfl rfl rfl rfl rfl rfl (lssF (by omega)) ?_
    refine Pl.fin [(0, _), (1, _), (5, _), (8, _), (9, _), (18, _)] ⟨rfl, rfl, rfl, rfl, rfl, rfl, trivial⟩ ?_
    refine Go'.condF rfl ?_
    refine Go'.exit rfl ?_
    refine Go'.seq ?_
    refine Go'.seq ?_
    by_cases h0 : 0 < hi
    · obtain ⟨y, hy⟩ : ∃ y, X[hi - 1]? = some y := ⟨X[hi - 1], by simp⟩
      have hyk := hlo (hi - 1) y hy (by omega)
      -- region 7 (btreeg.go:100)
      refine Go'.draw (fun _ => True) [(0, 0), (1, 0), (2, 0), (3, 0), (4, 0), (5, 0), (6, 1), (7, 0), (8, 0), (9, 0), (10, 1), (11, 0), (12, 0), (13, 0), (14, 1), (15, 1), (16, 2), (17, 0), (18, 0)] (by kernel_rfl) (by kernel_rfl) (trivial) ?_
      refine O.mv rfl rfl rfl rfl rfl ?_
      refine O.cmp rfl rfl rfl rfl rfl rfl (gtrT (by omega)) ?_
      refine O.mv rfl rfl rfl rfl rfl ?_
      refine O.mv rfl rfl rfl rfl rfl ?_
      refine O.nc rfl rfl rfl rfl rfl ?_
      refine O.fa0 (off := 6) rfl rfl rfl rfl ⟨_, _, _, Try.underlying158, rfl, rfl, Try.sizeOf88⟩ rfl ?_
      refine O.ld rfl rfl rfl (fun w => ⟨Try.isAgg88 w, Try.sizeOf88 w⟩) rfl tc.le ?_
      refine O.mv rfl rfl rfl rfl rfl ?_
      refine O.nc rfl rfl rfl rfl rfl ?_
      refine O.fa0 (off := 2) rfl rfl rfl rfl ⟨_, _, _, Try.underlying168, rfl, rfl, Try.sizeOf25⟩ rfl ?_
      refine O.ld rfl rfl rfl (fun w => ⟨Try.isAgg25 w, Try.sizeOf25 w⟩) rfl hn.c2 ?_
      refine O.mv rfl rfl rfl rfl rfl ?_
      refine O.sub (((hi - 1 : Nat) : Int)) rfl rfl rfl rfl rfl rfl (by omega) (by omega) ?_
      refine O.ix (j := hi - 1) rfl rfl rfl rfl Try.underlying25 Try.sizeOf27 rfl rfl (by omega) (by omega) ?_
      refine O.lds rfl rfl rfl (fun w => ⟨Try.isAgg27 w, Try.sizeOf27 w⟩) rfl rfl (hn.sl.item hy) ?_
      refine O.lds rfl rfl rfl (fun w => ⟨Try.isAgg27 w, Try.sizeOf27 w⟩) rfl rfl mk ?_
      refine O.callC rfl rfl rfl rfl Try.call170 rfl (less_spec tc y x) ?_
      rintro _ H3 ⟨rfl, hF3⟩
      replace hF2 := hF2.trans hF3
      refine ⟨trivial, ?_⟩
      refine O.not rfl rfl rfl rfl rfl ?_
      refine O.pick rfl rfl rfl rfl rfl rfl ?_
      refine Pl.fin [(8, _), (60, _)] ⟨rfl, rfl, trivial⟩ ?_
      cases hky : OI.lt y x
      · skip
        refine Go'.condT rfl ?_
        refine Go'.seq ?_
        -- region 8 (btreeg.go:101)
        refine Go'.region [(0, 0), (1, 0), (2, 0), (3, 0)] rfl ?_
        refine O.mv rfl rfl rfl rfl rfl ?_
        refine O.sub (((hi - 1 : Nat) : Int)) rfl rfl rfl rfl rfl rfl (by omega) (by omega) ?_
        refine O.asg rfl rfl rfl rfl rfl ?_
        refine O.asg rfl rfl rfl rfl rfl ?_
        refine Pl.fin [(6, _), (7, _), (8, _)] ⟨rfl, rfl, rfl, trivial⟩ ?_
        refine Go'.ret (vs := [_, _]) Try.func179 Try.results179 ⟨rfl, rfl, trivial⟩ ?_
        obtain ⟨e1, e2⟩ := Pl.search_found OI (x := x) hs hy hky hyk
        rw [e1, e2]; exact ⟨rfl, hF1.trans hF2⟩
      · skip
        refine Go'.condF rfl ?_
        refine Go'.skip ?_
        refine Go'.seq ?_
        -- region 9 (btreeg.go:103)
        refine Go'.region [(0, 0), (1, 0), (2, 0)] rfl ?_
        refine O.mv rfl rfl rfl rfl rfl ?_
        refine O.asg rfl rfl rfl rfl rfl ?_
        refine O.asg rfl rfl rfl rfl rfl ?_
        refine Pl.fin [(6, _), (7, _)] ⟨rfl, rfl, trivial⟩ ?_
        refine Go'.ret (vs := [_, _]) Try.func179 Try.results179 ⟨rfl, rfl, trivial⟩ ?_
        obtain ⟨e1, e2⟩ := Pl.search_none OI (x := x) hs hhl (fun z _ hz => by rw [hy] at hz; cases hz; exact hky) (fun z hz => hhi hi z hz (Nat.le_refl _))
        rw [e1, e2]; exact ⟨rfl, hF1.trans hF2⟩
    · obtain rfl : hi = 0 := by omega
      -- region 7 (btreeg.go:100)
      refine Go'.draw (fun _ => True) [(0, 0), (1, 0), (2, 0), (3, 0), (4, 0), (5, 0), (6, 1), (7, 0), (8, 0), (9, 0), (10, 1), (11, 0), (12, 0), (13, 0), (14, 1), (15, 1), (16, 2), (17, 0), (18, 0)] (by kernel_rfl) (by kernel_rfl) (trivial) ?_
      refine O.mv rfl rfl rfl rfl rfl ?_
      refine O.cmp rfl rfl rfl rfl rfl rfl (gtrF (by omega)) ?_
      refine O.mv rfl rfl rfl rfl rfl ?_
      refine Pl.pass rfl rfl rfl rfl ?_
      refine Pl.pass rfl rfl rfl rfl ?_
      refine Pl.pass rfl rfl rfl rfl ?_
      refine Pl.pass rfl rfl rfl rfl ?_
      refine Pl.pass rfl rfl rfl rfl ?_
      refine Pl.pass rfl rfl rfl rfl ?_
      refine Pl.pass rfl rfl rfl rfl ?_
      refine Pl.pass rfl rfl rfl rfl ?_
      refine Pl.pass rfl rfl rfl rfl ?_
      refine Pl.pass rfl rfl rfl rfl ?_
      refine Pl.pass rfl rfl rfl rfl ?_
      refine Pl.pass rfl rfl rfl rfl ?_
      refine Pl.pass rfl rfl rfl rfl ?_
      refine Pl.pass2 rfl rfl rfl rfl trivial ?_
      refine Pl.pass rfl rfl rfl rfl ?_
      refine O.pick rfl rfl rfl rfl rfl rfl ?_
      refine Pl.fin [(8, _), (60, _)] ⟨rfl, rfl, trivial⟩ ?_
      refine Go'.condF rfl ?_
      refine Go'.skip ?_
      refine Go'.seq ?_
      -- region 9 (btreeg.go:103)
      refine Go'.region [(0, 0), (1, 0), (2, 0)] rfl ?_
      refine O.mv rfl rfl rfl rfl rfl ?_
      refine O.asg rfl rfl rfl rfl rfl ?_
      refine O.asg rfl rfl rfl rfl rfl ?_
      refine Pl.fin [(6, _), (7, _)] ⟨rfl, rfl, trivial⟩ ?_
      refine Go'.ret (vs := [_, _]) Try.func179 Try.results179 ⟨rfl, rfl, trivial⟩ ?_
      obtain ⟨e1, e2⟩ := Pl.search_none OI (x := x) hs hhl (fun z h _ => absurd rfl h) (fun z hz => hhi 0 z hz (Nat.le_refl _))
      rw [e1, e2]; exact ⟨rfl, hF1.trans hF2⟩

end Go.Bt.FG
namespace Go.Bt.FG
open Go Go.Proofs
set_option maxRecDepth 20000
set_option maxHeartbeats 4000000
set_option linter.unusedVariables false
set_option linter.unusedSectionVars false
variable [Inhabited Cx]

theorem offB_node {g : Ng} {n : Nat} (hc : 0 < g.ic) (h : ∀ b o, ncl EJ g b o → n ≤ b) : n ≤ g.p ∧ n ≤ g.ib :=
  ⟨h g.p 0 (.inl ⟨rfl, by omega⟩), h g.ib g.io (.inr ⟨rfl, Nat.le_refl _, by have := Nat.mul_pos hc EJ.pos; omega⟩)⟩
theorem offB_kids {g : Ng} {n : Nat} (hc : 0 < g.kc) (h : ∀ b o, kcl g b o → n ≤ b) : n ≤ g.cb ∧ n ≤ g.kb :=
  ⟨h g.cb 0 (.inl ⟨rfl, by omega⟩), h g.kb g.ko (.inr ⟨rfl, Nat.le_refl _, by omega⟩)⟩

def PV : Option (Int × Int) → Value := fun o => .agg (EJ.enc (o.getD (0, 0))).toArray
structure NPre (H : Mem) (tr : Nat) (P : Ps) (h : Nat) (t : Gt EJ h) (bp op : Nat) : Prop where
  tc : TrC H tr P.iso P.mx P.mn
  g : Gt.Good H P h t
  c : cl H bp op = some (ptr (Gt.p h t))
  nt : ∀ b o, Gt.af h t b o → cx.base ≤ b
  srt : Pl.Srt OI (Gt.L h t)
  len : (Gt.L h t).length < 4611686018427387904
def SetQ (H : Mem) (P : Ps) (h : Nat) (t : Gt EJ h) (x : Int × Int) (v : Value) (H' : Mem) : Prop :=
  (∃ t', v = .tuple #[PV (Pl.got OI x (Gt.L h t)), .bool (Pl.fnd OI x (Gt.L h t)), .bool false] ∧ SetT OI H H' P h t t' x) ∨
  (v = .tuple #[PV none, .bool false, .bool true] ∧ Fr nowhere H H' ∧ (Gt.X h t).length = P.mx ∧ ¬ Gt.NF OI P x h t)
structure PsOk (P : Ps) : Prop where
  hm : P.mx = 2 * P.mn + 1
  h1 : 1 ≤ P.mn
  hx : P.mx ≤ 255

theorem split_spec {B : World} {H : Mem} {tr : Nat} {P : Ps} (hP : PsOk P) : ∀ {h : Nat} {t : Gt EJ h}, TrC H tr P.iso P.mx P.mn → Gt.Good H P h t → (Gt.X h t).length = P.mx → (∀ b o, Gt.af h t b o → cx.base ≤ b) → (Gt.L h t).length < 4611686018427387904 →
    Fn Try.prog B 196 [.pointer (some ⟨tr, 0, none⟩), .pointer (some ⟨Gt.p h t, 0, none⟩)] H (fun v H' => ∃ t1 t2 med, v = .tuple #[ptr (Gt.p h t2), .agg (EJ.enc med).toArray] ∧ SplT H H' P h t t1 t2 med)
  | 0, (g, X), ht, hg, hX, hoff, hb => by
    have hN : NodeM EJ H g X (.pointer none) := hg.1
    have hX' : X.length = P.mx := hX
    have hmm := hP.hm
    obtain ⟨n1, n2⟩ := offB_node (g := g) hN.ic hoff
    obtain ⟨med, hmed⟩ : ∃ med, X[P.mn]? = some med := ⟨X[P.mn], List.getElem?_eq_getElem (by omega)⟩
    refine (splitLeaf_spec ht hN hX' hmm hP.h1 hP.hx hmed n1 n2).mono ?_
    rintro v H' ⟨q, rfl, hq, hql, hf, m1, m2⟩
    obtain ⟨t1, t2, e, hs⟩ := split_leaf hg hX' hmm hP.h1 hmed hq hql hf m1 m2
    exact ⟨t1, t2, med, by rw [e], hs⟩
  | h + 1, (g, X, K), ht, hg, hX, hoff, hb => by
    have hN : NodeM EJ H g X (.pointer (some ⟨g.cb, 0, none⟩)) := hg.1
    have hK : KidM H g (Gt.ps h K) := hg.2.1
    have hX' : X.length = P.mx := hX
    have hmm := hP.hm
    have hh1 := hP.h1
    have hKl : K.length = X.length + 1 := hg.2.2.2.2.2.1
    obtain ⟨n1, n2⟩ := offB_node (g := g) hN.ic (fun b o ho => hoff b o (.inl ho))
    obtain ⟨n3, n4⟩ := offB_kids (g := g) hK.kc (fun b o ho => hoff b o (.inr (.inl ho)))
    obtain ⟨med, hmed⟩ : ∃ med, X[P.mn]? = some med := ⟨X[P.mn], List.getElem?_eq_getElem (by omega)⟩
    let cn : Nat → Nat := fun q => match cl H q 1 with
      | some (.int _ z) => z.toNat
      | _ => 0
    have hcn : ∀ k ∈ K, cl H (Gt.p h k) 1 = some (.int .i64 (cn (Gt.p h k) : Int)) ∧ cn (Gt.p h k) = (Gt.L h k).length := fun k hk => by
      obtain ⟨hkg, _⟩ := hg.2.2.2.2.2.2.1 k hk
      obtain ⟨kp, hkn⟩ := hkg.node
      have e := hkn.c1
      have e2 : cn (Gt.p h k) = (Gt.g h k).cnt := by
        show (match cl H (Gt.g h k).p 1 with
          | some (.int _ z) => z.toNat
          | _ => 0) = _
        rw [e]
        exact Int.toNat_natCast _
      rw [e2]
      exact ⟨e, hkg.cnt⟩
    have hsum : ∀ l : List (Gt EJ h), (∀ k ∈ l, k ∈ K) → ((Gt.ps h l).map cn).sum = ((l.map (Gt.L h)).map List.length).sum := fun l hl => by
      congr 1
      unfold Gt.ps
      rw [List.map_map, List.map_map]
      exact List.map_congr_left fun k hk => (hcn k (hl k hk)).2
    have hlen : (Pl.inter X (K.map (Gt.L h))).length = X.length + ((K.map (Gt.L h)).map List.length).sum := Pl.inter_length _ _ (by rw [List.length_map]; exact hKl)
    have hb' : (Pl.inter X (K.map (Gt.L h))).length < 4611686018427387904 := hb
    refine (splitInner_spec cn ht hN hK hX' (by rw [Gt.ps, List.length_map]; omega) hmm hP.h1 hP.hx hmed n1 n2 n3 n4 (fun q hq => ?_) (by rw [hsum K (fun _ h => h)]; omega)).mono ?_
    · obtain ⟨k, hk, rfl⟩ := List.mem_map.1 hq
      obtain ⟨hkg, _, hkd⟩ := hg.2.2.2.2.2.2.1 k hk
      obtain ⟨kp, hkn⟩ := hkg.node
      have hp0 : ∀ o, o < 4 → (¬ ncl EJ g (Gt.p h k) o ∧ ¬ kcl g (Gt.p h k) o) := fun o ho => hkd _ _ (Gt.af_node (.inl ⟨rfl, ho⟩))
      exact ⟨(hcn k hk).1, fun e => (hp0 0 (by omega)).1 (.inl ⟨e, by omega⟩), fun e => (hp0 1 (by omega)).1 (.inr e), fun e => (hp0 0 (by omega)).2 (.inl ⟨e, by omega⟩)⟩
    · rintro v H' ⟨q, rfl, hq, hql, hf, m1, k1, m2, k2⟩
      have s1 := hsum (K.take (P.mn + 1)) (fun _ h => List.mem_of_mem_take h)
      have s2 := hsum (K.drop (P.mn + 1)) (fun _ h => List.mem_of_mem_drop h)
      rw [show Gt.ps h (K.take (P.mn + 1)) = (Gt.ps h K).take (P.mn + 1) from List.map_take, List.map_take (f := Gt.L h)] at s1
      rw [show Gt.ps h (K.drop (P.mn + 1)) = (Gt.ps h K).drop (P.mn + 1) from List.map_drop, List.map_drop (f := Gt.L h)] at s2
      obtain ⟨t1, t2, e, hs⟩ := split_inner hg hX' hmm hP.h1 hmed hq hql hf (by rw [s1]) (by rw [s2]) m1 k1 m2 k2
      exact ⟨t1, t2, med, by rw [e], hs⟩

end Go.Bt.FG
namespace Go.Bt.FG
open Go Go.Proofs
set_option maxRecDepth 20000
set_option maxHeartbeats 4000000
set_option linter.unusedVariables false
set_option linter.unusedSectionVars false
variable [Inhabited Cx]

theorem nitems {B : World} {P : Ps} (hP : PsOk P) (mt : Bool) {tr : Nat} : ∀ (h : Nat) {H : Mem} {bp op : Nat} {v : Value} {acc : List (Int × Int)} {Z : Nat → Prop} {t : Gt EJ h}, TrC H tr P.iso P.mx P.mn → Gt.Good H P h t → cl H bp op = some (ptr (Gt.p h t)) → AccN EJ Z H v acc → (∀ b o, Gt.af h t b o → ¬ Z b) → (∀ b, Z b → cx.base ≤ b) → acc.length + (Gt.L h t).length ≤ 4294967296 →
    Fn Try.prog B 177 [.pointer (some ⟨tr, 0, none⟩), .pointer (some ⟨bp, op, none⟩), v, .bool mt] H (fun r H' => ∃ Z', AccN EJ Z' H' r (acc ++ Gt.L h t) ∧ Fr (fun b _ => Z b) H H' ∧ ∀ b, Z' b → Z b ∨ H.size ≤ b)
  | 0, H, bp, op, v, acc, Z, (g, X), tc, hg, hc, hA, hnz, hzb, hlen => by
    have hN : NodeM EJ H g X (.pointer none) := hg.1
    have hiso : g.iso = P.iso := hg.2.1
    have hc0 := hN.c0
    rw [hiso] at hc0
    replace hlen : acc.length + X.length ≤ 4294967296 := hlen
    have hX : InS EJ H (.slice (some ⟨g.ib, g.io, none⟩) X.length g.ic) X := .inl ⟨_, _, _, rfl, hN.sl.hle, hN.sl.rd⟩
    refine fn_of Try.func177 rfl Try.ntmps177 ?_
    refine (show Go' _ _ _ _ 73 [(0, _), (1, _), (2, _), (3, _)] [.code _] _ from ?_)
    refine Go'.seq ?_
    -- region 0 (btreeg.go:1811)
    refine Go'.region [(0, 0)] rfl ?_
    refine O.asg rfl rfl rfl rfl rfl ?_
    refine Pl.fin [(0, _), (1, _), (2, _), (3, _), (8, _)] ⟨rfl, rfl, rfl, rfl, rfl, trivial⟩ ?_
    refine Go'.seq ?_
    -- region 1 (btreeg.go:1812)
    refine Go'.region [(0, 0), (1, 0), (2, 0), (3, 2), (4, 0)] rfl ?_
    refine O.mv rfl rfl rfl rfl rfl ?_
    refine O.mv rfl rfl rfl rfl rfl ?_
    refine O.mv rfl rfl rfl rfl rfl ?_
    refine O.callQ rfl rfl rfl Try.call130 rfl (isoLoad_spec mt hc hc0 tc.iso) trivial ?_
    refine O.asg rfl rfl rfl rfl rfl ?_
    refine Pl.fin [(0, _), (2, _), (3, _), (8, _), (9, _)] ⟨rfl, rfl, rfl, rfl, rfl, trivial⟩ ?_
    refine Go'.seq ?_
    refine Go'.seq ?_
    unfold ptr
    -- region 2 (btreeg.go:1813)
    refine Go'.region [(0, 0), (1, 2)] rfl ?_
    refine O.mv rfl rfl rfl rfl rfl ?_
    refine O.callQ rfl rfl rfl Try.call133 rfl (leaf_spec hN.c3) trivial ?_
    refine Pl.fin [(0, _), (2, _), (3, _), (8, _), (9, _), (16, _)] ⟨rfl, rfl, rfl, rfl, rfl, rfl, trivial⟩ ?_
    refine Go'.condT rfl ?_
    refine Go'.seq ?_
    -- region 3 (btreeg.go:1814)
    refine Go'.region [(0, 0), (1, 0), (2, 0), (3, 0), (4, 1), (5, 2), (6, 0)] rfl ?_
    refine O.mv rfl rfl rfl rfl rfl ?_
    refine O.mv rfl rfl rfl rfl rfl ?_
    refine O.nc rfl rfl rfl rfl rfl ?_
    refine O.fa0 (off := 2) rfl rfl rfl rfl ⟨_, _, _, Try.underlying168, rfl, rfl, Try.sizeOf25⟩ rfl ?_
    refine O.ld rfl rfl rfl (fun w => ⟨Try.isAgg25 w, Try.sizeOf25 w⟩) rfl hN.c2 ?_
    refine O.appI (E := EJ) rfl rfl rfl ⟨Try.underlying25, Try.sizeOf27, Try.zeroValue27, ⟨_, Try.typeInfo27, rfl⟩, rfl, by decide, by decide⟩ rfl hA rfl hX (Nat.le_trans (Nat.mul_le_mul_left _ (Nat.le_of_ble_eq_true (n := _) (m := 4096) rfl)) (by skip; omega)) (by omega) ?_
    intro v4 H4 hA4 hF4 hs4
    refine ⟨trivial, ?_⟩
    refine O.asg rfl rfl rfl rfl rfl ?_
    refine Pl.fin [(0, _), (2, _), (3, _), (8, _), (9, _)] ⟨rfl, rfl, rfl, rfl, rfl, trivial⟩ ?_
    refine Go'.ret (vs := [_]) Try.func177 Try.results177 ⟨rfl, trivial⟩ ?_
    exact ⟨_, hA4, hF4, fun b hb => hb.elim .inl (fun h => .inr (by omega))⟩

  | h + 1, H, bp, op, v, acc, Z, (g, X, K), tc, hg, hc, hA, hnz, hzb, hlen => by
    have ih := @nitems B P hP mt tr h
    have hI : Inn H P h g X ((Gt.ps h K).map some) K := hg.inn
    have hKl : K.length = X.length + 1 := hg.2.2.2.2.2.1
    have hxm : X.length ≤ P.mx := hg.2.2.2.2.1
    have hx255 := hP.hx
    have hc0 := hI.n.c0
    rw [hI.iso] at hc0
    have hbs := tc.hb
    have hKL : (K.map (Gt.L h)).length = X.length + 1 := by rw [List.length_map]; exact hKl
    have hol : ((Gt.ps h K).map some).length = X.length + 1 := by rw [List.length_map, Gt.ps, List.length_map]; exact hKl
    replace hlen : acc.length + (Pl.inter X (K.map (Gt.L h))).length ≤ 4294967296 := hlen
    have hlt : ∀ x y, innc h g K x y → x < H.size := fun x y hb => hI.lt hb
    have hin : ∀ H', Fr (fun x _ => Z x) H H' → Inn H' P h g X ((Gt.ps h K).map some) K ∧ TrC H' tr P.iso P.mx P.mn := fun H' hf => ⟨hI.fr hf (fun x y hxy hz => hnz x y hxy hz), tc.fr hf (fun b o hb _ hz => by have := hzb b hz; omega)⟩
    have hcat : ∀ {Z1 Z2 : Nat → Prop} {H2 H3 : Mem}, Fr (fun x _ => Z x) H H2 → (∀ b, Z1 b → Z b ∨ H.size ≤ b) → Fr (fun x _ => Z1 x) H2 H3 → (∀ b, Z2 b → Z1 b ∨ H2.size ≤ b) → Fr (fun x _ => Z x) H H3 ∧ ∀ b, Z2 b → Z b ∨ H.size ≤ b := by
      intro Z1 Z2 H2 H3 hF hZ1 hF2 hZ2
      have := hF.size
      exact ⟨hF.trans' hF2 (fun _ _ _ h => h) (fun b o hb hz => (hZ1 b hz).elim id (fun h => by omega)), fun b hb => (hZ2 b hb).elim (hZ1 b) (fun h => .inr (by omega))⟩
    have hkz : ∀ {Z1 : Nat → Prop}, (∀ b, Z1 b → Z b ∨ H.size ≤ b) → (∀ b o, innc h g K b o → ¬ Z1 b) ∧ ∀ b, Z1 b → cx.base ≤ b := fun hZ1 => ⟨fun b o hb hz => (hZ1 b hz).elim (hnz b o hb) (fun hz => by have := hlt b o hb; omega), fun b hz => (hZ1 b hz).elim (hzb b) (fun hz => by omega)⟩
    show Fn _ _ _ _ _ (fun r H' => ∃ Z', AccN EJ Z' H' r (acc ++ Pl.inter X (K.map (Gt.L h))) ∧ Fr (fun b _ => Z b) H H' ∧ ∀ b, Z' b → Z b ∨ H.size ≤ b)
    refine fn_of Try.func177 rfl Try.ntmps177 ?_
    refine (show Go' _ _ _ _ 73 [(0, _), (1, _), (2, _), (3, _)] [.code _] _ from ?_)
    refine Go'.seq ?_
    -- region 0 (btreeg.go:1811)
    refine Go'.region [(0, 0)] rfl ?_
    refine O.asg rfl rfl rfl rfl rfl ?_
    refine Pl.fin [(0, _), (1, _), (2, _), (3, _), (8, _)] ⟨rfl, rfl, rfl, rfl, rfl, trivial⟩ ?_
    refine Go'.seq ?_
    -- region 1 (btreeg.go:1812)
    refine Go'.region [(0, 0), (1, 0), (2, 0), (3, 2), (4, 0)] rfl ?_
    refine O.mv rfl rfl rfl rfl rfl ?_
    refine O.mv rfl rfl rfl rfl rfl ?_
    refine O.mv rfl rfl rfl rfl rfl ?_
    refine O.callQ rfl rfl rfl Try.call130 rfl (isoLoad_spec mt hc hc0 tc.iso) trivial ?_
    refine O.asg rfl rfl rfl rfl rfl ?_
    refine Pl.fin [(0, _), (2, _), (3, _), (8, _), (9, _)] ⟨rfl, rfl, rfl, rfl, rfl, trivial⟩ ?_
    refine Go'.seq ?_
    refine Go'.seq ?_
    unfold ptr
    -- region 2 (btreeg.go:1813)
    refine Go'.region [(0, 0), (1, 2)] rfl ?_
    refine O.mv rfl rfl rfl rfl rfl ?_
    refine O.callQ rfl rfl rfl Try.call133 rfl (leaf_spec hI.n.c3) trivial ?_
    refine Pl.fin [(0, _), (2, _), (3, _), (8, _), (9, _), (16, _)] ⟨rfl, rfl, rfl, rfl, rfl, rfl, trivial⟩ ?_
    refine Go'.condF rfl ?_
    refine Go'.skip ?_
    refine Go'.seq ?_
    refine Go'.seq ?_
    -- region 4 (btreeg.go:1816)
    refine Go'.region [(0, 0)] rfl ?_
    refine O.asg rfl rfl rfl rfl rfl ?_
    refine Pl.fin [(0, _), (2, _), (3, _), (8, _), (9, _), (10, _)] ⟨rfl, rfl, rfl, rfl, rfl, rfl, trivial⟩ ?_
    refine Go'.block ?_
    refine Go'.loop ?_
    refine Go'.keep [(0, _), (2, _), (3, _), (9, _), (10, _)] ⟨rfl, rfl, rfl, rfl, rfl, trivial⟩ ?_
    refine Go'.ind (σ := Nat × Value × (Nat → Prop)) (fun s => X.length - s.1) (fun s H' => s.1 ≤ X.length ∧ AccN EJ s.2.2 H' s.2.1 (acc ++ Pl.pre (X.take s.1) ((K.map (Gt.L h)).take s.1)) ∧ Fr (fun b _ => Z b) H H' ∧ ∀ b, s.2.2 b → Z b ∨ H.size ≤ b)
      (fun s => [(0, .pointer (some ⟨tr, 0, none⟩)), (2, s.2.1), (3, .bool mt), (9, .pointer (some ⟨g.p, 0, none⟩)), (10, .int .i64 (s.1 : Int))]) (0, v, Z) ⟨Nat.zero_le _, by rw [List.take_zero]; show AccN EJ Z H v (acc ++ []); rw [List.append_nil]; exact hA, Fr.refl _ _, fun b hb => .inl hb⟩ rfl ?_
    clear hA
    rintro ⟨j, sv, Z1⟩ H2 ⟨hj, hA, hF, hZ1⟩ ih2
    simp only at hj hA hZ1
    have hsz := hF.size
    obtain ⟨hI2, tc2⟩ := hin H2 hF
    obtain ⟨hz1, hz2⟩ := hkz hZ1
    have hpl := Pl.pre_len X (K.map (Gt.L h)) hKL j hj
    have hal : (acc ++ Pl.pre (X.take j) ((K.map (Gt.L h)).take j)).length = acc.length + (Pl.pre (X.take j) ((K.map (Gt.L h)).take j)).length := List.length_append
    obtain ⟨k, hkk⟩ : ∃ k, K[j]? = some k := ⟨K[j], List.getElem?_eq_getElem (by omega)⟩
    have hkL : (K.map (Gt.L h))[j]? = some (Gt.L h k) := by rw [List.getElem?_map, hkk]; rfl
    have hkK : k ∈ K := List.mem_of_getElem? hkk
    have hok : ((Gt.ps h K).map some)[j]? = some (some (Gt.p h k)) := by rw [Gt.ps, List.map_map, List.getElem?_map, hkk]; rfl
    have hcel := hI2.k.at hok
    unfold ptr at hcel
    refine Go'.seq ?_
    refine Go'.seq ?_
    by_cases hlt2 : j < X.length
    · skip
      obtain ⟨y, hy⟩ : ∃ y, X[j]? = some y := ⟨X[j], List.getElem?_eq_getElem hlt2⟩
      have hps := Pl.pre_succ hy hkL
      have hpl2 := Pl.pre_len X (K.map (Gt.L h)) hKL (j + 1) hlt2
      rw [hps, List.length_append, List.length_append, List.length_singleton] at hpl2
      -- region 5 (btreeg.go:1816)
      refine Go'.region [(0, 0), (1, 0), (2, 0), (3, 0), (4, 1), (5, 0), (6, 0)] rfl ?_
      refine O.mv rfl rfl rfl rfl rfl ?_
      refine O.mv rfl rfl rfl rfl rfl ?_
      refine O.nc rfl rfl rfl rfl rfl ?_
      refine O.fa0 (off := 2) rfl rfl rfl rfl ⟨_, _, _, Try.underlying168, rfl, rfl, Try.sizeOf25⟩ rfl ?_
      refine O.ld rfl rfl rfl (fun w => ⟨Try.isAgg25 w, Try.sizeOf25 w⟩) rfl hI2.n.c2 ?_
      refine O.len rfl rfl rfl rfl Try.underlying25 rfl ?_
      refine O.cmp rfl rfl rfl rfl rfl rfl (lssT (by omega)) ?_
      refine Pl.fin [(0, _), (2, _), (3, _), (9, _), (10, _), (29, _)] ⟨rfl, rfl, rfl, rfl, rfl, rfl, trivial⟩ ?_
      refine Go'.condT rfl ?_
      refine Go'.skip ?_
      refine Go'.seq ?_
      refine Go'.block ?_
      refine Go'.seq ?_
      -- region 7 (btreeg.go:1817)
      refine Go'.region [(0, 0), (1, 0), (2, 0), (3, 0), (4, 1), (5, 0), (6, 1), (7, 0), (8, 0), (9, 0), (10, 0), (11, 2), (12, 0)] rfl ?_
      refine O.mv rfl rfl rfl rfl rfl ?_
      refine O.mv rfl rfl rfl rfl rfl ?_
      refine O.nc rfl rfl rfl rfl rfl ?_
      refine O.fa0 (off := 3) rfl rfl rfl rfl ⟨_, _, _, Try.underlying168, rfl, rfl, Try.sizeOf166⟩ rfl ?_
      refine O.ld rfl rfl rfl (fun w => ⟨Try.isAgg166 w, Try.sizeOf166 w⟩) rfl hI2.n.c3 ?_
      refine O.nc rfl rfl rfl rfl rfl ?_
      refine O.ld rfl rfl rfl (fun w => ⟨Try.isAgg170 w, Try.sizeOf170 w⟩) rfl hI2.k.c ?_
      refine O.mv rfl rfl rfl rfl rfl ?_
      refine O.ix (j := j) rfl rfl rfl rfl Try.underlying170 Try.sizeOf129 rfl rfl (by omega) (by omega) ?_
      refine O.mv rfl rfl rfl rfl rfl ?_
      refine O.mv rfl rfl rfl rfl rfl ?_
      refine O.call rfl rfl rfl Try.call177 rfl (ih tc2 (hI2.c.1 k hkK).1 hcel hA (fun b o hb => hz1 b o (.inr (.inr ⟨k, hkK, hb⟩))) hz2 (by rw [hal]; omega)) ?_
      rintro _ H4 ⟨Z4, hA4, hF4, hZ4⟩
      obtain ⟨hF5, hZ5⟩ := hcat hF hZ1 hF4 hZ4
      have hsz5 := hF5.size
      refine ⟨trivial, ?_⟩
      refine O.asg rfl rfl rfl rfl rfl ?_
      refine Pl.fin [(0, _), (2, _), (3, _), (9, _), (10, _), (29, _)] ⟨rfl, rfl, rfl, rfl, rfl, rfl, trivial⟩ ?_
      obtain ⟨hI4, _⟩ := hin H4 hF5
      have hal4 : (acc ++ Pl.pre (X.take j) ((K.map (Gt.L h)).take j) ++ Gt.L h k).length = acc.length + (Pl.pre (X.take j) ((K.map (Gt.L h)).take j)).length + (Gt.L h k).length := by rw [List.length_append, hal]
      -- region 8 (btreeg.go:1818)
      refine Go'.region [(0, 0), (1, 0), (2, 0), (3, 0), (4, 1), (5, 0), (6, 0), (7, 1), (8, 2), (9, 2), (10, 0)] rfl ?_
      refine O.mv rfl rfl rfl rfl rfl ?_
      refine O.mv rfl rfl rfl rfl rfl ?_
      refine O.nc rfl rfl rfl rfl rfl ?_
      refine O.fa0 (off := 2) rfl rfl rfl rfl ⟨_, _, _, Try.underlying168, rfl, rfl, Try.sizeOf25⟩ rfl ?_
      refine O.ld rfl rfl rfl (fun w => ⟨Try.isAgg25 w, Try.sizeOf25 w⟩) rfl hI4.n.c2 ?_
      refine O.mv rfl rfl rfl rfl rfl ?_
      refine O.ix (j := j) rfl rfl rfl rfl Try.underlying25 Try.sizeOf27 rfl rfl (by omega) (by omega) ?_
      refine O.lds rfl rfl rfl (fun w => ⟨Try.isAgg27 w, Try.sizeOf27 w⟩) rfl rfl (hI4.n.sl.item hy) ?_
      refine O.bsl (cs := (EJ.enc y)) rfl rfl rfl ⟨Try.underlying25, Try.sizeOf27, Try.zeroValue27, ⟨_, Try.typeInfo27, rfl⟩, rfl, by decide, by decide⟩ rfl (by decide) (by kernel_rfl) ?_
      intro H6 M6
      have hs6 := M6.size
      have hA6 := hA4.fr (M6.fr nowhere) (fun _ _ _ _ => nw)
      have hv6 : InS EJ H6 (.slice (some ⟨H4.size, 0, none⟩) 1 1) [y] := .inl ⟨_, _, _, rfl, Nat.le_refl _, M6.rd _ [] (by simp [row, EJ])⟩
      refine ⟨trivial, ?_⟩
      refine O.appI (E := EJ) rfl rfl rfl ⟨Try.underlying25, Try.sizeOf27, Try.zeroValue27, ⟨_, Try.typeInfo27, rfl⟩, rfl, by decide, by decide⟩ rfl hA6 rfl hv6 (Nat.le_trans (Nat.mul_le_mul_left _ (Nat.le_of_ble_eq_true (n := _) (m := 4096) rfl)) (by rw [hal4, List.length_singleton]; omega)) (by rw [hal4, List.length_singleton]; omega) ?_
      intro v7 H7 hA7 hF7 hs7
      have hg7 := hF7.size
      refine ⟨trivial, ?_⟩
      refine O.asg rfl rfl rfl rfl rfl ?_
      refine Pl.fin [(0, _), (2, _), (3, _), (9, _), (10, _), (29, _)] ⟨rfl, rfl, rfl, rfl, rfl, rfl, trivial⟩ ?_
      refine Go'.inBlock ?_
      -- region 6 (btreeg.go:1816)
      refine Go'.region [(0, 0), (1, 0), (2, 0)] rfl ?_
      refine O.mv rfl rfl rfl rfl rfl ?_
      refine O.add (((j + 1 : Nat) : Int)) rfl rfl rfl rfl rfl rfl (by omega) (by omega) ?_
      refine O.asg rfl rfl rfl rfl rfl ?_
      refine Pl.fin [(0, _), (2, _), (3, _), (9, _), (10, _), (29, _)] ⟨rfl, rfl, rfl, rfl, rfl, rfl, trivial⟩ ?_
      refine Go'.keep [(0, _), (2, _), (3, _), (9, _), (10, _)] ⟨rfl, rfl, rfl, rfl, rfl, trivial⟩ ?_
      refine Go'.inLoop ?_
      refine ih2 (j + 1, v7, fun b => Z4 b ∨ (b = H6.size ∧ b < H7.size)) H7 ⟨hlt2, ?_, (hF5.trans' (M6.fr nowhere) (fun _ _ _ h => h) (fun _ _ _ h => h.elim)).trans' hF7 (fun _ _ _ h => h) (fun b o hb hz => (hZ5 b hz).elim id (fun h => by omega)), fun b hb => hb.elim (hZ5 b) (fun h => .inr (by omega))⟩ (by simp only; omega)
      simp only
      rw [hps, ← List.append_assoc, ← List.append_assoc]
      exact hA7
    · skip
      obtain rfl : j = X.length := by omega
      have hil := Pl.inter_eq_pre (Nat.le_refl _) hkL
      rw [List.take_length, show (K.map (Gt.L h)).take (X.length + 1) = K.map (Gt.L h) from List.take_of_length_le (by omega)] at hil
      rw [List.take_length] at hA hal hpl
      have hll := congrArg List.length hil
      rw [List.length_append] at hll
      -- region 5 (btreeg.go:1816)
      refine Go'.region [(0, 0), (1, 0), (2, 0), (3, 0), (4, 1), (5, 0), (6, 0)] rfl ?_
      refine O.mv rfl rfl rfl rfl rfl ?_
      refine O.mv rfl rfl rfl rfl rfl ?_
      refine O.nc rfl rfl rfl rfl rfl ?_
      refine O.fa0 (off := 2) rfl rfl rfl rfl ⟨_, _, _, Try.underlying168, rfl, rfl, Try.sizeOf25⟩ rfl ?_
      refine O.ld rfl rfl rfl (fun w => ⟨Try.isAgg25 w, Try.sizeOf25 w⟩) rfl hI2.n.c2 ?_
      refine O.len rfl rfl rfl rfl Try.underlying25 rfl ?_
      refine O.cmp rfl rfl rfl rfl rfl rfl (lssF (by omega)) ?_
      refine Pl.fin [(0, _), (2, _), (3, _), (9, _), (10, _), (29, _)] ⟨rfl, rfl, rfl, rfl, rfl, rfl, trivial⟩ ?_
      refine Go'.condF rfl ?_
      refine Go'.exit rfl ?_
      refine Go'.seq ?_
      -- region 9 (btreeg.go:1820)
      refine Go'.draw (fun _ => True) [(0, 0), (1, 0), (2, 0), (3, 0), (4, 1), (5, 0), (6, 1), (7, 0), (8, 0), (9, 0), (10, 1), (11, 0), (12, 1), (13, 0), (14, 0), (15, 0), (16, 0), (17, 0), (18, 2), (19, 0)] (by kernel_rfl) (by kernel_rfl) (trivial) ?_
      refine O.mv rfl rfl rfl rfl rfl ?_
      refine O.mv rfl rfl rfl rfl rfl ?_
      refine O.nc rfl rfl rfl rfl rfl ?_
      refine O.fa0 (off := 3) rfl rfl rfl rfl ⟨_, _, _, Try.underlying168, rfl, rfl, Try.sizeOf166⟩ rfl ?_
      refine O.ld rfl rfl rfl (fun w => ⟨Try.isAgg166 w, Try.sizeOf166 w⟩) rfl hI2.n.c3 ?_
      refine O.nc rfl rfl rfl rfl rfl ?_
      refine O.ld rfl rfl rfl (fun w => ⟨Try.isAgg170 w, Try.sizeOf170 w⟩) rfl hI2.k.c ?_
      refine O.mv rfl rfl rfl rfl rfl ?_
      refine O.nc rfl rfl rfl rfl rfl ?_
      refine O.fa0 (off := 3) rfl rfl rfl rfl ⟨_, _, _, Try.underlying168, rfl, rfl, Try.sizeOf166⟩ rfl ?_
      refine O.ld rfl rfl rfl (fun w => ⟨Try.isAgg166 w, Try.sizeOf166 w⟩) rfl hI2.n.c3 ?_
      refine O.nc rfl rfl rfl rfl rfl ?_
      refine O.ld rfl rfl rfl (fun w => ⟨Try.isAgg170 w, Try.sizeOf170 w⟩) rfl hI2.k.c ?_
      refine O.len rfl rfl rfl rfl Try.underlying170 rfl ?_
      refine O.sub (((((((Gt.ps h K).map some)).length) - 1 : Nat) : Int)) rfl rfl rfl rfl rfl rfl (by omega) (by omega) ?_
      refine O.ix (j := X.length) rfl rfl rfl rfl Try.underlying170 Try.sizeOf129 rfl rfl (by omega) (by omega) ?_
      refine O.mv rfl rfl rfl rfl rfl ?_
      refine O.mv rfl rfl rfl rfl rfl ?_
      refine O.call rfl rfl rfl Try.call177 rfl (ih tc2 (hI2.c.1 k hkK).1 hcel hA (fun b o hb => hz1 b o (.inr (.inr ⟨k, hkK, hb⟩))) hz2 (by rw [hal]; omega)) ?_
      rintro _ H4 ⟨Z4, hA4, hF4, hZ4⟩
      obtain ⟨hF5, hZ5⟩ := hcat hF hZ1 hF4 hZ4
      have hsz5 := hF5.size
      refine ⟨trivial, ?_⟩
      refine O.asg rfl rfl rfl rfl rfl ?_
      refine Pl.fin [(8, _)] ⟨rfl, trivial⟩ ?_
      refine Go'.ret (vs := [_]) Try.func177 Try.results177 ⟨rfl, trivial⟩ ?_
      refine ⟨Z4, ?_, hF5, hZ5⟩
      rw [hil, ← List.append_assoc]
      exact hA4

end Go.Bt.FG
