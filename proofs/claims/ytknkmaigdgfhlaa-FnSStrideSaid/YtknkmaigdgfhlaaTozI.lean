/- Contracts of functions of the program, proved by walking through their code. Conditions: those that each theorem names. -/
import Derived.Test.YtknkmaigdgfhlaaTozH
namespace Go.Bt.FZ
open Go Go.Proofs
set_option maxRecDepth 20000
set_option maxHeartbeats 4000000
set_option linter.unusedVariables false

structure RootT (H : Mem) (tr : Nat) (P : Ps) (S : Nat → Prop) (l : List Int) (h : Nat) (t : Gt EI h) : Prop where
  g : Gt.Good H P h t
  x1 : 1 ≤ (Gt.X h t).length
  l : Gt.L h t = l
  c : cl H tr 2 = some (ptr (Gt.p h t))
  nt : ∀ o, ¬ Gt.af h t tr o
  own : ∀ b o, Gt.af h t b o → S b
def SetP (H : Mem) (tr : Nat) (P : Ps) (S : Nat → Prop) (l : List Int) (x : Int) (r : Value) (H' : Mem) : Prop :=
  r = .tuple #[PV (Pl.got OI x l), .bool (Pl.fnd OI x l)] ∧ MapTo H H' tr P S (Pl.put OI x l)

theorem SetP.rebase {H H1 : Mem} {tr : Nat} {P : Ps} {S : Nat → Prop} {l : List Int} {x : Int} {v : Value} {H' : Mem} (hf : Fr nowhere H H1) (h : SetP H1 tr P S l x v H') : SetP H tr P S l x v H' := by
  obtain ⟨e, S', hM, hF, hS⟩ := h
  exact ⟨e, S', hM, hf.trans' hF (fun _ _ _ h => h.elim) (fun _ _ _ h => h), fun b hb => (hS b hb).imp id (fun h => Nat.le_trans hf.size h)⟩
def SetU (H : Mem) (P : Ps) (h : Nat) (t : Gt EI h) (x : Int) (r sp : Bool) (H' : Mem) : Prop :=
  (sp = false ∧ ∃ t', r = Pl.fnd OI x (Gt.L h t) ∧ SetT OI H H' P h t t' x) ∨ (sp = true ∧ r = false ∧ Fr nowhere H H' ∧ (Gt.X h t).length = P.mx ∧ ¬ Gt.NF OI P x h t)
theorem SetQ.uniZ {H : Mem} {P : Ps} {h : Nat} {t : Gt EI h} {x : Int} {v : Value} {H' : Mem} (hq : SetQ H P h t x v H') : ∃ r sp, v = .tuple #[.agg #[], .bool r, .bool sp] ∧ SetU H P h t x r sp H' := by
  obtain ⟨pv, r, sp, e, hu⟩ := SetQ.uni hq
  clear hq
  subst e
  rcases hu with ⟨rfl, t', rfl, rfl, hS⟩ | ⟨rfl, rfl, rfl, h1, h2, h3⟩
  · exact ⟨_, _, rfl, .inl ⟨rfl, t', rfl, hS⟩⟩
  · exact ⟨_, _, rfl, .inr ⟨rfl, rfl, h1, h2, h3⟩⟩
theorem SetU.frm {H : Mem} {P : Ps} {h : Nat} {t : Gt EI h} {x : Int} {r sp : Bool} {H' : Mem} (hq : SetU H P h t x r sp H') : Fr (Gt.af h t) H H' := by
  rcases hq with ⟨rfl, t', rfl, hS⟩ | ⟨rfl, rfl, h1, h2, h3⟩
  · exact hS.fr
  · exact h1.mono fun _ _ _ h => h.elim
theorem SetU.after {H : Mem} {P : Ps} {h : Nat} {t : Gt EI h} {x : Int} {r sp : Bool} {H' H2 : Mem} (hq : SetU H P h t x r sp H') (hf : Fr nowhere H' H2) : SetU H P h t x r sp H2 := by
  rcases hq with ⟨rfl, t', rfl, hS⟩ | ⟨rfl, rfl, h1, h2, h3⟩
  · exact .inl ⟨rfl, t', rfl, hS.fr.trans' hf (fun _ _ _ h => h) (fun _ _ _ h => h.elim), hS.g.fr hf (fun _ _ _ => nw), hS.p, hS.a, hS.l, hS.x⟩
  · exact .inr ⟨rfl, rfl, h1.trans hf, h2, h3⟩
theorem SetU.before {H : Mem} {P : Ps} {h : Nat} {t : Gt EI h} {x : Int} {r sp : Bool} {H1 H' : Mem} (hq : SetU H1 P h t x r sp H') (hf : Fr nowhere H H1) : SetU H P h t x r sp H' := by
  rcases hq with ⟨rfl, t', rfl, hS⟩ | ⟨rfl, rfl, h1, h2, h3⟩
  · exact .inl ⟨rfl, t', rfl, hf.trans' hS.fr (fun _ _ _ h => h.elim) (fun _ _ _ h => h), hS.g, hS.p, fun b o hb => (hS.a b o hb).imp id (fun h => Nat.le_trans hf.size h), hS.l, hS.x⟩
  · exact .inr ⟨rfl, rfl, hf.trans h1, h2, h3⟩

theorem mset_root {B : World} {H : Mem} {tr : Nat} {P : Ps} (hP : PsOk P) {S : Nat → Prop} {l : List Int} {x : Int} {h : Nat} {t : Gt EI h} (hM : MapM H tr P S l) (hR : RootT H tr P S l h t) (hlen : l.length < 2305843009213693952)
    (again : (Gt.X h t).length = P.mx → ∀ {H1 : Mem} {S1 : Nat → Prop} {h1 : Nat} {t1 : Gt EI h1}, MapM H1 tr P S1 l → RootT H1 tr P S1 l h1 t1 → (Gt.X h1 t1).length < P.mx → Fn Try.prog B 135 [.pointer (some ⟨tr, 0, none⟩), .int .i64 x, .agg #[]] H1 (SetP H1 tr P S1 l x)) :
    Fn Try.prog B 135 [.pointer (some ⟨tr, 0, none⟩), .int .i64 x, .agg #[]] H (SetP H tr P S l x) := by
  obtain ⟨tc, srt, cnt, own, lt, _⟩ := hM
  obtain ⟨hg, hx1, rfl, hc, hnt, hown⟩ := hR
  have htl : tr < H.size := cl_lt tc.iso
  have hF : Fr (fun b _ => S b) H H := Fr.refl _ _
  have hlt : ∀ b o, Gt.af h t b o → b < H.size := fun b o hb => hg.lt hb
  have hmm := hP.hm
  have hh1 := hP.h1
  have hx255 := hP.hx
  have hptr : cl H tr 2 = some (.pointer (some ⟨Gt.p h t, 0, none⟩)) := hc
  refine fn_of Go.Proofs.Try.func135 rfl Go.Proofs.Try.ntmps135 ?_
  refine (show Go' _ _ _ _ 144 [(0, _), (1, _), (2, _)] [.code _] _ from ?_)
  refine Go'.seq ?_
  -- region 0 (map.go:160)
  refine Go'.region [(0, 2), (1, 2), (2, 0)] rfl ?_
  refine O.box rfl rfl rfl rfl ?_
  intro Ha Ma
  refine ⟨trivial, ?_⟩
  refine O.alloc rfl rfl rfl Go.Proofs.Try.zeroValue136 ?_
  intro H Mb
  refine ⟨trivial, ?_⟩
  have hR0 := (Ma.fr nowhere).trans (Mb.fr nowhere)
  replace tc := tc.fr hR0 (fun _ _ _ => nw)
  replace cnt := hR0.keep cnt nw
  replace hptr := hR0.keep hptr nw
  replace lt : ∀ b, S b → b < H.size := fun b hb => Nat.lt_of_lt_of_le (lt b hb) hR0.size
  replace htl := Nat.lt_of_lt_of_le htl hR0.size
  replace hF : Fr (fun b _ => S b) H H := Fr.refl _ _
  replace hg := hg.fr hR0 (fun _ _ _ => nw)
  replace hlt : ∀ b o, Gt.af h t b o → b < H.size := fun b o hb => hg.lt hb
  refine O.asg rfl rfl rfl rfl rfl ?_
  refine Pl.fin [(0, _), (1, _), (5, _), (6, _), (7, _)] ⟨rfl, rfl, rfl, rfl, rfl, trivial⟩ ?_
  refine Go'.seq ?_
  refine Go'.mono (fun v H' hq => SetP.rebase hR0 hq) ?_
  clear hR0 Ma Mb
  -- region 1 (map.go:161)
  refine Go'.region [(0, 0), (1, 1), (2, 0), (3, 2), (4, 2)] rfl ?_
  refine O.mv rfl rfl rfl rfl rfl ?_
  refine O.lds rfl rfl rfl (fun w => ⟨Go.Proofs.Try.isAgg136 w, Go.Proofs.Try.sizeOf136 w⟩) rfl rfl (Rd.nil _ _ _) ?_
  refine O.bld (cs := (EI.enc x)) rfl rfl rfl rfl (st138) rfl (by kernel_rfl) ?_
  refine O.alloc rfl rfl rfl Go.Proofs.Try.zeroValue138 ?_
  intro H1 M1
  refine ⟨trivial, ?_⟩
  have hs1 := M1.size
  replace hg := hg.fr (M1.fr nowhere) (fun _ _ _ => nw)
  replace tc := tc.fr (M1.fr nowhere) (fun _ _ _ => nw)
  replace cnt := (M1.fr nowhere).keep cnt nw
  replace hptr := (M1.fr nowhere).keep hptr nw
  replace hF := hF.trans' (M1.fr nowhere) (fun _ _ _ h => h) (fun _ _ _ h => h.elim)
  have m8w : Wr H1 H.size 0 1 := M1.wr 1 (by decide)
  refine O.st rfl rfl Go.Proofs.Try.sizeOf138 rfl rfl rfl rfl rfl m8w ?_
  intro H2 W2
  have hs2 := W2.size
  replace hg := hg.fr W2.fr (fun b o hb => nr (.inl (by have := hlt b o hb; omega)))
  replace tc := tc.fr W2.fr (fun o _ _ => nr (.inl (by omega)))
  replace cnt := W2.fr.keep cnt (nr (.inl (by omega)))
  replace hptr := W2.fr.keep hptr (nr (.inl (by omega)))
  replace hF := hF.trans' W2.fr (fun _ _ _ h => h) (fun b o hb h => by have h' := h.1; omega)
  have mi : Rd H2 H.size 0 (EI.enc x) := W2.all
  replace m8w := W2.fr.wr m8w
  refine ⟨trivial, ?_⟩
  refine Pl.fin [(0, _), (6, _), (7, _), (8, _)] ⟨rfl, rfl, rfl, rfl, trivial⟩ ?_
  refine Go'.seq ?_
  refine Go'.seq ?_
  -- region 2 (map.go:162)
  refine Go'.region [(0, 0), (1, 0), (2, 0), (3, 1), (4, 0)] rfl ?_
  refine O.mv rfl rfl rfl rfl rfl ?_
  refine O.nc rfl rfl rfl rfl rfl ?_
  refine O.fa0 (off := 2) rfl rfl rfl rfl ⟨_, _, _, Go.Proofs.Try.underlying140, rfl, rfl, Go.Proofs.Try.sizeOf135⟩ rfl ?_
  refine O.ld rfl rfl rfl (fun w => ⟨Go.Proofs.Try.isAgg135 w, Go.Proofs.Try.sizeOf135 w⟩) rfl hptr ?_
  refine O.isNil rfl rfl rfl rfl Go.Proofs.Try.underlying135 rfl rfl ?_
  refine Pl.fin [(0, _), (6, _), (7, _), (8, _), (22, _)] ⟨rfl, rfl, rfl, rfl, rfl, trivial⟩ ?_
  refine Go'.condF rfl ?_
  refine Go'.skip ?_
  refine Go'.seq ?_
  -- region 9 (map.go:170), two orders
  refine Go'.draw2s (σ := Nat × Bool × Bool) (fun H' => Rd H' H.size 0 (EI.enc x)) (fun s Hn => SetU H2 P h t x s.2.1 s.2.2 Hn) (fun s => [(0, .pointer (some ⟨tr, 0, none⟩)), (6, .pointer (some ⟨Ha.size, 0, none⟩)), (8, .pointer (some ⟨H.size, 0, none⟩)), (9, .pointer (some ⟨s.1, 0, none⟩)), (10, .bool s.2.1), (11, .bool s.2.2)]) 5 10 [(0, 0), (1, 0), (2, 0), (3, 0), (4, 0), (5, 2), (6, 0), (7, 0), (8, 0), (9, 0), (10, 2), (11, 2), (12, 0), (13, 0)] [(0, 0), (1, 0), (2, 0), (3, 0), (4, 0), (10, 2), (5, 2), (6, 0), (7, 0), (8, 0), (9, 0), (11, 2), (12, 0), (13, 0)] (by kernel_rfl) (by kernel_rfl) (mi) ?_ ?_ ?_
  · intro _ _ _ hj
    refine O.mv rfl rfl rfl rfl rfl ?_
    refine O.mv rfl rfl rfl rfl rfl ?_
    refine O.nc rfl rfl rfl rfl rfl ?_
    refine O.fa0 (off := 2) rfl rfl rfl rfl ⟨_, _, _, Go.Proofs.Try.underlying140, rfl, rfl, Go.Proofs.Try.sizeOf135⟩ rfl ?_
    refine O.ldsC rfl rfl rfl (fun w => ⟨Go.Proofs.Try.isAgg138 w, Go.Proofs.Try.sizeOf138 w⟩) rfl rfl (fun _ h => h) ?_
    refine O.call rfl rfl rfl Go.Proofs.Try.call161 rfl ((nset hP h ⟨tc, hg, hptr, hnt, srt, by omega⟩).mono fun _ _ => SetQ.uniZ) ?_
    rintro _ H3 ⟨r, sp, rfl, hq⟩
    refine ⟨(hq.frm.rd mi (fun _ _ hz => by have := hlt _ _ hz; omega)), ?_⟩
    refine O.mv rfl rfl rfl rfl rfl ?_
    refine O.ext rfl rfl rfl rfl rfl rfl ?_
    refine O.ext rfl rfl rfl rfl rfl rfl ?_
    refine O.ext rfl rfl rfl rfl rfl rfl ?_
    refine O.alloc rfl rfl rfl Go.Proofs.Try.zeroValue136 ?_
    intro H4 Mz
    refine ⟨((Mz.fr nowhere).rd (hq.frm.rd mi (fun _ _ hz => by have := hlt _ _ hz; omega)) (fun _ _ => nw)), ?_⟩
    refine O.st0 rfl rfl Go.Proofs.Try.sizeOf136 rfl rfl rfl ((Mz.fr nowhere).rd (hq.frm.rd mi (fun _ _ hz => by have := hlt _ _ hz; omega)) (fun _ _ => nw)) ?_
    refine O.asg rfl rfl rfl rfl rfl ?_
    refine O.asg rfl rfl rfl rfl rfl ?_
    refine Pl.fin [(0, _), (6, _), (8, _), (9, _), (10, _), (11, _)] ⟨rfl, rfl, rfl, rfl, rfl, rfl, trivial⟩ (hj (H3.size, r, sp) _ ?_)
    exact hq.after (Mz.fr nowhere)
  · intro _ _ _ hj
    refine O.mv rfl rfl rfl rfl rfl ?_
    refine O.mv rfl rfl rfl rfl rfl ?_
    refine O.nc rfl rfl rfl rfl rfl ?_
    refine O.fa0 (off := 2) rfl rfl rfl rfl ⟨_, _, _, Go.Proofs.Try.underlying140, rfl, rfl, Go.Proofs.Try.sizeOf135⟩ rfl ?_
    refine O.ldsC rfl rfl rfl (fun w => ⟨Go.Proofs.Try.isAgg138 w, Go.Proofs.Try.sizeOf138 w⟩) rfl rfl (fun _ h => h) ?_
    refine O.alloc rfl rfl rfl Go.Proofs.Try.zeroValue136 ?_
    intro H3 Mz
    refine ⟨((Mz.fr nowhere).rd mi (fun _ _ => nw)), ?_⟩
    have mi3 : Rd H3 H.size 0 (EI.enc x) := (Mz.fr nowhere).rd mi (fun _ _ => nw)
    refine O.call rfl rfl rfl Go.Proofs.Try.call161 rfl ((nset hP h ⟨(tc.fr (Mz.fr nowhere) (fun _ _ _ => nw)), (hg.fr (Mz.fr nowhere) (fun _ _ _ => nw)), ((Mz.fr nowhere).keep hptr nw), hnt, srt, by omega⟩).mono fun _ _ => SetQ.uniZ) ?_
    rintro _ H4 ⟨r, sp, rfl, hq⟩
    refine ⟨(hq.frm.rd mi3 (fun _ _ hz => by have := hlt _ _ hz; omega)), ?_⟩
    refine O.mv rfl rfl rfl rfl rfl ?_
    refine O.ext rfl rfl rfl rfl rfl rfl ?_
    refine O.ext rfl rfl rfl rfl rfl rfl ?_
    refine O.ext rfl rfl rfl rfl rfl rfl ?_
    refine O.st0 rfl rfl Go.Proofs.Try.sizeOf136 rfl rfl rfl (hq.frm.rd mi3 (fun _ _ hz => by have := hlt _ _ hz; omega)) ?_
    refine O.asg rfl rfl rfl rfl rfl ?_
    refine O.asg rfl rfl rfl rfl rfl ?_
    refine Pl.fin [(0, _), (6, _), (8, _), (9, _), (10, _), (11, _)] ⟨rfl, rfl, rfl, rfl, rfl, rfl, trivial⟩ (hj (H2.size, r, sp) _ ?_)
    exact hq.before (Mz.fr nowhere)
  rintro ⟨z9, r, sp⟩ H3 hq
  replace hq : SetU H2 P h t x r sp H3 := hq
  refine (show Go' _ _ _ _ _ [(0, .pointer (some ⟨tr, 0, none⟩)), (6, .pointer (some ⟨Ha.size, 0, none⟩)), (8, .pointer (some ⟨H.size, 0, none⟩)), (9, .pointer (some ⟨z9, 0, none⟩)), (10, .bool r), (11, .bool sp)] _ _ from ?_)
  refine Go'.seq ?_
  refine Go'.seq ?_
  rcases hq with ⟨rfl, t', rfl, hS⟩ | ⟨rfl, rfl, hfr, hful, hnf⟩
  · -- set
    -- region 10 (map.go:171)
    refine Go'.region [(0, 0)] rfl ?_
    refine O.mv rfl rfl rfl rfl rfl ?_
    refine Pl.fin [(0, _), (6, _), (8, _), (9, _), (10, _), (64, _)] ⟨rfl, rfl, rfl, rfl, rfl, rfl, trivial⟩ ?_
    refine Go'.condF rfl ?_
    refine Go'.skip ?_
    refine Go'.seq ?_
    refine Go'.seq ?_
    have hs3 : H2.size ≤ H3.size := hS.fr.size
    replace tc := tc.fr hS.fr (fun o _ _ => hnt o)
    replace cnt := hS.fr.keep cnt (hnt _)
    replace hptr := hS.fr.keep hptr (hnt _)
    replace hF : Fr (fun b _ => S b) H H3 := hF.trans' hS.fr (fun _ _ _ h => h) (fun b o _ hz => hown b o hz)
    have haf : ∀ b o, Gt.af h t' b o → Gt.af h t b o ∨ H.size ≤ b := fun b o hb => (hS.a b o hb).imp id (fun h => by omega)
    have hrt : ∀ H', Fr (rng tr 3 1) H3 H' → Gt.Good H' P h t' := fun H' hf => hS.g.fr hf fun b o hb => nr (.inl (fun e => (haf b o hb).elim (fun h => hnt o (e ▸ h)) (fun h => by omega)))
    have hlp := Pl.length_put OI x (Gt.L h t)
    have hS' : ∀ H' : Mem, H'.size = H3.size → ∀ b, (S b ∨ (H.size ≤ b ∧ b < H3.size)) → b < H'.size := fun H' e b hb => hb.elim (fun h => by have := lt b h; omega) (fun h => by omega)
    -- region 19 (map.go:181)
    refine Go'.region [(0, 0)] rfl ?_
    refine O.mv rfl rfl rfl rfl rfl ?_
    refine Pl.fin [(0, _), (6, _), (9, _), (130, _)] ⟨rfl, rfl, rfl, rfl, trivial⟩ ?_
    cases hfd : Pl.fnd OI x (Gt.L h t)
    · -- new
      refine Go'.condF rfl ?_
      refine Go'.skip ?_
      refine Go'.seq ?_
      -- region 21 (map.go:184)
      refine Go'.region [(0, 0), (1, 0), (2, 0), (3, 1), (4, 0), (5, 0), (6, 0), (7, 2)] rfl ?_
      refine O.mv rfl rfl rfl rfl rfl ?_
      refine O.nc rfl rfl rfl rfl rfl ?_
      refine O.fa0 (off := 3) rfl rfl rfl rfl ⟨_, _, _, Go.Proofs.Try.underlying140, rfl, rfl, Go.Proofs.Try.sizeOf3⟩ rfl ?_
      refine O.ld rfl rfl rfl (fun w => ⟨Go.Proofs.Try.isAgg3 w, Go.Proofs.Try.sizeOf3 w⟩) rfl cnt ?_
      refine O.add ((((Gt.L h t).length + 1 : Nat) : Int)) rfl rfl rfl rfl rfl rfl (by omega) (by omega) ?_
      refine O.nc rfl rfl rfl rfl rfl ?_
      refine O.fa0 (off := 3) rfl rfl rfl rfl ⟨_, _, _, Go.Proofs.Try.underlying140, rfl, rfl, Go.Proofs.Try.sizeOf3⟩ rfl ?_
      refine O.st rfl rfl Go.Proofs.Try.sizeOf3 rfl rfl rfl rfl rfl (tc.wr.at0 3 1 (by omega)) ?_
      intro H4 W4
      have hs4 := W4.size
      replace tc := tc.fr (W4.fr' 1 rfl) (fun o _ h2 => nr (by omega))
      replace hptr := W4.keep1 hptr (by omega)
      replace hF := hF.trans' W4.fr (fun _ _ _ h => h) (fun b o _ h => by rw [h.1]; exact own)
      refine ⟨trivial, ?_⟩
      refine Pl.fin [(0, _), (6, _)] ⟨rfl, rfl, trivial⟩ ?_
      refine Go'.seq ?_
      -- region 22 (map.go:185)
      refine Go'.region [(0, 0), (1, 0), (2, 0), (3, 1), (4, 1), (5, 2), (6, 0)] rfl ?_
      refine O.mv rfl rfl rfl rfl rfl ?_
      refine O.nc rfl rfl rfl rfl rfl ?_
      refine O.fa0 (off := 4) rfl rfl rfl rfl ⟨_, _, _, Go.Proofs.Try.underlying140, rfl, rfl, Go.Proofs.Try.sizeOf138⟩ rfl ?_
      refine O.fz1 rfl rfl rfl ty ⟨_, _, Go.Proofs.Try.underlying138, rfl, rfl, rfl, Go.Proofs.Try.sizeOf136⟩ rfl (tc.wr.at0 4 1 (by omega)) ?_
      refine O.lds rfl rfl rfl (fun w => ⟨Go.Proofs.Try.isAgg136 w, Go.Proofs.Try.sizeOf136 w⟩) rfl rfl (Rd.nil _ _ _) ?_
      refine O.st0 rfl rfl Go.Proofs.Try.sizeOf136 rfl rfl rfl trivial ?_
      refine O.asg rfl rfl rfl rfl rfl ?_
      refine Pl.fin [(6, _), (7, _)] ⟨rfl, rfl, trivial⟩ ?_
      refine Go'.ret (vs := [_, _]) Go.Proofs.Try.func135 Go.Proofs.Try.results135 ⟨⟨_, _, rfl, fun _ _ => run_loadVar_agg (fun w => ⟨Go.Proofs.Try.isAgg136 w, Go.Proofs.Try.sizeOf136 w⟩) rfl (Rd.nil _ _ _)⟩, rfl, trivial⟩ ?_
      refine ⟨?_, fun b => S b ∨ (H.size ≤ b ∧ b < H3.size), ⟨tc, srt.put OI, ?_, .inl own, hS' _ hs4, .inr ⟨h, t', (hrt H4 (W4.fr' 1 rfl)), Nat.le_trans hx1 hS.x, hS.l, ?_, ?_, ?_⟩⟩, hF, fun b hb => hb.imp id (fun h => h.1)⟩
      · rw [Pl.got_none OI hfd, hfd]; rfl
      · rw [hlp, hfd]; exact W4.at
      · rw [hS.p]; exact hptr
      · exact fun o ho => (haf _ _ ho).elim (hnt o) (fun h => by omega)
      · exact fun b o hb => (haf b o hb).imp (hown b o) (fun h => ⟨h, hS.g.lt hb⟩)
    · -- replaced
      refine Go'.condT rfl ?_
      refine Go'.seq ?_
      -- region 20 (map.go:182)
      refine Go'.region [(0, 1), (1, 2), (2, 0)] rfl ?_
      refine O.lds rfl rfl rfl (fun w => ⟨Go.Proofs.Try.isAgg136 w, Go.Proofs.Try.sizeOf136 w⟩) rfl rfl (Rd.nil _ _ _) ?_
      refine O.st0 rfl rfl Go.Proofs.Try.sizeOf136 rfl rfl rfl trivial ?_
      refine O.asg rfl rfl rfl rfl rfl ?_
      refine Pl.fin [(0, _), (6, _), (7, _)] ⟨rfl, rfl, rfl, trivial⟩ ?_
      refine Go'.ret (vs := [_, _]) Go.Proofs.Try.func135 Go.Proofs.Try.results135 ⟨⟨_, _, rfl, fun _ _ => run_loadVar_agg (fun w => ⟨Go.Proofs.Try.isAgg136 w, Go.Proofs.Try.sizeOf136 w⟩) rfl (Rd.nil _ _ _)⟩, rfl, trivial⟩ ?_
      refine ⟨?_, fun b => S b ∨ (H.size ≤ b ∧ b < H3.size), ⟨tc, srt.put OI, ?_, .inl own, hS' _ rfl, .inr ⟨h, t', hS.g, Nat.le_trans hx1 hS.x, hS.l, ?_, ?_, ?_⟩⟩, hF, fun b hb => hb.imp id (fun h => h.1)⟩
      · rw [hfd]; rfl
      · rw [hlp, hfd]; exact cnt
      · rw [hS.p]; exact hptr
      · exact fun o ho => (haf _ _ ho).elim (hnt o) (fun h => by omega)
      · exact fun b o hb => (haf b o hb).imp (hown b o) (fun h => ⟨h, hS.g.lt hb⟩)
  · -- the root is parted
    -- region 10 (map.go:171)
    refine Go'.region [(0, 0)] rfl ?_
    refine O.mv rfl rfl rfl rfl rfl ?_
    refine Pl.fin [(0, _), (6, _), (8, _), (9, _), (10, _), (64, _)] ⟨rfl, rfl, rfl, rfl, rfl, rfl, trivial⟩ ?_
    refine Go'.condT rfl ?_
    refine Go'.seq ?_
    have hs3 : H2.size ≤ H3.size := hfr.size
    replace hg := hg.fr hfr (fun _ _ _ => nw)
    replace tc := tc.fr hfr (fun _ _ _ => nw)
    replace cnt := hfr.keep cnt nw
    replace hptr := hfr.keep hptr nw
    replace hF := hF.trans' hfr (fun _ _ _ h => h) (fun _ _ _ h => h.elim)
    replace mi := hfr.rd mi (fun _ _ => nw)
    replace m8w := hfr.wr m8w
    -- region 11 (map.go:172)
    refine Go'.region [(0, 0), (1, 0), (2, 0), (3, 1), (4, 0)] rfl ?_
    refine O.mv rfl rfl rfl rfl rfl ?_
    refine O.nc rfl rfl rfl rfl rfl ?_
    refine O.fa0 (off := 2) rfl rfl rfl rfl ⟨_, _, _, Go.Proofs.Try.underlying140, rfl, rfl, Go.Proofs.Try.sizeOf135⟩ rfl ?_
    refine O.ld rfl rfl rfl (fun w => ⟨Go.Proofs.Try.isAgg135 w, Go.Proofs.Try.sizeOf135 w⟩) rfl hptr ?_
    refine O.asg rfl rfl rfl rfl rfl ?_
    refine Pl.fin [(0, _), (6, _), (8, _), (9, _), (10, _), (12, _)] ⟨rfl, rfl, rfl, rfl, rfl, rfl, trivial⟩ ?_
    refine Go'.seq ?_
    -- region 12 (map.go:173)
    refine Go'.region [(0, 0), (1, 0), (2, 2), (3, 0), (4, 0), (5, 0), (6, 2), (7, 0), (8, 2)] rfl ?_
    refine O.mv rfl rfl rfl rfl rfl ?_
    refine O.mv rfl rfl rfl rfl rfl ?_
    refine O.call rfl rfl rfl Go.Proofs.Try.call162 rfl (split_spec hP tc hg hful hnt (by omega)) ?_
    rintro _ H4 ⟨t1, t2, med, rfl, hS⟩
    have hs4 : H3.size ≤ H4.size := hS.fr.size
    replace tc := tc.fr hS.fr (fun o _ _ => hnt o)
    replace cnt := hS.fr.keep cnt (hnt _)
    replace hptr := hS.fr.keep hptr (hnt _)
    replace mi := hS.fr.rd mi (fun _ _ hz => by have := hlt _ _ hz; omega)
    replace m8w := hS.fr.wr m8w
    replace hF : Fr (fun b _ => S b) H H4 := hF.trans' hS.fr (fun _ _ _ h => h) (fun b o _ hz => hown b o hz)
    obtain ⟨g1, g2⟩ := And.intro hS.g1 hS.g2
    have l1 : ∀ b o, Gt.af h t1 b o → b < H4.size := fun b o hb => g1.lt hb
    have l2 : ∀ b o, Gt.af h t2 b o → b < H4.size := fun b o hb => g2.lt hb
    have nt1 : ∀ o, ¬ Gt.af h t1 tr o := fun o ho => (hS.a1 _ _ ho).elim (hnt o) (fun h => by omega)
    have nt2 : ∀ o, ¬ Gt.af h t2 tr o := fun o ho => (hS.a2 _ _ ho).elim (hnt o) (fun h => by omega)
    have pp1 : Gt.p h t1 < H4.size := l1 _ _ (Gt.af_p (o := 0) (by omega))
    have pp2 : Gt.p h t2 < H4.size := l2 _ _ (Gt.af_p (o := 0) (by omega))
    refine ⟨trivial, ?_⟩
    refine O.mv rfl rfl rfl rfl rfl ?_
    refine O.ext rfl rfl rfl rfl rfl rfl ?_
    refine O.ext rfl rfl rfl rfl rfl rfl ?_
    refine O.alloc rfl rfl rfl Go.Proofs.Try.zeroValue138 ?_
    intro H5 M5
    refine ⟨trivial, ?_⟩
    have hs5 := M5.size
    replace g1 := g1.fr (M5.fr nowhere) (fun _ _ _ => nw)
    replace g2 := g2.fr (M5.fr nowhere) (fun _ _ _ => nw)
    replace tc := tc.fr (M5.fr nowhere) (fun _ _ _ => nw)
    replace cnt := (M5.fr nowhere).keep cnt nw
    replace hptr := (M5.fr nowhere).keep hptr nw
    replace hF := hF.trans' (M5.fr nowhere) (fun _ _ _ h => h) (fun _ _ _ h => h.elim)
    replace mi := (M5.fr nowhere).rd mi (fun _ _ => nw)
    replace m8w := (M5.fr nowhere).wr m8w
    have m14w : Wr H5 H4.size 0 1 := M5.wr 1 (by decide)
    refine O.asg rfl rfl rfl rfl rfl ?_
    refine O.st rfl rfl Go.Proofs.Try.sizeOf138 rfl rfl rfl rfl rfl m14w ?_
    intro H6 W6
    have hs6 := W6.size
    replace g1 := g1.fr W6.fr (fun b o hb => nr (.inl (by have := l1 b o hb; omega)))
    replace g2 := g2.fr W6.fr (fun b o hb => nr (.inl (by have := l2 b o hb; omega)))
    replace tc := tc.fr W6.fr (fun o _ _ => nr (.inl (by omega)))
    replace cnt := W6.fr.keep cnt (nr (.inl (by omega)))
    replace hptr := W6.fr.keep hptr (nr (.inl (by omega)))
    replace hF := hF.trans' W6.fr (fun _ _ _ h => h) (fun b o hb h => by have h' := h.1; omega)
    replace mi := W6.fr.rd mi (fun _ _ => nr (.inl (by omega)))
    replace m8w := W6.fr.wr m8w
    have m14 : Rd H6 H4.size 0 (EI.enc med) := W6.all
    refine ⟨trivial, ?_⟩
    refine Pl.fin [(0, _), (6, _), (8, _), (9, _), (10, _), (12, _), (13, _), (14, _)] ⟨rfl, rfl, rfl, rfl, rfl, rfl, rfl, rfl, trivial⟩ ?_
    refine Go'.seq ?_
    -- region 13 (map.go:174)
    refine Go'.region [(0, 0), (1, 0), (2, 2), (3, 0), (4, 0), (5, 2)] rfl ?_
    refine O.mv rfl rfl rfl rfl rfl ?_
    refine O.mv rfl rfl rfl rfl rfl ?_
    refine O.call rfl rfl rfl Go.Proofs.Try.call160 rfl (newInner_spec tc.iso) ?_
    rintro _ H7 ⟨rfl, hs7, F7, q0, q1, q2, q3, qw, qh, qhw⟩
    replace g1 := g1.fr F7 (fun _ _ _ => nw)
    replace g2 := g2.fr F7 (fun _ _ _ => nw)
    replace tc := tc.fr F7 (fun _ _ _ => nw)
    replace cnt := F7.keep cnt nw
    replace hptr := F7.keep hptr nw
    replace hF := hF.trans' F7 (fun _ _ _ h => h) (fun _ _ _ h => h.elim)
    replace mi := F7.rd mi (fun _ _ => nw)
    replace m8w := F7.wr m8w
    replace m14 := F7.rd m14 (fun _ _ => nw)
    have hqs : H6.size = H4.size + 1 := by omega
    generalize hqe : H6.size = q at *
    refine ⟨trivial, ?_⟩
    refine O.nc rfl rfl rfl rfl rfl ?_
    refine O.fa0 (off := 2) rfl rfl rfl rfl ⟨_, _, _, Go.Proofs.Try.underlying140, rfl, rfl, Go.Proofs.Try.sizeOf135⟩ rfl ?_
    refine O.st rfl rfl Go.Proofs.Try.sizeOf135 rfl rfl rfl rfl rfl (tc.wr.at0 2 1 (by omega)) ?_
    intro H8 W8
    have hs8 := W8.size
    replace g1 := g1.fr W8.fr (fun b o hb => nr (.inl (fun e => nt1 o (e ▸ hb))))
    replace g2 := g2.fr W8.fr (fun b o hb => nr (.inl (fun e => nt2 o (e ▸ hb))))
    replace mi := W8.fr.rd mi (fun _ _ => nr (.inl (by omega)))
    replace m8w := W8.fr.wr m8w
    replace m14 := W8.fr.rd m14 (fun _ _ => nr (.inl (by omega)))
    replace q0 := W8.fr.keep q0 (nr (.inl (by omega)))
    replace q1 := W8.fr.keep q1 (nr (.inl (by omega)))
    replace q2 := W8.fr.keep q2 (nr (.inl (by omega)))
    replace q3 := W8.fr.keep q3 (nr (.inl (by omega)))
    replace qw := W8.fr.wr qw
    replace qh := W8.fr.keep qh (nr (.inl (by omega)))
    replace qhw := W8.fr.wr qhw
    replace tc := tc.fr (W8.fr' 1 rfl) (fun o h1 _ => nr (by omega))
    replace cnt := W8.keep1 cnt (by omega)
    replace hF := hF.trans' W8.fr (fun _ _ _ h => h) (fun b o _ h => by rw [h.1]; exact own)
    clear hptr
    have hptr : cl H8 tr 2 = some (.pointer (some ⟨q, 0, none⟩)) := W8.at
    replace q3 : cl H8 q 3 = some (.pointer (some ⟨q + 1, 0, none⟩)) := q3
    refine ⟨trivial, ?_⟩
    refine Pl.fin [(0, _), (6, _), (8, _), (9, _), (10, _), (12, _), (13, _), (14, _)] ⟨rfl, rfl, rfl, rfl, rfl, rfl, rfl, rfl, trivial⟩ ?_
    refine Go'.seq ?_
    -- region 14 (map.go:175)
    refine Go'.draw (fun H' => cl H' tr 2 = some (.pointer (some ⟨q, 0, none⟩)) ∧ cl H' q 3 = some (.pointer (some ⟨q + 1, 0, none⟩))) [(0, 0), (1, 0), (2, 0), (3, 0), (4, 0), (5, 0), (6, 0), (7, 0), (8, 0), (9, 0), (10, 1), (11, 0), (12, 2), (13, 0), (14, 3)] (by kernel_rfl) (by kernel_rfl) (⟨hptr, q3⟩) ?_
    refine O.mv rfl rfl rfl rfl rfl ?_
    refine O.nc rfl rfl rfl rfl rfl ?_
    refine O.fa0 (off := 2) rfl rfl rfl rfl ⟨_, _, _, Go.Proofs.Try.underlying140, rfl, rfl, Go.Proofs.Try.sizeOf135⟩ rfl ?_
    refine O.ldC rfl rfl rfl (fun w => ⟨Go.Proofs.Try.isAgg135 w, Go.Proofs.Try.sizeOf135 w⟩) rfl (fun _ h => h.1) ?_
    refine O.nc rfl rfl rfl rfl rfl ?_
    refine O.fa0 (off := 3) rfl rfl rfl rfl ⟨_, _, _, Go.Proofs.Try.underlying205, rfl, rfl, Go.Proofs.Try.sizeOf203⟩ rfl ?_
    refine O.ldC rfl rfl rfl (fun w => ⟨Go.Proofs.Try.isAgg203 w, Go.Proofs.Try.sizeOf203 w⟩) rfl (fun _ h => h.2) ?_
    refine O.mv rfl rfl rfl rfl rfl ?_
    refine O.nc rfl rfl rfl rfl rfl ?_
    refine O.fa0 (off := 6) rfl rfl rfl rfl ⟨_, _, _, Go.Proofs.Try.underlying140, rfl, rfl, Go.Proofs.Try.sizeOf3⟩ rfl ?_
    refine O.ld rfl rfl rfl (fun w => ⟨Go.Proofs.Try.isAgg3 w, Go.Proofs.Try.sizeOf3 w⟩) rfl tc.mx' ?_
    refine O.add (((P.mx + 1 : Nat) : Int)) rfl rfl rfl rfl rfl rfl (by omega) (by omega) ?_
    refine O.mks (j := 0) (c := (P.mx + 1)) rfl rfl rfl ⟨Go.Proofs.Try.underlying206, Go.Proofs.Try.sizeOf135, Go.Proofs.Try.zeroValue135, ⟨_, Go.Proofs.Try.typeInfo135, rfl⟩, rfl, by decide, by decide⟩ rfl rfl rfl rfl (by omega) (Nat.le_trans (Nat.mul_le_mul_right _ (Nat.le_of_ble_eq_true (n := _) (m := 4096) rfl)) (by omega)) (by omega) ?_
    intro H9 M9
    have hs9 := M9.size
    replace g1 := g1.fr (M9.fr nowhere) (fun _ _ _ => nw)
    replace g2 := g2.fr (M9.fr nowhere) (fun _ _ _ => nw)
    replace tc := tc.fr (M9.fr nowhere) (fun _ _ _ => nw)
    replace cnt := (M9.fr nowhere).keep cnt nw
    replace hptr := (M9.fr nowhere).keep hptr nw
    replace hF := hF.trans' (M9.fr nowhere) (fun _ _ _ h => h) (fun _ _ _ h => h.elim)
    replace mi := (M9.fr nowhere).rd mi (fun _ _ => nw)
    replace m8w := (M9.fr nowhere).wr m8w
    replace m14 := (M9.fr nowhere).rd m14 (fun _ _ => nw)
    replace q0 := (M9.fr nowhere).keep q0 nw
    replace q1 := (M9.fr nowhere).keep q1 nw
    replace q2 := (M9.fr nowhere).keep q2 nw
    replace q3 := (M9.fr nowhere).keep q3 nw
    replace qw := (M9.fr nowhere).wr qw
    replace qh := (M9.fr nowhere).keep qh nw
    replace qhw := (M9.fr nowhere).wr qhw
    refine ⟨⟨hptr, q3⟩, ?_⟩
    refine O.nc rfl rfl rfl rfl rfl ?_
    refine O.st3 rfl rfl Go.Proofs.Try.sizeOf206 rfl rfl rfl rfl rfl qhw ?_
    intro H10 W10
    have hs10 := W10.size
    replace g1 := g1.fr W10.fr (fun b o hb => nr (.inl (by have := l1 b o hb; omega)))
    replace g2 := g2.fr W10.fr (fun b o hb => nr (.inl (by have := l2 b o hb; omega)))
    replace tc := tc.fr W10.fr (fun o _ _ => nr (.inl (by omega)))
    replace cnt := W10.fr.keep cnt (nr (.inl (by omega)))
    replace hptr := W10.fr.keep hptr (nr (.inl (by omega)))
    replace hF := hF.trans' W10.fr (fun _ _ _ h => h) (fun b o hb h => by have h' := h.1; omega)
    replace mi := W10.fr.rd mi (fun _ _ => nr (.inl (by omega)))
    replace m8w := W10.fr.wr m8w
    replace m14 := W10.fr.rd m14 (fun _ _ => nr (.inl (by omega)))
    replace q0 := W10.fr.keep q0 (nr (.inl (by omega)))
    replace q1 := W10.fr.keep q1 (nr (.inl (by omega)))
    replace q2 := W10.fr.keep q2 (nr (.inl (by omega)))
    replace q3 := W10.fr.keep q3 (nr (.inl (by omega)))
    replace qw := W10.fr.wr qw
    replace qhw := W10.fr.wr qhw
    replace qh := W10.at
    refine Pl.fin [(0, _), (6, _), (8, _), (9, _), (10, _), (12, _), (13, _), (14, _)] ⟨rfl, rfl, rfl, rfl, rfl, rfl, rfl, rfl, trivial⟩ ?_
    refine Go'.seq ?_
    -- region 15 (map.go:176), two orders
    refine Go'.draw2 (fun H' => cl H' tr 2 = some (.pointer (some ⟨q, 0, none⟩)) ∧ cl H' q 3 = some (.pointer (some ⟨q + 1, 0, none⟩))) (fun Hn => ∃ bk ck : Nat, H10.size ≤ bk ∧ bk < Hn.size ∧ 2 ≤ ck ∧ SlE EP Hn bk 0 ck ([Gt.p h t1, Gt.p h t2].map some) ∧ cl Hn (q + 1) 0 = some (.slice (some ⟨bk, 0, none⟩) 2 ck) ∧ cl Hn q 2 = some (.slice none 0 0) ∧ Gt.Good Hn P h t1 ∧ Gt.Good Hn P h t2 ∧ TrC Hn tr P.iso P.mx P.mn ∧ cl Hn tr 3 = some (.int .i64 ((Gt.L h t).length : Int)) ∧ cl Hn tr 2 = some (.pointer (some ⟨q, 0, none⟩)) ∧ Fr (fun b _ => S b) H Hn ∧ Rd Hn H.size 0 (EI.enc x) ∧ Rd Hn H4.size 0 (EI.enc med) ∧ cl Hn q 0 = some (.int .u64 (P.iso : Int)) ∧ cl Hn q 1 = some (.int .i64 0) ∧ cl Hn q 3 = some (.pointer (some ⟨q + 1, 0, none⟩)) ∧ Wr Hn q 0 4 ∧ Wr Hn (q + 1) 0 1 ∧ Wr Hn H.size 0 1) [(0, .pointer (some ⟨tr, 0, none⟩)), (6, .pointer (some ⟨Ha.size, 0, none⟩)), (8, .pointer (some ⟨H.size, 0, none⟩)), (14, .pointer (some ⟨H4.size, 0, none⟩))] 7 10 [(0, 0), (1, 0), (2, 0), (3, 0), (4, 0), (5, 0), (6, 0), (8, 0), (9, 0), (7, 2), (10, 2), (11, 2), (12, 0), (13, 3)] [(0, 0), (1, 0), (2, 0), (3, 0), (4, 0), (5, 0), (6, 0), (8, 0), (9, 0), (10, 2), (7, 2), (11, 2), (12, 0), (13, 3)] (by kernel_rfl) (by kernel_rfl) (⟨hptr, q3⟩) ?_ ?_ ?_
    · intro _ _ _ hj
      refine O.mv rfl rfl rfl rfl rfl ?_
      refine O.nc rfl rfl rfl rfl rfl ?_
      refine O.fa0 (off := 2) rfl rfl rfl rfl ⟨_, _, _, Go.Proofs.Try.underlying140, rfl, rfl, Go.Proofs.Try.sizeOf135⟩ rfl ?_
      refine O.ldC rfl rfl rfl (fun w => ⟨Go.Proofs.Try.isAgg135 w, Go.Proofs.Try.sizeOf135 w⟩) rfl (fun _ h => h.1) ?_
      refine O.nc rfl rfl rfl rfl rfl ?_
      refine O.fa0 (off := 3) rfl rfl rfl rfl ⟨_, _, _, Go.Proofs.Try.underlying205, rfl, rfl, Go.Proofs.Try.sizeOf203⟩ rfl ?_
      refine O.ldC rfl rfl rfl (fun w => ⟨Go.Proofs.Try.isAgg203 w, Go.Proofs.Try.sizeOf203 w⟩) rfl (fun _ h => h.2) ?_
      refine O.mv rfl rfl rfl rfl rfl ?_
      refine O.mv rfl rfl rfl rfl rfl ?_
      refine O.bsl (cs := []) rfl rfl rfl ⟨Go.Proofs.Try.underlying206, Go.Proofs.Try.sizeOf135, Go.Proofs.Try.zeroValue135, ⟨_, Go.Proofs.Try.typeInfo135, rfl⟩, rfl, by decide, by decide⟩ rfl (by decide) (by kernel_rfl) ?_
      intro H11 MH11
      have hsH11 := MH11.size
      replace g1 := g1.fr (MH11.fr nowhere) (fun _ _ _ => nw)
      replace g2 := g2.fr (MH11.fr nowhere) (fun _ _ _ => nw)
      replace tc := tc.fr (MH11.fr nowhere) (fun _ _ _ => nw)
      replace cnt := (MH11.fr nowhere).keep cnt nw
      replace hptr := (MH11.fr nowhere).keep hptr nw
      replace hF := hF.trans' (MH11.fr nowhere) (fun _ _ _ h => h) (fun _ _ _ h => h.elim)
      replace mi := (MH11.fr nowhere).rd mi (fun _ _ => nw)
      replace m8w := (MH11.fr nowhere).wr m8w
      replace m14 := (MH11.fr nowhere).rd m14 (fun _ _ => nw)
      replace q0 := (MH11.fr nowhere).keep q0 nw
      replace q1 := (MH11.fr nowhere).keep q1 nw
      replace q2 := (MH11.fr nowhere).keep q2 nw
      replace q3 := (MH11.fr nowhere).keep q3 nw
      replace qw := (MH11.fr nowhere).wr qw
      replace qh := (MH11.fr nowhere).keep qh nw
      replace qhw := (MH11.fr nowhere).wr qhw
      refine ⟨⟨hptr, q3⟩, ?_⟩
      refine O.bsl (cs := [ptr (Gt.p h t), ptr (Gt.p h t2)]) rfl rfl rfl ⟨Go.Proofs.Try.underlying206, Go.Proofs.Try.sizeOf135, Go.Proofs.Try.zeroValue135, ⟨_, Go.Proofs.Try.typeInfo135, rfl⟩, rfl, by decide, by decide⟩ rfl (by decide) (by kernel_rfl) ?_
      intro H12 MH12
      have hsH12 := MH12.size
      replace g1 := g1.fr (MH12.fr nowhere) (fun _ _ _ => nw)
      replace g2 := g2.fr (MH12.fr nowhere) (fun _ _ _ => nw)
      replace tc := tc.fr (MH12.fr nowhere) (fun _ _ _ => nw)
      replace cnt := (MH12.fr nowhere).keep cnt nw
      replace hptr := (MH12.fr nowhere).keep hptr nw
      replace hF := hF.trans' (MH12.fr nowhere) (fun _ _ _ h => h) (fun _ _ _ h => h.elim)
      replace mi := (MH12.fr nowhere).rd mi (fun _ _ => nw)
      replace m8w := (MH12.fr nowhere).wr m8w
      replace m14 := (MH12.fr nowhere).rd m14 (fun _ _ => nw)
      replace q0 := (MH12.fr nowhere).keep q0 nw
      replace q1 := (MH12.fr nowhere).keep q1 nw
      replace q2 := (MH12.fr nowhere).keep q2 nw
      replace q3 := (MH12.fr nowhere).keep q3 nw
      replace qw := (MH12.fr nowhere).wr qw
      replace qh := (MH12.fr nowhere).keep qh nw
      replace qhw := (MH12.fr nowhere).wr qhw
      have m12 : Rd H12 H11.size 0 [ptr (Gt.p h t), ptr (Gt.p h t2)] := MH12.rd _ [] (by simp)
      refine ⟨⟨hptr, q3⟩, ?_⟩
      refine O.app (m := 2) (news := [ptr (Gt.p h t), ptr (Gt.p h t2)]) rfl rfl rfl ⟨Go.Proofs.Try.underlying206, Go.Proofs.Try.sizeOf135, Go.Proofs.Try.zeroValue135, ⟨_, Go.Proofs.Try.typeInfo135, rfl⟩, rfl, by decide, by decide⟩ rfl (Sl.none _ _ _ _) rfl (.inl ⟨_, _, _, rfl, m12⟩) rfl rfl (Nat.le_trans (Nat.mul_le_mul_left _ (Nat.le_of_ble_eq_true (n := _) (m := 4096) rfl)) (by omega)) (by omega) ?_
      intro bk ok ck H13 ha
      obtain ⟨hbk, rfl, hs13, hck, fa⟩ := ha.fromNone (by decide)
      have hksl : SlE EP H13 bk 0 ck ([Gt.p h t1, Gt.p h t2].map some) := by rw [hS.p1]; exact ha.sl
      replace g1 := g1.fr fa (fun _ _ _ => nw)
      replace g2 := g2.fr fa (fun _ _ _ => nw)
      replace tc := tc.fr fa (fun _ _ _ => nw)
      replace cnt := fa.keep cnt nw
      replace hptr := fa.keep hptr nw
      replace hF := hF.trans' fa (fun _ _ _ h => h) (fun _ _ _ h => h.elim)
      replace mi := fa.rd mi (fun _ _ => nw)
      replace m8w := fa.wr m8w
      replace m14 := fa.rd m14 (fun _ _ => nw)
      replace q0 := fa.keep q0 nw
      replace q1 := fa.keep q1 nw
      replace q2 := fa.keep q2 nw
      replace q3 := fa.keep q3 nw
      replace qw := fa.wr qw
      replace qh := fa.keep qh nw
      replace qhw := fa.wr qhw
      refine ⟨⟨hptr, q3⟩, ?_⟩
      refine O.nc rfl rfl rfl rfl rfl ?_
      refine O.st3 rfl rfl Go.Proofs.Try.sizeOf206 rfl rfl rfl rfl rfl qhw ?_
      intro H14 W14
      have hs14 := W14.size
      replace g1 := g1.fr W14.fr (fun b o hb => nr (.inl (by have := l1 b o hb; omega)))
      replace g2 := g2.fr W14.fr (fun b o hb => nr (.inl (by have := l2 b o hb; omega)))
      replace tc := tc.fr W14.fr (fun o _ _ => nr (.inl (by omega)))
      replace cnt := W14.fr.keep cnt (nr (.inl (by omega)))
      replace hptr := W14.fr.keep hptr (nr (.inl (by omega)))
      replace hF := hF.trans' W14.fr (fun _ _ _ h => h) (fun b o hb h => by have h' := h.1; omega)
      replace mi := W14.fr.rd mi (fun _ _ => nr (.inl (by omega)))
      replace m8w := W14.fr.wr m8w
      replace m14 := W14.fr.rd m14 (fun _ _ => nr (.inl (by omega)))
      replace q0 := W14.fr.keep q0 (nr (.inl (by omega)))
      replace q1 := W14.fr.keep q1 (nr (.inl (by omega)))
      replace q2 := W14.fr.keep q2 (nr (.inl (by omega)))
      replace q3 := W14.fr.keep q3 (nr (.inl (by omega)))
      replace qw := W14.fr.wr qw
      replace qhw := W14.fr.wr qhw
      replace hksl := hksl.fr W14.fr (fun _ _ _ => nr (.inl (by omega)))
      replace qh := W14.at
      refine Pl.fin [(0, .pointer (some ⟨tr, 0, none⟩)), (6, .pointer (some ⟨Ha.size, 0, none⟩)), (8, .pointer (some ⟨H.size, 0, none⟩)), (14, .pointer (some ⟨H4.size, 0, none⟩))] ⟨rfl, rfl, rfl, rfl, trivial⟩ (hj _ ?_)
      exact ⟨bk, ck, by omega, by omega, hck, hksl, qh, q2, g1, g2, tc, cnt, hptr, hF, mi, m14, q0, q1, q3, qw, qhw, m8w⟩
    · intro _ _ _ hj
      refine O.mv rfl rfl rfl rfl rfl ?_
      refine O.nc rfl rfl rfl rfl rfl ?_
      refine O.fa0 (off := 2) rfl rfl rfl rfl ⟨_, _, _, Go.Proofs.Try.underlying140, rfl, rfl, Go.Proofs.Try.sizeOf135⟩ rfl ?_
      refine O.ldC rfl rfl rfl (fun w => ⟨Go.Proofs.Try.isAgg135 w, Go.Proofs.Try.sizeOf135 w⟩) rfl (fun _ h => h.1) ?_
      refine O.nc rfl rfl rfl rfl rfl ?_
      refine O.fa0 (off := 3) rfl rfl rfl rfl ⟨_, _, _, Go.Proofs.Try.underlying205, rfl, rfl, Go.Proofs.Try.sizeOf203⟩ rfl ?_
      refine O.ldC rfl rfl rfl (fun w => ⟨Go.Proofs.Try.isAgg203 w, Go.Proofs.Try.sizeOf203 w⟩) rfl (fun _ h => h.2) ?_
      refine O.mv rfl rfl rfl rfl rfl ?_
      refine O.mv rfl rfl rfl rfl rfl ?_
      refine O.bsl (cs := [ptr (Gt.p h t), ptr (Gt.p h t2)]) rfl rfl rfl ⟨Go.Proofs.Try.underlying206, Go.Proofs.Try.sizeOf135, Go.Proofs.Try.zeroValue135, ⟨_, Go.Proofs.Try.typeInfo135, rfl⟩, rfl, by decide, by decide⟩ rfl (by decide) (by kernel_rfl) ?_
      intro H11 MH11
      have hsH11 := MH11.size
      replace g1 := g1.fr (MH11.fr nowhere) (fun _ _ _ => nw)
      replace g2 := g2.fr (MH11.fr nowhere) (fun _ _ _ => nw)
      replace tc := tc.fr (MH11.fr nowhere) (fun _ _ _ => nw)
      replace cnt := (MH11.fr nowhere).keep cnt nw
      replace hptr := (MH11.fr nowhere).keep hptr nw
      replace hF := hF.trans' (MH11.fr nowhere) (fun _ _ _ h => h) (fun _ _ _ h => h.elim)
      replace mi := (MH11.fr nowhere).rd mi (fun _ _ => nw)
      replace m8w := (MH11.fr nowhere).wr m8w
      replace m14 := (MH11.fr nowhere).rd m14 (fun _ _ => nw)
      replace q0 := (MH11.fr nowhere).keep q0 nw
      replace q1 := (MH11.fr nowhere).keep q1 nw
      replace q2 := (MH11.fr nowhere).keep q2 nw
      replace q3 := (MH11.fr nowhere).keep q3 nw
      replace qw := (MH11.fr nowhere).wr qw
      replace qh := (MH11.fr nowhere).keep qh nw
      replace qhw := (MH11.fr nowhere).wr qhw
      have m12 : Rd H11 H10.size 0 [ptr (Gt.p h t), ptr (Gt.p h t2)] := MH11.rd _ [] (by simp)
      refine ⟨⟨hptr, q3⟩, ?_⟩
      refine O.bsl (cs := []) rfl rfl rfl ⟨Go.Proofs.Try.underlying206, Go.Proofs.Try.sizeOf135, Go.Proofs.Try.zeroValue135, ⟨_, Go.Proofs.Try.typeInfo135, rfl⟩, rfl, by decide, by decide⟩ rfl (by decide) (by kernel_rfl) ?_
      intro H12 MH12
      have hsH12 := MH12.size
      replace g1 := g1.fr (MH12.fr nowhere) (fun _ _ _ => nw)
      replace g2 := g2.fr (MH12.fr nowhere) (fun _ _ _ => nw)
      replace tc := tc.fr (MH12.fr nowhere) (fun _ _ _ => nw)
      replace cnt := (MH12.fr nowhere).keep cnt nw
      replace hptr := (MH12.fr nowhere).keep hptr nw
      replace hF := hF.trans' (MH12.fr nowhere) (fun _ _ _ h => h) (fun _ _ _ h => h.elim)
      replace mi := (MH12.fr nowhere).rd mi (fun _ _ => nw)
      replace m8w := (MH12.fr nowhere).wr m8w
      replace m14 := (MH12.fr nowhere).rd m14 (fun _ _ => nw)
      replace q0 := (MH12.fr nowhere).keep q0 nw
      replace q1 := (MH12.fr nowhere).keep q1 nw
      replace q2 := (MH12.fr nowhere).keep q2 nw
      replace q3 := (MH12.fr nowhere).keep q3 nw
      replace qw := (MH12.fr nowhere).wr qw
      replace qh := (MH12.fr nowhere).keep qh nw
      replace qhw := (MH12.fr nowhere).wr qhw
      replace m12 := (MH12.fr nowhere).rd m12 (fun _ _ => nw)
      refine ⟨⟨hptr, q3⟩, ?_⟩
      refine O.app (m := 2) (news := [ptr (Gt.p h t), ptr (Gt.p h t2)]) rfl rfl rfl ⟨Go.Proofs.Try.underlying206, Go.Proofs.Try.sizeOf135, Go.Proofs.Try.zeroValue135, ⟨_, Go.Proofs.Try.typeInfo135, rfl⟩, rfl, by decide, by decide⟩ rfl (Sl.none _ _ _ _) rfl (.inl ⟨_, _, _, rfl, m12⟩) rfl rfl (Nat.le_trans (Nat.mul_le_mul_left _ (Nat.le_of_ble_eq_true (n := _) (m := 4096) rfl)) (by omega)) (by omega) ?_
      intro bk ok ck H13 ha
      obtain ⟨hbk, rfl, hs13, hck, fa⟩ := ha.fromNone (by decide)
      have hksl : SlE EP H13 bk 0 ck ([Gt.p h t1, Gt.p h t2].map some) := by rw [hS.p1]; exact ha.sl
      replace g1 := g1.fr fa (fun _ _ _ => nw)
      replace g2 := g2.fr fa (fun _ _ _ => nw)
      replace tc := tc.fr fa (fun _ _ _ => nw)
      replace cnt := fa.keep cnt nw
      replace hptr := fa.keep hptr nw
      replace hF := hF.trans' fa (fun _ _ _ h => h) (fun _ _ _ h => h.elim)
      replace mi := fa.rd mi (fun _ _ => nw)
      replace m8w := fa.wr m8w
      replace m14 := fa.rd m14 (fun _ _ => nw)
      replace q0 := fa.keep q0 nw
      replace q1 := fa.keep q1 nw
      replace q2 := fa.keep q2 nw
      replace q3 := fa.keep q3 nw
      replace qw := fa.wr qw
      replace qh := fa.keep qh nw
      replace qhw := fa.wr qhw
      refine ⟨⟨hptr, q3⟩, ?_⟩
      refine O.nc rfl rfl rfl rfl rfl ?_
      refine O.st3 rfl rfl Go.Proofs.Try.sizeOf206 rfl rfl rfl rfl rfl qhw ?_
      intro H14 W14
      have hs14 := W14.size
      replace g1 := g1.fr W14.fr (fun b o hb => nr (.inl (by have := l1 b o hb; omega)))
      replace g2 := g2.fr W14.fr (fun b o hb => nr (.inl (by have := l2 b o hb; omega)))
      replace tc := tc.fr W14.fr (fun o _ _ => nr (.inl (by omega)))
      replace cnt := W14.fr.keep cnt (nr (.inl (by omega)))
      replace hptr := W14.fr.keep hptr (nr (.inl (by omega)))
      replace hF := hF.trans' W14.fr (fun _ _ _ h => h) (fun b o hb h => by have h' := h.1; omega)
      replace mi := W14.fr.rd mi (fun _ _ => nr (.inl (by omega)))
      replace m8w := W14.fr.wr m8w
      replace m14 := W14.fr.rd m14 (fun _ _ => nr (.inl (by omega)))
      replace q0 := W14.fr.keep q0 (nr (.inl (by omega)))
      replace q1 := W14.fr.keep q1 (nr (.inl (by omega)))
      replace q2 := W14.fr.keep q2 (nr (.inl (by omega)))
      replace q3 := W14.fr.keep q3 (nr (.inl (by omega)))
      replace qw := W14.fr.wr qw
      replace qhw := W14.fr.wr qhw
      replace hksl := hksl.fr W14.fr (fun _ _ _ => nr (.inl (by omega)))
      replace qh := W14.at
      refine Pl.fin [(0, .pointer (some ⟨tr, 0, none⟩)), (6, .pointer (some ⟨Ha.size, 0, none⟩)), (8, .pointer (some ⟨H.size, 0, none⟩)), (14, .pointer (some ⟨H4.size, 0, none⟩))] ⟨rfl, rfl, rfl, rfl, trivial⟩ (hj _ ?_)
      exact ⟨bk, ck, by omega, by omega, hck, hksl, qh, q2, g1, g2, tc, cnt, hptr, hF, mi, m14, q0, q1, q3, qw, qhw, m8w⟩
    clear q2
    rintro H14 ⟨bk, ck, hbk1, hbk2, hck, hksl, qh, q2, g1, g2, tc, cnt, hptr, hF, mi, m14, q0, q1, q3, qw, qhw, m8w⟩
    refine Go'.seq ?_
    -- region 16 (map.go:177), two orders
    refine Go'.draw2 (fun H' => cl H' tr 2 = some (.pointer (some ⟨q, 0, none⟩)) ∧ Rd H' H4.size 0 (EI.enc med)) (fun Hn => ∃ b' c' : Nat, H14.size ≤ b' ∧ b' < Hn.size ∧ 1 ≤ c' ∧ SlE EI Hn b' 0 c' [med] ∧ SlE EP Hn bk 0 ck ([Gt.p h t1, Gt.p h t2].map some) ∧ cl Hn (q + 1) 0 = some (.slice (some ⟨bk, 0, none⟩) 2 ck) ∧ cl Hn q 2 = some (.slice (some ⟨b', 0, none⟩) 1 c') ∧ Gt.Good Hn P h t1 ∧ Gt.Good Hn P h t2 ∧ TrC Hn tr P.iso P.mx P.mn ∧ cl Hn tr 3 = some (.int .i64 ((Gt.L h t).length : Int)) ∧ cl Hn tr 2 = some (.pointer (some ⟨q, 0, none⟩)) ∧ Fr (fun b _ => S b) H Hn ∧ Rd Hn H.size 0 (EI.enc x) ∧ Rd Hn H4.size 0 (EI.enc med) ∧ cl Hn q 0 = some (.int .u64 (P.iso : Int)) ∧ cl Hn q 1 = some (.int .i64 0) ∧ cl Hn q 3 = some (.pointer (some ⟨q + 1, 0, none⟩)) ∧ Wr Hn q 0 4 ∧ Wr Hn (q + 1) 0 1 ∧ Wr Hn H.size 0 1) [(0, .pointer (some ⟨tr, 0, none⟩)), (6, .pointer (some ⟨Ha.size, 0, none⟩)), (8, .pointer (some ⟨H.size, 0, none⟩))] 4 6 [(0, 0), (1, 0), (2, 0), (3, 0), (5, 0), (4, 2), (6, 2), (7, 2), (8, 0), (9, 0), (10, 3)] [(0, 0), (1, 0), (2, 0), (3, 0), (5, 0), (6, 2), (4, 2), (7, 2), (8, 0), (9, 0), (10, 3)] (by kernel_rfl) (by kernel_rfl) (⟨hptr, m14⟩) ?_ ?_ ?_
    · intro _ _ _ hj
      refine O.mv rfl rfl rfl rfl rfl ?_
      refine O.nc rfl rfl rfl rfl rfl ?_
      refine O.fa0 (off := 2) rfl rfl rfl rfl ⟨_, _, _, Go.Proofs.Try.underlying140, rfl, rfl, Go.Proofs.Try.sizeOf135⟩ rfl ?_
      refine O.ldC rfl rfl rfl (fun w => ⟨Go.Proofs.Try.isAgg135 w, Go.Proofs.Try.sizeOf135 w⟩) rfl (fun _ h => h.1) ?_
      refine O.ldsC rfl rfl rfl (fun w => ⟨Go.Proofs.Try.isAgg138 w, Go.Proofs.Try.sizeOf138 w⟩) rfl rfl (fun _ h => h.2) ?_
      refine O.bsl (cs := []) rfl rfl rfl ⟨Go.Proofs.Try.underlying202, Go.Proofs.Try.sizeOf138, Go.Proofs.Try.zeroValue138, ⟨_, Go.Proofs.Try.typeInfo138, rfl⟩, rfl, by decide, by decide⟩ rfl (by decide) (by kernel_rfl) ?_
      intro H15 MH15
      have hsH15 := MH15.size
      replace g1 := g1.fr (MH15.fr nowhere) (fun _ _ _ => nw)
      replace g2 := g2.fr (MH15.fr nowhere) (fun _ _ _ => nw)
      replace tc := tc.fr (MH15.fr nowhere) (fun _ _ _ => nw)
      replace cnt := (MH15.fr nowhere).keep cnt nw
      replace hptr := (MH15.fr nowhere).keep hptr nw
      replace hF := hF.trans' (MH15.fr nowhere) (fun _ _ _ h => h) (fun _ _ _ h => h.elim)
      replace mi := (MH15.fr nowhere).rd mi (fun _ _ => nw)
      replace m8w := (MH15.fr nowhere).wr m8w
      replace m14 := (MH15.fr nowhere).rd m14 (fun _ _ => nw)
      replace q0 := (MH15.fr nowhere).keep q0 nw
      replace q1 := (MH15.fr nowhere).keep q1 nw
      replace q2 := (MH15.fr nowhere).keep q2 nw
      replace q3 := (MH15.fr nowhere).keep q3 nw
      replace qw := (MH15.fr nowhere).wr qw
      replace qh := (MH15.fr nowhere).keep qh nw
      replace qhw := (MH15.fr nowhere).wr qhw
      replace hksl := hksl.fr (MH15.fr nowhere) (fun _ _ _ => nw)
      refine ⟨⟨hptr, m14⟩, ?_⟩
      refine O.bsl (cs := (EI.enc med)) rfl rfl rfl ⟨Go.Proofs.Try.underlying202, Go.Proofs.Try.sizeOf138, Go.Proofs.Try.zeroValue138, ⟨_, Go.Proofs.Try.typeInfo138, rfl⟩, rfl, by decide, by decide⟩ rfl (by decide) (by kernel_rfl) ?_
      intro H16 MH16
      have hsH16 := MH16.size
      replace g1 := g1.fr (MH16.fr nowhere) (fun _ _ _ => nw)
      replace g2 := g2.fr (MH16.fr nowhere) (fun _ _ _ => nw)
      replace tc := tc.fr (MH16.fr nowhere) (fun _ _ _ => nw)
      replace cnt := (MH16.fr nowhere).keep cnt nw
      replace hptr := (MH16.fr nowhere).keep hptr nw
      replace hF := hF.trans' (MH16.fr nowhere) (fun _ _ _ h => h) (fun _ _ _ h => h.elim)
      replace mi := (MH16.fr nowhere).rd mi (fun _ _ => nw)
      replace m8w := (MH16.fr nowhere).wr m8w
      replace m14 := (MH16.fr nowhere).rd m14 (fun _ _ => nw)
      replace q0 := (MH16.fr nowhere).keep q0 nw
      replace q1 := (MH16.fr nowhere).keep q1 nw
      replace q2 := (MH16.fr nowhere).keep q2 nw
      replace q3 := (MH16.fr nowhere).keep q3 nw
      replace qw := (MH16.fr nowhere).wr qw
      replace qh := (MH16.fr nowhere).keep qh nw
      replace qhw := (MH16.fr nowhere).wr qhw
      replace hksl := hksl.fr (MH16.fr nowhere) (fun _ _ _ => nw)
      have m16 : Rd H16 H15.size 0 (EI.enc med) := MH16.rd _ [] (by simp)
      refine ⟨⟨hptr, m14⟩, ?_⟩
      refine O.app (m := 1) (news := (EI.enc med)) rfl rfl rfl ⟨Go.Proofs.Try.underlying202, Go.Proofs.Try.sizeOf138, Go.Proofs.Try.zeroValue138, ⟨_, Go.Proofs.Try.typeInfo138, rfl⟩, rfl, by decide, by decide⟩ rfl (Sl.none _ _ _ _) rfl (.inl ⟨_, _, _, rfl, m16⟩) rfl rfl (Nat.le_trans (Nat.mul_le_mul_left _ (Nat.le_of_ble_eq_true (n := _) (m := 4096) rfl)) (by omega)) (by omega) ?_
      intro b' o' c' H17 ha2
      obtain ⟨hbn, rfl, hs17, hcn, fa2⟩ := ha2.fromNone (by decide)
      have hisl : SlE EI H17 b' 0 c' [med] := ha2.sl
      replace g1 := g1.fr fa2 (fun _ _ _ => nw)
      replace g2 := g2.fr fa2 (fun _ _ _ => nw)
      replace tc := tc.fr fa2 (fun _ _ _ => nw)
      replace cnt := fa2.keep cnt nw
      replace hptr := fa2.keep hptr nw
      replace hF := hF.trans' fa2 (fun _ _ _ h => h) (fun _ _ _ h => h.elim)
      replace mi := fa2.rd mi (fun _ _ => nw)
      replace m8w := fa2.wr m8w
      replace m14 := fa2.rd m14 (fun _ _ => nw)
      replace q0 := fa2.keep q0 nw
      replace q1 := fa2.keep q1 nw
      replace q2 := fa2.keep q2 nw
      replace q3 := fa2.keep q3 nw
      replace qw := fa2.wr qw
      replace qh := fa2.keep qh nw
      replace qhw := fa2.wr qhw
      replace hksl := hksl.fr fa2 (fun _ _ _ => nw)
      refine ⟨⟨hptr, m14⟩, ?_⟩
      refine O.nc rfl rfl rfl rfl rfl ?_
      refine O.fa0 (off := 2) rfl rfl rfl rfl ⟨_, _, _, Go.Proofs.Try.underlying205, rfl, rfl, Go.Proofs.Try.sizeOf202⟩ rfl ?_
      refine O.st3 rfl rfl Go.Proofs.Try.sizeOf202 rfl rfl rfl rfl rfl (qw.at0 2 1 (by omega)) ?_
      intro H18 W18
      have hs18 := W18.size
      replace g1 := g1.fr W18.fr (fun b o hb => nr (.inl (by have := l1 b o hb; omega)))
      replace g2 := g2.fr W18.fr (fun b o hb => nr (.inl (by have := l2 b o hb; omega)))
      replace tc := tc.fr W18.fr (fun o _ _ => nr (.inl (by omega)))
      replace cnt := W18.fr.keep cnt (nr (.inl (by omega)))
      replace hptr := W18.fr.keep hptr (nr (.inl (by omega)))
      replace hF := hF.trans' W18.fr (fun _ _ _ h => h) (fun b o hb h => by have h' := h.1; omega)
      replace mi := W18.fr.rd mi (fun _ _ => nr (.inl (by omega)))
      replace m8w := W18.fr.wr m8w
      replace m14 := W18.fr.rd m14 (fun _ _ => nr (.inl (by omega)))
      replace qw := W18.fr.wr qw
      replace qh := W18.fr.keep qh (nr (.inl (by omega)))
      replace qhw := W18.fr.wr qhw
      replace hksl := hksl.fr W18.fr (fun _ _ _ => nr (.inl (by omega)))
      replace hisl := hisl.fr W18.fr (fun _ _ _ => nr (.inl (by omega)))
      replace q0 := W18.keep1 q0 (by omega)
      replace q1 := W18.keep1 q1 (by omega)
      replace q2 := W18.at
      replace q3 := W18.keep1 q3 (by omega)
      refine Pl.fin [(0, .pointer (some ⟨tr, 0, none⟩)), (6, .pointer (some ⟨Ha.size, 0, none⟩)), (8, .pointer (some ⟨H.size, 0, none⟩))] ⟨rfl, rfl, rfl, trivial⟩ (hj _ ?_)
      exact ⟨b', c', by omega, by omega, hcn, hisl, hksl, qh, q2, g1, g2, tc, cnt, hptr, hF, mi, m14, q0, q1, q3, qw, qhw, m8w⟩
    · intro _ _ _ hj
      refine O.mv rfl rfl rfl rfl rfl ?_
      refine O.nc rfl rfl rfl rfl rfl ?_
      refine O.fa0 (off := 2) rfl rfl rfl rfl ⟨_, _, _, Go.Proofs.Try.underlying140, rfl, rfl, Go.Proofs.Try.sizeOf135⟩ rfl ?_
      refine O.ldC rfl rfl rfl (fun w => ⟨Go.Proofs.Try.isAgg135 w, Go.Proofs.Try.sizeOf135 w⟩) rfl (fun _ h => h.1) ?_
      refine O.ldsC rfl rfl rfl (fun w => ⟨Go.Proofs.Try.isAgg138 w, Go.Proofs.Try.sizeOf138 w⟩) rfl rfl (fun _ h => h.2) ?_
      refine O.bsl (cs := (EI.enc med)) rfl rfl rfl ⟨Go.Proofs.Try.underlying202, Go.Proofs.Try.sizeOf138, Go.Proofs.Try.zeroValue138, ⟨_, Go.Proofs.Try.typeInfo138, rfl⟩, rfl, by decide, by decide⟩ rfl (by decide) (by kernel_rfl) ?_
      intro H15 MH15
      have hsH15 := MH15.size
      replace g1 := g1.fr (MH15.fr nowhere) (fun _ _ _ => nw)
      replace g2 := g2.fr (MH15.fr nowhere) (fun _ _ _ => nw)
      replace tc := tc.fr (MH15.fr nowhere) (fun _ _ _ => nw)
      replace cnt := (MH15.fr nowhere).keep cnt nw
      replace hptr := (MH15.fr nowhere).keep hptr nw
      replace hF := hF.trans' (MH15.fr nowhere) (fun _ _ _ h => h) (fun _ _ _ h => h.elim)
      replace mi := (MH15.fr nowhere).rd mi (fun _ _ => nw)
      replace m8w := (MH15.fr nowhere).wr m8w
      replace m14 := (MH15.fr nowhere).rd m14 (fun _ _ => nw)
      replace q0 := (MH15.fr nowhere).keep q0 nw
      replace q1 := (MH15.fr nowhere).keep q1 nw
      replace q2 := (MH15.fr nowhere).keep q2 nw
      replace q3 := (MH15.fr nowhere).keep q3 nw
      replace qw := (MH15.fr nowhere).wr qw
      replace qh := (MH15.fr nowhere).keep qh nw
      replace qhw := (MH15.fr nowhere).wr qhw
      replace hksl := hksl.fr (MH15.fr nowhere) (fun _ _ _ => nw)
      have m16 : Rd H15 H14.size 0 (EI.enc med) := MH15.rd _ [] (by simp)
      refine ⟨⟨hptr, m14⟩, ?_⟩
      refine O.bsl (cs := []) rfl rfl rfl ⟨Go.Proofs.Try.underlying202, Go.Proofs.Try.sizeOf138, Go.Proofs.Try.zeroValue138, ⟨_, Go.Proofs.Try.typeInfo138, rfl⟩, rfl, by decide, by decide⟩ rfl (by decide) (by kernel_rfl) ?_
      intro H16 MH16
      have hsH16 := MH16.size
      replace g1 := g1.fr (MH16.fr nowhere) (fun _ _ _ => nw)
      replace g2 := g2.fr (MH16.fr nowhere) (fun _ _ _ => nw)
      replace tc := tc.fr (MH16.fr nowhere) (fun _ _ _ => nw)
      replace cnt := (MH16.fr nowhere).keep cnt nw
      replace hptr := (MH16.fr nowhere).keep hptr nw
      replace hF := hF.trans' (MH16.fr nowhere) (fun _ _ _ h => h) (fun _ _ _ h => h.elim)
      replace mi := (MH16.fr nowhere).rd mi (fun _ _ => nw)
      replace m8w := (MH16.fr nowhere).wr m8w
      replace m14 := (MH16.fr nowhere).rd m14 (fun _ _ => nw)
      replace q0 := (MH16.fr nowhere).keep q0 nw
      replace q1 := (MH16.fr nowhere).keep q1 nw
      replace q2 := (MH16.fr nowhere).keep q2 nw
      replace q3 := (MH16.fr nowhere).keep q3 nw
      replace qw := (MH16.fr nowhere).wr qw
      replace qh := (MH16.fr nowhere).keep qh nw
      replace qhw := (MH16.fr nowhere).wr qhw
      replace hksl := hksl.fr (MH16.fr nowhere) (fun _ _ _ => nw)
      replace m16 := (MH16.fr nowhere).rd m16 (fun _ _ => nw)
      refine ⟨⟨hptr, m14⟩, ?_⟩
      refine O.app (m := 1) (news := (EI.enc med)) rfl rfl rfl ⟨Go.Proofs.Try.underlying202, Go.Proofs.Try.sizeOf138, Go.Proofs.Try.zeroValue138, ⟨_, Go.Proofs.Try.typeInfo138, rfl⟩, rfl, by decide, by decide⟩ rfl (Sl.none _ _ _ _) rfl (.inl ⟨_, _, _, rfl, m16⟩) rfl rfl (Nat.le_trans (Nat.mul_le_mul_left _ (Nat.le_of_ble_eq_true (n := _) (m := 4096) rfl)) (by omega)) (by omega) ?_
      intro b' o' c' H17 ha2
      obtain ⟨hbn, rfl, hs17, hcn, fa2⟩ := ha2.fromNone (by decide)
      have hisl : SlE EI H17 b' 0 c' [med] := ha2.sl
      replace g1 := g1.fr fa2 (fun _ _ _ => nw)
      replace g2 := g2.fr fa2 (fun _ _ _ => nw)
      replace tc := tc.fr fa2 (fun _ _ _ => nw)
      replace cnt := fa2.keep cnt nw
      replace hptr := fa2.keep hptr nw
      replace hF := hF.trans' fa2 (fun _ _ _ h => h) (fun _ _ _ h => h.elim)
      replace mi := fa2.rd mi (fun _ _ => nw)
      replace m8w := fa2.wr m8w
      replace m14 := fa2.rd m14 (fun _ _ => nw)
      replace q0 := fa2.keep q0 nw
      replace q1 := fa2.keep q1 nw
      replace q2 := fa2.keep q2 nw
      replace q3 := fa2.keep q3 nw
      replace qw := fa2.wr qw
      replace qh := fa2.keep qh nw
      replace qhw := fa2.wr qhw
      replace hksl := hksl.fr fa2 (fun _ _ _ => nw)
      refine ⟨⟨hptr, m14⟩, ?_⟩
      refine O.nc rfl rfl rfl rfl rfl ?_
      refine O.fa0 (off := 2) rfl rfl rfl rfl ⟨_, _, _, Go.Proofs.Try.underlying205, rfl, rfl, Go.Proofs.Try.sizeOf202⟩ rfl ?_
      refine O.st3 rfl rfl Go.Proofs.Try.sizeOf202 rfl rfl rfl rfl rfl (qw.at0 2 1 (by omega)) ?_
      intro H18 W18
      have hs18 := W18.size
      replace g1 := g1.fr W18.fr (fun b o hb => nr (.inl (by have := l1 b o hb; omega)))
      replace g2 := g2.fr W18.fr (fun b o hb => nr (.inl (by have := l2 b o hb; omega)))
      replace tc := tc.fr W18.fr (fun o _ _ => nr (.inl (by omega)))
      replace cnt := W18.fr.keep cnt (nr (.inl (by omega)))
      replace hptr := W18.fr.keep hptr (nr (.inl (by omega)))
      replace hF := hF.trans' W18.fr (fun _ _ _ h => h) (fun b o hb h => by have h' := h.1; omega)
      replace mi := W18.fr.rd mi (fun _ _ => nr (.inl (by omega)))
      replace m8w := W18.fr.wr m8w
      replace m14 := W18.fr.rd m14 (fun _ _ => nr (.inl (by omega)))
      replace qw := W18.fr.wr qw
      replace qh := W18.fr.keep qh (nr (.inl (by omega)))
      replace qhw := W18.fr.wr qhw
      replace hksl := hksl.fr W18.fr (fun _ _ _ => nr (.inl (by omega)))
      replace hisl := hisl.fr W18.fr (fun _ _ _ => nr (.inl (by omega)))
      replace q0 := W18.keep1 q0 (by omega)
      replace q1 := W18.keep1 q1 (by omega)
      replace q2 := W18.at
      replace q3 := W18.keep1 q3 (by omega)
      refine Pl.fin [(0, .pointer (some ⟨tr, 0, none⟩)), (6, .pointer (some ⟨Ha.size, 0, none⟩)), (8, .pointer (some ⟨H.size, 0, none⟩))] ⟨rfl, rfl, rfl, trivial⟩ (hj _ ?_)
      exact ⟨b', c', by omega, by omega, hcn, hisl, hksl, qh, q2, g1, g2, tc, cnt, hptr, hF, mi, m14, q0, q1, q3, qw, qhw, m8w⟩
    clear q2
    rintro H18 ⟨b', c', hbn1, hbn2, hcn, hisl, hksl, qh, q2, g1, g2, tc, cnt, hptr, hF, mi, m14, q0, q1, q3, qw, qhw, m8w⟩
    refine Go'.seq ?_
    obtain ⟨cc1, cd1⟩ := g1.cnOf
    obtain ⟨cc2, cd2⟩ := g2.cnOf
    have hLs : (Gt.L h t).length = (Gt.L h t1).length + ((Gt.L h t2).length + 1) := by rw [hS.l, List.length_append, List.length_cons]
    have hsm : (([Gt.p h t1, Gt.p h t2].map (cnOf H18)).sum) = (Gt.L h t1).length + (Gt.L h t2).length := by
      simp only [List.map_cons, List.map_nil, List.sum_cons, List.sum_nil, cd1, cd2, Nat.add_zero]
    -- region 17 (map.go:178)
    refine Go'.region [(0, 0), (1, 0), (2, 0), (3, 1), (4, 2)] rfl ?_
    refine O.mv rfl rfl rfl rfl rfl ?_
    refine O.nc rfl rfl rfl rfl rfl ?_
    refine O.fa0 (off := 2) rfl rfl rfl rfl ⟨_, _, _, Go.Proofs.Try.underlying140, rfl, rfl, Go.Proofs.Try.sizeOf135⟩ rfl ?_
    refine O.ld rfl rfl rfl (fun w => ⟨Go.Proofs.Try.isAgg135 w, Go.Proofs.Try.sizeOf135 w⟩) rfl hptr ?_
    refine O.call rfl rfl rfl Go.Proofs.Try.call163 rfl (updInner_spec (m := 1) (qs := [Gt.p h t1, Gt.p h t2]) (cnOf H18) (qw.at0 1 1 (by omega)) q2 q3 qh hksl (fun z hz => by
        simp only [List.mem_cons, List.not_mem_nil, or_false] at hz
        rcases hz with rfl | rfl
        · exact ⟨cc1, by omega⟩
        · exact ⟨cc2, by omega⟩) (by omega) (by rw [hsm]; omega) (by simp)) ?_
    rintro _ H19 ⟨F19, hs19, q1'⟩
    rw [hsm] at q1'
    replace g1 := g1.fr F19 (fun b o hb => nr (.inl (by have := l1 b o hb; omega)))
    replace g2 := g2.fr F19 (fun b o hb => nr (.inl (by have := l2 b o hb; omega)))
    replace tc := tc.fr F19 (fun o _ _ => nr (.inl (by omega)))
    replace cnt := F19.keep cnt (nr (.inl (by omega)))
    replace hptr := F19.keep hptr (nr (.inl (by omega)))
    replace hF := hF.trans' F19 (fun _ _ _ h => h) (fun b o hb h => by have h' := h.1; omega)
    replace mi := F19.rd mi (fun _ _ => nr (.inl (by omega)))
    replace m8w := F19.wr m8w
    replace m14 := F19.rd m14 (fun _ _ => nr (.inl (by omega)))
    replace qw := F19.wr qw
    replace qh := F19.keep qh (nr (.inl (by omega)))
    replace qhw := F19.wr qhw
    replace hksl := hksl.fr F19 (fun _ _ _ => nr (.inl (by omega)))
    replace hisl := hisl.fr F19 (fun _ _ _ => nr (.inl (by omega)))
    replace q0 := F19.keep q0 (nr (by omega))
    replace q2 := F19.keep q2 (nr (by omega))
    replace q3 := F19.keep q3 (nr (by omega))
    refine ⟨trivial, ?_⟩
    refine Pl.fin [(0, _), (6, _), (8, _)] ⟨rfl, rfl, rfl, trivial⟩ ?_
    refine Go'.seq ?_
    have d1 : ∀ b o, Gt.af h t1 b o → ¬ ncl EI (⟨q, P.iso, 1 + ((Gt.L h t1).length + (Gt.L h t2).length), b', 0, c', q + 1, bk, 0, ck⟩ : Ng) b o ∧ ¬ kcl (⟨q, P.iso, 1 + ((Gt.L h t1).length + (Gt.L h t2).length), b', 0, c', q + 1, bk, 0, ck⟩ : Ng) b o := fun b o hb => by
      have := l1 b o hb
      refine ⟨fun hn => ?_, fun hn => ?_⟩ <;> rcases hn with hn | hn <;> (have h9 := hn.1; simp only at h9; omega)
    have d2 : ∀ b o, Gt.af h t2 b o → ¬ ncl EI (⟨q, P.iso, 1 + ((Gt.L h t1).length + (Gt.L h t2).length), b', 0, c', q + 1, bk, 0, ck⟩ : Ng) b o ∧ ¬ kcl (⟨q, P.iso, 1 + ((Gt.L h t1).length + (Gt.L h t2).length), b', 0, c', q + 1, bk, 0, ck⟩ : Ng) b o := fun b o hb => by
      have := l2 b o hb
      refine ⟨fun hn => ?_, fun hn => ?_⟩ <;> rcases hn with hn | hn <;> (have h9 := hn.1; simp only at h9; omega)
    have hLt : Gt.L (h + 1) (((⟨q, P.iso, 1 + ((Gt.L h t1).length + (Gt.L h t2).length), b', 0, c', q + 1, bk, 0, ck⟩ : Ng), [med], [t1, t2]) : Gt EI (h + 1)) = Gt.L h t := by
      rw [hS.l]; rfl
    have hG : Gt.Good H19 P (h + 1) (((⟨q, P.iso, 1 + ((Gt.L h t1).length + (Gt.L h t2).length), b', 0, c', q + 1, bk, 0, ck⟩ : Ng), [med], [t1, t2]) : Gt EI (h + 1)) := by
      refine ⟨⟨q0, q1', q2, q3, qw, hisl, ?_, ?_⟩, ⟨qh, qhw, hksl, ?_, ?_, ?_, ?_, ?_, ?_⟩, rfl, ?_, ?_, rfl, fun m hm => ?_, List.pairwise_pair.2 hS.dis⟩
      · show 0 < c'; omega
      · show q ≠ b'; omega
      · show 0 < ck; omega
      · show q + 1 ≠ bk; omega
      · show q ≠ q + 1; omega
      · show q ≠ bk; omega
      · show b' ≠ q + 1; omega
      · show b' ≠ bk; omega
      · rw [hLt, hLs]; show 1 + _ = _; omega
      · show 1 ≤ P.mx; omega
      · simp only [List.mem_cons, List.not_mem_nil, or_false] at hm
        rcases hm with rfl | rfl
        · exact ⟨g1, Nat.le_of_eq hS.x1.symm, d1⟩
        · exact ⟨g2, Nat.le_of_eq hS.x2.symm, d2⟩
    have haf : ∀ b o, Gt.af (h + 1) (((⟨q, P.iso, 1 + ((Gt.L h t1).length + (Gt.L h t2).length), b', 0, c', q + 1, bk, 0, ck⟩ : Ng), [med], [t1, t2]) : Gt EI (h + 1)) b o → Gt.af h t b o ∨ H.size ≤ b := fun b o hb => by
      rcases hb with hb | hb | ⟨m, hm, hb⟩
      · right; rcases hb with hb | hb <;> (have h9 := hb.1; simp only at h9; omega)
      · right; rcases hb with hb | hb <;> (have h9 := hb.1; simp only at h9; omega)
      · simp only [List.mem_cons, List.not_mem_nil, or_false] at hm
        rcases hm with rfl | rfl
        · exact (hS.a1 b o hb).imp id (fun h => by omega)
        · exact (hS.a2 b o hb).imp id (fun h => by omega)
    have hM1 : MapM H19 tr P (fun b => S b ∨ (H.size ≤ b ∧ b < H19.size)) (Gt.L h t) := ⟨tc, srt, cnt, .inl own, fun b hb => hb.elim (fun h => by have := lt b h; omega) (fun h => h.2),
      .inr ⟨h + 1, _, hG, by show 1 ≤ 1; omega, hLt, hptr, fun o ho => (haf _ _ ho).elim (hnt o) (fun h => by omega), fun b o hb => (haf b o hb).imp (hown b o) (fun h => ⟨h, hG.lt hb⟩)⟩⟩
    have hR1 : RootT H19 tr P (fun b => S b ∨ (H.size ≤ b ∧ b < H19.size)) (Gt.L h t) (h + 1) _ := ⟨hG, by show 1 ≤ 1; omega, hLt, hptr, fun o ho => (haf _ _ ho).elim (hnt o) (fun h => by omega), fun b o hb => (haf b o hb).imp (hown b o) (fun h => ⟨h, hG.lt hb⟩)⟩
    have hs20 : H.size ≤ H19.size := by omega
    -- region 18 (map.go:179)
    refine Go'.region [(0, 0), (1, 0), (2, 1), (3, 1), (4, 1), (5, 2), (6, 0), (7, 0), (8, 2), (9, 0)] rfl ?_
    refine O.mv rfl rfl rfl rfl rfl ?_
    refine O.faz rfl rfl rfl rfl ⟨_, _, _, Go.Proofs.Try.underlying138, rfl, rfl, Go.Proofs.Try.sizeOf3⟩ rfl ?_
    refine O.ld rfl rfl rfl (fun w => ⟨Go.Proofs.Try.isAgg3 w, Go.Proofs.Try.sizeOf3 w⟩) rfl (mi 0 (.int .i64 x) rfl) ?_
    refine O.fz1 rfl rfl rfl ty ⟨_, _, Go.Proofs.Try.underlying138, rfl, rfl, rfl, Go.Proofs.Try.sizeOf136⟩ rfl m8w ?_
    refine O.lds rfl rfl rfl (fun w => ⟨Go.Proofs.Try.isAgg136 w, Go.Proofs.Try.sizeOf136 w⟩) rfl rfl (Rd.nil _ _ _) ?_
    refine O.call rfl rfl rfl Go.Proofs.Try.call135 rfl (again hful hM1 hR1 (by show 1 < P.mx; omega)) ?_
    rintro _ H20 ⟨rfl, S', hM', hF', hS'⟩
    refine ⟨trivial, ?_⟩
    refine O.ext rfl rfl rfl rfl rfl rfl ?_
    refine O.ext rfl rfl rfl rfl rfl rfl ?_
    refine O.st0 rfl rfl Go.Proofs.Try.sizeOf136 rfl rfl rfl trivial ?_
    refine O.asg rfl rfl rfl rfl rfl ?_
    refine Pl.fin [(0, _), (6, _), (7, _)] ⟨rfl, rfl, rfl, trivial⟩ ?_
    refine Go'.ret (vs := [_, _]) Go.Proofs.Try.func135 Go.Proofs.Try.results135 ⟨⟨_, _, rfl, fun _ _ => run_loadVar_agg (fun w => ⟨Go.Proofs.Try.isAgg136 w, Go.Proofs.Try.sizeOf136 w⟩) rfl (Rd.nil _ _ _)⟩, rfl, trivial⟩ ?_
    exact ⟨rfl, S', hM', hF.trans' hF' (fun _ _ _ h => h) (fun b o hb hz => hz.elim id (fun h => by omega)), fun b hb => (hS' b hb).elim (fun h => h.imp id (fun h => h.1)) (fun h => .inr (by omega))⟩

theorem mset_r {B : World} {H : Mem} {tr : Nat} {P : Ps} (hP : PsOk P) {S : Nat → Prop} {l : List Int} {x : Int} {h : Nat} {t : Gt EI h} (hM : MapM H tr P S l) (hR : RootT H tr P S l h t) (hlen : l.length < 2305843009213693952) :
    Fn Try.prog B 135 [.pointer (some ⟨tr, 0, none⟩), .int .i64 x, .agg #[]] H (SetP H tr P S l x) :=
  mset_root hP hM hR hlen fun _ _ _ _ _ hM1 hR1 hx => mset_root hP hM1 hR1 hlen fun hx' => absurd hx' (by omega)

theorem mset_spec {B : World} {H : Mem} {tr : Nat} {P : Ps} (hP : PsOk P) {S : Nat → Prop} {l : List Int} {x : Int} (hM : MapM H tr P S l) (hlen : l.length < 2305843009213693952) :
    Fn Try.prog B 135 [.pointer (some ⟨tr, 0, none⟩), .int .i64 x, .agg #[]] H (SetP H tr P S l x) := by
  obtain ⟨tc, srt, cnt, own, lt, hr⟩ := hM
  rcases hr with ⟨rfl, hptr⟩ | ⟨h, t, hg, hx1, e, hc, hnt, hown⟩
  rotate_left
  · exact mset_r hP ⟨tc, srt, cnt, own, lt, .inr ⟨h, t, hg, hx1, e, hc, hnt, hown⟩⟩ ⟨hg, hx1, e, hc, hnt, hown⟩ hlen
  have htl : tr < H.size := cl_lt tc.iso
  have hh1 := hP.h1
  have hmm := hP.hm
  have hF : Fr (fun b _ => S b) H H := Fr.refl _ _
  refine fn_of Go.Proofs.Try.func135 rfl Go.Proofs.Try.ntmps135 ?_
  refine (show Go' _ _ _ _ 144 [(0, _), (1, _), (2, _)] [.code _] _ from ?_)
  refine Go'.seq ?_
  -- region 0 (map.go:160)
  refine Go'.region [(0, 2), (1, 2), (2, 0)] rfl ?_
  refine O.box rfl rfl rfl rfl ?_
  intro Ha Ma
  refine ⟨trivial, ?_⟩
  refine O.alloc rfl rfl rfl Go.Proofs.Try.zeroValue136 ?_
  intro H Mb
  refine ⟨trivial, ?_⟩
  have hR0 := (Ma.fr nowhere).trans (Mb.fr nowhere)
  replace tc := tc.fr hR0 (fun _ _ _ => nw)
  replace cnt := hR0.keep cnt nw
  replace hptr := hR0.keep hptr nw
  replace lt : ∀ b, S b → b < H.size := fun b hb => Nat.lt_of_lt_of_le (lt b hb) hR0.size
  replace htl := Nat.lt_of_lt_of_le htl hR0.size
  replace hF : Fr (fun b _ => S b) H H := Fr.refl _ _
  refine O.asg rfl rfl rfl rfl rfl ?_
  refine Pl.fin [(0, _), (1, _), (5, _), (6, _), (7, _)] ⟨rfl, rfl, rfl, rfl, rfl, trivial⟩ ?_
  refine Go'.seq ?_
  refine Go'.mono (fun v H' hq => SetP.rebase hR0 hq) ?_
  clear hR0 Ma Mb
  -- region 1 (map.go:161)
  refine Go'.region [(0, 0), (1, 1), (2, 0), (3, 2), (4, 2)] rfl ?_
  refine O.mv rfl rfl rfl rfl rfl ?_
  refine O.lds rfl rfl rfl (fun w => ⟨Go.Proofs.Try.isAgg136 w, Go.Proofs.Try.sizeOf136 w⟩) rfl rfl (Rd.nil _ _ _) ?_
  refine O.bld (cs := (EI.enc x)) rfl rfl rfl rfl (st138) rfl (by kernel_rfl) ?_
  refine O.alloc rfl rfl rfl Go.Proofs.Try.zeroValue138 ?_
  intro H1 M1
  refine ⟨trivial, ?_⟩
  have hs1 := M1.size
  replace tc := tc.fr (M1.fr nowhere) (fun _ _ _ => nw)
  replace cnt := (M1.fr nowhere).keep cnt nw
  replace hptr := (M1.fr nowhere).keep hptr nw
  replace hF := hF.trans' (M1.fr nowhere) (fun _ _ _ h => h) (fun _ _ _ h => h.elim)
  have m8w : Wr H1 H.size 0 1 := M1.wr 1 (by decide)
  refine O.st rfl rfl Go.Proofs.Try.sizeOf138 rfl rfl rfl rfl rfl m8w ?_
  intro H2 W2
  have hs2 := W2.size
  replace tc := tc.fr W2.fr (fun o _ _ => nr (.inl (by omega)))
  replace cnt := W2.fr.keep cnt (nr (.inl (by omega)))
  replace hptr := W2.fr.keep hptr (nr (.inl (by omega)))
  replace hF := hF.trans' W2.fr (fun _ _ _ h => h) (fun b o hb h => by have h' := h.1; omega)
  have mi : Rd H2 H.size 0 (EI.enc x) := W2.all
  refine ⟨trivial, ?_⟩
  refine Pl.fin [(0, _), (6, _), (7, _), (8, _)] ⟨rfl, rfl, rfl, rfl, trivial⟩ ?_
  refine Go'.seq ?_
  refine Go'.seq ?_
  -- region 2 (map.go:162)
  refine Go'.region [(0, 0), (1, 0), (2, 0), (3, 1), (4, 0)] rfl ?_
  refine O.mv rfl rfl rfl rfl rfl ?_
  refine O.nc rfl rfl rfl rfl rfl ?_
  refine O.fa0 (off := 2) rfl rfl rfl rfl ⟨_, _, _, Go.Proofs.Try.underlying140, rfl, rfl, Go.Proofs.Try.sizeOf135⟩ rfl ?_
  refine O.ld rfl rfl rfl (fun w => ⟨Go.Proofs.Try.isAgg135 w, Go.Proofs.Try.sizeOf135 w⟩) rfl hptr ?_
  refine O.isNil rfl rfl rfl rfl Go.Proofs.Try.underlying135 rfl rfl ?_
  refine Pl.fin [(0, _), (6, _), (7, _), (8, _), (22, _)] ⟨rfl, rfl, rfl, rfl, rfl, trivial⟩ ?_
  refine Go'.condT rfl ?_
  refine Go'.seq ?_
  -- region 3 (map.go:163)
  refine Go'.region [(0, 0), (1, 2)] rfl ?_
  refine O.mv rfl rfl rfl rfl rfl ?_
  refine O.callQ rfl rfl rfl Go.Proofs.Try.call159 rfl (init_again tc hh1) trivial ?_
  refine Pl.fin [(0, _), (6, _), (7, _), (8, _)] ⟨rfl, rfl, rfl, rfl, trivial⟩ ?_
  refine Go'.seq ?_
  -- region 4 (map.go:164)
  refine Go'.region [(0, 0), (1, 0), (2, 2), (3, 0), (4, 0), (5, 2)] rfl ?_
  refine O.mv rfl rfl rfl rfl rfl ?_
  refine O.mv rfl rfl rfl rfl rfl ?_
  refine O.call rfl rfl rfl Go.Proofs.Try.call160 rfl (newLeaf_spec tc.iso) ?_
  rintro _ H3 ⟨rfl, hs3, F3, q0, q1, q2, q3, qw⟩
  replace tc := tc.fr F3 (fun _ _ _ => nw)
  replace cnt := F3.keep cnt nw
  replace hptr := F3.keep hptr nw
  replace hF := hF.trans' F3 (fun _ _ _ h => h) (fun _ _ _ h => h.elim)
  replace mi := F3.rd mi (fun _ _ => nw)
  generalize hqe : H2.size = q at *
  refine ⟨trivial, ?_⟩
  refine O.nc rfl rfl rfl rfl rfl ?_
  refine O.fa0 (off := 2) rfl rfl rfl rfl ⟨_, _, _, Go.Proofs.Try.underlying140, rfl, rfl, Go.Proofs.Try.sizeOf135⟩ rfl ?_
  refine O.st rfl rfl Go.Proofs.Try.sizeOf135 rfl rfl rfl rfl rfl (tc.wr.at0 2 1 (by omega)) ?_
  intro H4 W4
  have hs4 := W4.size
  replace tc := tc.fr (W4.fr' 1 rfl) (fun o h1 _ => nr (by omega))
  replace cnt := W4.keep1 cnt (by omega)
  replace hF := hF.trans' W4.fr (fun _ _ _ h => h) (fun b o _ h => by rw [h.1]; exact own)
  clear hptr
  have hptr : cl H4 tr 2 = some (.pointer (some ⟨q, 0, none⟩)) := W4.at
  replace mi := W4.fr.rd mi (fun _ _ => nr (.inl (by omega)))
  replace q0 := W4.keep1 q0 (by omega)
  replace q1 := W4.keep1 q1 (by omega)
  replace q2 := W4.keep1 q2 (by omega)
  replace q3 := W4.keep1 q3 (by omega)
  replace qw := W4.fr.wr qw
  refine ⟨trivial, ?_⟩
  refine Pl.fin [(0, _), (6, _), (7, _), (8, _)] ⟨rfl, rfl, rfl, rfl, trivial⟩ ?_
  refine Go'.seq ?_
  -- region 5 (map.go:165), two orders
  refine Go'.draw2 (fun H' => cl H' tr 2 = some (.pointer (some ⟨q, 0, none⟩)) ∧ Rd H' H.size 0 (EI.enc x)) (fun Hn => ∃ b' c' : Nat, H4.size ≤ b' ∧ b' < Hn.size ∧ 1 ≤ c' ∧ SlE EI Hn b' 0 c' [x] ∧ cl Hn q 2 = some (.slice (some ⟨b', 0, none⟩) 1 c') ∧ TrC Hn tr P.iso P.mx P.mn ∧ cl Hn tr 3 = some (.int .i64 0) ∧ cl Hn tr 2 = some (.pointer (some ⟨q, 0, none⟩)) ∧ Fr (fun b _ => S b) H Hn ∧ Rd Hn H.size 0 (EI.enc x) ∧ cl Hn q 0 = some (.int .u64 (P.iso : Int)) ∧ cl Hn q 1 = some (.int .i64 0) ∧ cl Hn q 3 = some (.pointer none) ∧ Wr Hn q 0 4) [(0, .pointer (some ⟨tr, 0, none⟩)), (6, .pointer (some ⟨Ha.size, 0, none⟩)), (8, .pointer (some ⟨H.size, 0, none⟩))] 4 6 [(0, 0), (1, 0), (2, 0), (3, 0), (5, 0), (4, 2), (6, 2), (7, 2), (8, 0), (9, 0), (10, 3)] [(0, 0), (1, 0), (2, 0), (3, 0), (5, 0), (6, 2), (4, 2), (7, 2), (8, 0), (9, 0), (10, 3)] (by kernel_rfl) (by kernel_rfl) (⟨hptr, mi⟩) ?_ ?_ ?_
  · intro _ _ _ hj
    refine O.mv rfl rfl rfl rfl rfl ?_
    refine O.nc rfl rfl rfl rfl rfl ?_
    refine O.fa0 (off := 2) rfl rfl rfl rfl ⟨_, _, _, Go.Proofs.Try.underlying140, rfl, rfl, Go.Proofs.Try.sizeOf135⟩ rfl ?_
    refine O.ldC rfl rfl rfl (fun w => ⟨Go.Proofs.Try.isAgg135 w, Go.Proofs.Try.sizeOf135 w⟩) rfl (fun _ h => h.1) ?_
    refine O.ldsC rfl rfl rfl (fun w => ⟨Go.Proofs.Try.isAgg138 w, Go.Proofs.Try.sizeOf138 w⟩) rfl rfl (fun _ h => h.2) ?_
    refine O.bsl (cs := []) rfl rfl rfl ⟨Go.Proofs.Try.underlying202, Go.Proofs.Try.sizeOf138, Go.Proofs.Try.zeroValue138, ⟨_, Go.Proofs.Try.typeInfo138, rfl⟩, rfl, by decide, by decide⟩ rfl (by decide) (by kernel_rfl) ?_
    intro H5 MH5
    have hsH5 := MH5.size
    replace tc := tc.fr (MH5.fr nowhere) (fun _ _ _ => nw)
    replace cnt := (MH5.fr nowhere).keep cnt nw
    replace hptr := (MH5.fr nowhere).keep hptr nw
    replace hF := hF.trans' (MH5.fr nowhere) (fun _ _ _ h => h) (fun _ _ _ h => h.elim)
    replace mi := (MH5.fr nowhere).rd mi (fun _ _ => nw)
    replace q0 := (MH5.fr nowhere).keep q0 nw
    replace q1 := (MH5.fr nowhere).keep q1 nw
    replace q2 := (MH5.fr nowhere).keep q2 nw
    replace q3 := (MH5.fr nowhere).keep q3 nw
    replace qw := (MH5.fr nowhere).wr qw
    refine ⟨⟨hptr, mi⟩, ?_⟩
    refine O.bsl (cs := (EI.enc x)) rfl rfl rfl ⟨Go.Proofs.Try.underlying202, Go.Proofs.Try.sizeOf138, Go.Proofs.Try.zeroValue138, ⟨_, Go.Proofs.Try.typeInfo138, rfl⟩, rfl, by decide, by decide⟩ rfl (by decide) (by kernel_rfl) ?_
    intro H6 MH6
    have hsH6 := MH6.size
    replace tc := tc.fr (MH6.fr nowhere) (fun _ _ _ => nw)
    replace cnt := (MH6.fr nowhere).keep cnt nw
    replace hptr := (MH6.fr nowhere).keep hptr nw
    replace hF := hF.trans' (MH6.fr nowhere) (fun _ _ _ h => h) (fun _ _ _ h => h.elim)
    replace mi := (MH6.fr nowhere).rd mi (fun _ _ => nw)
    replace q0 := (MH6.fr nowhere).keep q0 nw
    replace q1 := (MH6.fr nowhere).keep q1 nw
    replace q2 := (MH6.fr nowhere).keep q2 nw
    replace q3 := (MH6.fr nowhere).keep q3 nw
    replace qw := (MH6.fr nowhere).wr qw
    have m6 : Rd H6 H5.size 0 (EI.enc x) := MH6.rd _ [] (by simp)
    refine ⟨⟨hptr, mi⟩, ?_⟩
    refine O.app (m := 1) (news := (EI.enc x)) rfl rfl rfl ⟨Go.Proofs.Try.underlying202, Go.Proofs.Try.sizeOf138, Go.Proofs.Try.zeroValue138, ⟨_, Go.Proofs.Try.typeInfo138, rfl⟩, rfl, by decide, by decide⟩ rfl (Sl.none _ _ _ _) rfl (.inl ⟨_, _, _, rfl, m6⟩) rfl rfl (Nat.le_trans (Nat.mul_le_mul_left _ (Nat.le_of_ble_eq_true (n := _) (m := 4096) rfl)) (by omega)) (by omega) ?_
    intro b' o' c' H7 ha2
    obtain ⟨hbn, rfl, hs7, hcn, fa2⟩ := ha2.fromNone (by decide)
    have hisl : SlE EI H7 b' 0 c' [x] := ha2.sl
    replace tc := tc.fr fa2 (fun _ _ _ => nw)
    replace cnt := fa2.keep cnt nw
    replace hptr := fa2.keep hptr nw
    replace hF := hF.trans' fa2 (fun _ _ _ h => h) (fun _ _ _ h => h.elim)
    replace mi := fa2.rd mi (fun _ _ => nw)
    replace q0 := fa2.keep q0 nw
    replace q1 := fa2.keep q1 nw
    replace q2 := fa2.keep q2 nw
    replace q3 := fa2.keep q3 nw
    replace qw := fa2.wr qw
    refine ⟨⟨hptr, mi⟩, ?_⟩
    refine O.nc rfl rfl rfl rfl rfl ?_
    refine O.fa0 (off := 2) rfl rfl rfl rfl ⟨_, _, _, Go.Proofs.Try.underlying205, rfl, rfl, Go.Proofs.Try.sizeOf202⟩ rfl ?_
    refine O.st3 rfl rfl Go.Proofs.Try.sizeOf202 rfl rfl rfl rfl rfl (qw.at0 2 1 (by omega)) ?_
    intro H8 W8
    have hs8 := W8.size
    replace tc := tc.fr W8.fr (fun o _ _ => nr (.inl (by omega)))
    replace cnt := W8.fr.keep cnt (nr (.inl (by omega)))
    replace hptr := W8.fr.keep hptr (nr (.inl (by omega)))
    replace hF := hF.trans' W8.fr (fun _ _ _ h => h) (fun b o hb h => by have h' := h.1; omega)
    replace mi := W8.fr.rd mi (fun _ _ => nr (.inl (by omega)))
    replace q0 := W8.keep1 q0 (by omega)
    replace q1 := W8.keep1 q1 (by omega)
    replace q2 := W8.at
    replace q3 := W8.keep1 q3 (by omega)
    replace qw := W8.fr.wr qw
    replace hisl := hisl.fr W8.fr (fun _ _ _ => nr (.inl (by omega)))
    refine Pl.fin [(0, .pointer (some ⟨tr, 0, none⟩)), (6, .pointer (some ⟨Ha.size, 0, none⟩)), (8, .pointer (some ⟨H.size, 0, none⟩))] ⟨rfl, rfl, rfl, trivial⟩ (hj _ ?_)
    exact ⟨b', c', by omega, by omega, hcn, hisl, q2, tc, cnt, hptr, hF, mi, q0, q1, q3, qw⟩
  · intro _ _ _ hj
    refine O.mv rfl rfl rfl rfl rfl ?_
    refine O.nc rfl rfl rfl rfl rfl ?_
    refine O.fa0 (off := 2) rfl rfl rfl rfl ⟨_, _, _, Go.Proofs.Try.underlying140, rfl, rfl, Go.Proofs.Try.sizeOf135⟩ rfl ?_
    refine O.ldC rfl rfl rfl (fun w => ⟨Go.Proofs.Try.isAgg135 w, Go.Proofs.Try.sizeOf135 w⟩) rfl (fun _ h => h.1) ?_
    refine O.ldsC rfl rfl rfl (fun w => ⟨Go.Proofs.Try.isAgg138 w, Go.Proofs.Try.sizeOf138 w⟩) rfl rfl (fun _ h => h.2) ?_
    refine O.bsl (cs := (EI.enc x)) rfl rfl rfl ⟨Go.Proofs.Try.underlying202, Go.Proofs.Try.sizeOf138, Go.Proofs.Try.zeroValue138, ⟨_, Go.Proofs.Try.typeInfo138, rfl⟩, rfl, by decide, by decide⟩ rfl (by decide) (by kernel_rfl) ?_
    intro H5 MH5
    have hsH5 := MH5.size
    replace tc := tc.fr (MH5.fr nowhere) (fun _ _ _ => nw)
    replace cnt := (MH5.fr nowhere).keep cnt nw
    replace hptr := (MH5.fr nowhere).keep hptr nw
    replace hF := hF.trans' (MH5.fr nowhere) (fun _ _ _ h => h) (fun _ _ _ h => h.elim)
    replace mi := (MH5.fr nowhere).rd mi (fun _ _ => nw)
    replace q0 := (MH5.fr nowhere).keep q0 nw
    replace q1 := (MH5.fr nowhere).keep q1 nw
    replace q2 := (MH5.fr nowhere).keep q2 nw
    replace q3 := (MH5.fr nowhere).keep q3 nw
    replace qw := (MH5.fr nowhere).wr qw
    have m6 : Rd H5 H4.size 0 (EI.enc x) := MH5.rd _ [] (by simp)
    refine ⟨⟨hptr, mi⟩, ?_⟩
    refine O.bsl (cs := []) rfl rfl rfl ⟨Go.Proofs.Try.underlying202, Go.Proofs.Try.sizeOf138, Go.Proofs.Try.zeroValue138, ⟨_, Go.Proofs.Try.typeInfo138, rfl⟩, rfl, by decide, by decide⟩ rfl (by decide) (by kernel_rfl) ?_
    intro H6 MH6
    have hsH6 := MH6.size
    replace tc := tc.fr (MH6.fr nowhere) (fun _ _ _ => nw)
    replace cnt := (MH6.fr nowhere).keep cnt nw
    replace hptr := (MH6.fr nowhere).keep hptr nw
    replace hF := hF.trans' (MH6.fr nowhere) (fun _ _ _ h => h) (fun _ _ _ h => h.elim)
    replace mi := (MH6.fr nowhere).rd mi (fun _ _ => nw)
    replace q0 := (MH6.fr nowhere).keep q0 nw
    replace q1 := (MH6.fr nowhere).keep q1 nw
    replace q2 := (MH6.fr nowhere).keep q2 nw
    replace q3 := (MH6.fr nowhere).keep q3 nw
    replace qw := (MH6.fr nowhere).wr qw
    replace m6 := (MH6.fr nowhere).rd m6 (fun _ _ => nw)
    refine ⟨⟨hptr, mi⟩, ?_⟩
    refine O.app (m := 1) (news := (EI.enc x)) rfl rfl rfl ⟨Go.Proofs.Try.underlying202, Go.Proofs.Try.sizeOf138, Go.Proofs.Try.zeroValue138, ⟨_, Go.Proofs.Try.typeInfo138, rfl⟩, rfl, by decide, by decide⟩ rfl (Sl.none _ _ _ _) rfl (.inl ⟨_, _, _, rfl, m6⟩) rfl rfl (Nat.le_trans (Nat.mul_le_mul_left _ (Nat.le_of_ble_eq_true (n := _) (m := 4096) rfl)) (by omega)) (by omega) ?_
    intro b' o' c' H7 ha2
    obtain ⟨hbn, rfl, hs7, hcn, fa2⟩ := ha2.fromNone (by decide)
    have hisl : SlE EI H7 b' 0 c' [x] := ha2.sl
    replace tc := tc.fr fa2 (fun _ _ _ => nw)
    replace cnt := fa2.keep cnt nw
    replace hptr := fa2.keep hptr nw
    replace hF := hF.trans' fa2 (fun _ _ _ h => h) (fun _ _ _ h => h.elim)
    replace mi := fa2.rd mi (fun _ _ => nw)
    replace q0 := fa2.keep q0 nw
    replace q1 := fa2.keep q1 nw
    replace q2 := fa2.keep q2 nw
    replace q3 := fa2.keep q3 nw
    replace qw := fa2.wr qw
    refine ⟨⟨hptr, mi⟩, ?_⟩
    refine O.nc rfl rfl rfl rfl rfl ?_
    refine O.fa0 (off := 2) rfl rfl rfl rfl ⟨_, _, _, Go.Proofs.Try.underlying205, rfl, rfl, Go.Proofs.Try.sizeOf202⟩ rfl ?_
    refine O.st3 rfl rfl Go.Proofs.Try.sizeOf202 rfl rfl rfl rfl rfl (qw.at0 2 1 (by omega)) ?_
    intro H8 W8
    have hs8 := W8.size
    replace tc := tc.fr W8.fr (fun o _ _ => nr (.inl (by omega)))
    replace cnt := W8.fr.keep cnt (nr (.inl (by omega)))
    replace hptr := W8.fr.keep hptr (nr (.inl (by omega)))
    replace hF := hF.trans' W8.fr (fun _ _ _ h => h) (fun b o hb h => by have h' := h.1; omega)
    replace mi := W8.fr.rd mi (fun _ _ => nr (.inl (by omega)))
    replace q0 := W8.keep1 q0 (by omega)
    replace q1 := W8.keep1 q1 (by omega)
    replace q2 := W8.at
    replace q3 := W8.keep1 q3 (by omega)
    replace qw := W8.fr.wr qw
    replace hisl := hisl.fr W8.fr (fun _ _ _ => nr (.inl (by omega)))
    refine Pl.fin [(0, .pointer (some ⟨tr, 0, none⟩)), (6, .pointer (some ⟨Ha.size, 0, none⟩)), (8, .pointer (some ⟨H.size, 0, none⟩))] ⟨rfl, rfl, rfl, trivial⟩ (hj _ ?_)
    exact ⟨b', c', by omega, by omega, hcn, hisl, q2, tc, cnt, hptr, hF, mi, q0, q1, q3, qw⟩
  clear q2
  rintro H8 ⟨b', c', hbn1, hbn2, hcn, hisl, q2, tc, cnt, hptr, hF, mi, q0, q1, q3, qw⟩
  refine Go'.seq ?_
  -- region 6 (map.go:166)
  refine Go'.region [(0, 0), (1, 0), (2, 0), (3, 1), (4, 0), (5, 0), (6, 2)] rfl ?_
  refine O.mv rfl rfl rfl rfl rfl ?_
  refine O.nc rfl rfl rfl rfl rfl ?_
  refine O.fa0 (off := 2) rfl rfl rfl rfl ⟨_, _, _, Go.Proofs.Try.underlying140, rfl, rfl, Go.Proofs.Try.sizeOf135⟩ rfl ?_
  refine O.ld rfl rfl rfl (fun w => ⟨Go.Proofs.Try.isAgg135 w, Go.Proofs.Try.sizeOf135 w⟩) rfl hptr ?_
  refine O.nc rfl rfl rfl rfl rfl ?_
  refine O.fa0 (off := 1) rfl rfl rfl rfl ⟨_, _, _, Go.Proofs.Try.underlying205, rfl, rfl, Go.Proofs.Try.sizeOf3⟩ rfl ?_
  refine O.st rfl rfl Go.Proofs.Try.sizeOf3 rfl rfl rfl rfl rfl (qw.at0 1 1 (by omega)) ?_
  intro H9 W9
  have hs9 := W9.size
  replace tc := tc.fr W9.fr (fun o _ _ => nr (.inl (by omega)))
  replace cnt := W9.fr.keep cnt (nr (.inl (by omega)))
  replace hptr := W9.fr.keep hptr (nr (.inl (by omega)))
  replace hF := hF.trans' W9.fr (fun _ _ _ h => h) (fun b o hb h => by have h' := h.1; omega)
  replace mi := W9.fr.rd mi (fun _ _ => nr (.inl (by omega)))
  replace q0 := W9.keep1 q0 (by omega)
  replace q1 := W9.at
  replace q2 := W9.keep1 q2 (by omega)
  replace q3 := W9.keep1 q3 (by omega)
  replace qw := W9.fr.wr qw
  replace hisl := hisl.fr W9.fr (fun _ _ _ => nr (.inl (by omega)))
  refine ⟨trivial, ?_⟩
  refine Pl.fin [(0, _), (6, _), (8, _)] ⟨rfl, rfl, rfl, trivial⟩ ?_
  refine Go'.seq ?_
  -- region 7 (map.go:167)
  refine Go'.region [(0, 0), (1, 0), (2, 0), (3, 2)] rfl ?_
  refine O.mv rfl rfl rfl rfl rfl ?_
  refine O.nc rfl rfl rfl rfl rfl ?_
  refine O.fa0 (off := 3) rfl rfl rfl rfl ⟨_, _, _, Go.Proofs.Try.underlying140, rfl, rfl, Go.Proofs.Try.sizeOf3⟩ rfl ?_
  refine O.st rfl rfl Go.Proofs.Try.sizeOf3 rfl rfl rfl rfl rfl (tc.wr.at0 3 1 (by omega)) ?_
  intro H10 W10
  have hs10 := W10.size
  replace tc := tc.fr (W10.fr' 1 rfl) (fun o _ h2 => nr (by omega))
  replace hptr := W10.keep1 hptr (by omega)
  replace hF := hF.trans' W10.fr (fun _ _ _ h => h) (fun b o _ h => by rw [h.1]; exact own)
  replace q0 := W10.keep1 q0 (by omega)
  replace q1 := W10.keep1 q1 (by omega)
  replace q2 := W10.keep1 q2 (by omega)
  replace q3 := W10.keep1 q3 (by omega)
  replace qw := W10.fr.wr qw
  replace hisl := hisl.fr W10.fr (fun _ _ _ => nr (.inl (by omega)))
  refine ⟨trivial, ?_⟩
  refine Pl.fin [(0, _), (6, _), (8, _)] ⟨rfl, rfl, rfl, trivial⟩ ?_
  refine Go'.seq ?_
  -- region 8 (map.go:168)
  refine Go'.region [(0, 0), (1, 0), (2, 0), (3, 1), (4, 1), (5, 2), (6, 0)] rfl ?_
  refine O.mv rfl rfl rfl rfl rfl ?_
  refine O.nc rfl rfl rfl rfl rfl ?_
  refine O.fa0 (off := 4) rfl rfl rfl rfl ⟨_, _, _, Go.Proofs.Try.underlying140, rfl, rfl, Go.Proofs.Try.sizeOf138⟩ rfl ?_
  refine O.fz1 rfl rfl rfl ty ⟨_, _, Go.Proofs.Try.underlying138, rfl, rfl, rfl, Go.Proofs.Try.sizeOf136⟩ rfl (tc.wr.at0 4 1 (by omega)) ?_
  refine O.lds rfl rfl rfl (fun w => ⟨Go.Proofs.Try.isAgg136 w, Go.Proofs.Try.sizeOf136 w⟩) rfl rfl (Rd.nil _ _ _) ?_
  refine O.st0 rfl rfl Go.Proofs.Try.sizeOf136 rfl rfl rfl trivial ?_
  refine O.asg rfl rfl rfl rfl rfl ?_
  refine Pl.fin [(0, _), (6, _), (7, _), (8, _)] ⟨rfl, rfl, rfl, rfl, trivial⟩ ?_
  refine Go'.ret (vs := [_, _]) Go.Proofs.Try.func135 Go.Proofs.Try.results135 ⟨⟨_, _, rfl, fun _ _ => run_loadVar_agg (fun w => ⟨Go.Proofs.Try.isAgg136 w, Go.Proofs.Try.sizeOf136 w⟩) rfl (Rd.nil _ _ _)⟩, rfl, trivial⟩ ?_
  have hG : Gt.Good H10 P 0 (((⟨q, P.iso, 1, b', 0, c', 0, 0, 0, 0⟩ : Ng), [x]) : Gt EI 0) := ⟨⟨q0, q1, q2, q3, qw, hisl, by show 0 < c'; omega, by show q ≠ b'; omega⟩, rfl, rfl, by show 1 ≤ P.mx; omega⟩
  have haf : ∀ b o, Gt.af 0 (((⟨q, P.iso, 1, b', 0, c', 0, 0, 0, 0⟩ : Ng), [x]) : Gt EI 0) b o → H.size ≤ b := fun b o hb => by
    replace hb : ncl EI (⟨q, P.iso, 1, b', 0, c', 0, 0, 0, 0⟩ : Ng) b o := hb
    rcases hb with hb | hb <;> (have h9 := hb.1; simp only at h9; omega)
  exact ⟨rfl, fun b => S b ∨ (H.size ≤ b ∧ b < H10.size), ⟨tc, srt.put OI, W10.at, .inl own, fun b hb => hb.elim (fun h => by have := lt b h; omega) (fun h => h.2), .inr ⟨0, (((⟨q, P.iso, 1, b', 0, c', 0, 0, 0, 0⟩ : Ng), [x]) : Gt EI 0), hG, Nat.le_refl 1, rfl, hptr, fun o ho => by have := haf _ _ ho; omega, fun b o hb => .inr ⟨haf b o hb, hG.lt hb⟩⟩⟩, hF, fun b hb => hb.imp id (fun h => h.1)⟩

theorem mset_zero {B : World} {H : Mem} {tr : Nat} {x : Int} (hz : MapZ H tr) :
    Fn Try.prog B 135 [.pointer (some ⟨tr, 0, none⟩), .int .i64 x, .agg #[]] H (SetP H tr ⟨0, 63, 31⟩ (fun b => b = tr) [] x) := by
  have htl : tr < H.size := cl_lt hz.h0
  generalize hPe : (⟨0, 63, 31⟩ : Ps) = P
  generalize hSe : (fun b => b = tr : Nat → Prop) = S
  have hP : PsOk P := by subst hPe; exact ⟨rfl, by decide, by decide⟩
  have hh1 := hP.h1
  have hmm := hP.hm
  refine fn_of Go.Proofs.Try.func135 rfl Go.Proofs.Try.ntmps135 ?_
  refine (show Go' _ _ _ _ 144 [(0, _), (1, _), (2, _)] [.code _] _ from ?_)
  refine Go'.seq ?_
  -- region 0 (map.go:160)
  refine Go'.region [(0, 2), (1, 2), (2, 0)] rfl ?_
  refine O.box rfl rfl rfl rfl ?_
  intro Ha Ma
  refine ⟨trivial, ?_⟩
  refine O.alloc rfl rfl rfl Go.Proofs.Try.zeroValue136 ?_
  intro H Mb
  refine ⟨trivial, ?_⟩
  have hR0 := (Ma.fr nowhere).trans (Mb.fr nowhere)
  replace hz := hz.fr hR0 (fun _ => nw)
  replace htl := Nat.lt_of_lt_of_le htl hR0.size
  refine O.asg rfl rfl rfl rfl rfl ?_
  refine Pl.fin [(0, _), (1, _), (5, _), (6, _), (7, _)] ⟨rfl, rfl, rfl, rfl, rfl, trivial⟩ ?_
  refine Go'.seq ?_
  refine Go'.mono (fun v H' hq => SetP.rebase hR0 hq) ?_
  clear hR0 Ma Mb
  -- region 1 (map.go:161)
  refine Go'.region [(0, 0), (1, 1), (2, 0), (3, 2), (4, 2)] rfl ?_
  refine O.mv rfl rfl rfl rfl rfl ?_
  refine O.lds rfl rfl rfl (fun w => ⟨Go.Proofs.Try.isAgg136 w, Go.Proofs.Try.sizeOf136 w⟩) rfl rfl (Rd.nil _ _ _) ?_
  refine O.bld (cs := (EI.enc x)) rfl rfl rfl rfl (st138) rfl (by kernel_rfl) ?_
  refine O.alloc rfl rfl rfl Go.Proofs.Try.zeroValue138 ?_
  intro H1 M1
  refine ⟨trivial, ?_⟩
  have hs1 := M1.size
  replace hz := hz.fr (M1.fr nowhere) (fun _ => nw)
  have m8w : Wr H1 H.size 0 1 := M1.wr 1 (by decide)
  refine O.st rfl rfl Go.Proofs.Try.sizeOf138 rfl rfl rfl rfl rfl m8w ?_
  intro H2 W2
  have hs2 := W2.size
  replace hz := hz.fr W2.fr (fun _ => nr (.inl (by omega)))
  have hF : Fr nowhere H H2 := (M1.fr nowhere).trans' W2.fr (fun _ _ _ h => h) (fun b o hb h => by have h' := h.1; omega)
  have mi : Rd H2 H.size 0 (EI.enc x) := W2.all
  refine ⟨trivial, ?_⟩
  refine Pl.fin [(0, _), (6, _), (7, _), (8, _)] ⟨rfl, rfl, rfl, rfl, trivial⟩ ?_
  refine Go'.seq ?_
  refine Go'.seq ?_
  -- region 2 (map.go:162)
  refine Go'.region [(0, 0), (1, 0), (2, 0), (3, 1), (4, 0)] rfl ?_
  refine O.mv rfl rfl rfl rfl rfl ?_
  refine O.nc rfl rfl rfl rfl rfl ?_
  refine O.fa0 (off := 2) rfl rfl rfl rfl ⟨_, _, _, Go.Proofs.Try.underlying140, rfl, rfl, Go.Proofs.Try.sizeOf135⟩ rfl ?_
  refine O.ld rfl rfl rfl (fun w => ⟨Go.Proofs.Try.isAgg135 w, Go.Proofs.Try.sizeOf135 w⟩) rfl hz.h2 ?_
  refine O.isNil rfl rfl rfl rfl Go.Proofs.Try.underlying135 rfl rfl ?_
  refine Pl.fin [(0, _), (6, _), (7, _), (8, _), (22, _)] ⟨rfl, rfl, rfl, rfl, rfl, trivial⟩ ?_
  refine Go'.condT rfl ?_
  refine Go'.seq ?_
  -- region 3 (map.go:163)
  refine Go'.region [(0, 0), (1, 2)] rfl ?_
  refine O.mv rfl rfl rfl rfl rfl ?_
  refine O.call rfl rfl rfl Go.Proofs.Try.call159 rfl (init_new hz.h0 hz.h2 hz.h3 hz.he hz.h6 hz.h8 hz.h9 hz.hw) ?_
  rintro _ H2 ⟨rfl, hsz, hFz, hM, hptr⟩
  replace hs2 : H2.size = H1.size := by omega
  replace mi := hFz.rd mi (fun _ _ e => by have e' : H.size = tr := e; omega)
  rw [hPe, hSe] at hM
  obtain ⟨tc, srt, cnt, own, lt, _⟩ := hM
  replace hF : Fr (fun b _ => S b) H H2 := hF.trans' hFz (fun _ _ _ h => h.elim) (fun b o _ h => by subst hSe; exact h)
  clear hFz hz W2 m8w
  refine ⟨trivial, ?_⟩
  refine Pl.fin [(0, _), (6, _), (7, _), (8, _)] ⟨rfl, rfl, rfl, rfl, trivial⟩ ?_
  refine Go'.seq ?_
  -- region 4 (map.go:164)
  refine Go'.region [(0, 0), (1, 0), (2, 2), (3, 0), (4, 0), (5, 2)] rfl ?_
  refine O.mv rfl rfl rfl rfl rfl ?_
  refine O.mv rfl rfl rfl rfl rfl ?_
  refine O.call rfl rfl rfl Go.Proofs.Try.call160 rfl (newLeaf_spec tc.iso) ?_
  rintro _ H3 ⟨rfl, hs3, F3, q0, q1, q2, q3, qw⟩
  replace tc := tc.fr F3 (fun _ _ _ => nw)
  replace cnt := F3.keep cnt nw
  replace hptr := F3.keep hptr nw
  replace hF := hF.trans' F3 (fun _ _ _ h => h) (fun _ _ _ h => h.elim)
  replace mi := F3.rd mi (fun _ _ => nw)
  generalize hqe : H2.size = q at *
  refine ⟨trivial, ?_⟩
  refine O.nc rfl rfl rfl rfl rfl ?_
  refine O.fa0 (off := 2) rfl rfl rfl rfl ⟨_, _, _, Go.Proofs.Try.underlying140, rfl, rfl, Go.Proofs.Try.sizeOf135⟩ rfl ?_
  refine O.st rfl rfl Go.Proofs.Try.sizeOf135 rfl rfl rfl rfl rfl (tc.wr.at0 2 1 (by omega)) ?_
  intro H4 W4
  have hs4 := W4.size
  replace tc := tc.fr (W4.fr' 1 rfl) (fun o h1 _ => nr (by omega))
  replace cnt := W4.keep1 cnt (by omega)
  replace hF := hF.trans' W4.fr (fun _ _ _ h => h) (fun b o _ h => by rw [h.1]; exact own)
  clear hptr
  have hptr : cl H4 tr 2 = some (.pointer (some ⟨q, 0, none⟩)) := W4.at
  replace mi := W4.fr.rd mi (fun _ _ => nr (.inl (by omega)))
  replace q0 := W4.keep1 q0 (by omega)
  replace q1 := W4.keep1 q1 (by omega)
  replace q2 := W4.keep1 q2 (by omega)
  replace q3 := W4.keep1 q3 (by omega)
  replace qw := W4.fr.wr qw
  refine ⟨trivial, ?_⟩
  refine Pl.fin [(0, _), (6, _), (7, _), (8, _)] ⟨rfl, rfl, rfl, rfl, trivial⟩ ?_
  refine Go'.seq ?_
  -- region 5 (map.go:165), two orders
  refine Go'.draw2 (fun H' => cl H' tr 2 = some (.pointer (some ⟨q, 0, none⟩)) ∧ Rd H' H.size 0 (EI.enc x)) (fun Hn => ∃ b' c' : Nat, H4.size ≤ b' ∧ b' < Hn.size ∧ 1 ≤ c' ∧ SlE EI Hn b' 0 c' [x] ∧ cl Hn q 2 = some (.slice (some ⟨b', 0, none⟩) 1 c') ∧ TrC Hn tr P.iso P.mx P.mn ∧ cl Hn tr 3 = some (.int .i64 0) ∧ cl Hn tr 2 = some (.pointer (some ⟨q, 0, none⟩)) ∧ Fr (fun b _ => S b) H Hn ∧ Rd Hn H.size 0 (EI.enc x) ∧ cl Hn q 0 = some (.int .u64 (P.iso : Int)) ∧ cl Hn q 1 = some (.int .i64 0) ∧ cl Hn q 3 = some (.pointer none) ∧ Wr Hn q 0 4) [(0, .pointer (some ⟨tr, 0, none⟩)), (6, .pointer (some ⟨Ha.size, 0, none⟩)), (8, .pointer (some ⟨H.size, 0, none⟩))] 4 6 [(0, 0), (1, 0), (2, 0), (3, 0), (5, 0), (4, 2), (6, 2), (7, 2), (8, 0), (9, 0), (10, 3)] [(0, 0), (1, 0), (2, 0), (3, 0), (5, 0), (6, 2), (4, 2), (7, 2), (8, 0), (9, 0), (10, 3)] (by kernel_rfl) (by kernel_rfl) (⟨hptr, mi⟩) ?_ ?_ ?_
  · intro _ _ _ hj
    refine O.mv rfl rfl rfl rfl rfl ?_
    refine O.nc rfl rfl rfl rfl rfl ?_
    refine O.fa0 (off := 2) rfl rfl rfl rfl ⟨_, _, _, Go.Proofs.Try.underlying140, rfl, rfl, Go.Proofs.Try.sizeOf135⟩ rfl ?_
    refine O.ldC rfl rfl rfl (fun w => ⟨Go.Proofs.Try.isAgg135 w, Go.Proofs.Try.sizeOf135 w⟩) rfl (fun _ h => h.1) ?_
    refine O.ldsC rfl rfl rfl (fun w => ⟨Go.Proofs.Try.isAgg138 w, Go.Proofs.Try.sizeOf138 w⟩) rfl rfl (fun _ h => h.2) ?_
    refine O.bsl (cs := []) rfl rfl rfl ⟨Go.Proofs.Try.underlying202, Go.Proofs.Try.sizeOf138, Go.Proofs.Try.zeroValue138, ⟨_, Go.Proofs.Try.typeInfo138, rfl⟩, rfl, by decide, by decide⟩ rfl (by decide) (by kernel_rfl) ?_
    intro H5 MH5
    have hsH5 := MH5.size
    replace tc := tc.fr (MH5.fr nowhere) (fun _ _ _ => nw)
    replace cnt := (MH5.fr nowhere).keep cnt nw
    replace hptr := (MH5.fr nowhere).keep hptr nw
    replace hF := hF.trans' (MH5.fr nowhere) (fun _ _ _ h => h) (fun _ _ _ h => h.elim)
    replace mi := (MH5.fr nowhere).rd mi (fun _ _ => nw)
    replace q0 := (MH5.fr nowhere).keep q0 nw
    replace q1 := (MH5.fr nowhere).keep q1 nw
    replace q2 := (MH5.fr nowhere).keep q2 nw
    replace q3 := (MH5.fr nowhere).keep q3 nw
    replace qw := (MH5.fr nowhere).wr qw
    refine ⟨⟨hptr, mi⟩, ?_⟩
    refine O.bsl (cs := (EI.enc x)) rfl rfl rfl ⟨Go.Proofs.Try.underlying202, Go.Proofs.Try.sizeOf138, Go.Proofs.Try.zeroValue138, ⟨_, Go.Proofs.Try.typeInfo138, rfl⟩, rfl, by decide, by decide⟩ rfl (by decide) (by kernel_rfl) ?_
    intro H6 MH6
    have hsH6 := MH6.size
    replace tc := tc.fr (MH6.fr nowhere) (fun _ _ _ => nw)
    replace cnt := (MH6.fr nowhere).keep cnt nw
    replace hptr := (MH6.fr nowhere).keep hptr nw
    replace hF := hF.trans' (MH6.fr nowhere) (fun _ _ _ h => h) (fun _ _ _ h => h.elim)
    replace mi := (MH6.fr nowhere).rd mi (fun _ _ => nw)
    replace q0 := (MH6.fr nowhere).keep q0 nw
    replace q1 := (MH6.fr nowhere).keep q1 nw
    replace q2 := (MH6.fr nowhere).keep q2 nw
    replace q3 := (MH6.fr nowhere).keep q3 nw
    replace qw := (MH6.fr nowhere).wr qw
    have m6 : Rd H6 H5.size 0 (EI.enc x) := MH6.rd _ [] (by simp)
    refine ⟨⟨hptr, mi⟩, ?_⟩
    refine O.app (m := 1) (news := (EI.enc x)) rfl rfl rfl ⟨Go.Proofs.Try.underlying202, Go.Proofs.Try.sizeOf138, Go.Proofs.Try.zeroValue138, ⟨_, Go.Proofs.Try.typeInfo138, rfl⟩, rfl, by decide, by decide⟩ rfl (Sl.none _ _ _ _) rfl (.inl ⟨_, _, _, rfl, m6⟩) rfl rfl (Nat.le_trans (Nat.mul_le_mul_left _ (Nat.le_of_ble_eq_true (n := _) (m := 4096) rfl)) (by omega)) (by omega) ?_
    intro b' o' c' H7 ha2
    obtain ⟨hbn, rfl, hs7, hcn, fa2⟩ := ha2.fromNone (by decide)
    have hisl : SlE EI H7 b' 0 c' [x] := ha2.sl
    replace tc := tc.fr fa2 (fun _ _ _ => nw)
    replace cnt := fa2.keep cnt nw
    replace hptr := fa2.keep hptr nw
    replace hF := hF.trans' fa2 (fun _ _ _ h => h) (fun _ _ _ h => h.elim)
    replace mi := fa2.rd mi (fun _ _ => nw)
    replace q0 := fa2.keep q0 nw
    replace q1 := fa2.keep q1 nw
    replace q2 := fa2.keep q2 nw
    replace q3 := fa2.keep q3 nw
    replace qw := fa2.wr qw
    refine ⟨⟨hptr, mi⟩, ?_⟩
    refine O.nc rfl rfl rfl rfl rfl ?_
    refine O.fa0 (off := 2) rfl rfl rfl rfl ⟨_, _, _, Go.Proofs.Try.underlying205, rfl, rfl, Go.Proofs.Try.sizeOf202⟩ rfl ?_
    refine O.st3 rfl rfl Go.Proofs.Try.sizeOf202 rfl rfl rfl rfl rfl (qw.at0 2 1 (by omega)) ?_
    intro H8 W8
    have hs8 := W8.size
    replace tc := tc.fr W8.fr (fun o _ _ => nr (.inl (by omega)))
    replace cnt := W8.fr.keep cnt (nr (.inl (by omega)))
    replace hptr := W8.fr.keep hptr (nr (.inl (by omega)))
    replace hF := hF.trans' W8.fr (fun _ _ _ h => h) (fun b o hb h => by have h' := h.1; omega)
    replace mi := W8.fr.rd mi (fun _ _ => nr (.inl (by omega)))
    replace q0 := W8.keep1 q0 (by omega)
    replace q1 := W8.keep1 q1 (by omega)
    replace q2 := W8.at
    replace q3 := W8.keep1 q3 (by omega)
    replace qw := W8.fr.wr qw
    replace hisl := hisl.fr W8.fr (fun _ _ _ => nr (.inl (by omega)))
    refine Pl.fin [(0, .pointer (some ⟨tr, 0, none⟩)), (6, .pointer (some ⟨Ha.size, 0, none⟩)), (8, .pointer (some ⟨H.size, 0, none⟩))] ⟨rfl, rfl, rfl, trivial⟩ (hj _ ?_)
    exact ⟨b', c', by omega, by omega, hcn, hisl, q2, tc, cnt, hptr, hF, mi, q0, q1, q3, qw⟩
  · intro _ _ _ hj
    refine O.mv rfl rfl rfl rfl rfl ?_
    refine O.nc rfl rfl rfl rfl rfl ?_
    refine O.fa0 (off := 2) rfl rfl rfl rfl ⟨_, _, _, Go.Proofs.Try.underlying140, rfl, rfl, Go.Proofs.Try.sizeOf135⟩ rfl ?_
    refine O.ldC rfl rfl rfl (fun w => ⟨Go.Proofs.Try.isAgg135 w, Go.Proofs.Try.sizeOf135 w⟩) rfl (fun _ h => h.1) ?_
    refine O.ldsC rfl rfl rfl (fun w => ⟨Go.Proofs.Try.isAgg138 w, Go.Proofs.Try.sizeOf138 w⟩) rfl rfl (fun _ h => h.2) ?_
    refine O.bsl (cs := (EI.enc x)) rfl rfl rfl ⟨Go.Proofs.Try.underlying202, Go.Proofs.Try.sizeOf138, Go.Proofs.Try.zeroValue138, ⟨_, Go.Proofs.Try.typeInfo138, rfl⟩, rfl, by decide, by decide⟩ rfl (by decide) (by kernel_rfl) ?_
    intro H5 MH5
    have hsH5 := MH5.size
    replace tc := tc.fr (MH5.fr nowhere) (fun _ _ _ => nw)
    replace cnt := (MH5.fr nowhere).keep cnt nw
    replace hptr := (MH5.fr nowhere).keep hptr nw
    replace hF := hF.trans' (MH5.fr nowhere) (fun _ _ _ h => h) (fun _ _ _ h => h.elim)
    replace mi := (MH5.fr nowhere).rd mi (fun _ _ => nw)
    replace q0 := (MH5.fr nowhere).keep q0 nw
    replace q1 := (MH5.fr nowhere).keep q1 nw
    replace q2 := (MH5.fr nowhere).keep q2 nw
    replace q3 := (MH5.fr nowhere).keep q3 nw
    replace qw := (MH5.fr nowhere).wr qw
    have m6 : Rd H5 H4.size 0 (EI.enc x) := MH5.rd _ [] (by simp)
    refine ⟨⟨hptr, mi⟩, ?_⟩
    refine O.bsl (cs := []) rfl rfl rfl ⟨Go.Proofs.Try.underlying202, Go.Proofs.Try.sizeOf138, Go.Proofs.Try.zeroValue138, ⟨_, Go.Proofs.Try.typeInfo138, rfl⟩, rfl, by decide, by decide⟩ rfl (by decide) (by kernel_rfl) ?_
    intro H6 MH6
    have hsH6 := MH6.size
    replace tc := tc.fr (MH6.fr nowhere) (fun _ _ _ => nw)
    replace cnt := (MH6.fr nowhere).keep cnt nw
    replace hptr := (MH6.fr nowhere).keep hptr nw
    replace hF := hF.trans' (MH6.fr nowhere) (fun _ _ _ h => h) (fun _ _ _ h => h.elim)
    replace mi := (MH6.fr nowhere).rd mi (fun _ _ => nw)
    replace q0 := (MH6.fr nowhere).keep q0 nw
    replace q1 := (MH6.fr nowhere).keep q1 nw
    replace q2 := (MH6.fr nowhere).keep q2 nw
    replace q3 := (MH6.fr nowhere).keep q3 nw
    replace qw := (MH6.fr nowhere).wr qw
    replace m6 := (MH6.fr nowhere).rd m6 (fun _ _ => nw)
    refine ⟨⟨hptr, mi⟩, ?_⟩
    refine O.app (m := 1) (news := (EI.enc x)) rfl rfl rfl ⟨Go.Proofs.Try.underlying202, Go.Proofs.Try.sizeOf138, Go.Proofs.Try.zeroValue138, ⟨_, Go.Proofs.Try.typeInfo138, rfl⟩, rfl, by decide, by decide⟩ rfl (Sl.none _ _ _ _) rfl (.inl ⟨_, _, _, rfl, m6⟩) rfl rfl (Nat.le_trans (Nat.mul_le_mul_left _ (Nat.le_of_ble_eq_true (n := _) (m := 4096) rfl)) (by omega)) (by omega) ?_
    intro b' o' c' H7 ha2
    obtain ⟨hbn, rfl, hs7, hcn, fa2⟩ := ha2.fromNone (by decide)
    have hisl : SlE EI H7 b' 0 c' [x] := ha2.sl
    replace tc := tc.fr fa2 (fun _ _ _ => nw)
    replace cnt := fa2.keep cnt nw
    replace hptr := fa2.keep hptr nw
    replace hF := hF.trans' fa2 (fun _ _ _ h => h) (fun _ _ _ h => h.elim)
    replace mi := fa2.rd mi (fun _ _ => nw)
    replace q0 := fa2.keep q0 nw
    replace q1 := fa2.keep q1 nw
    replace q2 := fa2.keep q2 nw
    replace q3 := fa2.keep q3 nw
    replace qw := fa2.wr qw
    refine ⟨⟨hptr, mi⟩, ?_⟩
    refine O.nc rfl rfl rfl rfl rfl ?_
    refine O.fa0 (off := 2) rfl rfl rfl rfl ⟨_, _, _, Go.Proofs.Try.underlying205, rfl, rfl, Go.Proofs.Try.sizeOf202⟩ rfl ?_
    refine O.st3 rfl rfl Go.Proofs.Try.sizeOf202 rfl rfl rfl rfl rfl (qw.at0 2 1 (by omega)) ?_
    intro H8 W8
    have hs8 := W8.size
    replace tc := tc.fr W8.fr (fun o _ _ => nr (.inl (by omega)))
    replace cnt := W8.fr.keep cnt (nr (.inl (by omega)))
    replace hptr := W8.fr.keep hptr (nr (.inl (by omega)))
    replace hF := hF.trans' W8.fr (fun _ _ _ h => h) (fun b o hb h => by have h' := h.1; omega)
    replace mi := W8.fr.rd mi (fun _ _ => nr (.inl (by omega)))
    replace q0 := W8.keep1 q0 (by omega)
    replace q1 := W8.keep1 q1 (by omega)
    replace q2 := W8.at
    replace q3 := W8.keep1 q3 (by omega)
    replace qw := W8.fr.wr qw
    replace hisl := hisl.fr W8.fr (fun _ _ _ => nr (.inl (by omega)))
    refine Pl.fin [(0, .pointer (some ⟨tr, 0, none⟩)), (6, .pointer (some ⟨Ha.size, 0, none⟩)), (8, .pointer (some ⟨H.size, 0, none⟩))] ⟨rfl, rfl, rfl, trivial⟩ (hj _ ?_)
    exact ⟨b', c', by omega, by omega, hcn, hisl, q2, tc, cnt, hptr, hF, mi, q0, q1, q3, qw⟩
  clear q2
  rintro H8 ⟨b', c', hbn1, hbn2, hcn, hisl, q2, tc, cnt, hptr, hF, mi, q0, q1, q3, qw⟩
  refine Go'.seq ?_
  -- region 6 (map.go:166)
  refine Go'.region [(0, 0), (1, 0), (2, 0), (3, 1), (4, 0), (5, 0), (6, 2)] rfl ?_
  refine O.mv rfl rfl rfl rfl rfl ?_
  refine O.nc rfl rfl rfl rfl rfl ?_
  refine O.fa0 (off := 2) rfl rfl rfl rfl ⟨_, _, _, Go.Proofs.Try.underlying140, rfl, rfl, Go.Proofs.Try.sizeOf135⟩ rfl ?_
  refine O.ld rfl rfl rfl (fun w => ⟨Go.Proofs.Try.isAgg135 w, Go.Proofs.Try.sizeOf135 w⟩) rfl hptr ?_
  refine O.nc rfl rfl rfl rfl rfl ?_
  refine O.fa0 (off := 1) rfl rfl rfl rfl ⟨_, _, _, Go.Proofs.Try.underlying205, rfl, rfl, Go.Proofs.Try.sizeOf3⟩ rfl ?_
  refine O.st rfl rfl Go.Proofs.Try.sizeOf3 rfl rfl rfl rfl rfl (qw.at0 1 1 (by omega)) ?_
  intro H9 W9
  have hs9 := W9.size
  replace tc := tc.fr W9.fr (fun o _ _ => nr (.inl (by omega)))
  replace cnt := W9.fr.keep cnt (nr (.inl (by omega)))
  replace hptr := W9.fr.keep hptr (nr (.inl (by omega)))
  replace hF := hF.trans' W9.fr (fun _ _ _ h => h) (fun b o hb h => by have h' := h.1; omega)
  replace mi := W9.fr.rd mi (fun _ _ => nr (.inl (by omega)))
  replace q0 := W9.keep1 q0 (by omega)
  replace q1 := W9.at
  replace q2 := W9.keep1 q2 (by omega)
  replace q3 := W9.keep1 q3 (by omega)
  replace qw := W9.fr.wr qw
  replace hisl := hisl.fr W9.fr (fun _ _ _ => nr (.inl (by omega)))
  refine ⟨trivial, ?_⟩
  refine Pl.fin [(0, _), (6, _), (8, _)] ⟨rfl, rfl, rfl, trivial⟩ ?_
  refine Go'.seq ?_
  -- region 7 (map.go:167)
  refine Go'.region [(0, 0), (1, 0), (2, 0), (3, 2)] rfl ?_
  refine O.mv rfl rfl rfl rfl rfl ?_
  refine O.nc rfl rfl rfl rfl rfl ?_
  refine O.fa0 (off := 3) rfl rfl rfl rfl ⟨_, _, _, Go.Proofs.Try.underlying140, rfl, rfl, Go.Proofs.Try.sizeOf3⟩ rfl ?_
  refine O.st rfl rfl Go.Proofs.Try.sizeOf3 rfl rfl rfl rfl rfl (tc.wr.at0 3 1 (by omega)) ?_
  intro H10 W10
  have hs10 := W10.size
  replace tc := tc.fr (W10.fr' 1 rfl) (fun o _ h2 => nr (by omega))
  replace hptr := W10.keep1 hptr (by omega)
  replace hF := hF.trans' W10.fr (fun _ _ _ h => h) (fun b o _ h => by rw [h.1]; exact own)
  replace q0 := W10.keep1 q0 (by omega)
  replace q1 := W10.keep1 q1 (by omega)
  replace q2 := W10.keep1 q2 (by omega)
  replace q3 := W10.keep1 q3 (by omega)
  replace qw := W10.fr.wr qw
  replace hisl := hisl.fr W10.fr (fun _ _ _ => nr (.inl (by omega)))
  refine ⟨trivial, ?_⟩
  refine Pl.fin [(0, _), (6, _), (8, _)] ⟨rfl, rfl, rfl, trivial⟩ ?_
  refine Go'.seq ?_
  -- region 8 (map.go:168)
  refine Go'.region [(0, 0), (1, 0), (2, 0), (3, 1), (4, 1), (5, 2), (6, 0)] rfl ?_
  refine O.mv rfl rfl rfl rfl rfl ?_
  refine O.nc rfl rfl rfl rfl rfl ?_
  refine O.fa0 (off := 4) rfl rfl rfl rfl ⟨_, _, _, Go.Proofs.Try.underlying140, rfl, rfl, Go.Proofs.Try.sizeOf138⟩ rfl ?_
  refine O.fz1 rfl rfl rfl ty ⟨_, _, Go.Proofs.Try.underlying138, rfl, rfl, rfl, Go.Proofs.Try.sizeOf136⟩ rfl (tc.wr.at0 4 1 (by omega)) ?_
  refine O.lds rfl rfl rfl (fun w => ⟨Go.Proofs.Try.isAgg136 w, Go.Proofs.Try.sizeOf136 w⟩) rfl rfl (Rd.nil _ _ _) ?_
  refine O.st0 rfl rfl Go.Proofs.Try.sizeOf136 rfl rfl rfl trivial ?_
  refine O.asg rfl rfl rfl rfl rfl ?_
  refine Pl.fin [(0, _), (6, _), (7, _), (8, _)] ⟨rfl, rfl, rfl, rfl, trivial⟩ ?_
  refine Go'.ret (vs := [_, _]) Go.Proofs.Try.func135 Go.Proofs.Try.results135 ⟨⟨_, _, rfl, fun _ _ => run_loadVar_agg (fun w => ⟨Go.Proofs.Try.isAgg136 w, Go.Proofs.Try.sizeOf136 w⟩) rfl (Rd.nil _ _ _)⟩, rfl, trivial⟩ ?_
  have hG : Gt.Good H10 P 0 (((⟨q, P.iso, 1, b', 0, c', 0, 0, 0, 0⟩ : Ng), [x]) : Gt EI 0) := ⟨⟨q0, q1, q2, q3, qw, hisl, by show 0 < c'; omega, by show q ≠ b'; omega⟩, rfl, rfl, by show 1 ≤ P.mx; omega⟩
  have haf : ∀ b o, Gt.af 0 (((⟨q, P.iso, 1, b', 0, c', 0, 0, 0, 0⟩ : Ng), [x]) : Gt EI 0) b o → H.size ≤ b := fun b o hb => by
    replace hb : ncl EI (⟨q, P.iso, 1, b', 0, c', 0, 0, 0, 0⟩ : Ng) b o := hb
    rcases hb with hb | hb <;> (have h9 := hb.1; simp only at h9; omega)
  exact ⟨rfl, fun b => S b ∨ (H.size ≤ b ∧ b < H10.size), ⟨tc, srt.put OI, W10.at, .inl own, fun b hb => hb.elim (fun h => by have := lt b h; omega) (fun h => h.2), .inr ⟨0, (((⟨q, P.iso, 1, b', 0, c', 0, 0, 0, 0⟩ : Ng), [x]) : Gt EI 0), hG, Nat.le_refl 1, rfl, hptr, fun o ho => by have := haf _ _ ho; omega, fun b o hb => .inr ⟨haf b o hb, hG.lt hb⟩⟩⟩, hF, fun b hb => hb.imp id (fun h => h.1)⟩

end Go.Bt.FZ
