/- Contracts of functions of the program, proved by walking through their code. Conditions: those that each theorem names. -/
import Derived.Test.YtmboghgpakhceaaToiV
namespace Go.Bt
section
variable {P : Program} {B : World} {f : FuncId} {Q : Value → Mem → Prop} {n : Nat} {r : Env} {k : List Item} {H : Mem} {l : List Oper} {C : Mem → Prop} {p : List (Nat × Nat)}
variable {i kd d : Nat} {ty : TypeId} {pos : String} {af : Array Edge} {gd : Option (Nat × Bool)}
/-- An array's slice of no elements. -/
theorem O.slcArr {t e : TypeId} {x z : Operand} {m b o s : Nat} {kz : IntKind} (hi : l[i]? = some ⟨some d, .slice t x none (some z) none, ty, pos, af, gd⟩) (hk : Nat.blt kd 2 = true) (hg : guardOn l r gd = true) (hd : Nat.blt d n = true)
    (hu : P.underlying t = some (.array m e)) (hm : 0 < m) (hs : Sz P e s) (hx : ev r x = some (.pointer (some ⟨b, o, none⟩))) (hz : ev r z = some (.int kz 0))
    (h : Pl P B f Q n l C k p ((d, .slice (some ⟨b, o, none⟩) 0 m) :: r) H) : Pl P B f Q n l C k ((i, kd) :: p) r H := by
  refine Pl.quiet hi hk hg hd (fun ac H' d' ha _ => ?_) h
  have hb : (Instr.sliceBounds false m m none (some (ac.eval z)) none).run P (mk B H' d') = .ok (0, 0, m) (mk B H' d') := by
    have z0 : ∀ (w : World) (kk : IntKind) (m : Nat) (c : BoundsCode), (Instr.sliceBound (.int kk 0) m c).run P w = .ok 0 w := fun w kk m c => run_sliceBound w kk 0 m c (Nat.zero_le m)
    unfold Instr.sliceBounds
    simp [ha.eval hz, z0]
  have hm0 : ¬ m = 0 := by omega
  simp only [execOp, ha.eval hx, Sem.run_bind, Sem.run_pure, Instr.sliceAt, Instr.sureAddr, run_und hu, Result.andThen_ok, Option.map_none, Option.map_some, hb, hs _, if_neg hm0, Nat.zero_mul, Nat.sub_zero, Nat.sub_self]
  rfl
end
end Go.Bt

namespace Go.Bt.FG
open Go Go.Proofs
set_option maxRecDepth 20000
set_option maxHeartbeats 4000000
set_option linter.unusedVariables false
set_option linter.unusedSectionVars false

def kv0 : Int × Int := (0, 0)
/-- A new iterator; its stack's first place lies in the block kb. -/
def itv (tr : Nat) (mt : Bool) (kb : Nat) : List Value := [.pointer (some ⟨tr, 0, none⟩), .bool mt, .bool false, .bool false, .bool false, .bool false, .pointer none, .int .i64 0, .pointer none, .int .i64 0, .pointer none, .int .i64 0, .pointer none, .int .i64 0, .slice (some ⟨kb, 6, none⟩) 0 4] ++ EJ.enc kv0
theorem itr_new {H H' : Mem} {it tr kb : Nat} {mt : Bool} (W : Wrote H H' it 0 (itv tr mt kb)) (hw : Wr H it 0 17) (hk : Wr H kb 0 17) (hl : kb < H.size) (hn : it ≠ kb) : Itr EJ H' H' it tr mt (fun b => b = kb) false false false (fun b => b = kb) [] kv0 where
  c0 := W.all 0 _ rfl
  c1 := W.all 1 _ rfl
  lk := W.all 2 _ rfl
  c2 := W.all 3 _ rfl
  c3 := W.all 4 _ rfl
  c4 := W.all 5 _ rfl
  st := ⟨.slice (some ⟨kb, 6, none⟩) 0 4, W.all 14 _ rfl, .inr ⟨kb, 6, 4, rfl, rfl, by rw [W.size]; exact hl, ⟨rfl, Nat.zero_le _, Rd.nil _ _ _, (W.fr.wr hk).at0 6 8 (by decide)⟩⟩⟩
  kv := fun j v hv => by
    have h := W.all (15 + j) v (by rw [← hv]; unfold itv; rw [List.getElem?_append_right (by simp)]; simp)
    rwa [Nat.zero_add] at h
  wr := W.fr.wr hw
  nz := hn
  f := Fr.refl _ _
  zz := fun _ h => .inl h
  zl := fun b h => by rw [W.size, h]; exact hl
section
variable {α : Type} {E : Elt α} {H0 H H' : Mem} {it tr : Nat} {mt sk ast ae : Bool} {Z0 Z : Nat → Prop} {fr : List (Nat × Int)} {kv : α}
theorem Itr.away (h : Itr E H0 H it tr mt Z0 sk ast ae Z fr kv) {X : Nat → Nat → Prop} (hf : Fr X H H') (hx : ∀ b o, b = it ∨ Z b → ¬ X b o) : Itr E H' H' it tr mt Z sk ast ae Z fr kv where
  c0 := hf.keep h.c0 (hx _ _ (.inl rfl))
  c1 := hf.keep h.c1 (hx _ _ (.inl rfl))
  lk := hf.keep h.lk (hx _ _ (.inl rfl))
  c2 := hf.keep h.c2 (hx _ _ (.inl rfl))
  c3 := hf.keep h.c3 (hx _ _ (.inl rfl))
  c4 := hf.keep h.c4 (hx _ _ (.inl rfl))
  st := have ⟨sv, h1, h2⟩ := h.st; ⟨sv, hf.keep h1 (hx _ _ (.inl rfl)), h2.fr hf fun b o _ hz => hx b o (.inr hz)⟩
  kv := hf.rd h.kv fun _ _ => hx _ _ (.inl rfl)
  wr := hf.wr h.wr
  nz := h.nz
  f := Fr.refl _ _
  zz := fun _ hb => .inl hb
  zl := fun b hb => Nat.lt_of_lt_of_le (h.zl b hb) hf.size
end

theorem st135 : StT Try.prog 135 [(0, 1), (1, 1), (2, 1), (3, 1), (4, 1), (5, 1), (6, 8), (14, 1), (15, 2)] [.pointer none, .bool false, .bool false, .bool false, .bool false, .bool false, .pointer none, .int .i64 0, .pointer none, .int .i64 0, .pointer none, .int .i64 0, .pointer none, .int .i64 0, .slice none 0 0, .int .i64 0, .int .i64 0] := ⟨⟨_, Try.underlying135, fun w => by simp [Array.mapM_eq_mapM_toList, Try.sizeOf86, Try.sizeOf4, Try.sizeOf132, Try.sizeOf133, Try.sizeOf27]⟩, Try.zeroValue135⟩

section
variable [Inhabited Cx]

theorem ItPost.ph {H H' : Mem} {it tr : Nat} {mt : Bool} {Z : Nat → Prop} {r : Option ((h : Nat) × Gt EJ h)} {l : List (Int × Int)} {hv : Value} {hz : Nat → Prop} {st : Option Nat} (hp : ItPost EJ H H' it tr mt Z r l st) (hk : HintOk H hv hz) (h1 : ¬ hz it) (h2 : ∀ b, Z b → ¬ hz b) : ItPH H H' it tr mt Z r l hv hz st := by
  obtain ⟨sk, ast, ae, Z', fr, kv, hI, hs⟩ := hp
  exact ⟨hk.fr hI.f (fun b o hb h => h.elim (fun e => h1 (e ▸ hb)) (fun h => h2 b h hb)), sk, ast, ae, Z', fr, kv, { hI with f := hI.f.mono (fun b o _ h => h.imp id .inl), zz := fun b hb => (hI.zz b hb).imp .inl id }, hs, hI.zz⟩
theorem ItPH.ph {H H' : Mem} {it tr : Nat} {mt : Bool} {Z : Nat → Prop} {r : Option ((h : Nat) × Gt EJ h)} {l : List (Int × Int)} {hv : Value} {hz : Nat → Prop} {st : Option Nat} (hp : ItPH H H' it tr mt Z r l (.pointer none) (fun _ => False) st) (hk : HintOk H hv hz) (h1 : ¬ hz it) (h2 : ∀ b, Z b → ¬ hz b) : ItPH H H' it tr mt Z r l hv hz st := by
  obtain ⟨_, sk, ast, ae, Z', fr, kv, hI, hs, hZ⟩ := hp
  exact ItPost.ph ⟨sk, ast, ae, Z', fr, kv, { hI with f := hI.f.mono (fun b o _ h => h.imp id (fun h => h.elim id False.elim)), zz := fun b hb => (hI.zz b hb).imp (fun h => h.elim id False.elim) id }, hs⟩ hk h1 h2
theorem MapM.treeR {H : Mem} {tr : Nat} {P : Ps} {S : Nat → Prop} {l : List (Int × Int)} (hP : PsOk P) (hM : MapM H tr P S l) (hl : l.length ≤ 4294967296) : ∃ r : Option ((h : Nat) × Gt EJ h), TreeR H tr P (fun b => S b ∨ (b < cx.base ∧ cx.own b)) l r := by
  have lt0 := hM.lt
  have hb0 := hM.tc.hb
  have hh1 := hP.h1
  obtain ⟨tc, srt, cnt, own, lt, bs, hr⟩ := hM
  rcases hr with ⟨e, k⟩ | ⟨h, t, hg, hx, e, hc, _, hown⟩
  · exact ⟨none, tc, fun b h => .inr h, fun b hb => hb.elim (lt b) (fun h => by omega), hl, hh1, e, k⟩
  · exact ⟨some ⟨h, t⟩, tc, fun b h => .inr h, fun b hb => hb.elim (lt b) (fun h => by omega), hl, hh1, hg, hx, e, hc, fun b o hb => .inl (hown b o hb)⟩

theorem iter_spec {B : World} {H : Mem} {tr : Nat} (mt : Bool) : Fn Try.prog B 157 [.pointer (some ⟨tr, 0, none⟩), .bool mt] H (fun r H' => ∃ kb, r = .agg (itv tr mt kb).toArray ∧ Fr nowhere H H' ∧ Wr H' kb 0 17 ∧ kb < H'.size ∧ H.size ≤ kb) := by
  refine fn_of Try.func157 rfl Try.ntmps157 ?_
  refine (show Go' _ _ _ _ 19 [(0, _), (1, _)] [.code _] _ from ?_)
  refine Go'.seq ?_
  -- region 0 (btreeg.go:1557)
  refine Go'.region [(0, 2)] rfl ?_
  refine O.alloc rfl rfl rfl Try.zeroValue135 ?_
  intro H1 M1
  refine ⟨trivial, ?_⟩
  have hs1 := M1.size
  have hF := M1.fr nowhere
  have m4 : Wr H1 H.size 0 17 := M1.wr 17 (by decide)
  refine Pl.fin [(0, _), (1, _), (4, _)] ⟨rfl, rfl, rfl, trivial⟩ ?_
  refine Go'.seq ?_
  -- region 1 (btreeg.go:1558)
  refine Go'.region [(0, 2)] rfl ?_
  refine O.alloc rfl rfl rfl Try.zeroValue135 ?_
  intro H2 M2
  refine ⟨trivial, ?_⟩
  have hs2 := M2.size
  replace hF := hF.trans (M2.fr nowhere)
  replace m4 := (M2.fr nowhere).wr m4
  have m5 : Wr H2 H1.size 0 17 := M2.wr 17 (by decide)
  have hz : Rd H2 H1.size 0 ([.pointer none, .bool false, .bool false, .bool false, .bool false, .bool false, .pointer none, .int .i64 0, .pointer none, .int .i64 0, .pointer none, .int .i64 0, .pointer none, .int .i64 0, .slice none 0 0] ++ EJ.enc kv0) := M2.rd _ [] rfl
  refine Pl.fin [(0, _), (1, _), (4, _), (5, _)] ⟨rfl, rfl, rfl, rfl, trivial⟩ ?_
  refine Go'.seq ?_
  -- region 2 (btreeg.go:1559)
  refine Go'.region [(0, 0), (1, 0), (2, 2)] rfl ?_
  refine O.mv rfl rfl rfl rfl rfl ?_
  refine O.faz rfl rfl rfl rfl ⟨_, _, _, Try.underlying135, rfl, rfl, Try.sizeOf86⟩ rfl ?_
  refine O.st rfl rfl Try.sizeOf86 rfl rfl rfl rfl rfl (m5.at0 0 1 (by decide)) ?_
  intro H3 W3
  have hs3 := W3.size
  replace hF := hF.trans' W3.fr (fun _ _ _ h => h) (fun b o hb h => by have h' := h.1; omega)
  replace m4 := W3.fr.wr m4
  replace m5 := W3.fr.wr m5
  refine ⟨trivial, ?_⟩
  refine Pl.fin [(0, _), (1, _), (4, _), (5, _)] ⟨rfl, rfl, rfl, rfl, trivial⟩ ?_
  refine Go'.seq ?_
  -- region 3 (btreeg.go:1560)
  refine Go'.region [(0, 0), (1, 0), (2, 2)] rfl ?_
  refine O.mv rfl rfl rfl rfl rfl ?_
  refine O.fa0 (off := 1) rfl rfl rfl rfl ⟨_, _, _, Try.underlying135, rfl, rfl, Try.sizeOf4⟩ rfl ?_
  refine O.st rfl rfl Try.sizeOf4 rfl rfl rfl rfl rfl (m5.at0 1 1 (by decide)) ?_
  intro H4 W4
  have hs4 := W4.size
  replace hF := hF.trans' W4.fr (fun _ _ _ h => h) (fun b o hb h => by have h' := h.1; omega)
  replace m4 := W4.fr.wr m4
  replace m5 := W4.fr.wr m5
  have c41 : cl H4 H1.size 1 = some (.bool mt) := W4.at
  refine ⟨trivial, ?_⟩
  refine Pl.fin [(0, _), (4, _), (5, _)] ⟨rfl, rfl, rfl, trivial⟩ ?_
  refine Go'.seq ?_
  -- region 4 (btreeg.go:1561)
  refine Go'.region [(0, 0), (1, 0), (2, 1), (3, 2), (4, 0), (5, 2)] rfl ?_
  refine O.mv rfl rfl rfl rfl rfl ?_
  refine O.fa0 (off := 1) rfl rfl rfl rfl ⟨_, _, _, Try.underlying135, rfl, rfl, Try.sizeOf4⟩ rfl ?_
  refine O.ld rfl rfl rfl (fun w => ⟨Try.isAgg4 w, Try.sizeOf4 w⟩) rfl c41 ?_
  refine O.callQ rfl rfl rfl Try.call128 rfl lock_spec trivial ?_
  refine O.fa0 (off := 2) rfl rfl rfl rfl ⟨_, _, _, Try.underlying135, rfl, rfl, Try.sizeOf4⟩ rfl ?_
  refine O.st rfl rfl Try.sizeOf4 rfl rfl rfl rfl rfl (m5.at0 2 1 (by decide)) ?_
  intro H5 W5
  have hs5 := W5.size
  replace hF := hF.trans' W5.fr (fun _ _ _ h => h) (fun b o hb h => by have h' := h.1; omega)
  replace m4 := W5.fr.wr m4
  replace m5 := W5.fr.wr m5
  refine ⟨trivial, ?_⟩
  refine Pl.fin [(4, _), (5, _)] ⟨rfl, rfl, trivial⟩ ?_
  refine Go'.seq ?_
  -- region 5 (btreeg.go:1562)
  refine Go'.region [(0, 0), (1, 0), (2, 0), (3, 2)] rfl ?_
  refine O.fa0 (off := 6) rfl rfl rfl rfl ⟨_, _, _, Try.underlying135, rfl, rfl, Try.sizeOf132⟩ rfl ?_
  refine O.slcArr rfl rfl rfl rfl Try.underlying132 (by decide) Try.sizeOf131 rfl rfl ?_
  refine O.fa0 (off := 14) rfl rfl rfl rfl ⟨_, _, _, Try.underlying135, rfl, rfl, Try.sizeOf133⟩ rfl ?_
  refine O.st rfl rfl Try.sizeOf133 rfl rfl rfl rfl rfl (m5.at0 14 1 (by decide)) ?_
  intro H6 W6
  have hs6 := W6.size
  replace hF := hF.trans' W6.fr (fun _ _ _ h => h) (fun b o hb h => by have h' := h.1; omega)
  replace m4 := W6.fr.wr m4
  replace m5 := W6.fr.wr m5
  have r6 : Rd H6 H1.size 0 (itv tr mt H1.size) := by
    intro j v hv
    have hj : j < 17 := by
      have := (List.getElem?_eq_some_iff.1 hv).1
      exact this
    by_cases h0 : j = 0
    · subst h0; cases hv; exact W6.keep1 (W5.keep1 (W4.keep1 W3.at (.inr (by decide))) (.inr (by decide))) (.inr (by decide))
    by_cases h1 : j = 1
    · subst h1; cases hv; exact W6.keep1 (W5.keep1 W4.at (.inr (by decide))) (.inr (by decide))
    by_cases h2 : j = 2
    · subst h2; cases hv; exact W6.keep1 W5.at (.inr (by decide))
    by_cases h14 : j = 14
    · subst h14; cases hv; exact W6.at
    refine W6.keep1 (W5.keep1 (W4.keep1 (W3.keep1 (hz j v ?_) (.inr (by omega))) (.inr (by omega))) (.inr (by omega))) (.inr (by omega))
    rw [← hv]
    match j, hj, h0, h1, h2, h14 with
    | 3, _, _, _, _, _ => rfl
    | 4, _, _, _, _, _ => rfl
    | 5, _, _, _, _, _ => rfl
    | 6, _, _, _, _, _ => rfl
    | 7, _, _, _, _, _ => rfl
    | 8, _, _, _, _, _ => rfl
    | 9, _, _, _, _, _ => rfl
    | 10, _, _, _, _, _ => rfl
    | 11, _, _, _, _, _ => rfl
    | 12, _, _, _, _, _ => rfl
    | 13, _, _, _, _, _ => rfl
    | 15, _, _, _, _, _ => rfl
    | 16, _, _, _, _, _ => rfl
    | 0, _, h, _, _, _ => exact absurd rfl h
    | 1, _, _, h, _, _ => exact absurd rfl h
    | 2, _, _, _, h, _ => exact absurd rfl h
    | 14, _, _, _, _, h => exact absurd rfl h
    | n + 17, h, _, _, _, _ => exact absurd h (by omega)
  refine ⟨trivial, ?_⟩
  refine Pl.fin [(4, _), (5, _)] ⟨rfl, rfl, trivial⟩ ?_
  refine Go'.seq ?_
  -- region 6 (btreeg.go:1563)
  refine Go'.region [(0, 1), (1, 2)] rfl ?_
  refine O.lds rfl rfl rfl (fun w => ⟨Try.isAgg135 w, Try.sizeOf135 w⟩) rfl rfl r6 ?_
  refine O.st (vs := (itv tr mt H1.size)) rfl rfl Try.sizeOf135 rfl rfl rfl rfl rfl m4 ?_
  intro H7 W7
  have hs7 := W7.size
  replace hF := hF.trans' W7.fr (fun _ _ _ h => h) (fun b o hb h => by have h' := h.1; omega)
  replace m4 := W7.fr.wr m4
  replace m5 := W7.fr.wr m5
  refine ⟨trivial, ?_⟩
  refine Pl.fin [(4, _)] ⟨rfl, trivial⟩ ?_
  refine Go'.ret (vs := [_]) Try.func157 Try.results157 ⟨⟨_, _, rfl, fun _ _ => run_loadVar_agg (fun w => ⟨Try.isAgg135 w, Try.sizeOf135 w⟩) rfl W7.all⟩, trivial⟩ ?_
  exact ⟨H1.size, rfl, hF, m5, by omega, by omega⟩

theorem Iter_spec {B : World} {H : Mem} {tr : Nat} : Fn Try.prog B 116 [.pointer (some ⟨tr, 0, none⟩)] H (fun r H' => ∃ kb, r = .agg (itv tr false kb).toArray ∧ Fr nowhere H H' ∧ Wr H' kb 0 17 ∧ kb < H'.size ∧ H.size ≤ kb) := by
  refine fn_of Try.func116 rfl Try.ntmps116 ?_
  refine (show Go' _ _ _ _ 5 [(0, _)] [.code _] _ from ?_)
  refine Go'.seq ?_
  -- region 0 (btreeg.go:1549)
  refine Go'.region [(0, 2)] rfl ?_
  refine O.alloc rfl rfl rfl Try.zeroValue135 ?_
  intro H1 M1
  refine ⟨trivial, ?_⟩
  have hs1 := M1.size
  have hF := M1.fr nowhere
  have m4 : Wr H1 H.size 0 17 := M1.wr 17 (by decide)
  refine Pl.fin [(0, _), (2, _)] ⟨rfl, rfl, trivial⟩ ?_
  refine Go'.seq ?_
  -- region 1 (btreeg.go:1550)
  refine Go'.region [(0, 0), (1, 2), (2, 2)] rfl ?_
  refine O.mv rfl rfl rfl rfl rfl ?_
  refine O.call rfl rfl rfl Try.call157 rfl (iter_spec false) ?_
  rintro _ H2 ⟨kb, rfl, hF2, hwk, hkl, hkg⟩
  have hs2 := hF2.size
  replace m4 := hF2.wr m4
  refine ⟨trivial, ?_⟩
  refine O.st (vs := (itv tr false kb)) rfl rfl Try.sizeOf135 rfl rfl rfl rfl rfl m4 ?_
  intro H3 W3
  have hs3 := W3.size
  refine ⟨trivial, ?_⟩
  refine Pl.fin [(2, _)] ⟨rfl, trivial⟩ ?_
  refine Go'.ret (vs := [_]) Try.func116 Try.results116 ⟨⟨_, _, rfl, fun _ _ => run_loadVar_agg (fun w => ⟨Try.isAgg135 w, Try.sizeOf135 w⟩) rfl W3.all⟩, trivial⟩ ?_
  exact ⟨kb, rfl, (hF.trans hF2).trans' W3.fr (fun _ _ _ h => h) (fun b o hb h => by have h' := h.1; omega), W3.fr.wr hwk, by omega, by omega⟩

theorem iItem_spec {B : World} {H : Mem} {it : Nat} {kv : Int × Int} (hk : Rd H it 15 (EJ.enc kv)) : Fn Try.prog B 164 [.pointer (some ⟨it, 0, none⟩)] H (fun v H' => v = .agg (EJ.enc kv).toArray ∧ Fr nowhere H H') := by
  refine fn_of Try.func164 rfl Try.ntmps164 ?_
  refine (show Go' _ _ _ _ 7 [(0, _)] [.code _] _ from ?_)
  refine Go'.seq ?_
  -- region 0 (btreeg.go:1787)
  refine Go'.region [(0, 2)] rfl ?_
  refine O.alloc rfl rfl rfl Try.zeroValue27 ?_
  intro H1 M1
  refine ⟨trivial, ?_⟩
  have hs1 := M1.size
  have m4 : Wr H1 H.size 0 2 := M1.wr 2 (by decide)
  replace hk := (M1.fr nowhere).rd hk (fun _ _ => nw)
  refine Pl.fin [(0, _), (2, _)] ⟨rfl, rfl, trivial⟩ ?_
  refine Go'.seq ?_
  -- region 1 (btreeg.go:1788)
  refine Go'.region [(0, 0), (1, 0), (2, 0), (3, 1), (4, 2)] rfl ?_
  refine O.mv rfl rfl rfl rfl rfl ?_
  refine O.nc rfl rfl rfl rfl rfl ?_
  refine O.fa0 (off := 15) rfl rfl rfl rfl ⟨_, _, _, Try.underlying135, rfl, rfl, Try.sizeOf27⟩ rfl ?_
  refine O.lds rfl rfl rfl (fun w => ⟨Try.isAgg27 w, Try.sizeOf27 w⟩) rfl rfl hk ?_
  refine O.st (vs := (EJ.enc kv)) rfl rfl Try.sizeOf27 rfl rfl rfl rfl rfl m4 ?_
  intro H2 W2
  refine ⟨trivial, ?_⟩
  refine Pl.fin [(2, _)] ⟨rfl, trivial⟩ ?_
  refine Go'.ret (vs := [_]) Try.func164 Try.results164 ⟨⟨_, _, rfl, fun _ _ => run_loadVar_agg (fun w => ⟨Try.isAgg27 w, Try.sizeOf27 w⟩) rfl W2.all⟩, trivial⟩ ?_
  exact ⟨rfl, (M1.fr nowhere).trans' W2.fr (fun _ _ _ h => h) (fun b o hb h => by have h' := h.1; omega)⟩

theorem iRelease_spec {B : World} {H : Mem} {it tr : Nat} {mt sk ast ae : Bool} {Z : Nat → Prop} {fr : List (Nat × Int)} {kv : Int × Int} (hI : Itr EJ H H it tr mt Z sk ast ae Z fr kv) : Fn Try.prog B 118 [.pointer (some ⟨it, 0, none⟩)] H (fun v H' => v = resVal [] ∧ Fr (fun b _ => b = it) H H') := by
  obtain ⟨sv, hsv, hA⟩ := hI.st
  refine fn_of Try.func118 rfl Try.ntmps118 ?_
  refine (show Go' _ _ _ _ 36 [(0, _)] [.code _] _ from ?_)
  refine Go'.seq ?_
  refine Go'.seq ?_
  -- region 0 (btreeg.go:1656)
  refine Go'.region [(0, 0), (1, 0), (2, 0), (3, 1), (4, 0)] rfl ?_
  refine O.mv rfl rfl rfl rfl rfl ?_
  refine O.nc rfl rfl rfl rfl rfl ?_
  refine O.faz rfl rfl rfl rfl ⟨_, _, _, Try.underlying135, rfl, rfl, Try.sizeOf86⟩ rfl ?_
  refine O.ld rfl rfl rfl (fun w => ⟨Try.isAgg86 w, Try.sizeOf86 w⟩) rfl hI.c0 ?_
  refine O.isNil rfl rfl rfl rfl Try.underlying86 rfl rfl ?_
  refine Pl.fin [(0, _), (7, _)] ⟨rfl, rfl, trivial⟩ ?_
  refine Go'.condF rfl ?_
  refine Go'.skip ?_
  refine Go'.seq ?_
  refine Go'.seq ?_
  -- region 1 (btreeg.go:1659)
  refine Go'.region [(0, 0), (1, 0), (2, 0), (3, 1)] rfl ?_
  refine O.mv rfl rfl rfl rfl rfl ?_
  refine O.nc rfl rfl rfl rfl rfl ?_
  refine O.fa0 (off := 2) rfl rfl rfl rfl ⟨_, _, _, Try.underlying135, rfl, rfl, Try.sizeOf4⟩ rfl ?_
  refine O.ld rfl rfl rfl (fun w => ⟨Try.isAgg4 w, Try.sizeOf4 w⟩) rfl hI.lk ?_
  refine Pl.fin [(0, _), (11, _)] ⟨rfl, rfl, trivial⟩ ?_
  refine Go'.condF rfl ?_
  refine Go'.skip ?_
  refine Go'.seq ?_
  -- region 4 (btreeg.go:1666)
  refine Go'.region [(0, 0), (1, 0), (2, 0), (3, 1), (4, 0), (5, 0)] rfl ?_
  refine O.mv rfl rfl rfl rfl rfl ?_
  refine O.nc rfl rfl rfl rfl rfl ?_
  refine O.fa0 (off := 14) rfl rfl rfl rfl ⟨_, _, _, Try.underlying135, rfl, rfl, Try.sizeOf133⟩ rfl ?_
  refine O.ld rfl rfl rfl (fun w => ⟨Try.isAgg133 w, Try.sizeOf133 w⟩) rfl hsv ?_
  refine O.slcA (F := EK) (j := 0) rfl rfl rfl rfl Try.underlying133 Try.sizeOf131 rfl hA ⟨_, by rfl⟩ (Nat.zero_le _) ?_
  intro v1 hA1
  obtain ⟨a1, m1, c1, rfl⟩ := hA1.form
  refine O.asg rfl rfl rfl rfl rfl ?_
  refine Pl.fin [(0, _), (2, _)] ⟨rfl, rfl, trivial⟩ ?_
  refine Go'.seq ?_
  -- region 5 (btreeg.go:1667)
  refine Go'.region [(0, 0), (1, 0), (2, 0), (3, 2)] rfl ?_
  refine O.mv rfl rfl rfl rfl rfl ?_
  refine O.bld (cs := ([.pointer none, .bool false, .bool false, .bool false, .bool false, .bool false, .pointer none, .int .i64 0, .pointer none, .int .i64 0, .pointer none, .int .i64 0, .pointer none, .int .i64 0, .slice none 0 0, .int .i64 0, .int .i64 0])) rfl rfl rfl rfl (st135) rfl (by kernel_rfl) ?_
  refine O.nc rfl rfl rfl rfl rfl ?_
  refine O.st (vs := ([.pointer none, .bool false, .bool false, .bool false, .bool false, .bool false, .pointer none, .int .i64 0, .pointer none, .int .i64 0, .pointer none, .int .i64 0, .pointer none, .int .i64 0, .slice none 0 0, .int .i64 0, .int .i64 0])) rfl rfl Try.sizeOf135 rfl rfl rfl rfl rfl hI.wr ?_
  intro H1 W1
  refine ⟨trivial, ?_⟩
  refine Pl.fin [(0, _), (2, _)] ⟨rfl, rfl, trivial⟩ ?_
  -- region 6 (btreeg.go:1668)
  refine Go'.region [(0, 0), (1, 0), (2, 0), (3, 0), (4, 2)] rfl ?_
  refine O.mv rfl rfl rfl rfl rfl ?_
  refine O.mv rfl rfl rfl rfl rfl ?_
  refine O.nc rfl rfl rfl rfl rfl ?_
  refine O.fa0 (off := 14) rfl rfl rfl rfl ⟨_, _, _, Try.underlying135, rfl, rfl, Try.sizeOf133⟩ rfl ?_
  refine O.st rfl rfl Try.sizeOf133 rfl rfl rfl rfl rfl ((W1.fr.wr hI.wr).at0 14 1 (by decide)) ?_
  intro H2 W2
  refine ⟨trivial, ?_⟩
  refine Pl.fin [] trivial ?_
  refine Go'.fall Try.func118 Try.results118 (vs := []) trivial ?_
  exact ⟨rfl, (W1.fr.mono (fun b o _ h => h.1)).trans' W2.fr (fun _ _ _ h => h) (fun b o _ h => h.1)⟩

end
end Go.Bt.FG
