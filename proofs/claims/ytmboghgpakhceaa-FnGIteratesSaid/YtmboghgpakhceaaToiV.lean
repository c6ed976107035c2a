/- Contracts of functions of the program, proved by walking through their code. Conditions: those that each theorem names. -/
import Derived.Test.YtmboghgpakhceaaTogG
import Derived.Test.YtmboghgpakhceaaTogH
import Derived.Test.YtmboghgpakhceaaToHi
namespace Go.Bt.FG
open Go Go.Proofs
set_option maxRecDepth 20000
set_option maxHeartbeats 4000000
set_option linter.unusedVariables false
set_option linter.unusedSectionVars false

section
variable [Inhabited Cx]

theorem nodeP {H : Mem} {P : Ps} : ∀ {h : Nat} {t : Gt EJ h}, Gt.Good H P h t → ∃ kp : Option Addr, NodeM EJ H (Gt.g h t) (Gt.X h t) (.pointer kp)
  | 0, (g, X), hg => ⟨none, hg.1⟩
  | h + 1, (g, X, K), hg => ⟨some ⟨g.cb, 0, none⟩, hg.1⟩
theorem ncl_af : ∀ {h : Nat} {t : Gt EJ h} {b o : Nat}, ncl EJ (Gt.g h t) b o → Gt.af h t b o
  | 0, (_, _), _, _, h => h
  | _ + 1, (_, _, _), _, _, h => .inl h
/-- What a search of the iterator leaves, with a hint. -/
def ItPH (H H' : Mem) (it tr : Nat) (mt : Bool) (Z : Nat → Prop) (r : Option ((h : Nat) × Gt EJ h)) (l : List (Int × Int)) (hv : Value) (hz : Nat → Prop) (st : Option Nat) : Prop :=
  HintOk H' hv hz ∧ ∃ sk ast ae Z' fr kv, Itr EJ H H' it tr mt (fun b => Z b ∨ hz b) sk ast ae Z' fr kv ∧ StI r l sk fr kv st ∧ ∀ b, Z' b → Z b ∨ H.size ≤ b
theorem ItPH.rebase {H H1 H' : Mem} {it tr : Nat} {mt : Bool} {Z : Nat → Prop} {r : Option ((h : Nat) × Gt EJ h)} {l : List (Int × Int)} {hv : Value} {hz : Nat → Prop} {st : Option Nat} (hf : Fr nowhere H H1) (h : ItPH H1 H' it tr mt Z r l hv hz st) : ItPH H H' it tr mt Z r l hv hz st := by
  obtain ⟨hk, sk, ast, ae, Z', fr, kv, hI, hs, hZ⟩ := h
  have := hf.size
  exact ⟨hk, sk, ast, ae, Z', fr, kv, { hI with f := hf.trans' hI.f (fun _ _ _ h => h.elim) (fun _ _ _ h => h), zz := fun b hb => (hI.zz b hb).imp id (fun h => by omega) }, hs, fun b hb => (hZ b hb).imp id (fun h => by omega)⟩

theorem iseek_spec {B : World} {H : Mem} {it tr : Nat} {mt sk sa se : Bool} {Z : Nat → Prop} {fr : List (Nat × Int)} {kv : Int × Int} {P : Ps} {S : Nat → Prop} {l : List (Int × Int)} {r : Option ((h : Nat) × Gt EJ h)} (hP : PsOk P) (hI : Itr EJ H H it tr mt Z sk sa se Z fr kv) (hT : TreeR H tr P S l r) (hsi : ¬ S it) (hsz : ∀ b, S b → ¬ Z b) (hsrt : Pl.Srt OI l) (x : Int × Int) {hv : Value} {hz : Nat → Prop} (hk : HintOk H hv hz) (hzS : ∀ b, hz b → ¬ S b) (hzi : ¬ hz it) (hzZ : ∀ b, Z b → ¬ hz b) :
    Fn Try.prog B 192 [.pointer (some ⟨it, 0, none⟩), .agg (EJ.enc x).toArray, hv] H (fun v H' => v = .bool (decide (Pl.pos OI x l < l.length)) ∧ ItPH H H' it tr mt Z r l hv hz (if Pl.pos OI x l < l.length then some (Pl.pos OI x l) else none)) := by
  refine fn_of Try.func192 rfl Try.ntmps192 ?_
  refine (show Go' _ _ _ _ 124 [(0, _), (1, _), (2, _)] [.code _] _ from ?_)
  refine Go'.seq ?_
  -- region 0 (btreeg.go:1576)
  refine Go'.region [(0, 2), (1, 0)] rfl ?_
  refine O.box rfl rfl rfl rfl ?_
  intro H0 M0
  refine ⟨trivial, ?_⟩
  have hkb : H.size ≠ it := fun e => by have := cl_lt hI.c0; omega
  have hkZ : ¬ Z H.size := fun h => by have := hI.zl _ h; omega
  have hkz : ¬ hz H.size := fun h => by have := (hk.base _ h).2; omega
  replace hI := hI.box (M0.fr nowhere)
  replace hk := hk.fr (M0.fr nowhere) (fun _ _ _ => nw)
  replace hT := hT.keep (M0.fr nowhere) (fun _ _ _ => nw)
  have mk : Rd H0 H.size 0 (EJ.enc x) := M0.rd _ [] (by simp [Value.cells])
  have hR0 := M0.fr nowhere
  refine O.asg rfl rfl rfl rfl rfl ?_
  refine Pl.fin [(0, _), (2, _), (4, _), (6, _)] ⟨rfl, rfl, rfl, rfl, trivial⟩ ?_
  refine Go'.seq ?_
  refine Go'.seq ?_
  refine Go'.mono (Q := (fun v H' => v = .bool (decide (Pl.pos OI x l < l.length)) ∧ ItPH H0 H' it tr mt Z r l hv hz (if Pl.pos OI x l < l.length then some (Pl.pos OI x l) else none))) (fun v H' hq => ⟨hq.1, hq.2.rebase hR0⟩) ?_
  generalize H.size = kb at *
  clear hR0 M0
  clear H
  rename Mem => H
  have hx255 := hP.hx
  have hK : ∀ H', Fr (fun b _ => b = it ∨ (Z b ∨ hz b)) H H' → TreeR H' tr P S l r := fun H' hf => hT.keep hf fun b o hs h => h.elim (fun e => hsi (e ▸ hs)) (fun h => h.elim (hsz b hs) (fun h => hzS b h hs))
  have hll := hT.ll
  have hzl : ∀ b, hz b → b < H.size := fun b hb => (hk.base b hb).2
  replace hI : Itr EJ H H it tr mt (fun b => Z b ∨ hz b) sk sa se Z fr kv := { hI with f := Fr.refl _ _, zz := fun b hb => .inl (.inl hb) }
  -- region 1 (btreeg.go:1577)
  refine Go'.region [(0, 0), (1, 0), (2, 0), (3, 1), (4, 0)] rfl ?_
  refine O.mv rfl rfl rfl rfl rfl ?_
  refine O.nc rfl rfl rfl rfl rfl ?_
  refine O.faz rfl rfl rfl rfl ⟨_, _, _, Try.underlying135, rfl, rfl, Try.sizeOf86⟩ rfl ?_
  refine O.ld rfl rfl rfl (fun w => ⟨Try.isAgg86 w, Try.sizeOf86 w⟩) rfl hI.c0 ?_
  refine O.isNil rfl rfl rfl rfl Try.underlying86 rfl rfl ?_
  refine Pl.fin [(0, _), (2, _), (4, _), (6, _), (15, _)] ⟨rfl, rfl, rfl, rfl, rfl, trivial⟩ ?_
  refine Go'.condF rfl ?_
  refine Go'.skip ?_
  refine Go'.seq ?_
  -- region 3 (btreeg.go:1580)
  refine Go'.region [(0, 0), (1, 0), (2, 0), (3, 2)] rfl ?_
  refine O.mv rfl rfl rfl rfl rfl ?_
  refine O.nc rfl rfl rfl rfl rfl ?_
  refine O.fa0 (off := 3) rfl rfl rfl rfl ⟨_, _, _, Try.underlying135, rfl, rfl, Try.sizeOf4⟩ rfl ?_
  refine O.st rfl rfl Try.sizeOf4 rfl rfl rfl rfl rfl (hI.w 3 (by decide)) ?_
  intro Hc Wc
  replace hI := hI.set2 Wc
  replace hk := hk.fr Wc.fr (fun b o hb => nr (.inl (fun e => hzi (e ▸ hb))))
  have hsv0 := hI.st
  obtain ⟨sv, hsv, hA⟩ := hsv0
  refine ⟨trivial, ?_⟩
  refine Pl.fin [(0, _), (2, _), (4, _), (6, _)] ⟨rfl, rfl, rfl, rfl, trivial⟩ ?_
  refine Go'.seq ?_
  -- region 4 (btreeg.go:1581)
  refine Go'.region [(0, 0), (1, 0), (2, 0), (3, 0), (4, 1), (5, 0), (6, 0), (7, 0), (8, 2)] rfl ?_
  refine O.mv rfl rfl rfl rfl rfl ?_
  refine O.mv rfl rfl rfl rfl rfl ?_
  refine O.nc rfl rfl rfl rfl rfl ?_
  refine O.fa0 (off := 14) rfl rfl rfl rfl ⟨_, _, _, Try.underlying135, rfl, rfl, Try.sizeOf133⟩ rfl ?_
  refine O.ld rfl rfl rfl (fun w => ⟨Try.isAgg133 w, Try.sizeOf133 w⟩) rfl hsv ?_
  refine O.slcA (F := EK) (j := 0) rfl rfl rfl rfl Try.underlying133 Try.sizeOf131 rfl hA ⟨_, by rfl⟩ (Nat.zero_le _) ?_
  intro v1 hA1
  obtain ⟨a1, m1, c1, rfl⟩ := hA1.form
  refine O.nc rfl rfl rfl rfl rfl ?_
  refine O.fa0 (off := 14) rfl rfl rfl rfl ⟨_, _, _, Try.underlying135, rfl, rfl, Try.sizeOf133⟩ rfl ?_
  refine O.st rfl rfl Try.sizeOf133 rfl rfl rfl rfl rfl (hI.w 14 (by decide)) ?_
  intro Hd Wd
  replace hI := hI.set5 (fr' := []) (by rw [List.take_zero] at hA1; exact hA1) Wd
  replace hk := hk.fr Wd.fr (fun b o hb => nr (.inl (fun e => hzi (e ▸ hb))))
  refine ⟨trivial, ?_⟩
  refine Pl.fin [(0, _), (2, _), (4, _), (6, _)] ⟨rfl, rfl, rfl, rfl, trivial⟩ ?_
  refine Go'.seq ?_
  refine Go'.seq ?_
  have hR := hK _ hI.f
  rcases r with _ | ⟨h0, t0⟩
  · skip
    obtain ⟨rfl, hroot⟩ := hR.rt
    -- region 5 (btreeg.go:1582)
    refine Go'.region [(0, 0), (1, 0), (2, 0), (3, 1), (4, 0), (5, 0), (6, 1), (7, 0)] rfl ?_
    refine O.mv rfl rfl rfl rfl rfl ?_
    refine O.nc rfl rfl rfl rfl rfl ?_
    refine O.faz rfl rfl rfl rfl ⟨_, _, _, Try.underlying135, rfl, rfl, Try.sizeOf86⟩ rfl ?_
    refine O.ld rfl rfl rfl (fun w => ⟨Try.isAgg86 w, Try.sizeOf86 w⟩) rfl hI.c0 ?_
    refine O.nc rfl rfl rfl rfl rfl ?_
    refine O.fa0 (off := 2) rfl rfl rfl rfl ⟨_, _, _, Try.underlying158, rfl, rfl, Try.sizeOf129⟩ rfl ?_
    refine O.ld rfl rfl rfl (fun w => ⟨Try.isAgg129 w, Try.sizeOf129 w⟩) rfl hroot ?_
    refine O.isNil rfl rfl rfl rfl Try.underlying129 rfl rfl ?_
    refine Pl.fin [(0, _), (2, _), (4, _), (6, _), (34, _)] ⟨rfl, rfl, rfl, rfl, rfl, trivial⟩ ?_
    refine Go'.condT rfl ?_
    refine Go'.seq ?_
    -- region 6 (btreeg.go:1583)
    refine Go'.region [(0, 0)] rfl ?_
    refine O.asg rfl rfl rfl rfl rfl ?_
    refine Pl.fin [(0, _), (2, _), (4, _), (6, _)] ⟨rfl, rfl, rfl, rfl, trivial⟩ ?_
    refine Go'.ret (vs := [_]) Try.func192 Try.results192 ⟨rfl, trivial⟩ ?_
    exact ⟨rfl, hk, _, _, _, _, _, _, hI, rfl, fun b hb => .inl hb⟩
  · skip
    obtain ⟨hg, hx, hl, hroot, haf⟩ := hR.rt
    have hptr : cl _ tr 2 = some (.pointer (some ⟨Gt.p h0 t0, 0, none⟩)) := hroot
    obtain ⟨kp, hN⟩ := hg.node
    have hn0 := hN.c0
    rw [hg.isoe] at hn0
    -- region 5 (btreeg.go:1582)
    refine Go'.region [(0, 0), (1, 0), (2, 0), (3, 1), (4, 0), (5, 0), (6, 1), (7, 0)] rfl ?_
    refine O.mv rfl rfl rfl rfl rfl ?_
    refine O.nc rfl rfl rfl rfl rfl ?_
    refine O.faz rfl rfl rfl rfl ⟨_, _, _, Try.underlying135, rfl, rfl, Try.sizeOf86⟩ rfl ?_
    refine O.ld rfl rfl rfl (fun w => ⟨Try.isAgg86 w, Try.sizeOf86 w⟩) rfl hI.c0 ?_
    refine O.nc rfl rfl rfl rfl rfl ?_
    refine O.fa0 (off := 2) rfl rfl rfl rfl ⟨_, _, _, Try.underlying158, rfl, rfl, Try.sizeOf129⟩ rfl ?_
    refine O.ld rfl rfl rfl (fun w => ⟨Try.isAgg129 w, Try.sizeOf129 w⟩) rfl hptr ?_
    refine O.isNil rfl rfl rfl rfl Try.underlying129 rfl rfl ?_
    refine Pl.fin [(0, _), (2, _), (4, _), (6, _), (34, _)] ⟨rfl, rfl, rfl, rfl, rfl, trivial⟩ ?_
    refine Go'.condF rfl ?_
    refine Go'.skip ?_
    refine Go'.seq ?_
    -- region 7 (btreeg.go:1585)
    refine Go'.draw (fun _ => True) [(0, 0), (1, 0), (2, 0), (3, 1), (4, 0), (5, 0), (6, 0), (7, 1), (8, 0), (9, 0), (10, 0), (11, 0), (12, 0), (13, 1), (14, 2), (15, 0)] (by kernel_rfl) (by kernel_rfl) (trivial) ?_
    refine O.mv rfl rfl rfl rfl rfl ?_
    refine O.nc rfl rfl rfl rfl rfl ?_
    refine O.faz rfl rfl rfl rfl ⟨_, _, _, Try.underlying135, rfl, rfl, Try.sizeOf86⟩ rfl ?_
    refine O.ld rfl rfl rfl (fun w => ⟨Try.isAgg86 w, Try.sizeOf86 w⟩) rfl hI.c0 ?_
    refine O.mv rfl rfl rfl rfl rfl ?_
    refine O.nc rfl rfl rfl rfl rfl ?_
    refine O.faz rfl rfl rfl rfl ⟨_, _, _, Try.underlying135, rfl, rfl, Try.sizeOf86⟩ rfl ?_
    refine O.ld rfl rfl rfl (fun w => ⟨Try.isAgg86 w, Try.sizeOf86 w⟩) rfl hI.c0 ?_
    refine O.nc rfl rfl rfl rfl rfl ?_
    refine O.fa0 (off := 2) rfl rfl rfl rfl ⟨_, _, _, Try.underlying158, rfl, rfl, Try.sizeOf129⟩ rfl ?_
    refine O.mv rfl rfl rfl rfl rfl ?_
    refine O.nc rfl rfl rfl rfl rfl ?_
    refine O.fa0 (off := 1) rfl rfl rfl rfl ⟨_, _, _, Try.underlying135, rfl, rfl, Try.sizeOf4⟩ rfl ?_
    refine O.ld rfl rfl rfl (fun w => ⟨Try.isAgg4 w, Try.sizeOf4 w⟩) rfl hI.c1 ?_
    refine O.callQ rfl rfl rfl Try.call130 rfl (isoLoad_spec mt hroot hn0 hR.iso) trivial ?_
    refine O.asg rfl rfl rfl rfl rfl ?_
    refine Pl.fin [(0, _), (2, _), (4, _), (6, _), (7, _)] ⟨rfl, rfl, rfl, rfl, rfl, trivial⟩ ?_
    refine Go'.seq ?_
    unfold ptr
    have hC := Ctx.root t0
    have hQ : Pl.Srt OI (Gt.L h0 t0) ∧ Pl.pos OI x l = 0 + Pl.pos OI x (Gt.L h0 t0) := by rw [hl, Nat.zero_add]; exact ⟨hsrt, rfl⟩
    clear hR hg hx hl hroot haf hptr hN hn0
    -- region 8 (btreeg.go:1586)
    refine Go'.region [(0, 0)] rfl ?_
    refine O.asg rfl rfl rfl rfl rfl ?_
    refine Pl.fin [(0, _), (2, _), (4, _), (6, _), (7, _), (8, _)] ⟨rfl, rfl, rfl, rfl, rfl, rfl, trivial⟩ ?_
    refine Go'.block ?_
    refine Go'.loop ?_
    refine Go'.keep [(0, _), (2, _), (4, _), (6, _), (7, _), (8, _)] ⟨rfl, rfl, rfl, rfl, rfl, rfl, trivial⟩ ?_
    refine Go'.ind (σ := ((h : Nat) × Gt EJ h) × List (Nat × Int) × (Nat → Prop)) (fun s => s.1.1) (fun s H' => Itr EJ H H' it tr mt (fun b => Z b ∨ hz b) true sa se s.2.2 s.2.1 kv ∧ HintOk H' hv hz ∧ (∀ b, s.2.2 b → Z b ∨ H.size ≤ b) ∧ ∃ a, Ctx t0 s.2.1 s.1.1 s.1.2 a ∧ Pl.Srt OI (Gt.L s.1.1 s.1.2) ∧ Pl.pos OI x l = a + Pl.pos OI x (Gt.L s.1.1 s.1.2))
      (fun s => [(0, .pointer (some ⟨it, 0, none⟩)), (2, hv), (4, .pointer (some ⟨kb, 0, none⟩)), (6, .bool false), (7, .pointer (some ⟨Gt.p s.1.1 s.1.2, 0, none⟩)), (8, .int .i64 (s.2.1.length : Int))]) (⟨_, _⟩, _, _) ⟨hI, hk, fun b hb => .inl hb, _, hC, hQ⟩ rfl ?_
    clear hI hC hQ hk
    rintro ⟨⟨h1, s1⟩, fs1, Z1⟩ H1 ⟨hI, hk, hZn, a, hC, hs, hQ⟩ ih
    simp only at hI hC ih hZn
    replace hs : Pl.Srt OI (Gt.L h1 s1) := hs
    replace hQ : Pl.pos OI x l = a + Pl.pos OI x (Gt.L h1 s1) := hQ
    have hz1 : ∀ b, Z1 b → ¬ hz b := fun b hb hb2 => (hZn b hb).elim (fun h => hzZ b h hb2) (fun h => by have := hzl b hb2; omega)
    have mk1 := hI.f.rd mk (fun _ _ h => h.elim hkb (fun h => h.elim hkZ hkz))
    have hR := hK _ hI.f
    obtain ⟨hg, hx, hl, hroot, haf⟩ := hR.rt
    obtain ⟨hgd, hx1, hfl, haf1⟩ := Ctx.good hR.mn hg hx hC
    have hhi := Gt.high hR.mn hg hx
    rw [hl] at hhi
    obtain ⟨kp, hN⟩ := nodeP hgd
    have hxm := hgd.xmx
    have hsX : Pl.Srt OI (Gt.X h1 s1) := by
      rcases h1 with _ | h1
      · exact hs
      · obtain ⟨g, X, K⟩ := s1
        have hKl : K.length = X.length + 1 := hgd.2.2.2.2.2.1
        have hs' : Pl.Srt OI (Pl.inter X (K.map (Gt.L h1))) := hs
        have hle : X.length < (K.map (Gt.L h1)).length := by rw [List.length_map, hKl]; exact Nat.lt_succ_self _
        exact hs'.sublist (Pl.sublist_inter X _ hle)
    have hple := Pl.pos_le OI x (Gt.X h1 s1)
    have hplt : Pl.fnd OI x (Gt.X h1 s1) = true → Pl.pos OI x (Gt.X h1 s1) < (Gt.X h1 s1).length := Pl.fnd_pos_lt OI
    have hoff : ∀ b o, hz b → ¬ ncl EJ (Gt.g h1 s1) b o := fun b o hb hn => hzS b hb (haf b o (haf1 b o (ncl_af hn)))
    refine (show Go' _ _ _ _ _ [(0, .pointer (some ⟨it, 0, none⟩)), (2, hv), (4, .pointer (some ⟨kb, 0, none⟩)), (6, .bool false), (7, .pointer (some ⟨Gt.p h1 s1, 0, none⟩)), (8, .int .i64 (fs1.length : Int))] _ _ from ?_)
    refine Go'.block ?_
    refine Go'.seq ?_
    -- region 9 (btreeg.go:1588)
    refine Go'.draw (fun _ => True) [(0, 0), (1, 0), (2, 0), (3, 1), (4, 0), (5, 1), (6, 0), (7, 0), (8, 2), (9, 0), (10, 0), (11, 0), (12, 0), (13, 0)] (by kernel_rfl) (by kernel_rfl) (trivial) ?_
    refine O.mv rfl rfl rfl rfl rfl ?_
    refine O.nc rfl rfl rfl rfl rfl ?_
    refine O.faz rfl rfl rfl rfl ⟨_, _, _, Try.underlying135, rfl, rfl, Try.sizeOf86⟩ rfl ?_
    refine O.ld rfl rfl rfl (fun w => ⟨Try.isAgg86 w, Try.sizeOf86 w⟩) rfl hI.c0 ?_
    refine O.mv rfl rfl rfl rfl rfl ?_
    refine O.lds rfl rfl rfl (fun w => ⟨Try.isAgg27 w, Try.sizeOf27 w⟩) rfl rfl mk1 ?_
    refine O.mv rfl rfl rfl rfl rfl ?_
    refine O.mv rfl rfl rfl rfl rfl ?_
    refine O.call rfl rfl rfl Try.call131 rfl (find_spec hR.tc x hN hsX (by omega) hx1 hk hoff (by omega)) ?_
    rintro _ H2 ⟨rfl, hFf, hkf⟩
    replace hI := hI.frH hFf (fun b h => .inl (.inr h)) hzi hz1
    clear hk mk1
    have hk := hkf
    clear hkf
    refine ⟨trivial, ?_⟩
    refine O.mv rfl rfl rfl rfl rfl ?_
    refine O.ext rfl rfl rfl rfl rfl rfl ?_
    refine O.ext rfl rfl rfl rfl rfl rfl ?_
    refine O.asg rfl rfl rfl rfl rfl ?_
    refine O.asg rfl rfl rfl rfl rfl ?_
    refine Pl.fin [(0, _), (2, _), (4, _), (6, _), (7, _), (8, _), (9, _), (10, _)] ⟨rfl, rfl, rfl, rfl, rfl, rfl, rfl, rfl, trivial⟩ ?_
    refine Go'.seq ?_
    have hfs9 : fs1.length ≤ 4294967296 := by omega
    clear hR hg hx hl hroot haf hgd hx1 hfl haf1 hN kp hhi hoff
    have hsv0 := hI.st
    obtain ⟨sv, hsv, hA⟩ := hsv0
    have hsz2 := hI.f.size
    -- region 10 (btreeg.go:1589)
    refine Go'.region [(0, 0), (1, 0), (2, 0), (3, 0), (4, 1), (5, 0), (6, 0), (7, 0), (8, 2), (9, 2), (10, 0), (11, 0), (12, 2)] rfl ?_
    refine O.mv rfl rfl rfl rfl rfl ?_
    refine O.mv rfl rfl rfl rfl rfl ?_
    refine O.nc rfl rfl rfl rfl rfl ?_
    refine O.fa0 (off := 14) rfl rfl rfl rfl ⟨_, _, _, Try.underlying135, rfl, rfl, Try.sizeOf133⟩ rfl ?_
    refine O.ld rfl rfl rfl (fun w => ⟨Try.isAgg133 w, Try.sizeOf133 w⟩) rfl hsv ?_
    refine O.mv rfl rfl rfl rfl rfl ?_
    refine O.mv rfl rfl rfl rfl rfl ?_
    refine O.bld (cs := (EK.enc (Gt.p h1 s1, (((Pl.pos OI x (Gt.X h1 s1) : Nat) : Int) : Int)))) rfl rfl rfl rfl (st131) rfl (by kernel_rfl) ?_
    refine O.bsl (cs := (EK.enc (Gt.p h1 s1, (((Pl.pos OI x (Gt.X h1 s1) : Nat) : Int) : Int)))) rfl rfl rfl ⟨Try.underlying133, Try.sizeOf131, Try.zeroValue131, ⟨_, Try.typeInfo131, rfl⟩, rfl, by decide, by decide⟩ rfl (by decide) (by kernel_rfl) ?_
    intro H3 M3
    have hs3 := M3.size
    have hA3 := hA.fr (M3.fr nowhere) (fun _ _ _ _ => nw)
    have m3 : Rd H3 H2.size 0 (row EK [(Gt.p h1 s1, (((Pl.pos OI x (Gt.X h1 s1) : Nat) : Int) : Int))]) := M3.rd _ [] (by simp [row, EK])
    refine ⟨trivial, ?_⟩
    refine O.appA (E := EK) (Y := [(Gt.p h1 s1, (((Pl.pos OI x (Gt.X h1 s1) : Nat) : Int) : Int))]) rfl rfl rfl ⟨Try.underlying133, Try.sizeOf131, Try.zeroValue131, ⟨_, Try.typeInfo131, rfl⟩, rfl, by decide, by decide⟩ rfl hA3 rfl ⟨_, _, _, rfl, m3⟩ (Nat.succ_pos _) (Nat.le_trans (Nat.mul_le_mul_left _ (Nat.le_of_ble_eq_true (n := _) (m := 4096) rfl)) (by rw [List.length_reverse]; simp only [List.length_singleton]; omega)) (by rw [List.length_reverse]; simp only [List.length_singleton]; omega) ?_
    intro v4 H4 hA4 hF4 hs4
    obtain ⟨a4, m4, c4, rfl⟩ := hA4.form
    have hw4 : Wr H4 it 14 1 := hF4.wr ((M3.fr nowhere).wr (hI.w 14 (by decide)))
    refine ⟨trivial, ?_⟩
    refine O.nc rfl rfl rfl rfl rfl ?_
    refine O.fa0 (off := 14) rfl rfl rfl rfl ⟨_, _, _, Try.underlying135, rfl, rfl, Try.sizeOf133⟩ rfl ?_
    refine O.st rfl rfl Try.sizeOf133 rfl rfl rfl rfl rfl hw4 ?_
    intro H5 W5
    replace hI := hI.push (M3.fr nowhere) hF4 hA4 W5
    refine ⟨trivial, ?_⟩
    refine Pl.fin [(0, _), (2, _), (4, _), (6, _), (7, _), (8, _), (9, _), (10, _)] ⟨rfl, rfl, rfl, rfl, rfl, rfl, rfl, rfl, trivial⟩ ?_
    refine Go'.seq ?_
    refine Go'.seq ?_
    replace hk := ((hk.fr (M3.fr nowhere) (fun _ _ _ => nw)).fr hF4 (fun b o hb h => hz1 b h hb)).fr W5.fr (fun b o hb => nr (.inl (fun e => hzi (e ▸ hb))))
    have hZn5 : ∀ b, (Z1 b ∨ (b = H3.size ∧ b < H4.size)) → Z b ∨ H.size ≤ b := fun b hb => hb.elim (hZn b) (fun h => .inr (by omega))
    have hR := hK _ hI.f
    obtain ⟨hg, hx, hl, hroot, haf⟩ := hR.rt
    obtain ⟨hgd, hx1, hfl, haf1⟩ := Ctx.good hR.mn hg hx hC
    obtain ⟨kp, hN⟩ := hgd.node
    have hhi := Gt.high hR.mn hg hx
    rw [hl] at hhi
    cases hfd : Pl.fnd OI x (Gt.X h1 s1)
    rotate_left
    · skip
      -- region 11 (btreeg.go:1590)
      refine Go'.region [(0, 0)] rfl ?_
      refine O.mv rfl rfl rfl rfl rfl ?_
      refine Pl.fin [(0, _), (2, _), (4, _), (6, _), (7, _), (8, _), (9, _), (10, _), (74, _)] ⟨rfl, rfl, rfl, rfl, rfl, rfl, rfl, rfl, rfl, trivial⟩ ?_
      refine Go'.condT rfl ?_
      refine Go'.seq ?_
      have hlt := hplt hfd
      obtain ⟨y, hy⟩ : ∃ y, (Gt.X h1 s1)[Pl.pos OI x (Gt.X h1 s1)]? = some y := ⟨_, List.getElem?_eq_getElem hlt⟩
      have hS : Stand t0 ((Gt.p h1 s1, ((Pl.pos OI x (Gt.X h1 s1) : Nat) : Int)) :: fs1) (Pl.pos OI x l) ∧ l[Pl.pos OI x l]? = some y := by
        rcases h1 with _ | h1
        · obtain ⟨g, X⟩ := s1
          refine ⟨.inl ⟨fs1, g, X, a, _, rfl, hC, hlt, hQ⟩, ?_⟩
          have := Ctx.item0 hR.mn hg hx hC hy
          rw [hl] at this
          rw [hQ]; exact this
        · obtain ⟨g, X, K⟩ := s1
          have hKl : K.length = X.length + 1 := hgd.2.2.2.2.2.1
          have hlt' : Pl.pos OI x X < X.length := hlt
          obtain ⟨k0, hk0⟩ : ∃ k, K[Pl.pos OI x X]? = some k := ⟨_, List.getElem?_eq_getElem (by omega)⟩
          have hkL : (K.map (Gt.L h1))[Pl.pos OI x X]? = some (Gt.L h1 k0) := by rw [List.getElem?_map, hk0]; rfl
          have hrk : Pl.pos OI x (Pl.inter X (K.map (Gt.L h1))) = Pl.bl (K.map (Gt.L h1)) (Pl.pos OI x X) + (Gt.L h1 k0).length := Pl.inter_rank_found hs (by rw [List.length_map]; exact hKl) hfd hkL
          have hQ' : Pl.pos OI x l = a + Pl.pos OI x (Pl.inter X (K.map (Gt.L h1))) := hQ
          rw [hrk] at hQ'
          refine ⟨.inr ⟨fs1, h1, g, X, K, a, Pl.pos OI x X, rfl, hC, hlt', by rw [Pl.bl_succ hkL]; omega⟩, ?_⟩
          have := Ctx.item1 hR.mn hg hx hC hkL hy
          rw [hl] at this
          rw [hQ']; exact this
      obtain ⟨hS, hq⟩ := hS
      -- region 12 (btreeg.go:1591)
      refine Go'.region [(0, 0), (1, 0), (2, 0), (3, 0), (4, 1), (5, 0), (6, 0), (7, 1), (8, 0), (9, 0), (10, 2)] rfl ?_
      refine O.mv rfl rfl rfl rfl rfl ?_
      refine O.mv rfl rfl rfl rfl rfl ?_
      refine O.nc rfl rfl rfl rfl rfl ?_
      refine O.fa0 (off := 2) rfl rfl rfl rfl ⟨_, _, _, Try.underlying168, rfl, rfl, Try.sizeOf25⟩ rfl ?_
      refine O.ld rfl rfl rfl (fun w => ⟨Try.isAgg25 w, Try.sizeOf25 w⟩) rfl hN.c2 ?_
      refine O.mv rfl rfl rfl rfl rfl ?_
      refine O.ix (j := Pl.pos OI x (Gt.X h1 s1)) rfl rfl rfl rfl Try.underlying25 Try.sizeOf27 rfl rfl (by omega) hlt ?_
      refine O.lds rfl rfl rfl (fun w => ⟨Try.isAgg27 w, Try.sizeOf27 w⟩) rfl rfl (hN.sl.item hy) ?_
      refine O.nc rfl rfl rfl rfl rfl ?_
      refine O.fa0 (off := 15) rfl rfl rfl rfl ⟨_, _, _, Try.underlying135, rfl, rfl, Try.sizeOf27⟩ rfl ?_
      refine O.st (vs := (EJ.enc y)) rfl rfl Try.sizeOf27 rfl rfl rfl rfl rfl hI.wk ?_
      intro H9 W9
      have hI9 := hI.set6 W9
      replace hk := hk.fr W9.fr (fun b o hb => nr (.inl (fun e => hzi (e ▸ hb))))
      refine ⟨trivial, ?_⟩
      refine Pl.fin [(0, _), (2, _), (4, _), (6, _), (7, _), (8, _), (9, _), (10, _), (74, _)] ⟨rfl, rfl, rfl, rfl, rfl, rfl, rfl, rfl, rfl, trivial⟩ ?_
      refine Go'.seq ?_
      -- region 13 (btreeg.go:1592)
      refine Go'.region [(0, 0)] rfl ?_
      refine O.asg rfl rfl rfl rfl rfl ?_
      refine Pl.fin [(0, _), (2, _), (4, _), (6, _), (7, _), (8, _), (9, _), (10, _), (74, _)] ⟨rfl, rfl, rfl, rfl, rfl, rfl, rfl, rfl, rfl, trivial⟩ ?_
      refine Go'.ret (vs := [_]) Try.func192 Try.results192 ⟨rfl, trivial⟩ ?_
      have hql : Pl.pos OI x l < l.length := (List.getElem?_eq_some_iff.1 hq).1
      exact ⟨congrArg Value.bool (decide_eq_true hql).symm, hk, _, _, _, _, _, _, hI9, by rw [if_pos hql]; exact ⟨rfl, hq, _, _, rfl, hS⟩, hZn5⟩
    · skip
      -- region 11 (btreeg.go:1590)
      refine Go'.region [(0, 0)] rfl ?_
      refine O.mv rfl rfl rfl rfl rfl ?_
      refine Pl.fin [(0, _), (2, _), (4, _), (6, _), (7, _), (8, _), (9, _), (10, _), (74, _)] ⟨rfl, rfl, rfl, rfl, rfl, rfl, rfl, rfl, rfl, trivial⟩ ?_
      refine Go'.condF rfl ?_
      refine Go'.skip ?_
      refine Go'.seq ?_
      refine Go'.seq ?_
      rcases h1 with _ | h1
      · skip
        obtain ⟨g, X⟩ := s1
        have hN : NodeM EJ _ g X (.pointer none) := hgd.1
        have hfs : fs1.length ≤ 4294967296 := by omega
        have hple : Pl.pos OI x X ≤ X.length := hple
        have hxl : X.length ≤ P.mx := hxm
        replace hQ : Pl.pos OI x l = a + Pl.pos OI x X := hQ
        replace hI : Itr EJ H H5 it tr mt _ true sa se _ ((g.p, ((Pl.pos OI x X : Nat) : Int)) :: fs1) kv := hI
        obtain ⟨b, o, c, hTop⟩ := hI.top
        -- region 14 (btreeg.go:1594)
        refine Go'.region [(0, 0), (1, 2)] rfl ?_
        refine O.mv rfl rfl rfl rfl rfl ?_
        refine O.callQ rfl rfl rfl Try.call133 rfl (leaf_spec hN.c3) trivial ?_
        refine Pl.fin [(0, _), (2, _), (4, _), (6, _), (7, _), (8, _), (9, _), (10, _), (74, _), (86, _)] ⟨rfl, rfl, rfl, rfl, rfl, rfl, rfl, rfl, rfl, rfl, trivial⟩ ?_
        refine Go'.condT rfl ?_
        refine Go'.seq ?_
        -- region 15 (btreeg.go:1595)
        refine Go'.draw (fun _ => True) [(0, 0), (1, 0), (2, 0), (3, 1), (4, 0), (5, 0), (6, 0), (7, 1), (8, 0), (9, 0), (10, 0), (11, 0), (12, 1), (13, 0), (14, 0), (15, 0), (16, 3)] (by kernel_rfl) (by kernel_rfl) (trivial) ?_
        refine O.mv rfl rfl rfl rfl rfl ?_
        refine O.nc rfl rfl rfl rfl rfl ?_
        refine O.fa0 (off := 14) rfl rfl rfl rfl ⟨_, _, _, Try.underlying135, rfl, rfl, Try.sizeOf133⟩ rfl ?_
        refine O.ld rfl rfl rfl (fun w => ⟨Try.isAgg133 w, Try.sizeOf133 w⟩) rfl hTop.c5 ?_
        refine O.mv rfl rfl rfl rfl rfl ?_
        refine O.nc rfl rfl rfl rfl rfl ?_
        refine O.fa0 (off := 14) rfl rfl rfl rfl ⟨_, _, _, Try.underlying135, rfl, rfl, Try.sizeOf133⟩ rfl ?_
        refine O.ld rfl rfl rfl (fun w => ⟨Try.isAgg133 w, Try.sizeOf133 w⟩) rfl hTop.c5 ?_
        refine O.len rfl rfl rfl rfl Try.underlying133 rfl ?_
        refine O.sub (((fs1.length : Nat) : Int)) rfl rfl rfl rfl rfl rfl (by omega) (by omega) ?_
        refine O.ix (j := fs1.length) rfl rfl rfl rfl Try.underlying133 Try.sizeOf131 rfl rfl (by omega) (by omega) ?_
        refine O.fa (off := 1) rfl rfl rfl rfl ⟨_, _, _, Try.underlying131, rfl, rfl, Try.sizeOf3⟩ rfl ?_
        refine O.ld rfl rfl rfl (fun w => ⟨Try.isAgg3 w, Try.sizeOf3 w⟩) rfl hTop.ci ?_
        refine O.sub (((Pl.pos OI x X : Nat) : Int) - 1) rfl rfl rfl rfl rfl rfl (by omega) (by omega) ?_
        refine O.ix (j := fs1.length) rfl rfl rfl rfl Try.underlying133 Try.sizeOf131 rfl rfl (by omega) (by omega) ?_
        refine O.fa (off := 1) rfl rfl rfl rfl ⟨_, _, _, Try.underlying131, rfl, rfl, Try.sizeOf3⟩ rfl ?_
        refine O.st3 rfl rfl Try.sizeOf3 rfl rfl rfl rfl rfl hTop.wi ?_
        intro H6 W6
        have hbz : Z1 b ∨ (b = H3.size ∧ b < H4.size) := by
          obtain ⟨b1, o1, c1, h1, hzb, _, _⟩ := hI.stk
          have e := h1.symm.trans hTop.c5
          simp only [Option.some.injEq, Value.slice.injEq, Addr.mk.injEq] at e
          obtain ⟨⟨rfl, _, _⟩, _, _⟩ := e
          exact hzb
        obtain ⟨hI6, hTop6⟩ := hI.sti hTop W6
        replace hk := hk.fr W6.fr (fun b2 o2 hb2 => nr (.inl (fun e => hbz.elim (fun h => hz1 b h (e ▸ hb2)) (fun h => by have := hzl b2 hb2; omega))))
        have hsz9 : ∀ b, S b → ¬ (fun b => Z1 b ∨ (b = H3.size ∧ b < H4.size)) b := fun b hs hz => (hI.zz b hz).elim (fun h => h.elim (hsz b hs) (fun h => hzS b h hs)) (fun h => by have := hT.lt b hs; omega)
        have hG : Gap t0 ((g.p, ((Pl.pos OI x X : Nat) : Int) - 1) :: fs1) (Pl.pos OI x l) := .inl ⟨fs1, g, X, a, Pl.pos OI x X, rfl, hC, hple, hQ⟩
        refine Pl.fin [(0, _), (2, _), (4, _), (6, _), (7, _), (8, _), (9, _), (10, _), (74, _), (86, _)] ⟨rfl, rfl, rfl, rfl, rfl, rfl, rfl, rfl, rfl, rfl, trivial⟩ ?_
        refine Go'.seq ?_
        -- region 16 (btreeg.go:1596)
        refine Go'.region [(0, 0), (1, 2), (2, 0)] rfl ?_
        refine O.mv rfl rfl rfl rfl rfl ?_
        refine O.call rfl rfl rfl Try.call159 rfl (iNext_gen hI6.re (hK _ hI6.f) hsi hsz9 hG) ?_
        rintro _ H7 ⟨rfl, hp7⟩
        refine ⟨trivial, ?_⟩
        refine O.asg rfl rfl rfl rfl rfl ?_
        refine Pl.fin [(0, _), (2, _), (4, _), (6, _), (7, _), (8, _), (9, _), (10, _), (74, _), (86, _)] ⟨rfl, rfl, rfl, rfl, rfl, rfl, rfl, rfl, rfl, rfl, trivial⟩ ?_
        refine Go'.ret (vs := [_]) Try.func192 Try.results192 ⟨rfl, trivial⟩ ?_
        obtain ⟨sk7, as7, ae7, Z7, fr7, kv7, hI7, hst7⟩ := hp7
        have hs67 := hI6.f.size
        exact ⟨rfl, hk.fr hI7.f (fun b2 o2 hb2 h => h.elim (fun e => hzi (e ▸ hb2)) (fun h => h.elim (fun h => hz1 b2 h hb2) (fun h => by have := hzl b2 hb2; omega))), sk7, as7, ae7, Z7, fr7, kv7, hI6.thru hI7, hst7, fun b hb => (hI7.zz b hb).elim (hZn5 b) (fun h => .inr (by omega))⟩
      · skip
        obtain ⟨g, X, K⟩ := s1
        have hin : Inn _ P h1 g X ((Gt.ps h1 K).map some) K := hgd.inn
        have hKl : K.length = X.length + 1 := hgd.2.2.2.2.2.1
        have hol : ((Gt.ps h1 K).map some).length = X.length + 1 := by rw [List.length_map, Gt.ps, List.length_map]; exact hKl
        have hKL : (K.map (Gt.L h1)).length = X.length + 1 := by rw [List.length_map]; exact hKl
        have hple : Pl.pos OI x X ≤ X.length := hple
        obtain ⟨k0, hk0⟩ : ∃ k, K[Pl.pos OI x X]? = some k := ⟨K[Pl.pos OI x X], List.getElem?_eq_getElem (by omega)⟩
        have hk0m : k0 ∈ K := List.mem_of_getElem? hk0
        have hok : ((Gt.ps h1 K).map some)[Pl.pos OI x X]? = some (some (Gt.p h1 k0)) := by rw [Gt.ps, List.map_map, List.getElem?_map, hk0]; rfl
        have hkL : (K.map (Gt.L h1))[Pl.pos OI x X]? = some (Gt.L h1 k0) := by rw [List.getElem?_map, hk0]; rfl
        have hkat := hin.k.at hok
        have hgk := (hin.c.1 k0 hk0m).1
        obtain ⟨kpk, hNk⟩ := hgk.node
        have hk00 := hNk.c0
        rw [hgk.isoe] at hk00
        have hs' : Pl.Srt OI (Pl.inter X (K.map (Gt.L h1))) := hs
        have hrk : Pl.pos OI x (Pl.inter X (K.map (Gt.L h1))) = Pl.bl (K.map (Gt.L h1)) (Pl.pos OI x X) + Pl.pos OI x (Gt.L h1 k0) := Pl.inter_rank_child hs' hKL hfd hkL
        have hsk := Pl.child_srt OI hs' hKL hfd hkL
        have hQ' : Pl.pos OI x l = a + Pl.pos OI x (Pl.inter X (K.map (Gt.L h1))) := hQ
        rw [hrk] at hQ'
        -- region 14 (btreeg.go:1594)
        refine Go'.region [(0, 0), (1, 2)] rfl ?_
        refine O.mv rfl rfl rfl rfl rfl ?_
        refine O.callQ rfl rfl rfl Try.call133 rfl (leaf_spec hin.n.c3) trivial ?_
        refine Pl.fin [(0, _), (2, _), (4, _), (6, _), (7, _), (8, _), (9, _), (10, _), (74, _), (86, _)] ⟨rfl, rfl, rfl, rfl, rfl, rfl, rfl, rfl, rfl, rfl, trivial⟩ ?_
        refine Go'.condF rfl ?_
        refine Go'.skip ?_
        refine Go'.seq ?_
        -- region 17 (btreeg.go:1598)
        refine Go'.draw (fun _ => True) [(0, 0), (1, 0), (2, 0), (3, 1), (4, 0), (5, 0), (6, 0), (7, 1), (8, 0), (9, 1), (10, 0), (11, 0), (12, 0), (13, 0), (14, 0), (15, 1), (16, 2), (17, 0)] (by kernel_rfl) (by kernel_rfl) (trivial) ?_
        refine O.mv rfl rfl rfl rfl rfl ?_
        refine O.nc rfl rfl rfl rfl rfl ?_
        refine O.faz rfl rfl rfl rfl ⟨_, _, _, Try.underlying135, rfl, rfl, Try.sizeOf86⟩ rfl ?_
        refine O.ld rfl rfl rfl (fun w => ⟨Try.isAgg86 w, Try.sizeOf86 w⟩) rfl hI.c0 ?_
        refine O.mv rfl rfl rfl rfl rfl ?_
        refine O.nc rfl rfl rfl rfl rfl ?_
        refine O.fa0 (off := 3) rfl rfl rfl rfl ⟨_, _, _, Try.underlying168, rfl, rfl, Try.sizeOf166⟩ rfl ?_
        refine O.ld rfl rfl rfl (fun w => ⟨Try.isAgg166 w, Try.sizeOf166 w⟩) rfl hin.n.c3 ?_
        refine O.nc rfl rfl rfl rfl rfl ?_
        refine O.ld rfl rfl rfl (fun w => ⟨Try.isAgg170 w, Try.sizeOf170 w⟩) rfl hin.k.c ?_
        refine O.mv rfl rfl rfl rfl rfl ?_
        refine O.ix (j := Pl.pos OI x (Gt.X (h1 + 1) (g, X, K))) rfl rfl rfl rfl Try.underlying170 Try.sizeOf129 rfl rfl (by omega) (show Pl.pos OI x X < _ from by omega) ?_
        refine O.mv rfl rfl rfl rfl rfl ?_
        refine O.nc rfl rfl rfl rfl rfl ?_
        refine O.fa0 (off := 1) rfl rfl rfl rfl ⟨_, _, _, Try.underlying135, rfl, rfl, Try.sizeOf4⟩ rfl ?_
        refine O.ld rfl rfl rfl (fun w => ⟨Try.isAgg4 w, Try.sizeOf4 w⟩) rfl hI.c1 ?_
        refine O.callQ rfl rfl rfl Try.call130 rfl (isoLoad_spec mt hkat hk00 hR.iso) trivial ?_
        refine O.asg rfl rfl rfl rfl rfl ?_
        refine Pl.fin [(0, _), (2, _), (4, _), (6, _), (7, _), (8, _), (9, _), (10, _), (74, _), (86, _)] ⟨rfl, rfl, rfl, rfl, rfl, rfl, rfl, rfl, rfl, rfl, trivial⟩ ?_
        unfold ptr
        -- region 18 (btreeg.go:1599)
        refine Go'.region [(0, 0), (1, 0), (2, 0)] rfl ?_
        refine O.mv rfl rfl rfl rfl rfl ?_
        refine O.add (((fs1.length + 1 : Nat) : Int)) rfl rfl rfl rfl rfl rfl (by omega) (by omega) ?_
        refine O.asg rfl rfl rfl rfl rfl ?_
        refine Pl.fin [(0, _), (2, _), (4, _), (6, _), (7, _), (8, _), (9, _), (10, _), (74, _), (86, _)] ⟨rfl, rfl, rfl, rfl, rfl, rfl, rfl, rfl, rfl, rfl, trivial⟩ ?_
        refine Go'.inBlock ?_
        refine Go'.keep [(0, _), (2, _), (4, _), (6, _), (7, _), (8, _)] ⟨rfl, rfl, rfl, rfl, rfl, rfl, trivial⟩ ?_
        refine Go'.inLoop ?_
        exact ih (⟨h1, k0⟩, _, _) _ ⟨hI, hk, hZn5, _, hC.down hk0, hsk, by show Pl.pos OI x l = a + Pl.bl (K.map (Gt.L h1)) (Pl.pos OI x X) + Pl.pos OI x (Gt.L h1 k0); omega⟩ (by simp only; omega)

theorem iSeekHint_spec {B : World} {H : Mem} {it tr : Nat} {mt sk sa se : Bool} {Z : Nat → Prop} {fr : List (Nat × Int)} {kv : Int × Int} {P : Ps} {S : Nat → Prop} {l : List (Int × Int)} {r : Option ((h : Nat) × Gt EJ h)} (hP : PsOk P) (hI : Itr EJ H H it tr mt Z sk sa se Z fr kv) (hT : TreeR H tr P S l r) (hsi : ¬ S it) (hsz : ∀ b, S b → ¬ Z b) (hsrt : Pl.Srt OI l) (x : Int × Int) {hv : Value} {hz : Nat → Prop} (hk : HintOk H hv hz) (hzS : ∀ b, hz b → ¬ S b) (hzi : ¬ hz it) (hzZ : ∀ b, Z b → ¬ hz b) :
    Fn Try.prog B 162 [.pointer (some ⟨it, 0, none⟩), .agg (EJ.enc x).toArray, hv] H (fun v H' => v = .bool (decide (Pl.pos OI x l < l.length)) ∧ ItPH H H' it tr mt Z r l hv hz (if Pl.pos OI x l < l.length then some (Pl.pos OI x l) else none)) := by
  refine fn_of Try.func162 rfl Try.ntmps162 ?_
  refine (show Go' _ _ _ _ 11 [(0, _), (1, _), (2, _)] [.code _] _ from ?_)
  refine Go'.seq ?_
  -- region 0 (btreeg.go:1572)
  refine Go'.region [(0, 2), (1, 0)] rfl ?_
  refine O.box rfl rfl rfl rfl ?_
  intro H0 M0
  refine ⟨trivial, ?_⟩
  replace hI := hI.box (M0.fr nowhere)
  replace hk := hk.fr (M0.fr nowhere) (fun _ _ _ => nw)
  replace hT := hT.keep (M0.fr nowhere) (fun _ _ _ => nw)
  have mk : Rd H0 H.size 0 (EJ.enc x) := M0.rd _ [] (by simp [Value.cells])
  refine O.asg rfl rfl rfl rfl rfl ?_
  refine Pl.fin [(0, _), (2, _), (4, _), (6, _)] ⟨rfl, rfl, rfl, rfl, trivial⟩ ?_
  refine Go'.seq ?_
  -- region 1 (btreeg.go:1573)
  refine Go'.region [(0, 0), (1, 1), (2, 0), (3, 2), (4, 0)] rfl ?_
  refine O.mv rfl rfl rfl rfl rfl ?_
  refine O.lds rfl rfl rfl (fun w => ⟨Try.isAgg27 w, Try.sizeOf27 w⟩) rfl rfl mk ?_
  refine O.mv rfl rfl rfl rfl rfl ?_
  refine O.call rfl rfl rfl Try.call192 rfl (iseek_spec hP hI hT hsi hsz hsrt x hk hzS hzi hzZ) ?_
  rintro _ H1 ⟨rfl, hp⟩
  refine ⟨trivial, ?_⟩
  refine O.asg rfl rfl rfl rfl rfl ?_
  refine Pl.fin [(6, _)] ⟨rfl, trivial⟩ ?_
  refine Go'.ret (vs := [_]) Try.func162 Try.results162 ⟨rfl, trivial⟩ ?_
  exact ⟨rfl, hp.rebase (M0.fr nowhere)⟩

theorem iSeek_spec {B : World} {H : Mem} {it tr : Nat} {mt sk sa se : Bool} {Z : Nat → Prop} {fr : List (Nat × Int)} {kv : Int × Int} {P : Ps} {S : Nat → Prop} {l : List (Int × Int)} {r : Option ((h : Nat) × Gt EJ h)} (hP : PsOk P) (hI : Itr EJ H H it tr mt Z sk sa se Z fr kv) (hT : TreeR H tr P S l r) (hsi : ¬ S it) (hsz : ∀ b, S b → ¬ Z b) (hsrt : Pl.Srt OI l) (x : Int × Int) :
    Fn Try.prog B 161 [.pointer (some ⟨it, 0, none⟩), .agg (EJ.enc x).toArray] H (fun v H' => v = .bool (decide (Pl.pos OI x l < l.length)) ∧ ItPH H H' it tr mt Z r l (.pointer none) (fun _ => False) (if Pl.pos OI x l < l.length then some (Pl.pos OI x l) else none)) := by
  have hk : HintOk H (.pointer none) (fun _ => False) := .inl ⟨rfl, fun _ h => h⟩
  refine fn_of Try.func161 rfl Try.ntmps161 ?_
  refine (show Go' _ _ _ _ 8 [(0, _), (1, _)] [.code _] _ from ?_)
  refine Go'.seq ?_
  -- region 0 (btreeg.go:1568)
  refine Go'.region [(0, 2), (1, 0)] rfl ?_
  refine O.box rfl rfl rfl rfl ?_
  intro H0 M0
  refine ⟨trivial, ?_⟩
  replace hI := hI.box (M0.fr nowhere)
  replace hk := hk.fr (M0.fr nowhere) (fun _ _ _ => nw)
  replace hT := hT.keep (M0.fr nowhere) (fun _ _ _ => nw)
  have mk : Rd H0 H.size 0 (EJ.enc x) := M0.rd _ [] (by simp [Value.cells])
  refine O.asg rfl rfl rfl rfl rfl ?_
  refine Pl.fin [(0, _), (3, _), (4, _)] ⟨rfl, rfl, rfl, trivial⟩ ?_
  refine Go'.seq ?_
  -- region 1 (btreeg.go:1569)
  refine Go'.region [(0, 0), (1, 1), (2, 2), (3, 0)] rfl ?_
  refine O.mv rfl rfl rfl rfl rfl ?_
  refine O.lds rfl rfl rfl (fun w => ⟨Try.isAgg27 w, Try.sizeOf27 w⟩) rfl rfl mk ?_
  refine O.call rfl rfl rfl Try.call192 rfl (iseek_spec hP hI hT hsi hsz hsrt x hk (fun _ h => h.elim) id (fun _ _ h => h)) ?_
  rintro _ H1 ⟨rfl, hp⟩
  refine ⟨trivial, ?_⟩
  refine O.asg rfl rfl rfl rfl rfl ?_
  refine Pl.fin [(4, _)] ⟨rfl, trivial⟩ ?_
  refine Go'.ret (vs := [_]) Try.func161 Try.results161 ⟨rfl, trivial⟩ ?_
  exact ⟨rfl, hp.rebase (M0.fr nowhere)⟩

end
end Go.Bt.FG
