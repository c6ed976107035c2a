/- Contracts of functions of the program, proved by walking through their code. Conditions: those that each theorem names. -/
import Derived.Test.YtknkmaigdgfhlaaTozI
import Derived.Test.YtknkmaigdgfhlaaToMp
namespace Go.Bt.FZ
open Go Go.Proofs
set_option maxRecDepth 20000
set_option maxHeartbeats 4000000
set_option linter.unusedVariables false

theorem st231 : StT Try.prog 231 [(0, 1), (1, 1)] [.pointer none, .int .i64 0] := ⟨⟨_, Try.underlying231, fun w => by simp [Array.mapM_eq_mapM_toList, Try.sizeOf135, Try.sizeOf3]⟩, Try.zeroValue231⟩
theorem iFirst_spec {B : World} {H : Mem} {it tr : Nat} {mt sk sa se : Bool} {Z : Nat → Prop} {fr : List (Nat × Int)} {kv : Int} {P : Ps} {S : Nat → Prop} {l : List Int} {r : Option ((h : Nat) × Gt EI h)} (hI : Itr EI H H it tr mt Z sk sa se Z fr kv) (hT : TreeR H tr P S l r) (hsi : ¬ S it) (hsz : ∀ b, S b → ¬ Z b) :
    Fn Try.prog B 148 [.pointer (some ⟨it, 0, none⟩)] H (fun v H' => v = .bool (decide (0 < l.length)) ∧ ItPost EI H H' it tr mt Z r l (if 0 < l.length then some (0) else none)) := by
  have hK : ∀ H', Fr (fun b _ => b = it ∨ Z b) H H' → TreeR H' tr P S l r := fun H' hf => hT.keep hf fun b o hs hz => hz.elim (fun e => hsi (e ▸ hs)) (hsz b hs)
  have hll := hT.ll
  refine fn_of Go.Proofs.Try.func148 rfl Go.Proofs.Try.ntmps148 ?_
  refine (show Go' _ _ _ _ 106 [(0, _)] [.code _] _ from ?_)
  refine Go'.seq ?_
  -- region 0 (map.go:960)
  refine Go'.region [(0, 0)] rfl ?_
  refine O.asg rfl rfl rfl rfl rfl ?_
  refine Pl.fin [(0, _), (2, _)] ⟨rfl, rfl, trivial⟩ ?_
  refine Go'.seq ?_
  refine Go'.seq ?_
  -- region 1 (map.go:961)
  refine Go'.region [(0, 0), (1, 0), (2, 0), (3, 1), (4, 0)] rfl ?_
  refine O.mv rfl rfl rfl rfl rfl ?_
  refine O.nc rfl rfl rfl rfl rfl ?_
  refine O.faz rfl rfl rfl rfl ⟨_, _, _, Go.Proofs.Try.underlying156, rfl, rfl, Go.Proofs.Try.sizeOf150⟩ rfl ?_
  refine O.ld rfl rfl rfl (fun w => ⟨Go.Proofs.Try.isAgg150 w, Go.Proofs.Try.sizeOf150 w⟩) rfl hI.c0 ?_
  refine O.isNil rfl rfl rfl rfl Go.Proofs.Try.underlying150 rfl rfl ?_
  refine Pl.fin [(0, _), (2, _), (9, _)] ⟨rfl, rfl, rfl, trivial⟩ ?_
  refine Go'.condF rfl ?_
  refine Go'.skip ?_
  refine Go'.seq ?_
  -- region 3 (map.go:964)
  refine Go'.region [(0, 0), (1, 0), (2, 0), (3, 2)] rfl ?_
  refine O.mv rfl rfl rfl rfl rfl ?_
  refine O.nc rfl rfl rfl rfl rfl ?_
  refine O.fa0 (off := 4) rfl rfl rfl rfl ⟨_, _, _, Go.Proofs.Try.underlying156, rfl, rfl, Go.Proofs.Try.sizeOf4⟩ rfl ?_
  refine O.st rfl rfl Go.Proofs.Try.sizeOf4 rfl rfl rfl rfl rfl (hI.w 4 (by decide)) ?_
  intro Ha Wa
  replace hI := hI.set4 Wa
  refine ⟨trivial, ?_⟩
  refine Pl.fin [(0, _), (2, _)] ⟨rfl, rfl, trivial⟩ ?_
  refine Go'.seq ?_
  -- region 4 (map.go:965)
  refine Go'.region [(0, 0), (1, 0), (2, 0), (3, 2)] rfl ?_
  refine O.mv rfl rfl rfl rfl rfl ?_
  refine O.nc rfl rfl rfl rfl rfl ?_
  refine O.fa0 (off := 3) rfl rfl rfl rfl ⟨_, _, _, Go.Proofs.Try.underlying156, rfl, rfl, Go.Proofs.Try.sizeOf4⟩ rfl ?_
  refine O.st rfl rfl Go.Proofs.Try.sizeOf4 rfl rfl rfl rfl rfl (hI.w 3 (by decide)) ?_
  intro Hb Wb
  replace hI := hI.set3 Wb
  refine ⟨trivial, ?_⟩
  refine Pl.fin [(0, _), (2, _)] ⟨rfl, rfl, trivial⟩ ?_
  refine Go'.seq ?_
  -- region 5 (map.go:966)
  refine Go'.region [(0, 0), (1, 0), (2, 0), (3, 2)] rfl ?_
  refine O.mv rfl rfl rfl rfl rfl ?_
  refine O.nc rfl rfl rfl rfl rfl ?_
  refine O.fa0 (off := 2) rfl rfl rfl rfl ⟨_, _, _, Go.Proofs.Try.underlying156, rfl, rfl, Go.Proofs.Try.sizeOf4⟩ rfl ?_
  refine O.st rfl rfl Go.Proofs.Try.sizeOf4 rfl rfl rfl rfl rfl (hI.w 2 (by decide)) ?_
  intro Hc Wc
  replace hI := hI.set2 Wc
  have hsv0 := hI.st
  obtain ⟨sv, hsv, hA⟩ := hsv0
  refine ⟨trivial, ?_⟩
  refine Pl.fin [(0, _), (2, _)] ⟨rfl, rfl, trivial⟩ ?_
  refine Go'.seq ?_
  -- region 6 (map.go:967)
  refine Go'.region [(0, 0), (1, 0), (2, 0), (3, 0), (4, 1), (5, 0), (6, 0), (7, 0), (8, 2)] rfl ?_
  refine O.mv rfl rfl rfl rfl rfl ?_
  refine O.mv rfl rfl rfl rfl rfl ?_
  refine O.nc rfl rfl rfl rfl rfl ?_
  refine O.fa0 (off := 5) rfl rfl rfl rfl ⟨_, _, _, Go.Proofs.Try.underlying156, rfl, rfl, Go.Proofs.Try.sizeOf154⟩ rfl ?_
  refine O.ld rfl rfl rfl (fun w => ⟨Go.Proofs.Try.isAgg154 w, Go.Proofs.Try.sizeOf154 w⟩) rfl hsv ?_
  refine O.slcA (F := EK) (j := 0) rfl rfl rfl rfl Go.Proofs.Try.underlying154 Go.Proofs.Try.sizeOf231 rfl hA ⟨_, by rfl⟩ (Nat.zero_le _) ?_
  intro v1 hA1
  obtain ⟨a1, m1, c1, rfl⟩ := hA1.form
  refine O.nc rfl rfl rfl rfl rfl ?_
  refine O.fa0 (off := 5) rfl rfl rfl rfl ⟨_, _, _, Go.Proofs.Try.underlying156, rfl, rfl, Go.Proofs.Try.sizeOf154⟩ rfl ?_
  refine O.st rfl rfl Go.Proofs.Try.sizeOf154 rfl rfl rfl rfl rfl (hI.w 5 (by decide)) ?_
  intro Hd Wd
  replace hI := hI.set5 (fr' := []) (by rw [List.take_zero] at hA1; exact hA1) Wd
  refine ⟨trivial, ?_⟩
  refine Pl.fin [(0, _), (2, _)] ⟨rfl, rfl, trivial⟩ ?_
  refine Go'.seq ?_
  refine Go'.seq ?_
  have hR := hK _ hI.f
  rcases r with _ | ⟨h0, t0⟩
  · skip
    obtain ⟨rfl, hroot⟩ := hR.rt
    -- region 7 (map.go:968)
    refine Go'.region [(0, 0), (1, 0), (2, 0), (3, 1), (4, 0), (5, 0), (6, 1), (7, 0)] rfl ?_
    refine O.mv rfl rfl rfl rfl rfl ?_
    refine O.nc rfl rfl rfl rfl rfl ?_
    refine O.faz rfl rfl rfl rfl ⟨_, _, _, Go.Proofs.Try.underlying156, rfl, rfl, Go.Proofs.Try.sizeOf150⟩ rfl ?_
    refine O.ld rfl rfl rfl (fun w => ⟨Go.Proofs.Try.isAgg150 w, Go.Proofs.Try.sizeOf150 w⟩) rfl hI.c0 ?_
    refine O.nc rfl rfl rfl rfl rfl ?_
    refine O.fa0 (off := 2) rfl rfl rfl rfl ⟨_, _, _, Go.Proofs.Try.underlying140, rfl, rfl, Go.Proofs.Try.sizeOf135⟩ rfl ?_
    refine O.ld rfl rfl rfl (fun w => ⟨Go.Proofs.Try.isAgg135 w, Go.Proofs.Try.sizeOf135 w⟩) rfl hroot ?_
    refine O.isNil rfl rfl rfl rfl Go.Proofs.Try.underlying135 rfl rfl ?_
    refine Pl.fin [(0, _), (2, _), (34, _)] ⟨rfl, rfl, rfl, trivial⟩ ?_
    refine Go'.condT rfl ?_
    refine Go'.seq ?_
    -- region 8 (map.go:969)
    refine Go'.region [(0, 0)] rfl ?_
    refine O.asg rfl rfl rfl rfl rfl ?_
    refine Pl.fin [(0, _), (2, _)] ⟨rfl, rfl, trivial⟩ ?_
    refine Go'.ret (vs := [_]) Go.Proofs.Try.func148 Go.Proofs.Try.results148 ⟨rfl, trivial⟩ ?_
    exact ⟨rfl, _, _, _, _, _, _, hI, rfl⟩
  · skip
    obtain ⟨hg, hx, hl, hroot, haf⟩ := hR.rt
    have hptr : cl _ tr 2 = some (.pointer (some ⟨Gt.p h0 t0, 0, none⟩)) := hroot
    obtain ⟨kp, hN⟩ := hg.node
    have hn0 := hN.c0
    rw [hg.isoe] at hn0
    have hl0 : 0 < l.length := by have := Gt.high hR.mn hg hx; rw [hl] at this; omega
    -- region 7 (map.go:968)
    refine Go'.region [(0, 0), (1, 0), (2, 0), (3, 1), (4, 0), (5, 0), (6, 1), (7, 0)] rfl ?_
    refine O.mv rfl rfl rfl rfl rfl ?_
    refine O.nc rfl rfl rfl rfl rfl ?_
    refine O.faz rfl rfl rfl rfl ⟨_, _, _, Go.Proofs.Try.underlying156, rfl, rfl, Go.Proofs.Try.sizeOf150⟩ rfl ?_
    refine O.ld rfl rfl rfl (fun w => ⟨Go.Proofs.Try.isAgg150 w, Go.Proofs.Try.sizeOf150 w⟩) rfl hI.c0 ?_
    refine O.nc rfl rfl rfl rfl rfl ?_
    refine O.fa0 (off := 2) rfl rfl rfl rfl ⟨_, _, _, Go.Proofs.Try.underlying140, rfl, rfl, Go.Proofs.Try.sizeOf135⟩ rfl ?_
    refine O.ld rfl rfl rfl (fun w => ⟨Go.Proofs.Try.isAgg135 w, Go.Proofs.Try.sizeOf135 w⟩) rfl hptr ?_
    refine O.isNil rfl rfl rfl rfl Go.Proofs.Try.underlying135 rfl rfl ?_
    refine Pl.fin [(0, _), (2, _), (34, _)] ⟨rfl, rfl, rfl, trivial⟩ ?_
    refine Go'.condF rfl ?_
    refine Go'.skip ?_
    refine Go'.seq ?_
    -- region 9 (map.go:971)
    refine Go'.draw (fun _ => True) [(0, 0), (1, 0), (2, 0), (3, 1), (4, 0), (5, 0), (6, 0), (7, 1), (8, 0), (9, 0), (10, 0), (11, 0), (12, 0), (13, 1), (14, 2), (15, 0)] (by kernel_rfl) (by kernel_rfl) (trivial) ?_
    refine O.mv rfl rfl rfl rfl rfl ?_
    refine O.nc rfl rfl rfl rfl rfl ?_
    refine O.faz rfl rfl rfl rfl ⟨_, _, _, Go.Proofs.Try.underlying156, rfl, rfl, Go.Proofs.Try.sizeOf150⟩ rfl ?_
    refine O.ld rfl rfl rfl (fun w => ⟨Go.Proofs.Try.isAgg150 w, Go.Proofs.Try.sizeOf150 w⟩) rfl hI.c0 ?_
    refine O.mv rfl rfl rfl rfl rfl ?_
    refine O.nc rfl rfl rfl rfl rfl ?_
    refine O.faz rfl rfl rfl rfl ⟨_, _, _, Go.Proofs.Try.underlying156, rfl, rfl, Go.Proofs.Try.sizeOf150⟩ rfl ?_
    refine O.ld rfl rfl rfl (fun w => ⟨Go.Proofs.Try.isAgg150 w, Go.Proofs.Try.sizeOf150 w⟩) rfl hI.c0 ?_
    refine O.nc rfl rfl rfl rfl rfl ?_
    refine O.fa0 (off := 2) rfl rfl rfl rfl ⟨_, _, _, Go.Proofs.Try.underlying140, rfl, rfl, Go.Proofs.Try.sizeOf135⟩ rfl ?_
    refine O.mv rfl rfl rfl rfl rfl ?_
    refine O.nc rfl rfl rfl rfl rfl ?_
    refine O.fa0 (off := 1) rfl rfl rfl rfl ⟨_, _, _, Go.Proofs.Try.underlying156, rfl, rfl, Go.Proofs.Try.sizeOf4⟩ rfl ?_
    refine O.ld rfl rfl rfl (fun w => ⟨Go.Proofs.Try.isAgg4 w, Go.Proofs.Try.sizeOf4 w⟩) rfl hI.c1 ?_
    refine O.callQ rfl rfl rfl Go.Proofs.Try.call151 rfl (isoLoad_spec mt hroot hn0 hR.iso) trivial ?_
    refine O.asg rfl rfl rfl rfl rfl ?_
    refine Pl.fin [(0, _), (2, _), (3, _)] ⟨rfl, rfl, rfl, trivial⟩ ?_
    refine Go'.seq ?_
    refine Go'.block ?_
    unfold ptr
    have hC := Ctx.root t0
    clear hR hg hx hl hroot haf hptr hN hn0
    refine Go'.loop ?_
    refine Go'.keep [(0, _), (3, _)] ⟨rfl, rfl, trivial⟩ ?_
    refine Go'.ind (σ := ((h : Nat) × Gt EI h) × List (Nat × Int) × (Nat → Prop)) (fun s => s.1.1) (fun s H' => Itr EI H H' it tr mt Z true false false s.2.2 s.2.1 kv ∧ Ctx t0 s.2.1 s.1.1 s.1.2 0)
      (fun s => [(0, .pointer (some ⟨it, 0, none⟩)), (3, .pointer (some ⟨Gt.p s.1.1 s.1.2, 0, none⟩))]) (⟨_, _⟩, _, _) ⟨hI, hC⟩ rfl ?_
    clear hI hC
    rintro ⟨⟨h1, s1⟩, fs1, Z1⟩ H2 ⟨hI, hC⟩ ih
    simp only at hI hC ih
    have hsv0 := hI.st
    obtain ⟨sv, hsv, hA⟩ := hsv0
    have hR := hK _ hI.f
    obtain ⟨hg, hx, hl, hroot, haf⟩ := hR.rt
    obtain ⟨hgd, hx1, hfl, haf1⟩ := Ctx.good hR.mn hg hx hC
    have hhi := Gt.high hR.mn hg hx
    rw [hl] at hhi
    refine (show Go' _ _ _ _ _ [(0, .pointer (some ⟨it, 0, none⟩)), (3, .pointer (some ⟨Gt.p h1 s1, 0, none⟩))] _ _ from ?_)
    refine Go'.block ?_
    refine Go'.seq ?_
    -- region 10 (map.go:973)
    refine Go'.region [(0, 0), (1, 0), (2, 0), (3, 0), (4, 1), (5, 0), (6, 0), (7, 2), (8, 2), (9, 0), (10, 0), (11, 2)] rfl ?_
    refine O.mv rfl rfl rfl rfl rfl ?_
    refine O.mv rfl rfl rfl rfl rfl ?_
    refine O.nc rfl rfl rfl rfl rfl ?_
    refine O.fa0 (off := 5) rfl rfl rfl rfl ⟨_, _, _, Go.Proofs.Try.underlying156, rfl, rfl, Go.Proofs.Try.sizeOf154⟩ rfl ?_
    refine O.ld rfl rfl rfl (fun w => ⟨Go.Proofs.Try.isAgg154 w, Go.Proofs.Try.sizeOf154 w⟩) rfl hsv ?_
    refine O.mv rfl rfl rfl rfl rfl ?_
    refine O.bld (cs := (EK.enc (Gt.p h1 s1, (0 : Int)))) rfl rfl rfl rfl (st231) rfl (by kernel_rfl) ?_
    refine O.bsl (cs := (EK.enc (Gt.p h1 s1, (0 : Int)))) rfl rfl rfl ⟨Go.Proofs.Try.underlying154, Go.Proofs.Try.sizeOf231, Go.Proofs.Try.zeroValue231, ⟨_, Go.Proofs.Try.typeInfo231, rfl⟩, rfl, by decide, by decide⟩ rfl (by decide) (by kernel_rfl) ?_
    intro H3 M3
    have hs3 := M3.size
    have hA3 := hA.fr (M3.fr nowhere) (fun _ _ _ _ => nw)
    have m3 : Rd H3 H2.size 0 (row EK [(Gt.p h1 s1, (0 : Int))]) := M3.rd _ [] (by simp [row, EK])
    refine ⟨trivial, ?_⟩
    refine O.appA (E := EK) (Y := [(Gt.p h1 s1, (0 : Int))]) rfl rfl rfl ⟨Go.Proofs.Try.underlying154, Go.Proofs.Try.sizeOf231, Go.Proofs.Try.zeroValue231, ⟨_, Go.Proofs.Try.typeInfo231, rfl⟩, rfl, by decide, by decide⟩ rfl hA3 rfl ⟨_, _, _, rfl, m3⟩ (Nat.succ_pos _) (Nat.le_trans (Nat.mul_le_mul_left _ (Nat.le_of_ble_eq_true (n := _) (m := 4096) rfl)) (by rw [List.length_reverse]; simp only [List.length_singleton]; omega)) (by rw [List.length_reverse]; simp only [List.length_singleton]; omega) ?_
    intro v4 H4 hA4 hF4 hs4
    obtain ⟨a4, m4, c4, rfl⟩ := hA4.form
    have hw4 : Wr H4 it 5 1 := hF4.wr ((M3.fr nowhere).wr (hI.w 5 (by decide)))
    refine ⟨trivial, ?_⟩
    refine O.nc rfl rfl rfl rfl rfl ?_
    refine O.fa0 (off := 5) rfl rfl rfl rfl ⟨_, _, _, Go.Proofs.Try.underlying156, rfl, rfl, Go.Proofs.Try.sizeOf154⟩ rfl ?_
    refine O.st rfl rfl Go.Proofs.Try.sizeOf154 rfl rfl rfl rfl rfl hw4 ?_
    intro H5 W5
    replace hI := hI.push (M3.fr nowhere) hF4 hA4 W5
    refine ⟨trivial, ?_⟩
    refine Pl.fin [(0, _), (3, _)] ⟨rfl, rfl, trivial⟩ ?_
    refine Go'.seq ?_
    refine Go'.seq ?_
    clear hR hg hx hl hroot haf hgd hx1 hfl haf1
    have hR := hK _ hI.f
    obtain ⟨hg, hx, hl, hroot, haf⟩ := hR.rt
    obtain ⟨hgd, hx1, hfl, haf1⟩ := Ctx.good hR.mn hg hx hC
    rcases h1 with _ | h1
    rotate_left
    · skip
      obtain ⟨g, X, K⟩ := s1
      have hin : Inn _ P h1 g X ((Gt.ps h1 K).map some) K := hgd.inn
      have hKl : K.length = X.length + 1 := hgd.2.2.2.2.2.1
      have hol : ((Gt.ps h1 K).map some).length = X.length + 1 := by rw [List.length_map, Gt.ps, List.length_map]; exact hKl
      have hKL : (K.map (Gt.L h1)).length = X.length + 1 := by rw [List.length_map]; exact hKl
      obtain ⟨k0, hk0⟩ : ∃ k, K[0]? = some k := ⟨K[0], List.getElem?_eq_getElem (by omega)⟩
      have hk0m : k0 ∈ K := List.mem_of_getElem? hk0
      have hok : ((Gt.ps h1 K).map some)[0]? = some (some (Gt.p h1 k0)) := by rw [Gt.ps, List.map_map, List.getElem?_map, hk0]; rfl
      have hkL : (K.map (Gt.L h1))[0]? = some (Gt.L h1 k0) := by rw [List.getElem?_map, hk0]; rfl
      have hkat := hin.k.at hok
      have hgk := (hin.c.1 k0 hk0m).1
      obtain ⟨kpk, hNk⟩ := hgk.node
      have hk00 := hNk.c0
      rw [hgk.isoe] at hk00
      -- region 11 (map.go:974)
      refine Go'.region [(0, 0), (1, 2)] rfl ?_
      refine O.mv rfl rfl rfl rfl rfl ?_
      refine O.callQ rfl rfl rfl Go.Proofs.Try.call152 rfl (leaf_spec hin.n.c3) trivial ?_
      refine Pl.fin [(0, _), (3, _), (62, _)] ⟨rfl, rfl, rfl, trivial⟩ ?_
      refine Go'.condF rfl ?_
      refine Go'.skip ?_
      -- region 12 (map.go:977)
      refine Go'.draw (fun _ => True) [(0, 0), (1, 0), (2, 0), (3, 1), (4, 0), (5, 0), (6, 0), (7, 1), (8, 0), (9, 1), (10, 0), (11, 0), (12, 0), (13, 0), (14, 1), (15, 2), (16, 0)] (by kernel_rfl) (by kernel_rfl) (trivial) ?_
      refine O.mv rfl rfl rfl rfl rfl ?_
      refine O.nc rfl rfl rfl rfl rfl ?_
      refine O.faz rfl rfl rfl rfl ⟨_, _, _, Go.Proofs.Try.underlying156, rfl, rfl, Go.Proofs.Try.sizeOf150⟩ rfl ?_
      refine O.ld rfl rfl rfl (fun w => ⟨Go.Proofs.Try.isAgg150 w, Go.Proofs.Try.sizeOf150 w⟩) rfl hI.c0 ?_
      refine O.mv rfl rfl rfl rfl rfl ?_
      refine O.nc rfl rfl rfl rfl rfl ?_
      refine O.fa0 (off := 3) rfl rfl rfl rfl ⟨_, _, _, Go.Proofs.Try.underlying205, rfl, rfl, Go.Proofs.Try.sizeOf203⟩ rfl ?_
      refine O.ld rfl rfl rfl (fun w => ⟨Go.Proofs.Try.isAgg203 w, Go.Proofs.Try.sizeOf203 w⟩) rfl hin.n.c3 ?_
      refine O.nc rfl rfl rfl rfl rfl ?_
      refine O.ld rfl rfl rfl (fun w => ⟨Go.Proofs.Try.isAgg206 w, Go.Proofs.Try.sizeOf206 w⟩) rfl hin.k.c ?_
      refine O.ix (j := 0) rfl rfl rfl rfl Go.Proofs.Try.underlying206 Go.Proofs.Try.sizeOf135 rfl rfl rfl (by omega) ?_
      refine O.mv rfl rfl rfl rfl rfl ?_
      refine O.nc rfl rfl rfl rfl rfl ?_
      refine O.fa0 (off := 1) rfl rfl rfl rfl ⟨_, _, _, Go.Proofs.Try.underlying156, rfl, rfl, Go.Proofs.Try.sizeOf4⟩ rfl ?_
      refine O.ld rfl rfl rfl (fun w => ⟨Go.Proofs.Try.isAgg4 w, Go.Proofs.Try.sizeOf4 w⟩) rfl hI.c1 ?_
      refine O.callQ rfl rfl rfl Go.Proofs.Try.call151 rfl (isoLoad_spec mt hkat hk00 hR.iso) trivial ?_
      refine O.asg rfl rfl rfl rfl rfl ?_
      refine Pl.fin [(0, _), (3, _), (62, _)] ⟨rfl, rfl, rfl, trivial⟩ ?_
      refine Go'.inBlock ?_
      unfold ptr
      refine Go'.keep [(0, _), (3, _)] ⟨rfl, rfl, trivial⟩ ?_
      refine Go'.inLoop ?_
      refine ih (⟨h1, k0⟩, _, _) _ ⟨hI, ?_⟩ (by simp only; omega)
      have := hC.down hk0
      rw [Pl.bl_0] at this
      exact this
    · skip
      obtain ⟨g, X⟩ := s1
      have hN : NodeM EI _ g X (.pointer none) := hgd.1
      have hX1 : 1 ≤ X.length := hx1
      replace hI : Itr EI H H5 it tr mt Z true false false _ ((g.p, (0 : Int)) :: fs1) kv := hI
      -- region 11 (map.go:974)
      refine Go'.region [(0, 0), (1, 2)] rfl ?_
      refine O.mv rfl rfl rfl rfl rfl ?_
      refine O.callQ rfl rfl rfl Go.Proofs.Try.call152 rfl (leaf_spec hN.c3) trivial ?_
      refine Pl.fin [(0, _), (3, _), (62, _)] ⟨rfl, rfl, rfl, trivial⟩ ?_
      refine Go'.condT rfl ?_
      refine Go'.exit rfl ?_
      refine Go'.seq ?_
      have hS : Stand t0 ((g.p, (0 : Int)) :: fs1) (0) := .inl ⟨fs1, g, X, 0, 0, rfl, hC, hX1, rfl⟩
      have hR := hK _ hI.f
      obtain ⟨hg, hx, hl, hroot, haf⟩ := hR.rt
      obtain ⟨fs2, g2, X2, kp2, i2, y, e2, hN2, hi2, hy, hq, hfs2⟩ := hS.item hR.mn hg hx
      have hhi2 := Gt.high hR.mn hg hx
      rw [hl] at hhi2
      rw [e2] at hI hS
      obtain ⟨b, o, c, hTop⟩ := hI.top
      -- region 13 (map.go:979)
      refine Go'.draw (fun _ => True) [(0, 0), (1, 0), (2, 0), (3, 1), (4, 0), (5, 0), (6, 0), (7, 1), (8, 0), (9, 0), (10, 0), (11, 0)] (by kernel_rfl) (by kernel_rfl) (trivial) ?_
      refine O.mv rfl rfl rfl rfl rfl ?_
      refine O.nc rfl rfl rfl rfl rfl ?_
      refine O.fa0 (off := 5) rfl rfl rfl rfl ⟨_, _, _, Go.Proofs.Try.underlying156, rfl, rfl, Go.Proofs.Try.sizeOf154⟩ rfl ?_
      refine O.ld rfl rfl rfl (fun w => ⟨Go.Proofs.Try.isAgg154 w, Go.Proofs.Try.sizeOf154 w⟩) rfl hTop.c5 ?_
      refine O.mv rfl rfl rfl rfl rfl ?_
      refine O.nc rfl rfl rfl rfl rfl ?_
      refine O.fa0 (off := 5) rfl rfl rfl rfl ⟨_, _, _, Go.Proofs.Try.underlying156, rfl, rfl, Go.Proofs.Try.sizeOf154⟩ rfl ?_
      refine O.ld rfl rfl rfl (fun w => ⟨Go.Proofs.Try.isAgg154 w, Go.Proofs.Try.sizeOf154 w⟩) rfl hTop.c5 ?_
      refine O.len rfl rfl rfl rfl Go.Proofs.Try.underlying154 rfl ?_
      refine O.sub (((fs2.length : Nat) : Int)) rfl rfl rfl rfl rfl rfl (by omega) (by omega) ?_
      refine O.ix (j := fs2.length) rfl rfl rfl rfl Go.Proofs.Try.underlying154 Go.Proofs.Try.sizeOf231 rfl rfl (by omega) (by omega) ?_
      refine O.asg rfl rfl rfl rfl rfl ?_
      refine Pl.fin [(0, _), (4, _)] ⟨rfl, rfl, trivial⟩ ?_
      refine Go'.seq ?_
      -- region 14 (map.go:980)
      refine Go'.draw (fun _ => True) [(0, 0), (1, 0), (2, 0), (3, 0), (4, 1), (5, 0), (6, 0), (7, 1), (8, 0), (9, 0), (10, 0), (11, 1), (12, 0), (13, 1), (14, 0), (15, 0), (16, 3)] (by kernel_rfl) (by kernel_rfl) (trivial) ?_
      refine O.mv rfl rfl rfl rfl rfl ?_
      refine O.mv rfl rfl rfl rfl rfl ?_
      refine O.nc rfl rfl rfl rfl rfl ?_
      refine O.faz rfl rfl rfl rfl ⟨_, _, _, Go.Proofs.Try.underlying231, rfl, rfl, Go.Proofs.Try.sizeOf135⟩ rfl ?_
      refine O.ld rfl rfl rfl (fun w => ⟨Go.Proofs.Try.isAgg135 w, Go.Proofs.Try.sizeOf135 w⟩) rfl hTop.cp ?_
      refine O.nc rfl rfl rfl rfl rfl ?_
      refine O.fa0 (off := 2) rfl rfl rfl rfl ⟨_, _, _, Go.Proofs.Try.underlying205, rfl, rfl, Go.Proofs.Try.sizeOf202⟩ rfl ?_
      refine O.ld rfl rfl rfl (fun w => ⟨Go.Proofs.Try.isAgg202 w, Go.Proofs.Try.sizeOf202 w⟩) rfl hN2.c2 ?_
      refine O.mv rfl rfl rfl rfl rfl ?_
      refine O.nc rfl rfl rfl rfl rfl ?_
      refine O.fa (off := 1) rfl rfl rfl rfl ⟨_, _, _, Go.Proofs.Try.underlying231, rfl, rfl, Go.Proofs.Try.sizeOf3⟩ rfl ?_
      refine O.ld rfl rfl rfl (fun w => ⟨Go.Proofs.Try.isAgg3 w, Go.Proofs.Try.sizeOf3 w⟩) rfl hTop.ci ?_
      refine O.ix (j := i2) rfl rfl rfl rfl Go.Proofs.Try.underlying202 Go.Proofs.Try.sizeOf138 rfl rfl (by omega) hi2 ?_
      refine O.lds rfl rfl rfl (fun w => ⟨Go.Proofs.Try.isAgg138 w, Go.Proofs.Try.sizeOf138 w⟩) rfl rfl (hN2.sl.item hy) ?_
      refine O.nc rfl rfl rfl rfl rfl ?_
      refine O.fa0 (off := 6) rfl rfl rfl rfl ⟨_, _, _, Go.Proofs.Try.underlying156, rfl, rfl, Go.Proofs.Try.sizeOf138⟩ rfl ?_
      refine O.st3 (vs := (EI.enc y)) rfl rfl Go.Proofs.Try.sizeOf138 rfl rfl rfl rfl rfl hI.wk ?_
      intro H9 W9
      have hI9 := hI.set6 W9
      refine Pl.fin [] trivial ?_
      refine Go'.seq ?_
      -- region 15 (map.go:981)
      refine Go'.region [(0, 0)] rfl ?_
      refine O.asg rfl rfl rfl rfl rfl ?_
      refine Pl.fin [(2, _)] ⟨rfl, trivial⟩ ?_
      rw [hl] at hq
      refine Go'.ret (vs := [_]) Go.Proofs.Try.func148 Go.Proofs.Try.results148 ⟨rfl, trivial⟩ ?_
      exact ⟨congrArg Value.bool (decide_eq_true hl0).symm, _, _, _, _, _, _, hI9, by rw [if_pos hl0]; exact ⟨rfl, hq, _, _, rfl, hS⟩⟩

theorem iLast_spec {B : World} {H : Mem} {it tr : Nat} {mt sk sa se : Bool} {Z : Nat → Prop} {fr : List (Nat × Int)} {kv : Int} {P : Ps} {S : Nat → Prop} {l : List Int} {r : Option ((h : Nat) × Gt EI h)} (hI : Itr EI H H it tr mt Z sk sa se Z fr kv) (hT : TreeR H tr P S l r) (hsi : ¬ S it) (hsz : ∀ b, S b → ¬ Z b) :
    Fn Try.prog B 144 [.pointer (some ⟨it, 0, none⟩)] H (fun v H' => v = .bool (decide (0 < l.length)) ∧ ItPost EI H H' it tr mt Z r l (if 0 < l.length then some (l.length - 1) else none)) := by
  have hK : ∀ H', Fr (fun b _ => b = it ∨ Z b) H H' → TreeR H' tr P S l r := fun H' hf => hT.keep hf fun b o hs hz => hz.elim (fun e => hsi (e ▸ hs)) (hsz b hs)
  have hll := hT.ll
  refine fn_of Go.Proofs.Try.func144 rfl Go.Proofs.Try.ntmps144 ?_
  refine (show Go' _ _ _ _ 126 [(0, _)] [.code _] _ from ?_)
  refine Go'.seq ?_
  -- region 0 (map.go:986)
  refine Go'.region [(0, 0)] rfl ?_
  refine O.asg rfl rfl rfl rfl rfl ?_
  refine Pl.fin [(0, _), (2, _)] ⟨rfl, rfl, trivial⟩ ?_
  refine Go'.seq ?_
  refine Go'.seq ?_
  -- region 1 (map.go:987)
  refine Go'.region [(0, 0), (1, 0), (2, 0), (3, 1), (4, 0)] rfl ?_
  refine O.mv rfl rfl rfl rfl rfl ?_
  refine O.nc rfl rfl rfl rfl rfl ?_
  refine O.faz rfl rfl rfl rfl ⟨_, _, _, Go.Proofs.Try.underlying156, rfl, rfl, Go.Proofs.Try.sizeOf150⟩ rfl ?_
  refine O.ld rfl rfl rfl (fun w => ⟨Go.Proofs.Try.isAgg150 w, Go.Proofs.Try.sizeOf150 w⟩) rfl hI.c0 ?_
  refine O.isNil rfl rfl rfl rfl Go.Proofs.Try.underlying150 rfl rfl ?_
  refine Pl.fin [(0, _), (2, _), (9, _)] ⟨rfl, rfl, rfl, trivial⟩ ?_
  refine Go'.condF rfl ?_
  refine Go'.skip ?_
  refine Go'.seq ?_
  -- region 3 (map.go:990)
  refine Go'.region [(0, 0), (1, 0), (2, 0), (3, 2)] rfl ?_
  refine O.mv rfl rfl rfl rfl rfl ?_
  refine O.nc rfl rfl rfl rfl rfl ?_
  refine O.fa0 (off := 2) rfl rfl rfl rfl ⟨_, _, _, Go.Proofs.Try.underlying156, rfl, rfl, Go.Proofs.Try.sizeOf4⟩ rfl ?_
  refine O.st rfl rfl Go.Proofs.Try.sizeOf4 rfl rfl rfl rfl rfl (hI.w 2 (by decide)) ?_
  intro Hc Wc
  replace hI := hI.set2 Wc
  have hsv0 := hI.st
  obtain ⟨sv, hsv, hA⟩ := hsv0
  refine ⟨trivial, ?_⟩
  refine Pl.fin [(0, _), (2, _)] ⟨rfl, rfl, trivial⟩ ?_
  refine Go'.seq ?_
  -- region 4 (map.go:991)
  refine Go'.region [(0, 0), (1, 0), (2, 0), (3, 0), (4, 1), (5, 0), (6, 0), (7, 0), (8, 2)] rfl ?_
  refine O.mv rfl rfl rfl rfl rfl ?_
  refine O.mv rfl rfl rfl rfl rfl ?_
  refine O.nc rfl rfl rfl rfl rfl ?_
  refine O.fa0 (off := 5) rfl rfl rfl rfl ⟨_, _, _, Go.Proofs.Try.underlying156, rfl, rfl, Go.Proofs.Try.sizeOf154⟩ rfl ?_
  refine O.ld rfl rfl rfl (fun w => ⟨Go.Proofs.Try.isAgg154 w, Go.Proofs.Try.sizeOf154 w⟩) rfl hsv ?_
  refine O.slcA (F := EK) (j := 0) rfl rfl rfl rfl Go.Proofs.Try.underlying154 Go.Proofs.Try.sizeOf231 rfl hA ⟨_, by rfl⟩ (Nat.zero_le _) ?_
  intro v1 hA1
  obtain ⟨a1, m1, c1, rfl⟩ := hA1.form
  refine O.nc rfl rfl rfl rfl rfl ?_
  refine O.fa0 (off := 5) rfl rfl rfl rfl ⟨_, _, _, Go.Proofs.Try.underlying156, rfl, rfl, Go.Proofs.Try.sizeOf154⟩ rfl ?_
  refine O.st rfl rfl Go.Proofs.Try.sizeOf154 rfl rfl rfl rfl rfl (hI.w 5 (by decide)) ?_
  intro Hd Wd
  replace hI := hI.set5 (fr' := []) (by rw [List.take_zero] at hA1; exact hA1) Wd
  refine ⟨trivial, ?_⟩
  refine Pl.fin [(0, _), (2, _)] ⟨rfl, rfl, trivial⟩ ?_
  refine Go'.seq ?_
  refine Go'.seq ?_
  have hR := hK _ hI.f
  rcases r with _ | ⟨h0, t0⟩
  · skip
    obtain ⟨rfl, hroot⟩ := hR.rt
    -- region 5 (map.go:992)
    refine Go'.region [(0, 0), (1, 0), (2, 0), (3, 1), (4, 0), (5, 0), (6, 1), (7, 0)] rfl ?_
    refine O.mv rfl rfl rfl rfl rfl ?_
    refine O.nc rfl rfl rfl rfl rfl ?_
    refine O.faz rfl rfl rfl rfl ⟨_, _, _, Go.Proofs.Try.underlying156, rfl, rfl, Go.Proofs.Try.sizeOf150⟩ rfl ?_
    refine O.ld rfl rfl rfl (fun w => ⟨Go.Proofs.Try.isAgg150 w, Go.Proofs.Try.sizeOf150 w⟩) rfl hI.c0 ?_
    refine O.nc rfl rfl rfl rfl rfl ?_
    refine O.fa0 (off := 2) rfl rfl rfl rfl ⟨_, _, _, Go.Proofs.Try.underlying140, rfl, rfl, Go.Proofs.Try.sizeOf135⟩ rfl ?_
    refine O.ld rfl rfl rfl (fun w => ⟨Go.Proofs.Try.isAgg135 w, Go.Proofs.Try.sizeOf135 w⟩) rfl hroot ?_
    refine O.isNil rfl rfl rfl rfl Go.Proofs.Try.underlying135 rfl rfl ?_
    refine Pl.fin [(0, _), (2, _), (28, _)] ⟨rfl, rfl, rfl, trivial⟩ ?_
    refine Go'.condT rfl ?_
    refine Go'.seq ?_
    -- region 6 (map.go:993)
    refine Go'.region [(0, 0)] rfl ?_
    refine O.asg rfl rfl rfl rfl rfl ?_
    refine Pl.fin [(0, _), (2, _)] ⟨rfl, rfl, trivial⟩ ?_
    refine Go'.ret (vs := [_]) Go.Proofs.Try.func144 Go.Proofs.Try.results144 ⟨rfl, trivial⟩ ?_
    exact ⟨rfl, _, _, _, _, _, _, hI, rfl⟩
  · skip
    obtain ⟨hg, hx, hl, hroot, haf⟩ := hR.rt
    have hptr : cl _ tr 2 = some (.pointer (some ⟨Gt.p h0 t0, 0, none⟩)) := hroot
    obtain ⟨kp, hN⟩ := hg.node
    have hn0 := hN.c0
    rw [hg.isoe] at hn0
    have hl0 : 0 < l.length := by have := Gt.high hR.mn hg hx; rw [hl] at this; omega
    -- region 5 (map.go:992)
    refine Go'.region [(0, 0), (1, 0), (2, 0), (3, 1), (4, 0), (5, 0), (6, 1), (7, 0)] rfl ?_
    refine O.mv rfl rfl rfl rfl rfl ?_
    refine O.nc rfl rfl rfl rfl rfl ?_
    refine O.faz rfl rfl rfl rfl ⟨_, _, _, Go.Proofs.Try.underlying156, rfl, rfl, Go.Proofs.Try.sizeOf150⟩ rfl ?_
    refine O.ld rfl rfl rfl (fun w => ⟨Go.Proofs.Try.isAgg150 w, Go.Proofs.Try.sizeOf150 w⟩) rfl hI.c0 ?_
    refine O.nc rfl rfl rfl rfl rfl ?_
    refine O.fa0 (off := 2) rfl rfl rfl rfl ⟨_, _, _, Go.Proofs.Try.underlying140, rfl, rfl, Go.Proofs.Try.sizeOf135⟩ rfl ?_
    refine O.ld rfl rfl rfl (fun w => ⟨Go.Proofs.Try.isAgg135 w, Go.Proofs.Try.sizeOf135 w⟩) rfl hptr ?_
    refine O.isNil rfl rfl rfl rfl Go.Proofs.Try.underlying135 rfl rfl ?_
    refine Pl.fin [(0, _), (2, _), (28, _)] ⟨rfl, rfl, rfl, trivial⟩ ?_
    refine Go'.condF rfl ?_
    refine Go'.skip ?_
    refine Go'.seq ?_
    -- region 7 (map.go:995)
    refine Go'.draw (fun _ => True) [(0, 0), (1, 0), (2, 0), (3, 1), (4, 0), (5, 0), (6, 0), (7, 1), (8, 0), (9, 0), (10, 0), (11, 0), (12, 0), (13, 1), (14, 2), (15, 0)] (by kernel_rfl) (by kernel_rfl) (trivial) ?_
    refine O.mv rfl rfl rfl rfl rfl ?_
    refine O.nc rfl rfl rfl rfl rfl ?_
    refine O.faz rfl rfl rfl rfl ⟨_, _, _, Go.Proofs.Try.underlying156, rfl, rfl, Go.Proofs.Try.sizeOf150⟩ rfl ?_
    refine O.ld rfl rfl rfl (fun w => ⟨Go.Proofs.Try.isAgg150 w, Go.Proofs.Try.sizeOf150 w⟩) rfl hI.c0 ?_
    refine O.mv rfl rfl rfl rfl rfl ?_
    refine O.nc rfl rfl rfl rfl rfl ?_
    refine O.faz rfl rfl rfl rfl ⟨_, _, _, Go.Proofs.Try.underlying156, rfl, rfl, Go.Proofs.Try.sizeOf150⟩ rfl ?_
    refine O.ld rfl rfl rfl (fun w => ⟨Go.Proofs.Try.isAgg150 w, Go.Proofs.Try.sizeOf150 w⟩) rfl hI.c0 ?_
    refine O.nc rfl rfl rfl rfl rfl ?_
    refine O.fa0 (off := 2) rfl rfl rfl rfl ⟨_, _, _, Go.Proofs.Try.underlying140, rfl, rfl, Go.Proofs.Try.sizeOf135⟩ rfl ?_
    refine O.mv rfl rfl rfl rfl rfl ?_
    refine O.nc rfl rfl rfl rfl rfl ?_
    refine O.fa0 (off := 1) rfl rfl rfl rfl ⟨_, _, _, Go.Proofs.Try.underlying156, rfl, rfl, Go.Proofs.Try.sizeOf4⟩ rfl ?_
    refine O.ld rfl rfl rfl (fun w => ⟨Go.Proofs.Try.isAgg4 w, Go.Proofs.Try.sizeOf4 w⟩) rfl hI.c1 ?_
    refine O.callQ rfl rfl rfl Go.Proofs.Try.call151 rfl (isoLoad_spec mt hroot hn0 hR.iso) trivial ?_
    refine O.asg rfl rfl rfl rfl rfl ?_
    refine Pl.fin [(0, _), (2, _), (3, _)] ⟨rfl, rfl, rfl, trivial⟩ ?_
    refine Go'.seq ?_
    refine Go'.block ?_
    unfold ptr
    have hC := Ctx.root t0
    have hQ : l.length = 0 + (Gt.L h0 t0).length := by rw [hl, Nat.zero_add]
    clear hR hg hx hl hroot haf hptr hN hn0
    refine Go'.loop ?_
    refine Go'.keep [(0, _), (3, _)] ⟨rfl, rfl, trivial⟩ ?_
    refine Go'.ind (σ := ((h : Nat) × Gt EI h) × List (Nat × Int) × (Nat → Prop)) (fun s => s.1.1) (fun s H' => Itr EI H H' it tr mt Z true sa se s.2.2 s.2.1 kv ∧ ∃ a, Ctx t0 s.2.1 s.1.1 s.1.2 a ∧ l.length = a + (Gt.L s.1.1 s.1.2).length)
      (fun s => [(0, .pointer (some ⟨it, 0, none⟩)), (3, .pointer (some ⟨Gt.p s.1.1 s.1.2, 0, none⟩))]) (⟨_, _⟩, _, _) ⟨hI, _, hC, hQ⟩ rfl ?_
    clear hI hC
    rintro ⟨⟨h1, s1⟩, fs1, Z1⟩ H2 ⟨hI, a, hC, hQ⟩ ih
    simp only at hI hC ih
    have hsv0 := hI.st
    obtain ⟨sv, hsv, hA⟩ := hsv0
    replace hQ : l.length = a + (Gt.L h1 s1).length := hQ
    have hR := hK _ hI.f
    obtain ⟨hg, hx, hl, hroot, haf⟩ := hR.rt
    obtain ⟨hgd, hx1, hfl, haf1⟩ := Ctx.good hR.mn hg hx hC
    have hhi := Gt.high hR.mn hg hx
    rw [hl] at hhi
    obtain ⟨kp, hN⟩ := hgd.node
    refine (show Go' _ _ _ _ _ [(0, .pointer (some ⟨it, 0, none⟩)), (3, .pointer (some ⟨Gt.p h1 s1, 0, none⟩))] _ _ from ?_)
    refine Go'.block ?_
    refine Go'.seq ?_
    -- region 8 (map.go:997)
    refine Go'.draw (fun H' => cl H' it 5 = some sv) [(0, 0), (1, 0), (2, 0), (3, 0), (4, 0), (5, 0), (6, 0), (7, 0), (8, 0), (9, 1), (10, 0), (11, 0), (12, 2), (13, 2), (14, 0), (15, 0), (16, 3)] (by kernel_rfl) (by kernel_rfl) (hsv) ?_
    refine O.mv rfl rfl rfl rfl rfl ?_
    refine O.mv rfl rfl rfl rfl rfl ?_
    refine O.nc rfl rfl rfl rfl rfl ?_
    refine O.fa0 (off := 5) rfl rfl rfl rfl ⟨_, _, _, Go.Proofs.Try.underlying156, rfl, rfl, Go.Proofs.Try.sizeOf154⟩ rfl ?_
    refine O.ldC rfl rfl rfl (fun w => ⟨Go.Proofs.Try.isAgg154 w, Go.Proofs.Try.sizeOf154 w⟩) rfl (fun _ h => h) ?_
    refine O.mv rfl rfl rfl rfl rfl ?_
    refine O.mv rfl rfl rfl rfl rfl ?_
    refine O.nc rfl rfl rfl rfl rfl ?_
    refine O.fa0 (off := 2) rfl rfl rfl rfl ⟨_, _, _, Go.Proofs.Try.underlying205, rfl, rfl, Go.Proofs.Try.sizeOf202⟩ rfl ?_
    refine O.ld rfl rfl rfl (fun w => ⟨Go.Proofs.Try.isAgg202 w, Go.Proofs.Try.sizeOf202 w⟩) rfl hN.c2 ?_
    refine O.len rfl rfl rfl rfl Go.Proofs.Try.underlying202 rfl ?_
    refine O.bld (cs := (EK.enc (Gt.p h1 s1, (((Gt.X h1 s1).length : Nat) : Int)))) rfl rfl rfl rfl (st231) rfl (by kernel_rfl) ?_
    refine O.bsl (cs := (EK.enc (Gt.p h1 s1, (((Gt.X h1 s1).length : Nat) : Int)))) rfl rfl rfl ⟨Go.Proofs.Try.underlying154, Go.Proofs.Try.sizeOf231, Go.Proofs.Try.zeroValue231, ⟨_, Go.Proofs.Try.typeInfo231, rfl⟩, rfl, by decide, by decide⟩ rfl (by decide) (by kernel_rfl) ?_
    intro H3 M3
    have hs3 := M3.size
    have hA3 := hA.fr (M3.fr nowhere) (fun _ _ _ _ => nw)
    have m3 : Rd H3 H2.size 0 (row EK [(Gt.p h1 s1, (((Gt.X h1 s1).length : Nat) : Int))]) := M3.rd _ [] (by simp [row, EK])
    refine ⟨((M3.fr nowhere).keep hsv nw), ?_⟩
    refine O.appA (E := EK) (Y := [(Gt.p h1 s1, (((Gt.X h1 s1).length : Nat) : Int))]) rfl rfl rfl ⟨Go.Proofs.Try.underlying154, Go.Proofs.Try.sizeOf231, Go.Proofs.Try.zeroValue231, ⟨_, Go.Proofs.Try.typeInfo231, rfl⟩, rfl, by decide, by decide⟩ rfl hA3 rfl ⟨_, _, _, rfl, m3⟩ (Nat.succ_pos _) (Nat.le_trans (Nat.mul_le_mul_left _ (Nat.le_of_ble_eq_true (n := _) (m := 4096) rfl)) (by rw [List.length_reverse]; simp only [List.length_singleton]; omega)) (by rw [List.length_reverse]; simp only [List.length_singleton]; omega) ?_
    intro v4 H4 hA4 hF4 hs4
    obtain ⟨a4, m4, c4, rfl⟩ := hA4.form
    have hw4 : Wr H4 it 5 1 := hF4.wr ((M3.fr nowhere).wr (hI.w 5 (by decide)))
    refine ⟨(hF4.keep ((M3.fr nowhere).keep hsv nw) hI.nz), ?_⟩
    refine O.nc rfl rfl rfl rfl rfl ?_
    refine O.fa0 (off := 5) rfl rfl rfl rfl ⟨_, _, _, Go.Proofs.Try.underlying156, rfl, rfl, Go.Proofs.Try.sizeOf154⟩ rfl ?_
    refine O.st3 rfl rfl Go.Proofs.Try.sizeOf154 rfl rfl rfl rfl rfl hw4 ?_
    intro H5 W5
    replace hI := hI.push (M3.fr nowhere) hF4 hA4 W5
    refine Pl.fin [(0, _), (3, _)] ⟨rfl, rfl, trivial⟩ ?_
    refine Go'.seq ?_
    refine Go'.seq ?_
    clear hR hg hx hl hroot haf hgd hx1 hfl haf1 hN kp
    have hR := hK _ hI.f
    obtain ⟨hg, hx, hl, hroot, haf⟩ := hR.rt
    obtain ⟨hgd, hx1, hfl, haf1⟩ := Ctx.good hR.mn hg hx hC
    rcases h1 with _ | h1
    rotate_left
    · skip
      obtain ⟨g, X, K⟩ := s1
      have hin : Inn _ P h1 g X ((Gt.ps h1 K).map some) K := hgd.inn
      have hKl : K.length = X.length + 1 := hgd.2.2.2.2.2.1
      have hol : ((Gt.ps h1 K).map some).length = X.length + 1 := by rw [List.length_map, Gt.ps, List.length_map]; exact hKl
      have hKL : (K.map (Gt.L h1)).length = X.length + 1 := by rw [List.length_map]; exact hKl
      obtain ⟨k0, hk0⟩ : ∃ k, K[X.length]? = some k := ⟨K[X.length], List.getElem?_eq_getElem (by omega)⟩
      have hk0m : k0 ∈ K := List.mem_of_getElem? hk0
      have hok : ((Gt.ps h1 K).map some)[X.length]? = some (some (Gt.p h1 k0)) := by rw [Gt.ps, List.map_map, List.getElem?_map, hk0]; rfl
      have hkL : (K.map (Gt.L h1))[X.length]? = some (Gt.L h1 k0) := by rw [List.getElem?_map, hk0]; rfl
      have hkat := hin.k.at hok
      have hgk := (hin.c.1 k0 hk0m).1
      obtain ⟨kpk, hNk⟩ := hgk.node
      have hk00 := hNk.c0
      rw [hgk.isoe] at hk00
      -- region 9 (map.go:998)
      refine Go'.region [(0, 0), (1, 2)] rfl ?_
      refine O.mv rfl rfl rfl rfl rfl ?_
      refine O.callQ rfl rfl rfl Go.Proofs.Try.call152 rfl (leaf_spec hin.n.c3) trivial ?_
      refine Pl.fin [(0, _), (3, _), (61, _)] ⟨rfl, rfl, rfl, trivial⟩ ?_
      refine Go'.condF rfl ?_
      refine Go'.skip ?_
      -- region 11 (map.go:1002)
      refine Go'.draw (fun _ => True) [(0, 0), (1, 0), (2, 0), (3, 1), (4, 0), (5, 0), (6, 0), (7, 1), (8, 0), (9, 1), (10, 0), (11, 0), (12, 0), (13, 1), (14, 0), (15, 0), (16, 0), (17, 0), (18, 0), (19, 1), (20, 2), (21, 0)] (by kernel_rfl) (by kernel_rfl) (trivial) ?_
      refine O.mv rfl rfl rfl rfl rfl ?_
      refine O.nc rfl rfl rfl rfl rfl ?_
      refine O.faz rfl rfl rfl rfl ⟨_, _, _, Go.Proofs.Try.underlying156, rfl, rfl, Go.Proofs.Try.sizeOf150⟩ rfl ?_
      refine O.ld rfl rfl rfl (fun w => ⟨Go.Proofs.Try.isAgg150 w, Go.Proofs.Try.sizeOf150 w⟩) rfl hI.c0 ?_
      refine O.mv rfl rfl rfl rfl rfl ?_
      refine O.nc rfl rfl rfl rfl rfl ?_
      refine O.fa0 (off := 3) rfl rfl rfl rfl ⟨_, _, _, Go.Proofs.Try.underlying205, rfl, rfl, Go.Proofs.Try.sizeOf203⟩ rfl ?_
      refine O.ld rfl rfl rfl (fun w => ⟨Go.Proofs.Try.isAgg203 w, Go.Proofs.Try.sizeOf203 w⟩) rfl hin.n.c3 ?_
      refine O.nc rfl rfl rfl rfl rfl ?_
      refine O.ld rfl rfl rfl (fun w => ⟨Go.Proofs.Try.isAgg206 w, Go.Proofs.Try.sizeOf206 w⟩) rfl hin.k.c ?_
      refine O.mv rfl rfl rfl rfl rfl ?_
      refine O.nc rfl rfl rfl rfl rfl ?_
      refine O.fa0 (off := 2) rfl rfl rfl rfl ⟨_, _, _, Go.Proofs.Try.underlying205, rfl, rfl, Go.Proofs.Try.sizeOf202⟩ rfl ?_
      refine O.ld rfl rfl rfl (fun w => ⟨Go.Proofs.Try.isAgg202 w, Go.Proofs.Try.sizeOf202 w⟩) rfl hin.n.c2 ?_
      refine O.len rfl rfl rfl rfl Go.Proofs.Try.underlying202 rfl ?_
      refine O.ix (j := X.length) rfl rfl rfl rfl Go.Proofs.Try.underlying206 Go.Proofs.Try.sizeOf135 rfl rfl (by omega) (by omega) ?_
      refine O.mv rfl rfl rfl rfl rfl ?_
      refine O.nc rfl rfl rfl rfl rfl ?_
      refine O.fa0 (off := 1) rfl rfl rfl rfl ⟨_, _, _, Go.Proofs.Try.underlying156, rfl, rfl, Go.Proofs.Try.sizeOf4⟩ rfl ?_
      refine O.ld rfl rfl rfl (fun w => ⟨Go.Proofs.Try.isAgg4 w, Go.Proofs.Try.sizeOf4 w⟩) rfl hI.c1 ?_
      refine O.callQ rfl rfl rfl Go.Proofs.Try.call151 rfl (isoLoad_spec mt hkat hk00 hR.iso) trivial ?_
      refine O.asg rfl rfl rfl rfl rfl ?_
      refine Pl.fin [(0, _), (3, _), (61, _)] ⟨rfl, rfl, rfl, trivial⟩ ?_
      refine Go'.inBlock ?_
      unfold ptr
      refine Go'.keep [(0, _), (3, _)] ⟨rfl, rfl, trivial⟩ ?_
      refine Go'.inLoop ?_
      refine ih (⟨h1, k0⟩, (g.p, ((X.length : Nat) : Int)) :: fs1, _) _ ⟨hI, _, hC.down (i := X.length) hk0, ?_⟩ (by simp only; omega)
      have := (Pl.inter_bl X (K.map (Gt.L h1)) hKL hkL).2.2.1 rfl
      have e : (Gt.L (h1 + 1) ((g, X, K) : Gt EI (h1 + 1))).length = (Pl.inter X (K.map (Gt.L h1))).length := rfl
      simp only
      omega
    · skip
      obtain ⟨g, X⟩ := s1
      have hN : NodeM EI _ g X (.pointer none) := hgd.1
      have hX1 : 1 ≤ X.length := hx1
      replace hI : Itr EI H H5 it tr mt Z true sa se _ ((g.p, (((X.length : Nat) : Int) : Int)) :: fs1) kv := hI
      have hQ2 : l.length = a + X.length := hQ
      have hb4 : a + X.length ≤ l.length := by have := (Ctx.list hR.mn hg hx hC).2; rw [hl] at this; exact this
      -- region 9 (map.go:998)
      refine Go'.region [(0, 0), (1, 2)] rfl ?_
      refine O.mv rfl rfl rfl rfl rfl ?_
      refine O.callQ rfl rfl rfl Go.Proofs.Try.call152 rfl (leaf_spec hN.c3) trivial ?_
      refine Pl.fin [(0, _), (3, _), (61, _)] ⟨rfl, rfl, rfl, trivial⟩ ?_
      refine Go'.condT rfl ?_
      refine Go'.seq ?_
      obtain ⟨b, o, c, hTop⟩ := hI.top
      -- region 10 (map.go:999)
      refine Go'.draw (fun _ => True) [(0, 0), (1, 0), (2, 0), (3, 1), (4, 0), (5, 0), (6, 0), (7, 1), (8, 0), (9, 0), (10, 0), (11, 0), (12, 1), (13, 0), (14, 0), (15, 0), (16, 3)] (by kernel_rfl) (by kernel_rfl) (trivial) ?_
      refine O.mv rfl rfl rfl rfl rfl ?_
      refine O.nc rfl rfl rfl rfl rfl ?_
      refine O.fa0 (off := 5) rfl rfl rfl rfl ⟨_, _, _, Go.Proofs.Try.underlying156, rfl, rfl, Go.Proofs.Try.sizeOf154⟩ rfl ?_
      refine O.ld rfl rfl rfl (fun w => ⟨Go.Proofs.Try.isAgg154 w, Go.Proofs.Try.sizeOf154 w⟩) rfl hTop.c5 ?_
      refine O.mv rfl rfl rfl rfl rfl ?_
      refine O.nc rfl rfl rfl rfl rfl ?_
      refine O.fa0 (off := 5) rfl rfl rfl rfl ⟨_, _, _, Go.Proofs.Try.underlying156, rfl, rfl, Go.Proofs.Try.sizeOf154⟩ rfl ?_
      refine O.ld rfl rfl rfl (fun w => ⟨Go.Proofs.Try.isAgg154 w, Go.Proofs.Try.sizeOf154 w⟩) rfl hTop.c5 ?_
      refine O.len rfl rfl rfl rfl Go.Proofs.Try.underlying154 rfl ?_
      refine O.sub (((fs1.length : Nat) : Int)) rfl rfl rfl rfl rfl rfl (by omega) (by omega) ?_
      refine O.ix (j := fs1.length) rfl rfl rfl rfl Go.Proofs.Try.underlying154 Go.Proofs.Try.sizeOf231 rfl rfl (by omega) (by omega) ?_
      refine O.fa (off := 1) rfl rfl rfl rfl ⟨_, _, _, Go.Proofs.Try.underlying231, rfl, rfl, Go.Proofs.Try.sizeOf3⟩ rfl ?_
      refine O.ld rfl rfl rfl (fun w => ⟨Go.Proofs.Try.isAgg3 w, Go.Proofs.Try.sizeOf3 w⟩) rfl hTop.ci ?_
      refine O.sub (((X.length - 1 : Nat) : Int)) rfl rfl rfl rfl rfl rfl (by omega) (by omega) ?_
      refine O.ix (j := fs1.length) rfl rfl rfl rfl Go.Proofs.Try.underlying154 Go.Proofs.Try.sizeOf231 rfl rfl (by omega) (by omega) ?_
      refine O.fa (off := 1) rfl rfl rfl rfl ⟨_, _, _, Go.Proofs.Try.underlying231, rfl, rfl, Go.Proofs.Try.sizeOf3⟩ rfl ?_
      refine O.st3 rfl rfl Go.Proofs.Try.sizeOf3 rfl rfl rfl rfl rfl hTop.wi ?_
      intro H6 W6
      obtain ⟨hI6, hTop6⟩ := hI.sti hTop W6
      clear hI hTop hR hg hx hl hroot haf hgd hx1 hfl haf1
      have hI := hI6
      clear hI6
      refine Pl.fin [(0, _), (3, _), (61, _)] ⟨rfl, rfl, rfl, trivial⟩ ?_
      refine Go'.exit rfl ?_
      refine Go'.seq ?_
      have hR := hK _ hI.f
      obtain ⟨hg, hx, hl, hroot, haf⟩ := hR.rt
      obtain ⟨hgd, hx1, hfl, haf1⟩ := Ctx.good hR.mn hg hx hC
      have hS : Stand t0 ((g.p, ((X.length - 1 : Nat) : Int)) :: fs1) (l.length - 1) := .inl ⟨fs1, g, X, a, X.length - 1, rfl, hC, by omega, by omega⟩
      have hR := hK _ hI.f
      obtain ⟨hg, hx, hl, hroot, haf⟩ := hR.rt
      obtain ⟨fs2, g2, X2, kp2, i2, y, e2, hN2, hi2, hy, hq, hfs2⟩ := hS.item hR.mn hg hx
      have hhi2 := Gt.high hR.mn hg hx
      rw [hl] at hhi2
      rw [e2] at hI hS
      obtain ⟨b, o, c, hTop⟩ := hI.top
      -- region 12 (map.go:1004)
      refine Go'.draw (fun _ => True) [(0, 0), (1, 0), (2, 0), (3, 1), (4, 0), (5, 0), (6, 0), (7, 1), (8, 0), (9, 0), (10, 0), (11, 0)] (by kernel_rfl) (by kernel_rfl) (trivial) ?_
      refine O.mv rfl rfl rfl rfl rfl ?_
      refine O.nc rfl rfl rfl rfl rfl ?_
      refine O.fa0 (off := 5) rfl rfl rfl rfl ⟨_, _, _, Go.Proofs.Try.underlying156, rfl, rfl, Go.Proofs.Try.sizeOf154⟩ rfl ?_
      refine O.ld rfl rfl rfl (fun w => ⟨Go.Proofs.Try.isAgg154 w, Go.Proofs.Try.sizeOf154 w⟩) rfl hTop.c5 ?_
      refine O.mv rfl rfl rfl rfl rfl ?_
      refine O.nc rfl rfl rfl rfl rfl ?_
      refine O.fa0 (off := 5) rfl rfl rfl rfl ⟨_, _, _, Go.Proofs.Try.underlying156, rfl, rfl, Go.Proofs.Try.sizeOf154⟩ rfl ?_
      refine O.ld rfl rfl rfl (fun w => ⟨Go.Proofs.Try.isAgg154 w, Go.Proofs.Try.sizeOf154 w⟩) rfl hTop.c5 ?_
      refine O.len rfl rfl rfl rfl Go.Proofs.Try.underlying154 rfl ?_
      refine O.sub (((fs2.length : Nat) : Int)) rfl rfl rfl rfl rfl rfl (by omega) (by omega) ?_
      refine O.ix (j := fs2.length) rfl rfl rfl rfl Go.Proofs.Try.underlying154 Go.Proofs.Try.sizeOf231 rfl rfl (by omega) (by omega) ?_
      refine O.asg rfl rfl rfl rfl rfl ?_
      refine Pl.fin [(0, _), (4, _)] ⟨rfl, rfl, trivial⟩ ?_
      refine Go'.seq ?_
      -- region 13 (map.go:1005)
      refine Go'.draw (fun _ => True) [(0, 0), (1, 0), (2, 0), (3, 0), (4, 1), (5, 0), (6, 0), (7, 1), (8, 0), (9, 0), (10, 0), (11, 1), (12, 0), (13, 1), (14, 0), (15, 0), (16, 3)] (by kernel_rfl) (by kernel_rfl) (trivial) ?_
      refine O.mv rfl rfl rfl rfl rfl ?_
      refine O.mv rfl rfl rfl rfl rfl ?_
      refine O.nc rfl rfl rfl rfl rfl ?_
      refine O.faz rfl rfl rfl rfl ⟨_, _, _, Go.Proofs.Try.underlying231, rfl, rfl, Go.Proofs.Try.sizeOf135⟩ rfl ?_
      refine O.ld rfl rfl rfl (fun w => ⟨Go.Proofs.Try.isAgg135 w, Go.Proofs.Try.sizeOf135 w⟩) rfl hTop.cp ?_
      refine O.nc rfl rfl rfl rfl rfl ?_
      refine O.fa0 (off := 2) rfl rfl rfl rfl ⟨_, _, _, Go.Proofs.Try.underlying205, rfl, rfl, Go.Proofs.Try.sizeOf202⟩ rfl ?_
      refine O.ld rfl rfl rfl (fun w => ⟨Go.Proofs.Try.isAgg202 w, Go.Proofs.Try.sizeOf202 w⟩) rfl hN2.c2 ?_
      refine O.mv rfl rfl rfl rfl rfl ?_
      refine O.nc rfl rfl rfl rfl rfl ?_
      refine O.fa (off := 1) rfl rfl rfl rfl ⟨_, _, _, Go.Proofs.Try.underlying231, rfl, rfl, Go.Proofs.Try.sizeOf3⟩ rfl ?_
      refine O.ld rfl rfl rfl (fun w => ⟨Go.Proofs.Try.isAgg3 w, Go.Proofs.Try.sizeOf3 w⟩) rfl hTop.ci ?_
      refine O.ix (j := i2) rfl rfl rfl rfl Go.Proofs.Try.underlying202 Go.Proofs.Try.sizeOf138 rfl rfl (by omega) hi2 ?_
      refine O.lds rfl rfl rfl (fun w => ⟨Go.Proofs.Try.isAgg138 w, Go.Proofs.Try.sizeOf138 w⟩) rfl rfl (hN2.sl.item hy) ?_
      refine O.nc rfl rfl rfl rfl rfl ?_
      refine O.fa0 (off := 6) rfl rfl rfl rfl ⟨_, _, _, Go.Proofs.Try.underlying156, rfl, rfl, Go.Proofs.Try.sizeOf138⟩ rfl ?_
      refine O.st3 (vs := (EI.enc y)) rfl rfl Go.Proofs.Try.sizeOf138 rfl rfl rfl rfl rfl hI.wk ?_
      intro H9 W9
      have hI9 := hI.set6 W9
      refine Pl.fin [] trivial ?_
      refine Go'.seq ?_
      -- region 14 (map.go:1006)
      refine Go'.region [(0, 0)] rfl ?_
      refine O.asg rfl rfl rfl rfl rfl ?_
      refine Pl.fin [(2, _)] ⟨rfl, trivial⟩ ?_
      rw [hl] at hq
      refine Go'.ret (vs := [_]) Go.Proofs.Try.func144 Go.Proofs.Try.results144 ⟨rfl, trivial⟩ ?_
      exact ⟨congrArg Value.bool (decide_eq_true hl0).symm, _, _, _, _, _, _, hI9, by rw [if_pos hl0]; exact ⟨rfl, hq, _, _, rfl, hS⟩⟩

theorem iNext_gen {B : World} {H : Mem} {it tr : Nat} {mt sa se : Bool} {Z : Nat → Prop} {fr : List (Nat × Int)} {kv : Int} {P : Ps} {S : Nat → Prop} {l : List Int} {h0 : Nat} {t0 : Gt EI h0} (hI : Itr EI H H it tr mt Z true sa se Z fr kv) (hT : TreeR H tr P S l (some ⟨h0, t0⟩)) (hsi : ¬ S it) (hsz : ∀ b, S b → ¬ Z b) {q : Nat} (hG : Gap t0 fr q) :
    Fn Try.prog B 145 [.pointer (some ⟨it, 0, none⟩)] H (fun v H' => v = .bool (decide (q < l.length)) ∧ ItPost EI H H' it tr mt Z (some ⟨h0, t0⟩) l (if q < l.length then some (q) else none)) := by
  have hK : ∀ H', Fr (fun b _ => b = it ∨ Z b) H H' → TreeR H' tr P S l (some ⟨h0, t0⟩) := fun H' hf => hT.keep hf fun b o hs hz => hz.elim (fun e => hsi (e ▸ hs)) (hsz b hs)
  have hll := hT.ll
  rcases hG with ⟨fs, g, X, a, i, rfl, hC, hi, hq0⟩ | ⟨fs, h1, g, X, K, a, i, rfl, hC, hi, hq0⟩
  · skip
    obtain ⟨hfs, hXl⟩ : fs.length ≤ 4294967296 ∧ X.length ≤ 4294967296 := by
      have hR := hK _ hI.f
      obtain ⟨hg, hx, hl, hroot, haf⟩ := hR.rt
      have h2 := Gt.high hR.mn hg hx
      have h3 := (Ctx.good hR.mn hg hx hC).2.2.1
      have h4 : X.length ≤ _ := Ctx.xl hR.mn hg hx hC
      rw [hl] at h2 h4
      exact ⟨by omega, by omega⟩
    obtain ⟨b, o, c, hTop⟩ := hI.top
    refine fn_of Go.Proofs.Try.func145 rfl Go.Proofs.Try.ntmps145 ?_
    refine (show Go' _ _ _ _ 195 [(0, _)] [.code _] _ from ?_)
    refine Go'.seq ?_
    -- region 0 (map.go:1012)
    refine Go'.region [(0, 0)] rfl ?_
    refine O.asg rfl rfl rfl rfl rfl ?_
    refine Pl.fin [(0, _), (2, _)] ⟨rfl, rfl, trivial⟩ ?_
    refine Go'.seq ?_
    refine Go'.seq ?_
    -- region 1 (map.go:1013)
    refine Go'.region [(0, 0), (1, 0), (2, 0), (3, 1), (4, 0)] rfl ?_
    refine O.mv rfl rfl rfl rfl rfl ?_
    refine O.nc rfl rfl rfl rfl rfl ?_
    refine O.faz rfl rfl rfl rfl ⟨_, _, _, Go.Proofs.Try.underlying156, rfl, rfl, Go.Proofs.Try.sizeOf150⟩ rfl ?_
    refine O.ld rfl rfl rfl (fun w => ⟨Go.Proofs.Try.isAgg150 w, Go.Proofs.Try.sizeOf150 w⟩) rfl hI.c0 ?_
    refine O.isNil rfl rfl rfl rfl Go.Proofs.Try.underlying150 rfl rfl ?_
    refine Pl.fin [(0, _), (2, _), (9, _)] ⟨rfl, rfl, rfl, trivial⟩ ?_
    refine Go'.condF rfl ?_
    refine Go'.skip ?_
    refine Go'.seq ?_
    refine Go'.seq ?_
    -- region 3 (map.go:1016)
    refine Go'.region [(0, 0), (1, 0), (2, 0), (3, 1), (4, 0)] rfl ?_
    refine O.mv rfl rfl rfl rfl rfl ?_
    refine O.nc rfl rfl rfl rfl rfl ?_
    refine O.fa0 (off := 2) rfl rfl rfl rfl ⟨_, _, _, Go.Proofs.Try.underlying156, rfl, rfl, Go.Proofs.Try.sizeOf4⟩ rfl ?_
    refine O.ld rfl rfl rfl (fun w => ⟨Go.Proofs.Try.isAgg4 w, Go.Proofs.Try.sizeOf4 w⟩) rfl hI.c2 ?_
    refine O.not rfl rfl rfl rfl rfl ?_
    refine Pl.fin [(0, _), (2, _), (14, _)] ⟨rfl, rfl, rfl, trivial⟩ ?_
    refine Go'.condF rfl ?_
    refine Go'.skip ?_
    refine Go'.seq ?_
    refine Go'.seq ?_
    -- region 5 (map.go:1019)
    refine Go'.region [(0, 0), (1, 0), (2, 0), (3, 1), (4, 0), (5, 0)] rfl ?_
    refine O.mv rfl rfl rfl rfl rfl ?_
    refine O.nc rfl rfl rfl rfl rfl ?_
    refine O.fa0 (off := 5) rfl rfl rfl rfl ⟨_, _, _, Go.Proofs.Try.underlying156, rfl, rfl, Go.Proofs.Try.sizeOf154⟩ rfl ?_
    refine O.ld rfl rfl rfl (fun w => ⟨Go.Proofs.Try.isAgg154 w, Go.Proofs.Try.sizeOf154 w⟩) rfl hTop.c5 ?_
    refine O.len rfl rfl rfl rfl Go.Proofs.Try.underlying154 rfl ?_
    refine O.cmp rfl rfl rfl rfl rfl rfl (eqlF (by omega)) ?_
    refine Pl.fin [(0, _), (2, _), (22, _)] ⟨rfl, rfl, rfl, trivial⟩ ?_
    refine Go'.condF rfl ?_
    refine Go'.skip ?_
    refine Go'.seq ?_
    -- region 9 (map.go:1025)
    refine Go'.draw (fun _ => True) [(0, 0), (1, 0), (2, 0), (3, 1), (4, 0), (5, 0), (6, 0), (7, 1), (8, 0), (9, 0), (10, 0), (11, 0)] (by kernel_rfl) (by kernel_rfl) (trivial) ?_
    refine O.mv rfl rfl rfl rfl rfl ?_
    refine O.nc rfl rfl rfl rfl rfl ?_
    refine O.fa0 (off := 5) rfl rfl rfl rfl ⟨_, _, _, Go.Proofs.Try.underlying156, rfl, rfl, Go.Proofs.Try.sizeOf154⟩ rfl ?_
    refine O.ld rfl rfl rfl (fun w => ⟨Go.Proofs.Try.isAgg154 w, Go.Proofs.Try.sizeOf154 w⟩) rfl hTop.c5 ?_
    refine O.mv rfl rfl rfl rfl rfl ?_
    refine O.nc rfl rfl rfl rfl rfl ?_
    refine O.fa0 (off := 5) rfl rfl rfl rfl ⟨_, _, _, Go.Proofs.Try.underlying156, rfl, rfl, Go.Proofs.Try.sizeOf154⟩ rfl ?_
    refine O.ld rfl rfl rfl (fun w => ⟨Go.Proofs.Try.isAgg154 w, Go.Proofs.Try.sizeOf154 w⟩) rfl hTop.c5 ?_
    refine O.len rfl rfl rfl rfl Go.Proofs.Try.underlying154 rfl ?_
    refine O.sub (((fs.length : Nat) : Int)) rfl rfl rfl rfl rfl rfl (by omega) (by omega) ?_
    refine O.ix (j := fs.length) rfl rfl rfl rfl Go.Proofs.Try.underlying154 Go.Proofs.Try.sizeOf231 rfl rfl (by omega) (by omega) ?_
    refine O.asg rfl rfl rfl rfl rfl ?_
    refine Pl.fin [(0, _), (2, _), (3, _)] ⟨rfl, rfl, rfl, trivial⟩ ?_
    refine Go'.seq ?_
    -- region 10 (map.go:1026)
    refine Go'.region [(0, 0), (1, 0), (2, 0), (3, 1), (4, 0), (5, 0), (6, 0), (7, 2)] rfl ?_
    refine O.mv rfl rfl rfl rfl rfl ?_
    refine O.nc rfl rfl rfl rfl rfl ?_
    refine O.fa (off := 1) rfl rfl rfl rfl ⟨_, _, _, Go.Proofs.Try.underlying231, rfl, rfl, Go.Proofs.Try.sizeOf3⟩ rfl ?_
    refine O.ld rfl rfl rfl (fun w => ⟨Go.Proofs.Try.isAgg3 w, Go.Proofs.Try.sizeOf3 w⟩) rfl hTop.ci ?_
    refine O.add (((i : Nat) : Int)) rfl rfl rfl rfl rfl rfl (by omega) (by omega) ?_
    refine O.nc rfl rfl rfl rfl rfl ?_
    refine O.fa (off := 1) rfl rfl rfl rfl ⟨_, _, _, Go.Proofs.Try.underlying231, rfl, rfl, Go.Proofs.Try.sizeOf3⟩ rfl ?_
    refine O.st rfl rfl Go.Proofs.Try.sizeOf3 rfl rfl rfl rfl rfl hTop.wi ?_
    intro H1 W1
    obtain ⟨hI1, hTop1⟩ := hI.sti hTop W1
    clear hI hTop
    have hI := hI1
    have hTop := hTop1
    clear hI1 hTop1
    refine ⟨trivial, ?_⟩
    refine Pl.fin [(0, _), (2, _), (3, _)] ⟨rfl, rfl, rfl, trivial⟩ ?_
    refine Go'.seq ?_
    refine Go'.seq ?_
    have hR := hK _ hI.f
    obtain ⟨hg, hx, hl, hroot, haf⟩ := hR.rt
    have hN : NodeM EI _ g X (.pointer none) := (Ctx.good hR.mn hg hx hC).1.1
    have hxm : X.length ≤ P.mx := (Ctx.good hR.mn hg hx hC).1.2.2.2
    -- region 11 (map.go:1027)
    refine Go'.region [(0, 0), (1, 0), (2, 0), (3, 1), (4, 2)] rfl ?_
    refine O.mv rfl rfl rfl rfl rfl ?_
    refine O.nc rfl rfl rfl rfl rfl ?_
    refine O.faz rfl rfl rfl rfl ⟨_, _, _, Go.Proofs.Try.underlying231, rfl, rfl, Go.Proofs.Try.sizeOf135⟩ rfl ?_
    refine O.ld rfl rfl rfl (fun w => ⟨Go.Proofs.Try.isAgg135 w, Go.Proofs.Try.sizeOf135 w⟩) rfl hTop.cp ?_
    refine O.callQ rfl rfl rfl Go.Proofs.Try.call152 rfl (leaf_spec hN.c3) trivial ?_
    refine Pl.fin [(0, _), (2, _), (3, _), (55, _)] ⟨rfl, rfl, rfl, rfl, trivial⟩ ?_
    refine Go'.condT rfl ?_
    refine Go'.seq ?_
    by_cases hlt : i < X.length
    · skip
      -- region 12 (map.go:1028)
      refine Go'.draw (fun _ => True) [(0, 0), (1, 0), (2, 0), (3, 1), (4, 0), (5, 0), (6, 0), (7, 1), (8, 0), (9, 0), (10, 1), (11, 0), (12, 0)] (by kernel_rfl) (by kernel_rfl) (trivial) ?_
      refine O.mv rfl rfl rfl rfl rfl ?_
      refine O.nc rfl rfl rfl rfl rfl ?_
      refine O.fa (off := 1) rfl rfl rfl rfl ⟨_, _, _, Go.Proofs.Try.underlying231, rfl, rfl, Go.Proofs.Try.sizeOf3⟩ rfl ?_
      refine O.ld rfl rfl rfl (fun w => ⟨Go.Proofs.Try.isAgg3 w, Go.Proofs.Try.sizeOf3 w⟩) rfl hTop.ci ?_
      refine O.mv rfl rfl rfl rfl rfl ?_
      refine O.nc rfl rfl rfl rfl rfl ?_
      refine O.faz rfl rfl rfl rfl ⟨_, _, _, Go.Proofs.Try.underlying231, rfl, rfl, Go.Proofs.Try.sizeOf135⟩ rfl ?_
      refine O.ld rfl rfl rfl (fun w => ⟨Go.Proofs.Try.isAgg135 w, Go.Proofs.Try.sizeOf135 w⟩) rfl hTop.cp ?_
      refine O.nc rfl rfl rfl rfl rfl ?_
      refine O.fa0 (off := 2) rfl rfl rfl rfl ⟨_, _, _, Go.Proofs.Try.underlying205, rfl, rfl, Go.Proofs.Try.sizeOf202⟩ rfl ?_
      refine O.ld rfl rfl rfl (fun w => ⟨Go.Proofs.Try.isAgg202 w, Go.Proofs.Try.sizeOf202 w⟩) rfl hN.c2 ?_
      refine O.len rfl rfl rfl rfl Go.Proofs.Try.underlying202 rfl ?_
      refine O.cmp rfl rfl rfl rfl rfl rfl (eqlF (by omega)) ?_
      refine Pl.fin [(0, _), (2, _), (3, _), (68, _)] ⟨rfl, rfl, rfl, rfl, trivial⟩ ?_
      refine Go'.condF rfl ?_
      refine Go'.skip ?_
      refine Go'.seq ?_
      have hS : Stand t0 ((g.p, ((i : Nat) : Int)) :: fs) q := .inl ⟨fs, g, X, a, i, rfl, hC, hlt, hq0⟩
      have hR := hK _ hI.f
      obtain ⟨hg, hx, hl, hroot, haf⟩ := hR.rt
      obtain ⟨fs2, g2, X2, kp2, i2, y, e2, hN2, hi2, hy, hq, hfs2⟩ := hS.item hR.mn hg hx
      have hhi2 := Gt.high hR.mn hg hx
      rw [hl] at hhi2
      rw [e2] at hI hS
      obtain ⟨b, o, c, hTop⟩ := hI.top
      -- region 23 (map.go:1051)
      refine Go'.draw (fun _ => True) [(0, 0), (1, 0), (2, 0), (3, 1), (4, 0), (5, 0), (6, 0), (7, 1), (8, 0), (9, 0), (10, 0), (11, 0)] (by kernel_rfl) (by kernel_rfl) (trivial) ?_
      refine O.mv rfl rfl rfl rfl rfl ?_
      refine O.nc rfl rfl rfl rfl rfl ?_
      refine O.fa0 (off := 5) rfl rfl rfl rfl ⟨_, _, _, Go.Proofs.Try.underlying156, rfl, rfl, Go.Proofs.Try.sizeOf154⟩ rfl ?_
      refine O.ld rfl rfl rfl (fun w => ⟨Go.Proofs.Try.isAgg154 w, Go.Proofs.Try.sizeOf154 w⟩) rfl hTop.c5 ?_
      refine O.mv rfl rfl rfl rfl rfl ?_
      refine O.nc rfl rfl rfl rfl rfl ?_
      refine O.fa0 (off := 5) rfl rfl rfl rfl ⟨_, _, _, Go.Proofs.Try.underlying156, rfl, rfl, Go.Proofs.Try.sizeOf154⟩ rfl ?_
      refine O.ld rfl rfl rfl (fun w => ⟨Go.Proofs.Try.isAgg154 w, Go.Proofs.Try.sizeOf154 w⟩) rfl hTop.c5 ?_
      refine O.len rfl rfl rfl rfl Go.Proofs.Try.underlying154 rfl ?_
      refine O.sub (((fs2.length : Nat) : Int)) rfl rfl rfl rfl rfl rfl (by omega) (by omega) ?_
      refine O.ix (j := fs2.length) rfl rfl rfl rfl Go.Proofs.Try.underlying154 Go.Proofs.Try.sizeOf231 rfl rfl (by omega) (by omega) ?_
      refine O.asg rfl rfl rfl rfl rfl ?_
      refine Pl.fin [(0, _), (2, _), (3, _)] ⟨rfl, rfl, rfl, trivial⟩ ?_
      refine Go'.seq ?_
      -- region 24 (map.go:1052)
      refine Go'.draw (fun _ => True) [(0, 0), (1, 0), (2, 0), (3, 0), (4, 1), (5, 0), (6, 0), (7, 1), (8, 0), (9, 0), (10, 0), (11, 1), (12, 0), (13, 1), (14, 0), (15, 0), (16, 3)] (by kernel_rfl) (by kernel_rfl) (trivial) ?_
      refine O.mv rfl rfl rfl rfl rfl ?_
      refine O.mv rfl rfl rfl rfl rfl ?_
      refine O.nc rfl rfl rfl rfl rfl ?_
      refine O.faz rfl rfl rfl rfl ⟨_, _, _, Go.Proofs.Try.underlying231, rfl, rfl, Go.Proofs.Try.sizeOf135⟩ rfl ?_
      refine O.ld rfl rfl rfl (fun w => ⟨Go.Proofs.Try.isAgg135 w, Go.Proofs.Try.sizeOf135 w⟩) rfl hTop.cp ?_
      refine O.nc rfl rfl rfl rfl rfl ?_
      refine O.fa0 (off := 2) rfl rfl rfl rfl ⟨_, _, _, Go.Proofs.Try.underlying205, rfl, rfl, Go.Proofs.Try.sizeOf202⟩ rfl ?_
      refine O.ld rfl rfl rfl (fun w => ⟨Go.Proofs.Try.isAgg202 w, Go.Proofs.Try.sizeOf202 w⟩) rfl hN2.c2 ?_
      refine O.mv rfl rfl rfl rfl rfl ?_
      refine O.nc rfl rfl rfl rfl rfl ?_
      refine O.fa (off := 1) rfl rfl rfl rfl ⟨_, _, _, Go.Proofs.Try.underlying231, rfl, rfl, Go.Proofs.Try.sizeOf3⟩ rfl ?_
      refine O.ld rfl rfl rfl (fun w => ⟨Go.Proofs.Try.isAgg3 w, Go.Proofs.Try.sizeOf3 w⟩) rfl hTop.ci ?_
      refine O.ix (j := i2) rfl rfl rfl rfl Go.Proofs.Try.underlying202 Go.Proofs.Try.sizeOf138 rfl rfl (by omega) hi2 ?_
      refine O.lds rfl rfl rfl (fun w => ⟨Go.Proofs.Try.isAgg138 w, Go.Proofs.Try.sizeOf138 w⟩) rfl rfl (hN2.sl.item hy) ?_
      refine O.nc rfl rfl rfl rfl rfl ?_
      refine O.fa0 (off := 6) rfl rfl rfl rfl ⟨_, _, _, Go.Proofs.Try.underlying156, rfl, rfl, Go.Proofs.Try.sizeOf138⟩ rfl ?_
      refine O.st3 (vs := (EI.enc y)) rfl rfl Go.Proofs.Try.sizeOf138 rfl rfl rfl rfl rfl hI.wk ?_
      intro H9 W9
      have hI9 := hI.set6 W9
      refine Pl.fin [(2, _)] ⟨rfl, trivial⟩ ?_
      refine Go'.seq ?_
      -- region 25 (map.go:1053)
      refine Go'.region [(0, 0)] rfl ?_
      refine O.asg rfl rfl rfl rfl rfl ?_
      refine Pl.fin [(2, _)] ⟨rfl, trivial⟩ ?_
      rw [hl] at hq
      refine Go'.ret (vs := [_]) Go.Proofs.Try.func145 Go.Proofs.Try.results145 ⟨rfl, trivial⟩ ?_
      have hql : q < l.length := (List.getElem?_eq_some_iff.1 hq).1
      exact ⟨congrArg Value.bool (decide_eq_true hql).symm, _, _, _, _, _, _, hI9, by rw [if_pos hql]; exact ⟨rfl, hq, _, _, rfl, hS⟩⟩
    · skip
      obtain rfl : i = X.length := by omega
      -- region 12 (map.go:1028)
      refine Go'.draw (fun _ => True) [(0, 0), (1, 0), (2, 0), (3, 1), (4, 0), (5, 0), (6, 0), (7, 1), (8, 0), (9, 0), (10, 1), (11, 0), (12, 0)] (by kernel_rfl) (by kernel_rfl) (trivial) ?_
      refine O.mv rfl rfl rfl rfl rfl ?_
      refine O.nc rfl rfl rfl rfl rfl ?_
      refine O.fa (off := 1) rfl rfl rfl rfl ⟨_, _, _, Go.Proofs.Try.underlying231, rfl, rfl, Go.Proofs.Try.sizeOf3⟩ rfl ?_
      refine O.ld rfl rfl rfl (fun w => ⟨Go.Proofs.Try.isAgg3 w, Go.Proofs.Try.sizeOf3 w⟩) rfl hTop.ci ?_
      refine O.mv rfl rfl rfl rfl rfl ?_
      refine O.nc rfl rfl rfl rfl rfl ?_
      refine O.faz rfl rfl rfl rfl ⟨_, _, _, Go.Proofs.Try.underlying231, rfl, rfl, Go.Proofs.Try.sizeOf135⟩ rfl ?_
      refine O.ld rfl rfl rfl (fun w => ⟨Go.Proofs.Try.isAgg135 w, Go.Proofs.Try.sizeOf135 w⟩) rfl hTop.cp ?_
      refine O.nc rfl rfl rfl rfl rfl ?_
      refine O.fa0 (off := 2) rfl rfl rfl rfl ⟨_, _, _, Go.Proofs.Try.underlying205, rfl, rfl, Go.Proofs.Try.sizeOf202⟩ rfl ?_
      refine O.ld rfl rfl rfl (fun w => ⟨Go.Proofs.Try.isAgg202 w, Go.Proofs.Try.sizeOf202 w⟩) rfl hN.c2 ?_
      refine O.len rfl rfl rfl rfl Go.Proofs.Try.underlying202 rfl ?_
      refine O.cmp rfl rfl rfl rfl rfl rfl (eqlT (by omega)) ?_
      refine Pl.fin [(0, _), (2, _), (3, _), (68, _)] ⟨rfl, rfl, rfl, rfl, trivial⟩ ?_
      refine Go'.condT rfl ?_
      refine Go'.block ?_
      refine Go'.loop ?_
      refine Go'.keep [(0, _)] ⟨rfl, trivial⟩ ?_
      refine Go'.ind (σ := ((h : Nat) × Gt EI h) × (Nat × Int) × List (Nat × Int)) (fun s => s.2.2.length) (fun s H' => Itr EI H H' it tr mt Z true sa se Z (s.2.1 :: s.2.2) kv ∧ s.2.2.length ≤ 4294967296 ∧ ∃ a, Ctx t0 s.2.2 s.1.1 s.1.2 a ∧ q = a + (Gt.L s.1.1 s.1.2).length)
        (fun s => [(0, .pointer (some ⟨it, 0, none⟩))]) (⟨0, ((g, X) : Gt EI 0)⟩, _, fs) ⟨hI, hfs, _, hC, hq0⟩ rfl ?_
      clear hI hTop hC hR hg hx hl hroot haf hN hfs hxm
      rintro ⟨⟨h1, s1⟩, ⟨p1, z1⟩, fs1⟩ H2 ⟨hI, hfs, a1, hC, hQ⟩ ih
      replace hI : Itr EI H H2 it tr mt Z true sa se Z ((p1, z1) :: fs1) kv := hI
      replace hQ : q = a1 + (Gt.L h1 s1).length := hQ
      simp only at hfs hC ih
      obtain ⟨b, o, c, hTop⟩ := hI.top
      have hle := hTop.le
      refine Go'.block ?_
      refine Go'.seq ?_
      -- region 13 (map.go:1030)
      refine Go'.draw (fun _ => True) [(0, 0), (1, 0), (2, 0), (3, 0), (4, 1), (5, 0), (6, 0), (7, 0), (8, 1), (9, 0), (10, 0), (11, 0), (12, 0), (13, 0), (14, 3)] (by kernel_rfl) (by kernel_rfl) (trivial) ?_
      refine O.mv rfl rfl rfl rfl rfl ?_
      refine O.mv rfl rfl rfl rfl rfl ?_
      refine O.nc rfl rfl rfl rfl rfl ?_
      refine O.fa0 (off := 5) rfl rfl rfl rfl ⟨_, _, _, Go.Proofs.Try.underlying156, rfl, rfl, Go.Proofs.Try.sizeOf154⟩ rfl ?_
      refine O.ld rfl rfl rfl (fun w => ⟨Go.Proofs.Try.isAgg154 w, Go.Proofs.Try.sizeOf154 w⟩) rfl hTop.c5 ?_
      refine O.mv rfl rfl rfl rfl rfl ?_
      refine O.nc rfl rfl rfl rfl rfl ?_
      refine O.fa0 (off := 5) rfl rfl rfl rfl ⟨_, _, _, Go.Proofs.Try.underlying156, rfl, rfl, Go.Proofs.Try.sizeOf154⟩ rfl ?_
      refine O.ld rfl rfl rfl (fun w => ⟨Go.Proofs.Try.isAgg154 w, Go.Proofs.Try.sizeOf154 w⟩) rfl hTop.c5 ?_
      refine O.len rfl rfl rfl rfl Go.Proofs.Try.underlying154 rfl ?_
      refine O.sub (((fs1.length : Nat) : Int)) rfl rfl rfl rfl rfl rfl (by omega) (by omega) ?_
      refine O.slc (jl := 0) (jh := fs1.length) (jm := c) rfl rfl rfl rfl Go.Proofs.Try.underlying154 Go.Proofs.Try.sizeOf231 rfl rfl ⟨_, by rfl⟩ rfl (by omega) (by omega) (by omega) (by simp) ?_
      intro o2 ho2
      obtain rfl : o2 = o := by have := ho2 (by omega); omega
      refine O.nc rfl rfl rfl rfl rfl ?_
      refine O.fa0 (off := 5) rfl rfl rfl rfl ⟨_, _, _, Go.Proofs.Try.underlying156, rfl, rfl, Go.Proofs.Try.sizeOf154⟩ rfl ?_
      refine O.st3 rfl rfl Go.Proofs.Try.sizeOf154 rfl rfl rfl rfl rfl (hI.w 5 (by decide)) ?_
      intro H3 W3
      have hI3 := hI.pop hTop W3
      have h5 : cl H3 it 5 = some (.slice (some ⟨b, o2, none⟩) fs1.length c) := W3.at
      refine Pl.fin [(0, _)] ⟨rfl, trivial⟩ ?_
      refine Go'.seq ?_
      refine Go'.seq ?_
      rcases fs1 with _ | ⟨⟨p2, z2⟩, fs2⟩
      · skip
        -- region 14 (map.go:1031)
        refine Go'.region [(0, 0), (1, 0), (2, 0), (3, 1), (4, 0), (5, 0)] rfl ?_
        refine O.mv rfl rfl rfl rfl rfl ?_
        refine O.nc rfl rfl rfl rfl rfl ?_
        refine O.fa0 (off := 5) rfl rfl rfl rfl ⟨_, _, _, Go.Proofs.Try.underlying156, rfl, rfl, Go.Proofs.Try.sizeOf154⟩ rfl ?_
        refine O.ld rfl rfl rfl (fun w => ⟨Go.Proofs.Try.isAgg154 w, Go.Proofs.Try.sizeOf154 w⟩) rfl h5 ?_
        refine O.len rfl rfl rfl rfl Go.Proofs.Try.underlying154 rfl ?_
        refine O.cmp rfl rfl rfl rfl rfl rfl (eqlT rfl) ?_
        refine Pl.fin [(0, _), (88, _)] ⟨rfl, rfl, trivial⟩ ?_
        refine Go'.condT rfl ?_
        refine Go'.seq ?_
        -- region 15 (map.go:1032)
        refine Go'.region [(0, 0), (1, 0), (2, 0), (3, 2)] rfl ?_
        refine O.mv rfl rfl rfl rfl rfl ?_
        refine O.nc rfl rfl rfl rfl rfl ?_
        refine O.fa0 (off := 4) rfl rfl rfl rfl ⟨_, _, _, Go.Proofs.Try.underlying156, rfl, rfl, Go.Proofs.Try.sizeOf4⟩ rfl ?_
        refine O.st rfl rfl Go.Proofs.Try.sizeOf4 rfl rfl rfl rfl rfl (hI3.w 4 (by decide)) ?_
        intro H4 W4
        have hI4 := hI3.set4 W4
        refine ⟨trivial, ?_⟩
        refine Pl.fin [(0, _), (88, _)] ⟨rfl, rfl, trivial⟩ ?_
        refine Go'.seq ?_
        -- region 16 (map.go:1033)
        refine Go'.region [(0, 0)] rfl ?_
        refine O.asg rfl rfl rfl rfl rfl ?_
        refine Pl.fin [(0, _), (2, _), (88, _)] ⟨rfl, rfl, rfl, trivial⟩ ?_
        refine Go'.ret (vs := [_]) Go.Proofs.Try.func145 Go.Proofs.Try.results145 ⟨rfl, trivial⟩ ?_
        have hR := hK _ hI4.f
        obtain ⟨hg, hx, hl, hroot, haf⟩ := hR.rt
        obtain ⟨e, rfl⟩ := hC
        cases e
        have hn : ¬ q < l.length := by rw [← hl]; omega
        exact ⟨congrArg Value.bool (decide_eq_false hn).symm, _, _, _, _, _, _, hI4, by rw [if_neg hn]; rfl⟩
      · skip
        obtain ⟨g, X, K, i, a', e, hi1, hC', rfl⟩ := hC
        simp only [Prod.mk.injEq] at e
        obtain ⟨rfl, rfl⟩ := e
        rw [List.length_cons] at hfs h5
        have hR := hK _ hI3.f
        obtain ⟨hg, hx, hl, hroot, haf⟩ := hR.rt
        have hgd := (Ctx.good hR.mn hg hx hC').1
        have hN : NodeM EI _ g X (.pointer (some ⟨g.cb, 0, none⟩)) := hgd.1
        have hKL : (K.map (Gt.L h1)).length = X.length + 1 := by rw [List.length_map]; exact hgd.2.2.2.2.2.1
        have hkL : (K.map (Gt.L h1))[i]? = some (Gt.L h1 s1) := by rw [List.getElem?_map, hi1]; rfl
        have hile : i < K.length := (List.getElem?_eq_some_iff.1 hi1).1
        rw [List.length_map] at hKL
        have hXl : X.length ≤ 4294967296 := by
          have h4 : X.length ≤ _ := Ctx.xl hR.mn hg hx hC'
          rw [hl] at h4
          omega
        obtain ⟨b3, o3, c3, hTop3⟩ := hI3.top
        -- region 14 (map.go:1031)
        refine Go'.region [(0, 0), (1, 0), (2, 0), (3, 1), (4, 0), (5, 0)] rfl ?_
        refine O.mv rfl rfl rfl rfl rfl ?_
        refine O.nc rfl rfl rfl rfl rfl ?_
        refine O.fa0 (off := 5) rfl rfl rfl rfl ⟨_, _, _, Go.Proofs.Try.underlying156, rfl, rfl, Go.Proofs.Try.sizeOf154⟩ rfl ?_
        refine O.ld rfl rfl rfl (fun w => ⟨Go.Proofs.Try.isAgg154 w, Go.Proofs.Try.sizeOf154 w⟩) rfl h5 ?_
        refine O.len rfl rfl rfl rfl Go.Proofs.Try.underlying154 rfl ?_
        refine O.cmp rfl rfl rfl rfl rfl rfl (eqlF (by omega)) ?_
        refine Pl.fin [(0, _), (88, _)] ⟨rfl, rfl, trivial⟩ ?_
        refine Go'.condF rfl ?_
        refine Go'.skip ?_
        refine Go'.seq ?_
        -- region 17 (map.go:1035)
        refine Go'.draw (fun _ => True) [(0, 0), (1, 0), (2, 0), (3, 1), (4, 0), (5, 0), (6, 0), (7, 1), (8, 0), (9, 0), (10, 0), (11, 0)] (by kernel_rfl) (by kernel_rfl) (trivial) ?_
        refine O.mv rfl rfl rfl rfl rfl ?_
        refine O.nc rfl rfl rfl rfl rfl ?_
        refine O.fa0 (off := 5) rfl rfl rfl rfl ⟨_, _, _, Go.Proofs.Try.underlying156, rfl, rfl, Go.Proofs.Try.sizeOf154⟩ rfl ?_
        refine O.ld rfl rfl rfl (fun w => ⟨Go.Proofs.Try.isAgg154 w, Go.Proofs.Try.sizeOf154 w⟩) rfl hTop3.c5 ?_
        refine O.mv rfl rfl rfl rfl rfl ?_
        refine O.nc rfl rfl rfl rfl rfl ?_
        refine O.fa0 (off := 5) rfl rfl rfl rfl ⟨_, _, _, Go.Proofs.Try.underlying156, rfl, rfl, Go.Proofs.Try.sizeOf154⟩ rfl ?_
        refine O.ld rfl rfl rfl (fun w => ⟨Go.Proofs.Try.isAgg154 w, Go.Proofs.Try.sizeOf154 w⟩) rfl hTop3.c5 ?_
        refine O.len rfl rfl rfl rfl Go.Proofs.Try.underlying154 rfl ?_
        refine O.sub (((fs2.length : Nat) : Int)) rfl rfl rfl rfl rfl rfl (by omega) (by omega) ?_
        refine O.ix (j := fs2.length) rfl rfl rfl rfl Go.Proofs.Try.underlying154 Go.Proofs.Try.sizeOf231 rfl rfl (by omega) (by omega) ?_
        refine O.asg rfl rfl rfl rfl rfl ?_
        refine Pl.fin [(0, _), (3, _), (88, _)] ⟨rfl, rfl, rfl, trivial⟩ ?_
        refine Go'.seq ?_
        by_cases hlt : i < X.length
        · skip
          -- region 18 (map.go:1036)
          refine Go'.draw (fun _ => True) [(0, 0), (1, 0), (2, 0), (3, 1), (4, 0), (5, 0), (6, 0), (7, 1), (8, 0), (9, 0), (10, 1), (11, 0), (12, 0)] (by kernel_rfl) (by kernel_rfl) (trivial) ?_
          refine O.mv rfl rfl rfl rfl rfl ?_
          refine O.nc rfl rfl rfl rfl rfl ?_
          refine O.fa (off := 1) rfl rfl rfl rfl ⟨_, _, _, Go.Proofs.Try.underlying231, rfl, rfl, Go.Proofs.Try.sizeOf3⟩ rfl ?_
          refine O.ld rfl rfl rfl (fun w => ⟨Go.Proofs.Try.isAgg3 w, Go.Proofs.Try.sizeOf3 w⟩) rfl hTop3.ci ?_
          refine O.mv rfl rfl rfl rfl rfl ?_
          refine O.nc rfl rfl rfl rfl rfl ?_
          refine O.faz rfl rfl rfl rfl ⟨_, _, _, Go.Proofs.Try.underlying231, rfl, rfl, Go.Proofs.Try.sizeOf135⟩ rfl ?_
          refine O.ld rfl rfl rfl (fun w => ⟨Go.Proofs.Try.isAgg135 w, Go.Proofs.Try.sizeOf135 w⟩) rfl hTop3.cp ?_
          refine O.nc rfl rfl rfl rfl rfl ?_
          refine O.fa0 (off := 2) rfl rfl rfl rfl ⟨_, _, _, Go.Proofs.Try.underlying205, rfl, rfl, Go.Proofs.Try.sizeOf202⟩ rfl ?_
          refine O.ld rfl rfl rfl (fun w => ⟨Go.Proofs.Try.isAgg202 w, Go.Proofs.Try.sizeOf202 w⟩) rfl hN.c2 ?_
          refine O.len rfl rfl rfl rfl Go.Proofs.Try.underlying202 rfl ?_
          refine O.cmp rfl rfl rfl rfl rfl rfl (lssT (by omega)) ?_
          refine Pl.fin [(0, _), (3, _), (88, _), (115, _)] ⟨rfl, rfl, rfl, rfl, trivial⟩ ?_
          refine Go'.condT rfl ?_
          refine Go'.exit rfl ?_
          refine Go'.seq ?_
          have hS : Stand t0 ((g.p, ((i : Nat) : Int)) :: fs2) q := .inr ⟨fs2, h1, g, X, K, a', i, rfl, hC', hlt, by rw [Pl.bl_succ hkL]; omega⟩
          clear hI hTop
          have hI := hI3
          have hR := hK _ hI.f
          obtain ⟨hg, hx, hl, hroot, haf⟩ := hR.rt
          obtain ⟨fs2, g2, X2, kp2, i2, y, e2, hN2, hi2, hy, hq, hfs2⟩ := hS.item hR.mn hg hx
          have hhi2 := Gt.high hR.mn hg hx
          rw [hl] at hhi2
          rw [e2] at hI hS
          obtain ⟨b, o, c, hTop⟩ := hI.top
          -- region 23 (map.go:1051)
          refine Go'.draw (fun _ => True) [(0, 0), (1, 0), (2, 0), (3, 1), (4, 0), (5, 0), (6, 0), (7, 1), (8, 0), (9, 0), (10, 0), (11, 0)] (by kernel_rfl) (by kernel_rfl) (trivial) ?_
          refine O.mv rfl rfl rfl rfl rfl ?_
          refine O.nc rfl rfl rfl rfl rfl ?_
          refine O.fa0 (off := 5) rfl rfl rfl rfl ⟨_, _, _, Go.Proofs.Try.underlying156, rfl, rfl, Go.Proofs.Try.sizeOf154⟩ rfl ?_
          refine O.ld rfl rfl rfl (fun w => ⟨Go.Proofs.Try.isAgg154 w, Go.Proofs.Try.sizeOf154 w⟩) rfl hTop.c5 ?_
          refine O.mv rfl rfl rfl rfl rfl ?_
          refine O.nc rfl rfl rfl rfl rfl ?_
          refine O.fa0 (off := 5) rfl rfl rfl rfl ⟨_, _, _, Go.Proofs.Try.underlying156, rfl, rfl, Go.Proofs.Try.sizeOf154⟩ rfl ?_
          refine O.ld rfl rfl rfl (fun w => ⟨Go.Proofs.Try.isAgg154 w, Go.Proofs.Try.sizeOf154 w⟩) rfl hTop.c5 ?_
          refine O.len rfl rfl rfl rfl Go.Proofs.Try.underlying154 rfl ?_
          refine O.sub (((fs2.length : Nat) : Int)) rfl rfl rfl rfl rfl rfl (by omega) (by omega) ?_
          refine O.ix (j := fs2.length) rfl rfl rfl rfl Go.Proofs.Try.underlying154 Go.Proofs.Try.sizeOf231 rfl rfl (by omega) (by omega) ?_
          refine O.asg rfl rfl rfl rfl rfl ?_
          refine Pl.fin [(0, _), (3, _)] ⟨rfl, rfl, trivial⟩ ?_
          refine Go'.seq ?_
          -- region 24 (map.go:1052)
          refine Go'.draw (fun _ => True) [(0, 0), (1, 0), (2, 0), (3, 0), (4, 1), (5, 0), (6, 0), (7, 1), (8, 0), (9, 0), (10, 0), (11, 1), (12, 0), (13, 1), (14, 0), (15, 0), (16, 3)] (by kernel_rfl) (by kernel_rfl) (trivial) ?_
          refine O.mv rfl rfl rfl rfl rfl ?_
          refine O.mv rfl rfl rfl rfl rfl ?_
          refine O.nc rfl rfl rfl rfl rfl ?_
          refine O.faz rfl rfl rfl rfl ⟨_, _, _, Go.Proofs.Try.underlying231, rfl, rfl, Go.Proofs.Try.sizeOf135⟩ rfl ?_
          refine O.ld rfl rfl rfl (fun w => ⟨Go.Proofs.Try.isAgg135 w, Go.Proofs.Try.sizeOf135 w⟩) rfl hTop.cp ?_
          refine O.nc rfl rfl rfl rfl rfl ?_
          refine O.fa0 (off := 2) rfl rfl rfl rfl ⟨_, _, _, Go.Proofs.Try.underlying205, rfl, rfl, Go.Proofs.Try.sizeOf202⟩ rfl ?_
          refine O.ld rfl rfl rfl (fun w => ⟨Go.Proofs.Try.isAgg202 w, Go.Proofs.Try.sizeOf202 w⟩) rfl hN2.c2 ?_
          refine O.mv rfl rfl rfl rfl rfl ?_
          refine O.nc rfl rfl rfl rfl rfl ?_
          refine O.fa (off := 1) rfl rfl rfl rfl ⟨_, _, _, Go.Proofs.Try.underlying231, rfl, rfl, Go.Proofs.Try.sizeOf3⟩ rfl ?_
          refine O.ld rfl rfl rfl (fun w => ⟨Go.Proofs.Try.isAgg3 w, Go.Proofs.Try.sizeOf3 w⟩) rfl hTop.ci ?_
          refine O.ix (j := i2) rfl rfl rfl rfl Go.Proofs.Try.underlying202 Go.Proofs.Try.sizeOf138 rfl rfl (by omega) hi2 ?_
          refine O.lds rfl rfl rfl (fun w => ⟨Go.Proofs.Try.isAgg138 w, Go.Proofs.Try.sizeOf138 w⟩) rfl rfl (hN2.sl.item hy) ?_
          refine O.nc rfl rfl rfl rfl rfl ?_
          refine O.fa0 (off := 6) rfl rfl rfl rfl ⟨_, _, _, Go.Proofs.Try.underlying156, rfl, rfl, Go.Proofs.Try.sizeOf138⟩ rfl ?_
          refine O.st3 (vs := (EI.enc y)) rfl rfl Go.Proofs.Try.sizeOf138 rfl rfl rfl rfl rfl hI.wk ?_
          intro H9 W9
          have hI9 := hI.set6 W9
          refine Pl.fin [] trivial ?_
          refine Go'.seq ?_
          -- region 25 (map.go:1053)
          refine Go'.region [(0, 0)] rfl ?_
          refine O.asg rfl rfl rfl rfl rfl ?_
          refine Pl.fin [(2, _)] ⟨rfl, trivial⟩ ?_
          rw [hl] at hq
          refine Go'.ret (vs := [_]) Go.Proofs.Try.func145 Go.Proofs.Try.results145 ⟨rfl, trivial⟩ ?_
          have hql : q < l.length := (List.getElem?_eq_some_iff.1 hq).1
          exact ⟨congrArg Value.bool (decide_eq_true hql).symm, _, _, _, _, _, _, hI9, by rw [if_pos hql]; exact ⟨rfl, hq, _, _, rfl, hS⟩⟩
        · skip
          -- region 18 (map.go:1036)
          refine Go'.draw (fun _ => True) [(0, 0), (1, 0), (2, 0), (3, 1), (4, 0), (5, 0), (6, 0), (7, 1), (8, 0), (9, 0), (10, 1), (11, 0), (12, 0)] (by kernel_rfl) (by kernel_rfl) (trivial) ?_
          refine O.mv rfl rfl rfl rfl rfl ?_
          refine O.nc rfl rfl rfl rfl rfl ?_
          refine O.fa (off := 1) rfl rfl rfl rfl ⟨_, _, _, Go.Proofs.Try.underlying231, rfl, rfl, Go.Proofs.Try.sizeOf3⟩ rfl ?_
          refine O.ld rfl rfl rfl (fun w => ⟨Go.Proofs.Try.isAgg3 w, Go.Proofs.Try.sizeOf3 w⟩) rfl hTop3.ci ?_
          refine O.mv rfl rfl rfl rfl rfl ?_
          refine O.nc rfl rfl rfl rfl rfl ?_
          refine O.faz rfl rfl rfl rfl ⟨_, _, _, Go.Proofs.Try.underlying231, rfl, rfl, Go.Proofs.Try.sizeOf135⟩ rfl ?_
          refine O.ld rfl rfl rfl (fun w => ⟨Go.Proofs.Try.isAgg135 w, Go.Proofs.Try.sizeOf135 w⟩) rfl hTop3.cp ?_
          refine O.nc rfl rfl rfl rfl rfl ?_
          refine O.fa0 (off := 2) rfl rfl rfl rfl ⟨_, _, _, Go.Proofs.Try.underlying205, rfl, rfl, Go.Proofs.Try.sizeOf202⟩ rfl ?_
          refine O.ld rfl rfl rfl (fun w => ⟨Go.Proofs.Try.isAgg202 w, Go.Proofs.Try.sizeOf202 w⟩) rfl hN.c2 ?_
          refine O.len rfl rfl rfl rfl Go.Proofs.Try.underlying202 rfl ?_
          refine O.cmp rfl rfl rfl rfl rfl rfl (lssF (by omega)) ?_
          refine Pl.fin [(0, _), (3, _), (88, _), (115, _)] ⟨rfl, rfl, rfl, rfl, trivial⟩ ?_
          refine Go'.condF rfl ?_
          refine Go'.skip ?_
          refine Go'.inBlock ?_
          refine Go'.keep [(0, _)] ⟨rfl, trivial⟩ ?_
          refine Go'.inLoop ?_
          refine ih (⟨h1 + 1, ((g, X, K) : Gt EI (h1 + 1))⟩, _, fs2) _ ⟨hI3, by simp only; omega, a', hC', ?_⟩ (by simp only [List.length_cons]; omega)
          have := (Pl.inter_bl X (K.map (Gt.L h1)) (by rw [List.length_map]; exact hKL) hkL).2.2.1 (by omega)
          have e : (Gt.L (h1 + 1) ((g, X, K) : Gt EI (h1 + 1))).length = (Pl.inter X (K.map (Gt.L h1))).length := rfl
          simp only
          omega
  · skip
    obtain ⟨hfs, hXl⟩ : fs.length ≤ 4294967296 ∧ X.length ≤ 4294967296 := by
      have hR := hK _ hI.f
      obtain ⟨hg, hx, hl, hroot, haf⟩ := hR.rt
      have h2 := Gt.high hR.mn hg hx
      have h3 := (Ctx.good hR.mn hg hx hC).2.2.1
      have h4 : X.length ≤ _ := Ctx.xl hR.mn hg hx hC
      rw [hl] at h2 h4
      exact ⟨by omega, by omega⟩
    obtain ⟨b, o, c, hTop⟩ := hI.top
    refine fn_of Go.Proofs.Try.func145 rfl Go.Proofs.Try.ntmps145 ?_
    refine (show Go' _ _ _ _ 195 [(0, _)] [.code _] _ from ?_)
    refine Go'.seq ?_
    -- region 0 (map.go:1012)
    refine Go'.region [(0, 0)] rfl ?_
    refine O.asg rfl rfl rfl rfl rfl ?_
    refine Pl.fin [(0, _), (2, _)] ⟨rfl, rfl, trivial⟩ ?_
    refine Go'.seq ?_
    refine Go'.seq ?_
    -- region 1 (map.go:1013)
    refine Go'.region [(0, 0), (1, 0), (2, 0), (3, 1), (4, 0)] rfl ?_
    refine O.mv rfl rfl rfl rfl rfl ?_
    refine O.nc rfl rfl rfl rfl rfl ?_
    refine O.faz rfl rfl rfl rfl ⟨_, _, _, Go.Proofs.Try.underlying156, rfl, rfl, Go.Proofs.Try.sizeOf150⟩ rfl ?_
    refine O.ld rfl rfl rfl (fun w => ⟨Go.Proofs.Try.isAgg150 w, Go.Proofs.Try.sizeOf150 w⟩) rfl hI.c0 ?_
    refine O.isNil rfl rfl rfl rfl Go.Proofs.Try.underlying150 rfl rfl ?_
    refine Pl.fin [(0, _), (2, _), (9, _)] ⟨rfl, rfl, rfl, trivial⟩ ?_
    refine Go'.condF rfl ?_
    refine Go'.skip ?_
    refine Go'.seq ?_
    refine Go'.seq ?_
    -- region 3 (map.go:1016)
    refine Go'.region [(0, 0), (1, 0), (2, 0), (3, 1), (4, 0)] rfl ?_
    refine O.mv rfl rfl rfl rfl rfl ?_
    refine O.nc rfl rfl rfl rfl rfl ?_
    refine O.fa0 (off := 2) rfl rfl rfl rfl ⟨_, _, _, Go.Proofs.Try.underlying156, rfl, rfl, Go.Proofs.Try.sizeOf4⟩ rfl ?_
    refine O.ld rfl rfl rfl (fun w => ⟨Go.Proofs.Try.isAgg4 w, Go.Proofs.Try.sizeOf4 w⟩) rfl hI.c2 ?_
    refine O.not rfl rfl rfl rfl rfl ?_
    refine Pl.fin [(0, _), (2, _), (14, _)] ⟨rfl, rfl, rfl, trivial⟩ ?_
    refine Go'.condF rfl ?_
    refine Go'.skip ?_
    refine Go'.seq ?_
    refine Go'.seq ?_
    -- region 5 (map.go:1019)
    refine Go'.region [(0, 0), (1, 0), (2, 0), (3, 1), (4, 0), (5, 0)] rfl ?_
    refine O.mv rfl rfl rfl rfl rfl ?_
    refine O.nc rfl rfl rfl rfl rfl ?_
    refine O.fa0 (off := 5) rfl rfl rfl rfl ⟨_, _, _, Go.Proofs.Try.underlying156, rfl, rfl, Go.Proofs.Try.sizeOf154⟩ rfl ?_
    refine O.ld rfl rfl rfl (fun w => ⟨Go.Proofs.Try.isAgg154 w, Go.Proofs.Try.sizeOf154 w⟩) rfl hTop.c5 ?_
    refine O.len rfl rfl rfl rfl Go.Proofs.Try.underlying154 rfl ?_
    refine O.cmp rfl rfl rfl rfl rfl rfl (eqlF (by omega)) ?_
    refine Pl.fin [(0, _), (2, _), (22, _)] ⟨rfl, rfl, rfl, trivial⟩ ?_
    refine Go'.condF rfl ?_
    refine Go'.skip ?_
    refine Go'.seq ?_
    -- region 9 (map.go:1025)
    refine Go'.draw (fun _ => True) [(0, 0), (1, 0), (2, 0), (3, 1), (4, 0), (5, 0), (6, 0), (7, 1), (8, 0), (9, 0), (10, 0), (11, 0)] (by kernel_rfl) (by kernel_rfl) (trivial) ?_
    refine O.mv rfl rfl rfl rfl rfl ?_
    refine O.nc rfl rfl rfl rfl rfl ?_
    refine O.fa0 (off := 5) rfl rfl rfl rfl ⟨_, _, _, Go.Proofs.Try.underlying156, rfl, rfl, Go.Proofs.Try.sizeOf154⟩ rfl ?_
    refine O.ld rfl rfl rfl (fun w => ⟨Go.Proofs.Try.isAgg154 w, Go.Proofs.Try.sizeOf154 w⟩) rfl hTop.c5 ?_
    refine O.mv rfl rfl rfl rfl rfl ?_
    refine O.nc rfl rfl rfl rfl rfl ?_
    refine O.fa0 (off := 5) rfl rfl rfl rfl ⟨_, _, _, Go.Proofs.Try.underlying156, rfl, rfl, Go.Proofs.Try.sizeOf154⟩ rfl ?_
    refine O.ld rfl rfl rfl (fun w => ⟨Go.Proofs.Try.isAgg154 w, Go.Proofs.Try.sizeOf154 w⟩) rfl hTop.c5 ?_
    refine O.len rfl rfl rfl rfl Go.Proofs.Try.underlying154 rfl ?_
    refine O.sub (((fs.length : Nat) : Int)) rfl rfl rfl rfl rfl rfl (by omega) (by omega) ?_
    refine O.ix (j := fs.length) rfl rfl rfl rfl Go.Proofs.Try.underlying154 Go.Proofs.Try.sizeOf231 rfl rfl (by omega) (by omega) ?_
    refine O.asg rfl rfl rfl rfl rfl ?_
    refine Pl.fin [(0, _), (2, _), (3, _)] ⟨rfl, rfl, rfl, trivial⟩ ?_
    refine Go'.seq ?_
    -- region 10 (map.go:1026)
    refine Go'.region [(0, 0), (1, 0), (2, 0), (3, 1), (4, 0), (5, 0), (6, 0), (7, 2)] rfl ?_
    refine O.mv rfl rfl rfl rfl rfl ?_
    refine O.nc rfl rfl rfl rfl rfl ?_
    refine O.fa (off := 1) rfl rfl rfl rfl ⟨_, _, _, Go.Proofs.Try.underlying231, rfl, rfl, Go.Proofs.Try.sizeOf3⟩ rfl ?_
    refine O.ld rfl rfl rfl (fun w => ⟨Go.Proofs.Try.isAgg3 w, Go.Proofs.Try.sizeOf3 w⟩) rfl hTop.ci ?_
    refine O.add (((i + 1 : Nat) : Int)) rfl rfl rfl rfl rfl rfl (by omega) (by omega) ?_
    refine O.nc rfl rfl rfl rfl rfl ?_
    refine O.fa (off := 1) rfl rfl rfl rfl ⟨_, _, _, Go.Proofs.Try.underlying231, rfl, rfl, Go.Proofs.Try.sizeOf3⟩ rfl ?_
    refine O.st rfl rfl Go.Proofs.Try.sizeOf3 rfl rfl rfl rfl rfl hTop.wi ?_
    intro H1 W1
    obtain ⟨hI1, hTop1⟩ := hI.sti hTop W1
    clear hI hTop
    have hI := hI1
    have hTop := hTop1
    clear hI1 hTop1
    refine ⟨trivial, ?_⟩
    refine Pl.fin [(0, _), (2, _), (3, _)] ⟨rfl, rfl, rfl, trivial⟩ ?_
    refine Go'.seq ?_
    refine Go'.seq ?_
    have hR := hK _ hI.f
    obtain ⟨hg, hx, hl, hroot, haf⟩ := hR.rt
    have hgd := (Ctx.good hR.mn hg hx hC).1
    have hin : Inn _ P h1 g X ((Gt.ps h1 K).map some) K := hgd.inn
    have hKl : K.length = X.length + 1 := hgd.2.2.2.2.2.1
    have hol : ((Gt.ps h1 K).map some).length = X.length + 1 := by rw [List.length_map, Gt.ps, List.length_map]; exact hKl
    obtain ⟨k0, hk0⟩ : ∃ k, K[i + 1]? = some k := ⟨K[i + 1], List.getElem?_eq_getElem (by omega)⟩
    have hk0m : k0 ∈ K := List.mem_of_getElem? hk0
    have hok : ((Gt.ps h1 K).map some)[i + 1]? = some (some (Gt.p h1 k0)) := by rw [Gt.ps, List.map_map, List.getElem?_map, hk0]; rfl
    have hkL : (K.map (Gt.L h1))[i + 1]? = some (Gt.L h1 k0) := by rw [List.getElem?_map, hk0]; rfl
    have hkat := hin.k.at hok
    have hgk := (hin.c.1 k0 hk0m).1
    obtain ⟨kpk, hNk⟩ := hgk.node
    have hk00 := hNk.c0
    rw [hgk.isoe] at hk00
    -- region 11 (map.go:1027)
    refine Go'.region [(0, 0), (1, 0), (2, 0), (3, 1), (4, 2)] rfl ?_
    refine O.mv rfl rfl rfl rfl rfl ?_
    refine O.nc rfl rfl rfl rfl rfl ?_
    refine O.faz rfl rfl rfl rfl ⟨_, _, _, Go.Proofs.Try.underlying231, rfl, rfl, Go.Proofs.Try.sizeOf135⟩ rfl ?_
    refine O.ld rfl rfl rfl (fun w => ⟨Go.Proofs.Try.isAgg135 w, Go.Proofs.Try.sizeOf135 w⟩) rfl hTop.cp ?_
    refine O.callQ rfl rfl rfl Go.Proofs.Try.call152 rfl (leaf_spec hin.n.c3) trivial ?_
    refine Pl.fin [(0, _), (2, _), (3, _), (55, _)] ⟨rfl, rfl, rfl, rfl, trivial⟩ ?_
    refine Go'.condF rfl ?_
    refine Go'.seq ?_
    -- region 19 (map.go:1042)
    refine Go'.draw (fun _ => True) [(0, 0), (1, 0), (2, 0), (3, 1), (4, 0), (5, 0), (6, 0), (7, 1), (8, 0), (9, 0), (10, 1), (11, 0), (12, 1), (13, 0), (14, 0), (15, 0), (16, 1), (17, 0), (18, 0), (19, 0), (20, 0), (21, 1), (22, 2), (23, 0)] (by kernel_rfl) (by kernel_rfl) (trivial) ?_
    refine O.mv rfl rfl rfl rfl rfl ?_
    refine O.nc rfl rfl rfl rfl rfl ?_
    refine O.faz rfl rfl rfl rfl ⟨_, _, _, Go.Proofs.Try.underlying156, rfl, rfl, Go.Proofs.Try.sizeOf150⟩ rfl ?_
    refine O.ld rfl rfl rfl (fun w => ⟨Go.Proofs.Try.isAgg150 w, Go.Proofs.Try.sizeOf150 w⟩) rfl hI.c0 ?_
    refine O.mv rfl rfl rfl rfl rfl ?_
    refine O.nc rfl rfl rfl rfl rfl ?_
    refine O.faz rfl rfl rfl rfl ⟨_, _, _, Go.Proofs.Try.underlying231, rfl, rfl, Go.Proofs.Try.sizeOf135⟩ rfl ?_
    refine O.ld rfl rfl rfl (fun w => ⟨Go.Proofs.Try.isAgg135 w, Go.Proofs.Try.sizeOf135 w⟩) rfl hTop.cp ?_
    refine O.nc rfl rfl rfl rfl rfl ?_
    refine O.fa0 (off := 3) rfl rfl rfl rfl ⟨_, _, _, Go.Proofs.Try.underlying205, rfl, rfl, Go.Proofs.Try.sizeOf203⟩ rfl ?_
    refine O.ld rfl rfl rfl (fun w => ⟨Go.Proofs.Try.isAgg203 w, Go.Proofs.Try.sizeOf203 w⟩) rfl hin.n.c3 ?_
    refine O.nc rfl rfl rfl rfl rfl ?_
    refine O.ld rfl rfl rfl (fun w => ⟨Go.Proofs.Try.isAgg206 w, Go.Proofs.Try.sizeOf206 w⟩) rfl hin.k.c ?_
    refine O.mv rfl rfl rfl rfl rfl ?_
    refine O.nc rfl rfl rfl rfl rfl ?_
    refine O.fa (off := 1) rfl rfl rfl rfl ⟨_, _, _, Go.Proofs.Try.underlying231, rfl, rfl, Go.Proofs.Try.sizeOf3⟩ rfl ?_
    refine O.ld rfl rfl rfl (fun w => ⟨Go.Proofs.Try.isAgg3 w, Go.Proofs.Try.sizeOf3 w⟩) rfl hTop.ci ?_
    refine O.ix (j := i + 1) rfl rfl rfl rfl Go.Proofs.Try.underlying206 Go.Proofs.Try.sizeOf135 rfl rfl (by omega) (by omega) ?_
    refine O.mv rfl rfl rfl rfl rfl ?_
    refine O.nc rfl rfl rfl rfl rfl ?_
    refine O.fa0 (off := 1) rfl rfl rfl rfl ⟨_, _, _, Go.Proofs.Try.underlying156, rfl, rfl, Go.Proofs.Try.sizeOf4⟩ rfl ?_
    refine O.ld rfl rfl rfl (fun w => ⟨Go.Proofs.Try.isAgg4 w, Go.Proofs.Try.sizeOf4 w⟩) rfl hI.c1 ?_
    refine O.callQ rfl rfl rfl Go.Proofs.Try.call151 rfl (isoLoad_spec mt hkat hk00 hR.iso) trivial ?_
    refine O.asg rfl rfl rfl rfl rfl ?_
    refine Pl.fin [(0, _), (2, _), (3, _), (4, _)] ⟨rfl, rfl, rfl, rfl, trivial⟩ ?_
    refine Go'.block ?_
    unfold ptr
    have hC2 := hC.down hk0
    rw [← hq0] at hC2
    clear hTop hC hR hg hx hl hroot haf hgd hin hkat hgk hNk hk00
    have hC := hC2
    clear hC2
    refine Go'.loop ?_
    refine Go'.keep [(0, _), (4, _)] ⟨rfl, rfl, trivial⟩ ?_
    refine Go'.ind (σ := ((h : Nat) × Gt EI h) × List (Nat × Int) × (Nat → Prop)) (fun s => s.1.1) (fun s H' => Itr EI H H' it tr mt Z true sa se s.2.2 s.2.1 kv ∧ Ctx t0 s.2.1 s.1.1 s.1.2 q)
      (fun s => [(0, .pointer (some ⟨it, 0, none⟩)), (4, .pointer (some ⟨Gt.p s.1.1 s.1.2, 0, none⟩))]) (⟨_, _⟩, _, _) ⟨hI, hC⟩ rfl ?_
    clear hI hC
    rintro ⟨⟨h1, s1⟩, fs1, Z1⟩ H2 ⟨hI, hC⟩ ih
    simp only at hI hC ih
    have hsv0 := hI.st
    obtain ⟨sv, hsv, hA⟩ := hsv0
    have hR := hK _ hI.f
    obtain ⟨hg, hx, hl, hroot, haf⟩ := hR.rt
    obtain ⟨hgd, hx1, hfl, haf1⟩ := Ctx.good hR.mn hg hx hC
    have hhi := Gt.high hR.mn hg hx
    rw [hl] at hhi
    refine (show Go' _ _ _ _ _ [(0, .pointer (some ⟨it, 0, none⟩)), (4, .pointer (some ⟨Gt.p h1 s1, 0, none⟩))] _ _ from ?_)
    refine Go'.block ?_
    refine Go'.seq ?_
    -- region 20 (map.go:1044)
    refine Go'.region [(0, 0), (1, 0), (2, 0), (3, 0), (4, 1), (5, 0), (6, 0), (7, 2), (8, 2), (9, 0), (10, 0), (11, 2)] rfl ?_
    refine O.mv rfl rfl rfl rfl rfl ?_
    refine O.mv rfl rfl rfl rfl rfl ?_
    refine O.nc rfl rfl rfl rfl rfl ?_
    refine O.fa0 (off := 5) rfl rfl rfl rfl ⟨_, _, _, Go.Proofs.Try.underlying156, rfl, rfl, Go.Proofs.Try.sizeOf154⟩ rfl ?_
    refine O.ld rfl rfl rfl (fun w => ⟨Go.Proofs.Try.isAgg154 w, Go.Proofs.Try.sizeOf154 w⟩) rfl hsv ?_
    refine O.mv rfl rfl rfl rfl rfl ?_
    refine O.bld (cs := (EK.enc (Gt.p h1 s1, (0 : Int)))) rfl rfl rfl rfl (st231) rfl (by kernel_rfl) ?_
    refine O.bsl (cs := (EK.enc (Gt.p h1 s1, (0 : Int)))) rfl rfl rfl ⟨Go.Proofs.Try.underlying154, Go.Proofs.Try.sizeOf231, Go.Proofs.Try.zeroValue231, ⟨_, Go.Proofs.Try.typeInfo231, rfl⟩, rfl, by decide, by decide⟩ rfl (by decide) (by kernel_rfl) ?_
    intro H3 M3
    have hs3 := M3.size
    have hA3 := hA.fr (M3.fr nowhere) (fun _ _ _ _ => nw)
    have m3 : Rd H3 H2.size 0 (row EK [(Gt.p h1 s1, (0 : Int))]) := M3.rd _ [] (by simp [row, EK])
    refine ⟨trivial, ?_⟩
    refine O.appA (E := EK) (Y := [(Gt.p h1 s1, (0 : Int))]) rfl rfl rfl ⟨Go.Proofs.Try.underlying154, Go.Proofs.Try.sizeOf231, Go.Proofs.Try.zeroValue231, ⟨_, Go.Proofs.Try.typeInfo231, rfl⟩, rfl, by decide, by decide⟩ rfl hA3 rfl ⟨_, _, _, rfl, m3⟩ (Nat.succ_pos _) (Nat.le_trans (Nat.mul_le_mul_left _ (Nat.le_of_ble_eq_true (n := _) (m := 4096) rfl)) (by rw [List.length_reverse]; simp only [List.length_singleton]; omega)) (by rw [List.length_reverse]; simp only [List.length_singleton]; omega) ?_
    intro v4 H4 hA4 hF4 hs4
    obtain ⟨a4, m4, c4, rfl⟩ := hA4.form
    have hw4 : Wr H4 it 5 1 := hF4.wr ((M3.fr nowhere).wr (hI.w 5 (by decide)))
    refine ⟨trivial, ?_⟩
    refine O.nc rfl rfl rfl rfl rfl ?_
    refine O.fa0 (off := 5) rfl rfl rfl rfl ⟨_, _, _, Go.Proofs.Try.underlying156, rfl, rfl, Go.Proofs.Try.sizeOf154⟩ rfl ?_
    refine O.st rfl rfl Go.Proofs.Try.sizeOf154 rfl rfl rfl rfl rfl hw4 ?_
    intro H5 W5
    replace hI := hI.push (M3.fr nowhere) hF4 hA4 W5
    refine ⟨trivial, ?_⟩
    refine Pl.fin [(0, _), (4, _)] ⟨rfl, rfl, trivial⟩ ?_
    refine Go'.seq ?_
    refine Go'.seq ?_
    clear hR hg hx hl hroot haf hgd hx1 hfl haf1
    have hR := hK _ hI.f
    obtain ⟨hg, hx, hl, hroot, haf⟩ := hR.rt
    obtain ⟨hgd, hx1, hfl, haf1⟩ := Ctx.good hR.mn hg hx hC
    rcases h1 with _ | h1
    rotate_left
    · skip
      obtain ⟨g, X, K⟩ := s1
      have hin : Inn _ P h1 g X ((Gt.ps h1 K).map some) K := hgd.inn
      have hKl : K.length = X.length + 1 := hgd.2.2.2.2.2.1
      have hol : ((Gt.ps h1 K).map some).length = X.length + 1 := by rw [List.length_map, Gt.ps, List.length_map]; exact hKl
      have hKL : (K.map (Gt.L h1)).length = X.length + 1 := by rw [List.length_map]; exact hKl
      obtain ⟨k0, hk0⟩ : ∃ k, K[0]? = some k := ⟨K[0], List.getElem?_eq_getElem (by omega)⟩
      have hk0m : k0 ∈ K := List.mem_of_getElem? hk0
      have hok : ((Gt.ps h1 K).map some)[0]? = some (some (Gt.p h1 k0)) := by rw [Gt.ps, List.map_map, List.getElem?_map, hk0]; rfl
      have hkL : (K.map (Gt.L h1))[0]? = some (Gt.L h1 k0) := by rw [List.getElem?_map, hk0]; rfl
      have hkat := hin.k.at hok
      have hgk := (hin.c.1 k0 hk0m).1
      obtain ⟨kpk, hNk⟩ := hgk.node
      have hk00 := hNk.c0
      rw [hgk.isoe] at hk00
      -- region 21 (map.go:1045)
      refine Go'.region [(0, 0), (1, 2)] rfl ?_
      refine O.mv rfl rfl rfl rfl rfl ?_
      refine O.callQ rfl rfl rfl Go.Proofs.Try.call152 rfl (leaf_spec hin.n.c3) trivial ?_
      refine Pl.fin [(0, _), (4, _), (151, _)] ⟨rfl, rfl, rfl, trivial⟩ ?_
      refine Go'.condF rfl ?_
      refine Go'.skip ?_
      -- region 22 (map.go:1048)
      refine Go'.draw (fun _ => True) [(0, 0), (1, 0), (2, 0), (3, 1), (4, 0), (5, 0), (6, 0), (7, 1), (8, 0), (9, 1), (10, 0), (11, 0), (12, 0), (13, 0), (14, 1), (15, 2), (16, 0)] (by kernel_rfl) (by kernel_rfl) (trivial) ?_
      refine O.mv rfl rfl rfl rfl rfl ?_
      refine O.nc rfl rfl rfl rfl rfl ?_
      refine O.faz rfl rfl rfl rfl ⟨_, _, _, Go.Proofs.Try.underlying156, rfl, rfl, Go.Proofs.Try.sizeOf150⟩ rfl ?_
      refine O.ld rfl rfl rfl (fun w => ⟨Go.Proofs.Try.isAgg150 w, Go.Proofs.Try.sizeOf150 w⟩) rfl hI.c0 ?_
      refine O.mv rfl rfl rfl rfl rfl ?_
      refine O.nc rfl rfl rfl rfl rfl ?_
      refine O.fa0 (off := 3) rfl rfl rfl rfl ⟨_, _, _, Go.Proofs.Try.underlying205, rfl, rfl, Go.Proofs.Try.sizeOf203⟩ rfl ?_
      refine O.ld rfl rfl rfl (fun w => ⟨Go.Proofs.Try.isAgg203 w, Go.Proofs.Try.sizeOf203 w⟩) rfl hin.n.c3 ?_
      refine O.nc rfl rfl rfl rfl rfl ?_
      refine O.ld rfl rfl rfl (fun w => ⟨Go.Proofs.Try.isAgg206 w, Go.Proofs.Try.sizeOf206 w⟩) rfl hin.k.c ?_
      refine O.ix (j := 0) rfl rfl rfl rfl Go.Proofs.Try.underlying206 Go.Proofs.Try.sizeOf135 rfl rfl rfl (by omega) ?_
      refine O.mv rfl rfl rfl rfl rfl ?_
      refine O.nc rfl rfl rfl rfl rfl ?_
      refine O.fa0 (off := 1) rfl rfl rfl rfl ⟨_, _, _, Go.Proofs.Try.underlying156, rfl, rfl, Go.Proofs.Try.sizeOf4⟩ rfl ?_
      refine O.ld rfl rfl rfl (fun w => ⟨Go.Proofs.Try.isAgg4 w, Go.Proofs.Try.sizeOf4 w⟩) rfl hI.c1 ?_
      refine O.callQ rfl rfl rfl Go.Proofs.Try.call151 rfl (isoLoad_spec mt hkat hk00 hR.iso) trivial ?_
      refine O.asg rfl rfl rfl rfl rfl ?_
      refine Pl.fin [(0, _), (4, _), (151, _)] ⟨rfl, rfl, rfl, trivial⟩ ?_
      refine Go'.inBlock ?_
      unfold ptr
      refine Go'.keep [(0, _), (4, _)] ⟨rfl, rfl, trivial⟩ ?_
      refine Go'.inLoop ?_
      refine ih (⟨h1, k0⟩, _, _) _ ⟨hI, ?_⟩ (by simp only; omega)
      have := hC.down hk0
      rw [Pl.bl_0] at this
      exact this
    · skip
      obtain ⟨g, X⟩ := s1
      have hN : NodeM EI _ g X (.pointer none) := hgd.1
      have hX1 : 1 ≤ X.length := hx1
      replace hI : Itr EI H H5 it tr mt Z true sa se _ ((g.p, (0 : Int)) :: fs1) kv := hI
      -- region 21 (map.go:1045)
      refine Go'.region [(0, 0), (1, 2)] rfl ?_
      refine O.mv rfl rfl rfl rfl rfl ?_
      refine O.callQ rfl rfl rfl Go.Proofs.Try.call152 rfl (leaf_spec hN.c3) trivial ?_
      refine Pl.fin [(0, _), (4, _), (151, _)] ⟨rfl, rfl, rfl, trivial⟩ ?_
      refine Go'.condT rfl ?_
      refine Go'.exit rfl ?_
      refine Go'.seq ?_
      have hS : Stand t0 ((g.p, (0 : Int)) :: fs1) (q) := .inl ⟨fs1, g, X, q, 0, rfl, hC, hX1, rfl⟩
      have hR := hK _ hI.f
      obtain ⟨hg, hx, hl, hroot, haf⟩ := hR.rt
      obtain ⟨fs2, g2, X2, kp2, i2, y, e2, hN2, hi2, hy, hq, hfs2⟩ := hS.item hR.mn hg hx
      have hhi2 := Gt.high hR.mn hg hx
      rw [hl] at hhi2
      rw [e2] at hI hS
      obtain ⟨b, o, c, hTop⟩ := hI.top
      -- region 23 (map.go:1051)
      refine Go'.draw (fun _ => True) [(0, 0), (1, 0), (2, 0), (3, 1), (4, 0), (5, 0), (6, 0), (7, 1), (8, 0), (9, 0), (10, 0), (11, 0)] (by kernel_rfl) (by kernel_rfl) (trivial) ?_
      refine O.mv rfl rfl rfl rfl rfl ?_
      refine O.nc rfl rfl rfl rfl rfl ?_
      refine O.fa0 (off := 5) rfl rfl rfl rfl ⟨_, _, _, Go.Proofs.Try.underlying156, rfl, rfl, Go.Proofs.Try.sizeOf154⟩ rfl ?_
      refine O.ld rfl rfl rfl (fun w => ⟨Go.Proofs.Try.isAgg154 w, Go.Proofs.Try.sizeOf154 w⟩) rfl hTop.c5 ?_
      refine O.mv rfl rfl rfl rfl rfl ?_
      refine O.nc rfl rfl rfl rfl rfl ?_
      refine O.fa0 (off := 5) rfl rfl rfl rfl ⟨_, _, _, Go.Proofs.Try.underlying156, rfl, rfl, Go.Proofs.Try.sizeOf154⟩ rfl ?_
      refine O.ld rfl rfl rfl (fun w => ⟨Go.Proofs.Try.isAgg154 w, Go.Proofs.Try.sizeOf154 w⟩) rfl hTop.c5 ?_
      refine O.len rfl rfl rfl rfl Go.Proofs.Try.underlying154 rfl ?_
      refine O.sub (((fs2.length : Nat) : Int)) rfl rfl rfl rfl rfl rfl (by omega) (by omega) ?_
      refine O.ix (j := fs2.length) rfl rfl rfl rfl Go.Proofs.Try.underlying154 Go.Proofs.Try.sizeOf231 rfl rfl (by omega) (by omega) ?_
      refine O.asg rfl rfl rfl rfl rfl ?_
      refine Pl.fin [(0, _), (3, _)] ⟨rfl, rfl, trivial⟩ ?_
      refine Go'.seq ?_
      -- region 24 (map.go:1052)
      refine Go'.draw (fun _ => True) [(0, 0), (1, 0), (2, 0), (3, 0), (4, 1), (5, 0), (6, 0), (7, 1), (8, 0), (9, 0), (10, 0), (11, 1), (12, 0), (13, 1), (14, 0), (15, 0), (16, 3)] (by kernel_rfl) (by kernel_rfl) (trivial) ?_
      refine O.mv rfl rfl rfl rfl rfl ?_
      refine O.mv rfl rfl rfl rfl rfl ?_
      refine O.nc rfl rfl rfl rfl rfl ?_
      refine O.faz rfl rfl rfl rfl ⟨_, _, _, Go.Proofs.Try.underlying231, rfl, rfl, Go.Proofs.Try.sizeOf135⟩ rfl ?_
      refine O.ld rfl rfl rfl (fun w => ⟨Go.Proofs.Try.isAgg135 w, Go.Proofs.Try.sizeOf135 w⟩) rfl hTop.cp ?_
      refine O.nc rfl rfl rfl rfl rfl ?_
      refine O.fa0 (off := 2) rfl rfl rfl rfl ⟨_, _, _, Go.Proofs.Try.underlying205, rfl, rfl, Go.Proofs.Try.sizeOf202⟩ rfl ?_
      refine O.ld rfl rfl rfl (fun w => ⟨Go.Proofs.Try.isAgg202 w, Go.Proofs.Try.sizeOf202 w⟩) rfl hN2.c2 ?_
      refine O.mv rfl rfl rfl rfl rfl ?_
      refine O.nc rfl rfl rfl rfl rfl ?_
      refine O.fa (off := 1) rfl rfl rfl rfl ⟨_, _, _, Go.Proofs.Try.underlying231, rfl, rfl, Go.Proofs.Try.sizeOf3⟩ rfl ?_
      refine O.ld rfl rfl rfl (fun w => ⟨Go.Proofs.Try.isAgg3 w, Go.Proofs.Try.sizeOf3 w⟩) rfl hTop.ci ?_
      refine O.ix (j := i2) rfl rfl rfl rfl Go.Proofs.Try.underlying202 Go.Proofs.Try.sizeOf138 rfl rfl (by omega) hi2 ?_
      refine O.lds rfl rfl rfl (fun w => ⟨Go.Proofs.Try.isAgg138 w, Go.Proofs.Try.sizeOf138 w⟩) rfl rfl (hN2.sl.item hy) ?_
      refine O.nc rfl rfl rfl rfl rfl ?_
      refine O.fa0 (off := 6) rfl rfl rfl rfl ⟨_, _, _, Go.Proofs.Try.underlying156, rfl, rfl, Go.Proofs.Try.sizeOf138⟩ rfl ?_
      refine O.st3 (vs := (EI.enc y)) rfl rfl Go.Proofs.Try.sizeOf138 rfl rfl rfl rfl rfl hI.wk ?_
      intro H9 W9
      have hI9 := hI.set6 W9
      refine Pl.fin [] trivial ?_
      refine Go'.seq ?_
      -- region 25 (map.go:1053)
      refine Go'.region [(0, 0)] rfl ?_
      refine O.asg rfl rfl rfl rfl rfl ?_
      refine Pl.fin [(2, _)] ⟨rfl, trivial⟩ ?_
      rw [hl] at hq
      refine Go'.ret (vs := [_]) Go.Proofs.Try.func145 Go.Proofs.Try.results145 ⟨rfl, trivial⟩ ?_
      have hql : q < l.length := (List.getElem?_eq_some_iff.1 hq).1
      exact ⟨congrArg Value.bool (decide_eq_true hql).symm, _, _, _, _, _, _, hI9, by rw [if_pos hql]; exact ⟨rfl, hq, _, _, rfl, hS⟩⟩

theorem iPrev_gen {B : World} {H : Mem} {it tr : Nat} {mt sa se : Bool} {Z : Nat → Prop} {fr : List (Nat × Int)} {kv : Int} {P : Ps} {S : Nat → Prop} {l : List Int} {h0 : Nat} {t0 : Gt EI h0} (hI : Itr EI H H it tr mt Z true sa se Z fr kv) (hT : TreeR H tr P S l (some ⟨h0, t0⟩)) (hsi : ¬ S it) (hsz : ∀ b, S b → ¬ Z b) {q : Nat} (hG : Stand t0 fr q) :
    Fn Try.prog B 146 [.pointer (some ⟨it, 0, none⟩)] H (fun v H' => v = .bool (decide (0 < q)) ∧ ItPost EI H H' it tr mt Z (some ⟨h0, t0⟩) l (if 0 < q then some (q - 1) else none)) := by
  have hK : ∀ H', Fr (fun b _ => b = it ∨ Z b) H H' → TreeR H' tr P S l (some ⟨h0, t0⟩) := fun H' hf => hT.keep hf fun b o hs hz => hz.elim (fun e => hsi (e ▸ hs)) (hsz b hs)
  have hll := hT.ll
  rcases hG with ⟨fs, g, X, a, i, rfl, hC, hi, hq0⟩ | ⟨fs, h1, g, X, K, a, i, rfl, hC, hi, hq0⟩
  · skip
    obtain ⟨hfs, hXl⟩ : fs.length ≤ 4294967296 ∧ X.length ≤ 4294967296 := by
      have hR := hK _ hI.f
      obtain ⟨hg, hx, hl, hroot, haf⟩ := hR.rt
      have h2 := Gt.high hR.mn hg hx
      have h3 := (Ctx.good hR.mn hg hx hC).2.2.1
      have h4 : X.length ≤ _ := Ctx.xl hR.mn hg hx hC
      rw [hl] at h2 h4
      exact ⟨by omega, by omega⟩
    obtain ⟨b, o, c, hTop⟩ := hI.top
    refine fn_of Go.Proofs.Try.func146 rfl Go.Proofs.Try.ntmps146 ?_
    refine (show Go' _ _ _ _ 210 [(0, _)] [.code _] _ from ?_)
    refine Go'.seq ?_
    -- region 0 (map.go:1059)
    refine Go'.region [(0, 0)] rfl ?_
    refine O.asg rfl rfl rfl rfl rfl ?_
    refine Pl.fin [(0, _), (2, _)] ⟨rfl, rfl, trivial⟩ ?_
    refine Go'.seq ?_
    refine Go'.seq ?_
    -- region 1 (map.go:1060)
    refine Go'.region [(0, 0), (1, 0), (2, 0), (3, 1), (4, 0)] rfl ?_
    refine O.mv rfl rfl rfl rfl rfl ?_
    refine O.nc rfl rfl rfl rfl rfl ?_
    refine O.faz rfl rfl rfl rfl ⟨_, _, _, Go.Proofs.Try.underlying156, rfl, rfl, Go.Proofs.Try.sizeOf150⟩ rfl ?_
    refine O.ld rfl rfl rfl (fun w => ⟨Go.Proofs.Try.isAgg150 w, Go.Proofs.Try.sizeOf150 w⟩) rfl hI.c0 ?_
    refine O.isNil rfl rfl rfl rfl Go.Proofs.Try.underlying150 rfl rfl ?_
    refine Pl.fin [(0, _), (2, _), (9, _)] ⟨rfl, rfl, rfl, trivial⟩ ?_
    refine Go'.condF rfl ?_
    refine Go'.skip ?_
    refine Go'.seq ?_
    refine Go'.seq ?_
    -- region 3 (map.go:1063)
    refine Go'.region [(0, 0), (1, 0), (2, 0), (3, 1), (4, 0)] rfl ?_
    refine O.mv rfl rfl rfl rfl rfl ?_
    refine O.nc rfl rfl rfl rfl rfl ?_
    refine O.fa0 (off := 2) rfl rfl rfl rfl ⟨_, _, _, Go.Proofs.Try.underlying156, rfl, rfl, Go.Proofs.Try.sizeOf4⟩ rfl ?_
    refine O.ld rfl rfl rfl (fun w => ⟨Go.Proofs.Try.isAgg4 w, Go.Proofs.Try.sizeOf4 w⟩) rfl hI.c2 ?_
    refine O.not rfl rfl rfl rfl rfl ?_
    refine Pl.fin [(0, _), (2, _), (14, _)] ⟨rfl, rfl, rfl, trivial⟩ ?_
    refine Go'.condF rfl ?_
    refine Go'.skip ?_
    refine Go'.seq ?_
    refine Go'.seq ?_
    -- region 5 (map.go:1066)
    refine Go'.region [(0, 0), (1, 0), (2, 0), (3, 1), (4, 0), (5, 0)] rfl ?_
    refine O.mv rfl rfl rfl rfl rfl ?_
    refine O.nc rfl rfl rfl rfl rfl ?_
    refine O.fa0 (off := 5) rfl rfl rfl rfl ⟨_, _, _, Go.Proofs.Try.underlying156, rfl, rfl, Go.Proofs.Try.sizeOf154⟩ rfl ?_
    refine O.ld rfl rfl rfl (fun w => ⟨Go.Proofs.Try.isAgg154 w, Go.Proofs.Try.sizeOf154 w⟩) rfl hTop.c5 ?_
    refine O.len rfl rfl rfl rfl Go.Proofs.Try.underlying154 rfl ?_
    refine O.cmp rfl rfl rfl rfl rfl rfl (eqlF (by omega)) ?_
    refine Pl.fin [(0, _), (2, _), (20, _)] ⟨rfl, rfl, rfl, trivial⟩ ?_
    refine Go'.condF rfl ?_
    refine Go'.skip ?_
    refine Go'.seq ?_
    -- region 9 (map.go:1072)
    refine Go'.draw (fun _ => True) [(0, 0), (1, 0), (2, 0), (3, 1), (4, 0), (5, 0), (6, 0), (7, 1), (8, 0), (9, 0), (10, 0), (11, 0)] (by kernel_rfl) (by kernel_rfl) (trivial) ?_
    refine O.mv rfl rfl rfl rfl rfl ?_
    refine O.nc rfl rfl rfl rfl rfl ?_
    refine O.fa0 (off := 5) rfl rfl rfl rfl ⟨_, _, _, Go.Proofs.Try.underlying156, rfl, rfl, Go.Proofs.Try.sizeOf154⟩ rfl ?_
    refine O.ld rfl rfl rfl (fun w => ⟨Go.Proofs.Try.isAgg154 w, Go.Proofs.Try.sizeOf154 w⟩) rfl hTop.c5 ?_
    refine O.mv rfl rfl rfl rfl rfl ?_
    refine O.nc rfl rfl rfl rfl rfl ?_
    refine O.fa0 (off := 5) rfl rfl rfl rfl ⟨_, _, _, Go.Proofs.Try.underlying156, rfl, rfl, Go.Proofs.Try.sizeOf154⟩ rfl ?_
    refine O.ld rfl rfl rfl (fun w => ⟨Go.Proofs.Try.isAgg154 w, Go.Proofs.Try.sizeOf154 w⟩) rfl hTop.c5 ?_
    refine O.len rfl rfl rfl rfl Go.Proofs.Try.underlying154 rfl ?_
    refine O.sub (((fs.length : Nat) : Int)) rfl rfl rfl rfl rfl rfl (by omega) (by omega) ?_
    refine O.ix (j := fs.length) rfl rfl rfl rfl Go.Proofs.Try.underlying154 Go.Proofs.Try.sizeOf231 rfl rfl (by omega) (by omega) ?_
    refine O.asg rfl rfl rfl rfl rfl ?_
    refine Pl.fin [(0, _), (2, _), (3, _)] ⟨rfl, rfl, rfl, trivial⟩ ?_
    refine Go'.seq ?_
    refine Go'.seq ?_
    have hR := hK _ hI.f
    obtain ⟨hg, hx, hl, hroot, haf⟩ := hR.rt
    have hN : NodeM EI _ g X (.pointer none) := (Ctx.good hR.mn hg hx hC).1.1
    have hxm : X.length ≤ P.mx := (Ctx.good hR.mn hg hx hC).1.2.2.2
    -- region 10 (map.go:1073)
    refine Go'.region [(0, 0), (1, 0), (2, 0), (3, 1), (4, 2)] rfl ?_
    refine O.mv rfl rfl rfl rfl rfl ?_
    refine O.nc rfl rfl rfl rfl rfl ?_
    refine O.faz rfl rfl rfl rfl ⟨_, _, _, Go.Proofs.Try.underlying231, rfl, rfl, Go.Proofs.Try.sizeOf135⟩ rfl ?_
    refine O.ld rfl rfl rfl (fun w => ⟨Go.Proofs.Try.isAgg135 w, Go.Proofs.Try.sizeOf135 w⟩) rfl hTop.cp ?_
    refine O.callQ rfl rfl rfl Go.Proofs.Try.call152 rfl (leaf_spec hN.c3) trivial ?_
    refine Pl.fin [(0, _), (2, _), (3, _), (46, _)] ⟨rfl, rfl, rfl, rfl, trivial⟩ ?_
    refine Go'.condT rfl ?_
    refine Go'.seq ?_
    clear hR hg hx hl hroot haf hN
    -- region 11 (map.go:1074)
    refine Go'.region [(0, 0), (1, 0), (2, 0), (3, 1), (4, 0), (5, 0), (6, 0), (7, 2)] rfl ?_
    refine O.mv rfl rfl rfl rfl rfl ?_
    refine O.nc rfl rfl rfl rfl rfl ?_
    refine O.fa (off := 1) rfl rfl rfl rfl ⟨_, _, _, Go.Proofs.Try.underlying231, rfl, rfl, Go.Proofs.Try.sizeOf3⟩ rfl ?_
    refine O.ld rfl rfl rfl (fun w => ⟨Go.Proofs.Try.isAgg3 w, Go.Proofs.Try.sizeOf3 w⟩) rfl hTop.ci ?_
    refine O.sub ((i : Int) - 1) rfl rfl rfl rfl rfl rfl (by omega) (by omega) ?_
    refine O.nc rfl rfl rfl rfl rfl ?_
    refine O.fa (off := 1) rfl rfl rfl rfl ⟨_, _, _, Go.Proofs.Try.underlying231, rfl, rfl, Go.Proofs.Try.sizeOf3⟩ rfl ?_
    refine O.st rfl rfl Go.Proofs.Try.sizeOf3 rfl rfl rfl rfl rfl hTop.wi ?_
    intro H1 W1
    obtain ⟨hI1, hTop1⟩ := hI.sti hTop W1
    clear hI hTop
    have hI := hI1
    have hTop := hTop1
    clear hI1 hTop1
    refine ⟨trivial, ?_⟩
    refine Pl.fin [(0, _), (2, _), (3, _)] ⟨rfl, rfl, rfl, trivial⟩ ?_
    refine Go'.seq ?_
    by_cases hlt : 0 < i
    · skip
      -- region 12 (map.go:1075)
      refine Go'.region [(0, 0), (1, 0), (2, 0), (3, 1), (4, 0)] rfl ?_
      refine O.mv rfl rfl rfl rfl rfl ?_
      refine O.nc rfl rfl rfl rfl rfl ?_
      refine O.fa (off := 1) rfl rfl rfl rfl ⟨_, _, _, Go.Proofs.Try.underlying231, rfl, rfl, Go.Proofs.Try.sizeOf3⟩ rfl ?_
      refine O.ld rfl rfl rfl (fun w => ⟨Go.Proofs.Try.isAgg3 w, Go.Proofs.Try.sizeOf3 w⟩) rfl hTop.ci ?_
      refine O.cmp rfl rfl rfl rfl rfl rfl (eqlF (by omega)) ?_
      refine Pl.fin [(0, _), (2, _), (3, _), (58, _)] ⟨rfl, rfl, rfl, rfl, trivial⟩ ?_
      refine Go'.condF rfl ?_
      refine Go'.skip ?_
      refine Go'.seq ?_
      have hS : Stand t0 ((g.p, (i : Int) - 1) :: fs) (q - 1) := .inl ⟨fs, g, X, a, i - 1, by congr 2; omega, hC, by omega, by omega⟩
      have h0q : 0 < q := by omega
      have hR := hK _ hI.f
      obtain ⟨hg, hx, hl, hroot, haf⟩ := hR.rt
      obtain ⟨fs2, g2, X2, kp2, i2, y, e2, hN2, hi2, hy, hq, hfs2⟩ := hS.item hR.mn hg hx
      have hhi2 := Gt.high hR.mn hg hx
      rw [hl] at hhi2
      rw [e2] at hI hS
      obtain ⟨b, o, c, hTop⟩ := hI.top
      -- region 25 (map.go:1101)
      refine Go'.draw (fun _ => True) [(0, 0), (1, 0), (2, 0), (3, 1), (4, 0), (5, 0), (6, 0), (7, 1), (8, 0), (9, 0), (10, 0), (11, 0)] (by kernel_rfl) (by kernel_rfl) (trivial) ?_
      refine O.mv rfl rfl rfl rfl rfl ?_
      refine O.nc rfl rfl rfl rfl rfl ?_
      refine O.fa0 (off := 5) rfl rfl rfl rfl ⟨_, _, _, Go.Proofs.Try.underlying156, rfl, rfl, Go.Proofs.Try.sizeOf154⟩ rfl ?_
      refine O.ld rfl rfl rfl (fun w => ⟨Go.Proofs.Try.isAgg154 w, Go.Proofs.Try.sizeOf154 w⟩) rfl hTop.c5 ?_
      refine O.mv rfl rfl rfl rfl rfl ?_
      refine O.nc rfl rfl rfl rfl rfl ?_
      refine O.fa0 (off := 5) rfl rfl rfl rfl ⟨_, _, _, Go.Proofs.Try.underlying156, rfl, rfl, Go.Proofs.Try.sizeOf154⟩ rfl ?_
      refine O.ld rfl rfl rfl (fun w => ⟨Go.Proofs.Try.isAgg154 w, Go.Proofs.Try.sizeOf154 w⟩) rfl hTop.c5 ?_
      refine O.len rfl rfl rfl rfl Go.Proofs.Try.underlying154 rfl ?_
      refine O.sub (((fs2.length : Nat) : Int)) rfl rfl rfl rfl rfl rfl (by omega) (by omega) ?_
      refine O.ix (j := fs2.length) rfl rfl rfl rfl Go.Proofs.Try.underlying154 Go.Proofs.Try.sizeOf231 rfl rfl (by omega) (by omega) ?_
      refine O.asg rfl rfl rfl rfl rfl ?_
      refine Pl.fin [(0, _), (2, _), (3, _)] ⟨rfl, rfl, rfl, trivial⟩ ?_
      refine Go'.seq ?_
      -- region 26 (map.go:1102)
      refine Go'.draw (fun _ => True) [(0, 0), (1, 0), (2, 0), (3, 0), (4, 1), (5, 0), (6, 0), (7, 1), (8, 0), (9, 0), (10, 0), (11, 1), (12, 0), (13, 1), (14, 0), (15, 0), (16, 3)] (by kernel_rfl) (by kernel_rfl) (trivial) ?_
      refine O.mv rfl rfl rfl rfl rfl ?_
      refine O.mv rfl rfl rfl rfl rfl ?_
      refine O.nc rfl rfl rfl rfl rfl ?_
      refine O.faz rfl rfl rfl rfl ⟨_, _, _, Go.Proofs.Try.underlying231, rfl, rfl, Go.Proofs.Try.sizeOf135⟩ rfl ?_
      refine O.ld rfl rfl rfl (fun w => ⟨Go.Proofs.Try.isAgg135 w, Go.Proofs.Try.sizeOf135 w⟩) rfl hTop.cp ?_
      refine O.nc rfl rfl rfl rfl rfl ?_
      refine O.fa0 (off := 2) rfl rfl rfl rfl ⟨_, _, _, Go.Proofs.Try.underlying205, rfl, rfl, Go.Proofs.Try.sizeOf202⟩ rfl ?_
      refine O.ld rfl rfl rfl (fun w => ⟨Go.Proofs.Try.isAgg202 w, Go.Proofs.Try.sizeOf202 w⟩) rfl hN2.c2 ?_
      refine O.mv rfl rfl rfl rfl rfl ?_
      refine O.nc rfl rfl rfl rfl rfl ?_
      refine O.fa (off := 1) rfl rfl rfl rfl ⟨_, _, _, Go.Proofs.Try.underlying231, rfl, rfl, Go.Proofs.Try.sizeOf3⟩ rfl ?_
      refine O.ld rfl rfl rfl (fun w => ⟨Go.Proofs.Try.isAgg3 w, Go.Proofs.Try.sizeOf3 w⟩) rfl hTop.ci ?_
      refine O.ix (j := i2) rfl rfl rfl rfl Go.Proofs.Try.underlying202 Go.Proofs.Try.sizeOf138 rfl rfl (by omega) hi2 ?_
      refine O.lds rfl rfl rfl (fun w => ⟨Go.Proofs.Try.isAgg138 w, Go.Proofs.Try.sizeOf138 w⟩) rfl rfl (hN2.sl.item hy) ?_
      refine O.nc rfl rfl rfl rfl rfl ?_
      refine O.fa0 (off := 6) rfl rfl rfl rfl ⟨_, _, _, Go.Proofs.Try.underlying156, rfl, rfl, Go.Proofs.Try.sizeOf138⟩ rfl ?_
      refine O.st3 (vs := (EI.enc y)) rfl rfl Go.Proofs.Try.sizeOf138 rfl rfl rfl rfl rfl hI.wk ?_
      intro H9 W9
      have hI9 := hI.set6 W9
      refine Pl.fin [(2, _)] ⟨rfl, trivial⟩ ?_
      refine Go'.seq ?_
      -- region 27 (map.go:1103)
      refine Go'.region [(0, 0)] rfl ?_
      refine O.asg rfl rfl rfl rfl rfl ?_
      refine Pl.fin [(2, _)] ⟨rfl, trivial⟩ ?_
      rw [hl] at hq
      refine Go'.ret (vs := [_]) Go.Proofs.Try.func146 Go.Proofs.Try.results146 ⟨rfl, trivial⟩ ?_
      exact ⟨congrArg Value.bool (decide_eq_true h0q).symm, _, _, _, _, _, _, hI9, by rw [if_pos h0q]; exact ⟨rfl, hq, _, _, rfl, hS⟩⟩
    · skip
      obtain rfl : i = 0 := by omega
      -- region 12 (map.go:1075)
      refine Go'.region [(0, 0), (1, 0), (2, 0), (3, 1), (4, 0)] rfl ?_
      refine O.mv rfl rfl rfl rfl rfl ?_
      refine O.nc rfl rfl rfl rfl rfl ?_
      refine O.fa (off := 1) rfl rfl rfl rfl ⟨_, _, _, Go.Proofs.Try.underlying231, rfl, rfl, Go.Proofs.Try.sizeOf3⟩ rfl ?_
      refine O.ld rfl rfl rfl (fun w => ⟨Go.Proofs.Try.isAgg3 w, Go.Proofs.Try.sizeOf3 w⟩) rfl hTop.ci ?_
      refine O.cmp rfl rfl rfl rfl rfl rfl (eqlT rfl) ?_
      refine Pl.fin [(0, _), (2, _), (3, _), (58, _)] ⟨rfl, rfl, rfl, rfl, trivial⟩ ?_
      refine Go'.condT rfl ?_
      refine Go'.block ?_
      refine Go'.loop ?_
      refine Go'.keep [(0, _)] ⟨rfl, trivial⟩ ?_
      refine Go'.ind (σ := ((h : Nat) × Gt EI h) × (Nat × Int) × List (Nat × Int)) (fun s => s.2.2.length) (fun s H' => Itr EI H H' it tr mt Z true sa se Z (s.2.1 :: s.2.2) kv ∧ s.2.2.length ≤ 4294967296 ∧ Ctx t0 s.2.2 s.1.1 s.1.2 q)
        (fun s => [(0, .pointer (some ⟨it, 0, none⟩))]) (⟨0, ((g, X) : Gt EI 0)⟩, _, fs) ⟨hI, hfs, by rw [hq0]; exact hC⟩ rfl ?_
      clear hI hTop hC hfs hxm
      rintro ⟨⟨h1, s1⟩, ⟨p1, z1⟩, fs1⟩ H2 ⟨hI, hfs, hC⟩ ih
      replace hI : Itr EI H H2 it tr mt Z true sa se Z ((p1, z1) :: fs1) kv := hI
      simp only at hfs hC ih
      obtain ⟨b, o, c, hTop⟩ := hI.top
      have hle := hTop.le
      refine Go'.block ?_
      refine Go'.seq ?_
      -- region 13 (map.go:1077)
      refine Go'.draw (fun _ => True) [(0, 0), (1, 0), (2, 0), (3, 0), (4, 1), (5, 0), (6, 0), (7, 0), (8, 1), (9, 0), (10, 0), (11, 0), (12, 0), (13, 0), (14, 3)] (by kernel_rfl) (by kernel_rfl) (trivial) ?_
      refine O.mv rfl rfl rfl rfl rfl ?_
      refine O.mv rfl rfl rfl rfl rfl ?_
      refine O.nc rfl rfl rfl rfl rfl ?_
      refine O.fa0 (off := 5) rfl rfl rfl rfl ⟨_, _, _, Go.Proofs.Try.underlying156, rfl, rfl, Go.Proofs.Try.sizeOf154⟩ rfl ?_
      refine O.ld rfl rfl rfl (fun w => ⟨Go.Proofs.Try.isAgg154 w, Go.Proofs.Try.sizeOf154 w⟩) rfl hTop.c5 ?_
      refine O.mv rfl rfl rfl rfl rfl ?_
      refine O.nc rfl rfl rfl rfl rfl ?_
      refine O.fa0 (off := 5) rfl rfl rfl rfl ⟨_, _, _, Go.Proofs.Try.underlying156, rfl, rfl, Go.Proofs.Try.sizeOf154⟩ rfl ?_
      refine O.ld rfl rfl rfl (fun w => ⟨Go.Proofs.Try.isAgg154 w, Go.Proofs.Try.sizeOf154 w⟩) rfl hTop.c5 ?_
      refine O.len rfl rfl rfl rfl Go.Proofs.Try.underlying154 rfl ?_
      refine O.sub (((fs1.length : Nat) : Int)) rfl rfl rfl rfl rfl rfl (by omega) (by omega) ?_
      refine O.slc (jl := 0) (jh := fs1.length) (jm := c) rfl rfl rfl rfl Go.Proofs.Try.underlying154 Go.Proofs.Try.sizeOf231 rfl rfl ⟨_, by rfl⟩ rfl (by omega) (by omega) (by omega) (by simp) ?_
      intro o2 ho2
      obtain rfl : o2 = o := by have := ho2 (by omega); omega
      refine O.nc rfl rfl rfl rfl rfl ?_
      refine O.fa0 (off := 5) rfl rfl rfl rfl ⟨_, _, _, Go.Proofs.Try.underlying156, rfl, rfl, Go.Proofs.Try.sizeOf154⟩ rfl ?_
      refine O.st3 rfl rfl Go.Proofs.Try.sizeOf154 rfl rfl rfl rfl rfl (hI.w 5 (by decide)) ?_
      intro H3 W3
      have hI3 := hI.pop hTop W3
      have h5 : cl H3 it 5 = some (.slice (some ⟨b, o2, none⟩) fs1.length c) := W3.at
      refine Pl.fin [(0, _)] ⟨rfl, trivial⟩ ?_
      refine Go'.seq ?_
      refine Go'.seq ?_
      rcases fs1 with _ | ⟨⟨p2, z2⟩, fs2⟩
      · skip
        -- region 14 (map.go:1078)
        refine Go'.region [(0, 0), (1, 0), (2, 0), (3, 1), (4, 0), (5, 0)] rfl ?_
        refine O.mv rfl rfl rfl rfl rfl ?_
        refine O.nc rfl rfl rfl rfl rfl ?_
        refine O.fa0 (off := 5) rfl rfl rfl rfl ⟨_, _, _, Go.Proofs.Try.underlying156, rfl, rfl, Go.Proofs.Try.sizeOf154⟩ rfl ?_
        refine O.ld rfl rfl rfl (fun w => ⟨Go.Proofs.Try.isAgg154 w, Go.Proofs.Try.sizeOf154 w⟩) rfl h5 ?_
        refine O.len rfl rfl rfl rfl Go.Proofs.Try.underlying154 rfl ?_
        refine O.cmp rfl rfl rfl rfl rfl rfl (eqlT rfl) ?_
        refine Pl.fin [(0, _), (78, _)] ⟨rfl, rfl, trivial⟩ ?_
        refine Go'.condT rfl ?_
        refine Go'.seq ?_
        -- region 15 (map.go:1079)
        refine Go'.region [(0, 0), (1, 0), (2, 0), (3, 2)] rfl ?_
        refine O.mv rfl rfl rfl rfl rfl ?_
        refine O.nc rfl rfl rfl rfl rfl ?_
        refine O.fa0 (off := 3) rfl rfl rfl rfl ⟨_, _, _, Go.Proofs.Try.underlying156, rfl, rfl, Go.Proofs.Try.sizeOf4⟩ rfl ?_
        refine O.st rfl rfl Go.Proofs.Try.sizeOf4 rfl rfl rfl rfl rfl (hI3.w 3 (by decide)) ?_
        intro H4 W4
        have hI4 := hI3.set3 W4
        refine ⟨trivial, ?_⟩
        refine Pl.fin [(0, _), (78, _)] ⟨rfl, rfl, trivial⟩ ?_
        refine Go'.seq ?_
        -- region 16 (map.go:1080)
        refine Go'.region [(0, 0)] rfl ?_
        refine O.asg rfl rfl rfl rfl rfl ?_
        refine Pl.fin [(0, _), (2, _), (78, _)] ⟨rfl, rfl, rfl, trivial⟩ ?_
        refine Go'.ret (vs := [_]) Go.Proofs.Try.func146 Go.Proofs.Try.results146 ⟨rfl, trivial⟩ ?_
        obtain ⟨e, rfl⟩ := hC
        have hn : ¬ 0 < 0 := by omega
        exact ⟨congrArg Value.bool (decide_eq_false hn).symm, _, _, _, _, _, _, hI4, by rw [if_neg hn]; rfl⟩
      · skip
        obtain ⟨g, X, K, i, a', e, hi1, hC', hqa⟩ := hC
        simp only [Prod.mk.injEq] at e
        obtain ⟨rfl, rfl⟩ := e
        rw [List.length_cons] at hfs h5
        have hR := hK _ hI3.f
        obtain ⟨hg, hx, hl, hroot, haf⟩ := hR.rt
        have hgd := (Ctx.good hR.mn hg hx hC').1
        have hN := hgd.1
        have hKL : K.length = X.length + 1 := hgd.2.2.2.2.2.1
        have hile : i < K.length := (List.getElem?_eq_some_iff.1 hi1).1
        have hxm : X.length ≤ P.mx := hgd.2.2.2.2.1
        have hhi2 := Gt.high hR.mn hg hx
        rw [hl] at hhi2
        have hblX := (Ctx.list hR.mn hg hx hC').2
        obtain ⟨b3, o3, c3, hTop3⟩ := hI3.top
        have hib : X.length ≤ 4294967296 := by
          have h4 : X.length ≤ _ := Ctx.xl hR.mn hg hx hC'
          rw [hl] at h4
          omega
        -- region 14 (map.go:1078)
        refine Go'.region [(0, 0), (1, 0), (2, 0), (3, 1), (4, 0), (5, 0)] rfl ?_
        refine O.mv rfl rfl rfl rfl rfl ?_
        refine O.nc rfl rfl rfl rfl rfl ?_
        refine O.fa0 (off := 5) rfl rfl rfl rfl ⟨_, _, _, Go.Proofs.Try.underlying156, rfl, rfl, Go.Proofs.Try.sizeOf154⟩ rfl ?_
        refine O.ld rfl rfl rfl (fun w => ⟨Go.Proofs.Try.isAgg154 w, Go.Proofs.Try.sizeOf154 w⟩) rfl h5 ?_
        refine O.len rfl rfl rfl rfl Go.Proofs.Try.underlying154 rfl ?_
        refine O.cmp rfl rfl rfl rfl rfl rfl (eqlF (by omega)) ?_
        refine Pl.fin [(0, _), (78, _)] ⟨rfl, rfl, trivial⟩ ?_
        refine Go'.condF rfl ?_
        refine Go'.skip ?_
        refine Go'.seq ?_
        -- region 17 (map.go:1082)
        refine Go'.draw (fun _ => True) [(0, 0), (1, 0), (2, 0), (3, 1), (4, 0), (5, 0), (6, 0), (7, 1), (8, 0), (9, 0), (10, 0), (11, 0)] (by kernel_rfl) (by kernel_rfl) (trivial) ?_
        refine O.mv rfl rfl rfl rfl rfl ?_
        refine O.nc rfl rfl rfl rfl rfl ?_
        refine O.fa0 (off := 5) rfl rfl rfl rfl ⟨_, _, _, Go.Proofs.Try.underlying156, rfl, rfl, Go.Proofs.Try.sizeOf154⟩ rfl ?_
        refine O.ld rfl rfl rfl (fun w => ⟨Go.Proofs.Try.isAgg154 w, Go.Proofs.Try.sizeOf154 w⟩) rfl hTop3.c5 ?_
        refine O.mv rfl rfl rfl rfl rfl ?_
        refine O.nc rfl rfl rfl rfl rfl ?_
        refine O.fa0 (off := 5) rfl rfl rfl rfl ⟨_, _, _, Go.Proofs.Try.underlying156, rfl, rfl, Go.Proofs.Try.sizeOf154⟩ rfl ?_
        refine O.ld rfl rfl rfl (fun w => ⟨Go.Proofs.Try.isAgg154 w, Go.Proofs.Try.sizeOf154 w⟩) rfl hTop3.c5 ?_
        refine O.len rfl rfl rfl rfl Go.Proofs.Try.underlying154 rfl ?_
        refine O.sub (((fs2.length : Nat) : Int)) rfl rfl rfl rfl rfl rfl (by omega) (by omega) ?_
        refine O.ix (j := fs2.length) rfl rfl rfl rfl Go.Proofs.Try.underlying154 Go.Proofs.Try.sizeOf231 rfl rfl (by omega) (by omega) ?_
        refine O.asg rfl rfl rfl rfl rfl ?_
        refine Pl.fin [(0, _), (3, _), (78, _)] ⟨rfl, rfl, rfl, trivial⟩ ?_
        refine Go'.seq ?_
        -- region 18 (map.go:1083)
        refine Go'.region [(0, 0), (1, 0), (2, 0), (3, 1), (4, 0), (5, 0), (6, 0), (7, 2)] rfl ?_
        refine O.mv rfl rfl rfl rfl rfl ?_
        refine O.nc rfl rfl rfl rfl rfl ?_
        refine O.fa (off := 1) rfl rfl rfl rfl ⟨_, _, _, Go.Proofs.Try.underlying231, rfl, rfl, Go.Proofs.Try.sizeOf3⟩ rfl ?_
        refine O.ld rfl rfl rfl (fun w => ⟨Go.Proofs.Try.isAgg3 w, Go.Proofs.Try.sizeOf3 w⟩) rfl hTop3.ci ?_
        refine O.sub ((i : Int) - 1) rfl rfl rfl rfl rfl rfl (by omega) (by omega) ?_
        refine O.nc rfl rfl rfl rfl rfl ?_
        refine O.fa (off := 1) rfl rfl rfl rfl ⟨_, _, _, Go.Proofs.Try.underlying231, rfl, rfl, Go.Proofs.Try.sizeOf3⟩ rfl ?_
        refine O.st rfl rfl Go.Proofs.Try.sizeOf3 rfl rfl rfl rfl rfl hTop3.wi ?_
        intro H4 W4
        obtain ⟨hI4, hTop4⟩ := hI3.sti hTop3 W4
        clear hI hTop
        have hI := hI4
        refine ⟨trivial, ?_⟩
        refine Pl.fin [(0, _), (3, _), (78, _)] ⟨rfl, rfl, rfl, trivial⟩ ?_
        refine Go'.seq ?_
        by_cases hlt : 0 < i
        · skip
          -- region 19 (map.go:1084)
          refine Go'.region [(0, 0), (1, 0), (2, 0), (3, 1), (4, 0)] rfl ?_
          refine O.mv rfl rfl rfl rfl rfl ?_
          refine O.nc rfl rfl rfl rfl rfl ?_
          refine O.fa (off := 1) rfl rfl rfl rfl ⟨_, _, _, Go.Proofs.Try.underlying231, rfl, rfl, Go.Proofs.Try.sizeOf3⟩ rfl ?_
          refine O.ld rfl rfl rfl (fun w => ⟨Go.Proofs.Try.isAgg3 w, Go.Proofs.Try.sizeOf3 w⟩) rfl hTop4.ci ?_
          refine O.cmp rfl rfl rfl rfl rfl rfl (gtrT (by omega)) ?_
          refine Pl.fin [(0, _), (3, _), (78, _), (104, _)] ⟨rfl, rfl, rfl, rfl, trivial⟩ ?_
          refine Go'.condT rfl ?_
          refine Go'.exit rfl ?_
          refine Go'.seq ?_
          obtain ⟨kp, hkp⟩ : ∃ k, K[i - 1]? = some k := ⟨K[i - 1], List.getElem?_eq_getElem (by omega)⟩
          have hbs := Pl.bl_succ (K := K.map (Gt.L h1)) (i := i - 1) (k := Gt.L h1 kp) (by rw [List.getElem?_map, hkp]; rfl)
          rw [show i - 1 + 1 = i by omega] at hbs
          have h0q : 0 < q := by omega
          have hS : Stand t0 ((g.p, (i : Int) - 1) :: fs2) (q - 1) := .inr ⟨fs2, h1, g, X, K, a', i - 1, by congr 2; omega, hC', by omega, by rw [show i - 1 + 1 = i by omega]; omega⟩
          clear hR hg hx hl hroot haf hgd hN hhi2 hblX
          have hR := hK _ hI.f
          obtain ⟨hg, hx, hl, hroot, haf⟩ := hR.rt
          obtain ⟨fs2, g2, X2, kp2, i2, y, e2, hN2, hi2, hy, hq, hfs2⟩ := hS.item hR.mn hg hx
          have hhi2 := Gt.high hR.mn hg hx
          rw [hl] at hhi2
          rw [e2] at hI hS
          obtain ⟨b, o, c, hTop⟩ := hI.top
          -- region 25 (map.go:1101)
          refine Go'.draw (fun _ => True) [(0, 0), (1, 0), (2, 0), (3, 1), (4, 0), (5, 0), (6, 0), (7, 1), (8, 0), (9, 0), (10, 0), (11, 0)] (by kernel_rfl) (by kernel_rfl) (trivial) ?_
          refine O.mv rfl rfl rfl rfl rfl ?_
          refine O.nc rfl rfl rfl rfl rfl ?_
          refine O.fa0 (off := 5) rfl rfl rfl rfl ⟨_, _, _, Go.Proofs.Try.underlying156, rfl, rfl, Go.Proofs.Try.sizeOf154⟩ rfl ?_
          refine O.ld rfl rfl rfl (fun w => ⟨Go.Proofs.Try.isAgg154 w, Go.Proofs.Try.sizeOf154 w⟩) rfl hTop.c5 ?_
          refine O.mv rfl rfl rfl rfl rfl ?_
          refine O.nc rfl rfl rfl rfl rfl ?_
          refine O.fa0 (off := 5) rfl rfl rfl rfl ⟨_, _, _, Go.Proofs.Try.underlying156, rfl, rfl, Go.Proofs.Try.sizeOf154⟩ rfl ?_
          refine O.ld rfl rfl rfl (fun w => ⟨Go.Proofs.Try.isAgg154 w, Go.Proofs.Try.sizeOf154 w⟩) rfl hTop.c5 ?_
          refine O.len rfl rfl rfl rfl Go.Proofs.Try.underlying154 rfl ?_
          refine O.sub (((fs2.length : Nat) : Int)) rfl rfl rfl rfl rfl rfl (by omega) (by omega) ?_
          refine O.ix (j := fs2.length) rfl rfl rfl rfl Go.Proofs.Try.underlying154 Go.Proofs.Try.sizeOf231 rfl rfl (by omega) (by omega) ?_
          refine O.asg rfl rfl rfl rfl rfl ?_
          refine Pl.fin [(0, _), (3, _)] ⟨rfl, rfl, trivial⟩ ?_
          refine Go'.seq ?_
          -- region 26 (map.go:1102)
          refine Go'.draw (fun _ => True) [(0, 0), (1, 0), (2, 0), (3, 0), (4, 1), (5, 0), (6, 0), (7, 1), (8, 0), (9, 0), (10, 0), (11, 1), (12, 0), (13, 1), (14, 0), (15, 0), (16, 3)] (by kernel_rfl) (by kernel_rfl) (trivial) ?_
          refine O.mv rfl rfl rfl rfl rfl ?_
          refine O.mv rfl rfl rfl rfl rfl ?_
          refine O.nc rfl rfl rfl rfl rfl ?_
          refine O.faz rfl rfl rfl rfl ⟨_, _, _, Go.Proofs.Try.underlying231, rfl, rfl, Go.Proofs.Try.sizeOf135⟩ rfl ?_
          refine O.ld rfl rfl rfl (fun w => ⟨Go.Proofs.Try.isAgg135 w, Go.Proofs.Try.sizeOf135 w⟩) rfl hTop.cp ?_
          refine O.nc rfl rfl rfl rfl rfl ?_
          refine O.fa0 (off := 2) rfl rfl rfl rfl ⟨_, _, _, Go.Proofs.Try.underlying205, rfl, rfl, Go.Proofs.Try.sizeOf202⟩ rfl ?_
          refine O.ld rfl rfl rfl (fun w => ⟨Go.Proofs.Try.isAgg202 w, Go.Proofs.Try.sizeOf202 w⟩) rfl hN2.c2 ?_
          refine O.mv rfl rfl rfl rfl rfl ?_
          refine O.nc rfl rfl rfl rfl rfl ?_
          refine O.fa (off := 1) rfl rfl rfl rfl ⟨_, _, _, Go.Proofs.Try.underlying231, rfl, rfl, Go.Proofs.Try.sizeOf3⟩ rfl ?_
          refine O.ld rfl rfl rfl (fun w => ⟨Go.Proofs.Try.isAgg3 w, Go.Proofs.Try.sizeOf3 w⟩) rfl hTop.ci ?_
          refine O.ix (j := i2) rfl rfl rfl rfl Go.Proofs.Try.underlying202 Go.Proofs.Try.sizeOf138 rfl rfl (by omega) hi2 ?_
          refine O.lds rfl rfl rfl (fun w => ⟨Go.Proofs.Try.isAgg138 w, Go.Proofs.Try.sizeOf138 w⟩) rfl rfl (hN2.sl.item hy) ?_
          refine O.nc rfl rfl rfl rfl rfl ?_
          refine O.fa0 (off := 6) rfl rfl rfl rfl ⟨_, _, _, Go.Proofs.Try.underlying156, rfl, rfl, Go.Proofs.Try.sizeOf138⟩ rfl ?_
          refine O.st3 (vs := (EI.enc y)) rfl rfl Go.Proofs.Try.sizeOf138 rfl rfl rfl rfl rfl hI.wk ?_
          intro H9 W9
          have hI9 := hI.set6 W9
          refine Pl.fin [] trivial ?_
          refine Go'.seq ?_
          -- region 27 (map.go:1103)
          refine Go'.region [(0, 0)] rfl ?_
          refine O.asg rfl rfl rfl rfl rfl ?_
          refine Pl.fin [(2, _)] ⟨rfl, trivial⟩ ?_
          rw [hl] at hq
          refine Go'.ret (vs := [_]) Go.Proofs.Try.func146 Go.Proofs.Try.results146 ⟨rfl, trivial⟩ ?_
          exact ⟨congrArg Value.bool (decide_eq_true h0q).symm, _, _, _, _, _, _, hI9, by rw [if_pos h0q]; exact ⟨rfl, hq, _, _, rfl, hS⟩⟩
        · skip
          -- region 19 (map.go:1084)
          refine Go'.region [(0, 0), (1, 0), (2, 0), (3, 1), (4, 0)] rfl ?_
          refine O.mv rfl rfl rfl rfl rfl ?_
          refine O.nc rfl rfl rfl rfl rfl ?_
          refine O.fa (off := 1) rfl rfl rfl rfl ⟨_, _, _, Go.Proofs.Try.underlying231, rfl, rfl, Go.Proofs.Try.sizeOf3⟩ rfl ?_
          refine O.ld rfl rfl rfl (fun w => ⟨Go.Proofs.Try.isAgg3 w, Go.Proofs.Try.sizeOf3 w⟩) rfl hTop4.ci ?_
          refine O.cmp rfl rfl rfl rfl rfl rfl (gtrF (by omega)) ?_
          refine Pl.fin [(0, _), (3, _), (78, _), (104, _)] ⟨rfl, rfl, rfl, rfl, trivial⟩ ?_
          refine Go'.condF rfl ?_
          refine Go'.skip ?_
          refine Go'.inBlock ?_
          refine Go'.keep [(0, _)] ⟨rfl, trivial⟩ ?_
          refine Go'.inLoop ?_
          refine ih (⟨h1 + 1, ((g, X, K) : Gt EI (h1 + 1))⟩, _, fs2) _ ⟨hI, by simp only; omega, ?_⟩ (by simp only [List.length_cons]; omega)
          obtain rfl : i = 0 := by omega
          rw [Pl.bl_0] at hqa
          rw [hqa]
          exact hC'
  · skip
    obtain ⟨hfs, hXl⟩ : fs.length ≤ 4294967296 ∧ X.length ≤ 4294967296 := by
      have hR := hK _ hI.f
      obtain ⟨hg, hx, hl, hroot, haf⟩ := hR.rt
      have h2 := Gt.high hR.mn hg hx
      have h3 := (Ctx.good hR.mn hg hx hC).2.2.1
      have h4 : X.length ≤ _ := Ctx.xl hR.mn hg hx hC
      rw [hl] at h2 h4
      exact ⟨by omega, by omega⟩
    obtain ⟨b, o, c, hTop⟩ := hI.top
    refine fn_of Go.Proofs.Try.func146 rfl Go.Proofs.Try.ntmps146 ?_
    refine (show Go' _ _ _ _ 210 [(0, _)] [.code _] _ from ?_)
    refine Go'.seq ?_
    -- region 0 (map.go:1059)
    refine Go'.region [(0, 0)] rfl ?_
    refine O.asg rfl rfl rfl rfl rfl ?_
    refine Pl.fin [(0, _), (2, _)] ⟨rfl, rfl, trivial⟩ ?_
    refine Go'.seq ?_
    refine Go'.seq ?_
    -- region 1 (map.go:1060)
    refine Go'.region [(0, 0), (1, 0), (2, 0), (3, 1), (4, 0)] rfl ?_
    refine O.mv rfl rfl rfl rfl rfl ?_
    refine O.nc rfl rfl rfl rfl rfl ?_
    refine O.faz rfl rfl rfl rfl ⟨_, _, _, Go.Proofs.Try.underlying156, rfl, rfl, Go.Proofs.Try.sizeOf150⟩ rfl ?_
    refine O.ld rfl rfl rfl (fun w => ⟨Go.Proofs.Try.isAgg150 w, Go.Proofs.Try.sizeOf150 w⟩) rfl hI.c0 ?_
    refine O.isNil rfl rfl rfl rfl Go.Proofs.Try.underlying150 rfl rfl ?_
    refine Pl.fin [(0, _), (2, _), (9, _)] ⟨rfl, rfl, rfl, trivial⟩ ?_
    refine Go'.condF rfl ?_
    refine Go'.skip ?_
    refine Go'.seq ?_
    refine Go'.seq ?_
    -- region 3 (map.go:1063)
    refine Go'.region [(0, 0), (1, 0), (2, 0), (3, 1), (4, 0)] rfl ?_
    refine O.mv rfl rfl rfl rfl rfl ?_
    refine O.nc rfl rfl rfl rfl rfl ?_
    refine O.fa0 (off := 2) rfl rfl rfl rfl ⟨_, _, _, Go.Proofs.Try.underlying156, rfl, rfl, Go.Proofs.Try.sizeOf4⟩ rfl ?_
    refine O.ld rfl rfl rfl (fun w => ⟨Go.Proofs.Try.isAgg4 w, Go.Proofs.Try.sizeOf4 w⟩) rfl hI.c2 ?_
    refine O.not rfl rfl rfl rfl rfl ?_
    refine Pl.fin [(0, _), (2, _), (14, _)] ⟨rfl, rfl, rfl, trivial⟩ ?_
    refine Go'.condF rfl ?_
    refine Go'.skip ?_
    refine Go'.seq ?_
    refine Go'.seq ?_
    -- region 5 (map.go:1066)
    refine Go'.region [(0, 0), (1, 0), (2, 0), (3, 1), (4, 0), (5, 0)] rfl ?_
    refine O.mv rfl rfl rfl rfl rfl ?_
    refine O.nc rfl rfl rfl rfl rfl ?_
    refine O.fa0 (off := 5) rfl rfl rfl rfl ⟨_, _, _, Go.Proofs.Try.underlying156, rfl, rfl, Go.Proofs.Try.sizeOf154⟩ rfl ?_
    refine O.ld rfl rfl rfl (fun w => ⟨Go.Proofs.Try.isAgg154 w, Go.Proofs.Try.sizeOf154 w⟩) rfl hTop.c5 ?_
    refine O.len rfl rfl rfl rfl Go.Proofs.Try.underlying154 rfl ?_
    refine O.cmp rfl rfl rfl rfl rfl rfl (eqlF (by omega)) ?_
    refine Pl.fin [(0, _), (2, _), (20, _)] ⟨rfl, rfl, rfl, trivial⟩ ?_
    refine Go'.condF rfl ?_
    refine Go'.skip ?_
    refine Go'.seq ?_
    -- region 9 (map.go:1072)
    refine Go'.draw (fun _ => True) [(0, 0), (1, 0), (2, 0), (3, 1), (4, 0), (5, 0), (6, 0), (7, 1), (8, 0), (9, 0), (10, 0), (11, 0)] (by kernel_rfl) (by kernel_rfl) (trivial) ?_
    refine O.mv rfl rfl rfl rfl rfl ?_
    refine O.nc rfl rfl rfl rfl rfl ?_
    refine O.fa0 (off := 5) rfl rfl rfl rfl ⟨_, _, _, Go.Proofs.Try.underlying156, rfl, rfl, Go.Proofs.Try.sizeOf154⟩ rfl ?_
    refine O.ld rfl rfl rfl (fun w => ⟨Go.Proofs.Try.isAgg154 w, Go.Proofs.Try.sizeOf154 w⟩) rfl hTop.c5 ?_
    refine O.mv rfl rfl rfl rfl rfl ?_
    refine O.nc rfl rfl rfl rfl rfl ?_
    refine O.fa0 (off := 5) rfl rfl rfl rfl ⟨_, _, _, Go.Proofs.Try.underlying156, rfl, rfl, Go.Proofs.Try.sizeOf154⟩ rfl ?_
    refine O.ld rfl rfl rfl (fun w => ⟨Go.Proofs.Try.isAgg154 w, Go.Proofs.Try.sizeOf154 w⟩) rfl hTop.c5 ?_
    refine O.len rfl rfl rfl rfl Go.Proofs.Try.underlying154 rfl ?_
    refine O.sub (((fs.length : Nat) : Int)) rfl rfl rfl rfl rfl rfl (by omega) (by omega) ?_
    refine O.ix (j := fs.length) rfl rfl rfl rfl Go.Proofs.Try.underlying154 Go.Proofs.Try.sizeOf231 rfl rfl (by omega) (by omega) ?_
    refine O.asg rfl rfl rfl rfl rfl ?_
    refine Pl.fin [(0, _), (2, _), (3, _)] ⟨rfl, rfl, rfl, trivial⟩ ?_
    refine Go'.seq ?_
    refine Go'.seq ?_
    have hR := hK _ hI.f
    obtain ⟨hg, hx, hl, hroot, haf⟩ := hR.rt
    have hgd := (Ctx.good hR.mn hg hx hC).1
    have hin : Inn _ P h1 g X ((Gt.ps h1 K).map some) K := hgd.inn
    have hKl : K.length = X.length + 1 := hgd.2.2.2.2.2.1
    have hol : ((Gt.ps h1 K).map some).length = X.length + 1 := by rw [List.length_map, Gt.ps, List.length_map]; exact hKl
    obtain ⟨k0, hk0⟩ : ∃ k, K[i]? = some k := ⟨K[i], List.getElem?_eq_getElem (by omega)⟩
    have hk0m : k0 ∈ K := List.mem_of_getElem? hk0
    have hok : ((Gt.ps h1 K).map some)[i]? = some (some (Gt.p h1 k0)) := by rw [Gt.ps, List.map_map, List.getElem?_map, hk0]; rfl
    have hkL : (K.map (Gt.L h1))[i]? = some (Gt.L h1 k0) := by rw [List.getElem?_map, hk0]; rfl
    have hkat := hin.k.at hok
    have hgk := (hin.c.1 k0 hk0m).1
    obtain ⟨kpk, hNk⟩ := hgk.node
    have hk00 := hNk.c0
    rw [hgk.isoe] at hk00
    -- region 10 (map.go:1073)
    refine Go'.region [(0, 0), (1, 0), (2, 0), (3, 1), (4, 2)] rfl ?_
    refine O.mv rfl rfl rfl rfl rfl ?_
    refine O.nc rfl rfl rfl rfl rfl ?_
    refine O.faz rfl rfl rfl rfl ⟨_, _, _, Go.Proofs.Try.underlying231, rfl, rfl, Go.Proofs.Try.sizeOf135⟩ rfl ?_
    refine O.ld rfl rfl rfl (fun w => ⟨Go.Proofs.Try.isAgg135 w, Go.Proofs.Try.sizeOf135 w⟩) rfl hTop.cp ?_
    refine O.callQ rfl rfl rfl Go.Proofs.Try.call152 rfl (leaf_spec hin.n.c3) trivial ?_
    refine Pl.fin [(0, _), (2, _), (3, _), (46, _)] ⟨rfl, rfl, rfl, rfl, trivial⟩ ?_
    refine Go'.condF rfl ?_
    refine Go'.seq ?_
    -- region 20 (map.go:1090)
    refine Go'.draw (fun _ => True) [(0, 0), (1, 0), (2, 0), (3, 1), (4, 0), (5, 0), (6, 0), (7, 1), (8, 0), (9, 0), (10, 1), (11, 0), (12, 1), (13, 0), (14, 0), (15, 0), (16, 1), (17, 0), (18, 0), (19, 0), (20, 0), (21, 1), (22, 2), (23, 0)] (by kernel_rfl) (by kernel_rfl) (trivial) ?_
    refine O.mv rfl rfl rfl rfl rfl ?_
    refine O.nc rfl rfl rfl rfl rfl ?_
    refine O.faz rfl rfl rfl rfl ⟨_, _, _, Go.Proofs.Try.underlying156, rfl, rfl, Go.Proofs.Try.sizeOf150⟩ rfl ?_
    refine O.ld rfl rfl rfl (fun w => ⟨Go.Proofs.Try.isAgg150 w, Go.Proofs.Try.sizeOf150 w⟩) rfl hI.c0 ?_
    refine O.mv rfl rfl rfl rfl rfl ?_
    refine O.nc rfl rfl rfl rfl rfl ?_
    refine O.faz rfl rfl rfl rfl ⟨_, _, _, Go.Proofs.Try.underlying231, rfl, rfl, Go.Proofs.Try.sizeOf135⟩ rfl ?_
    refine O.ld rfl rfl rfl (fun w => ⟨Go.Proofs.Try.isAgg135 w, Go.Proofs.Try.sizeOf135 w⟩) rfl hTop.cp ?_
    refine O.nc rfl rfl rfl rfl rfl ?_
    refine O.fa0 (off := 3) rfl rfl rfl rfl ⟨_, _, _, Go.Proofs.Try.underlying205, rfl, rfl, Go.Proofs.Try.sizeOf203⟩ rfl ?_
    refine O.ld rfl rfl rfl (fun w => ⟨Go.Proofs.Try.isAgg203 w, Go.Proofs.Try.sizeOf203 w⟩) rfl hin.n.c3 ?_
    refine O.nc rfl rfl rfl rfl rfl ?_
    refine O.ld rfl rfl rfl (fun w => ⟨Go.Proofs.Try.isAgg206 w, Go.Proofs.Try.sizeOf206 w⟩) rfl hin.k.c ?_
    refine O.mv rfl rfl rfl rfl rfl ?_
    refine O.nc rfl rfl rfl rfl rfl ?_
    refine O.fa (off := 1) rfl rfl rfl rfl ⟨_, _, _, Go.Proofs.Try.underlying231, rfl, rfl, Go.Proofs.Try.sizeOf3⟩ rfl ?_
    refine O.ld rfl rfl rfl (fun w => ⟨Go.Proofs.Try.isAgg3 w, Go.Proofs.Try.sizeOf3 w⟩) rfl hTop.ci ?_
    refine O.ix (j := i) rfl rfl rfl rfl Go.Proofs.Try.underlying206 Go.Proofs.Try.sizeOf135 rfl rfl (by omega) (by omega) ?_
    refine O.mv rfl rfl rfl rfl rfl ?_
    refine O.nc rfl rfl rfl rfl rfl ?_
    refine O.fa0 (off := 1) rfl rfl rfl rfl ⟨_, _, _, Go.Proofs.Try.underlying156, rfl, rfl, Go.Proofs.Try.sizeOf4⟩ rfl ?_
    refine O.ld rfl rfl rfl (fun w => ⟨Go.Proofs.Try.isAgg4 w, Go.Proofs.Try.sizeOf4 w⟩) rfl hI.c1 ?_
    refine O.callQ rfl rfl rfl Go.Proofs.Try.call151 rfl (isoLoad_spec mt hkat hk00 hR.iso) trivial ?_
    refine O.asg rfl rfl rfl rfl rfl ?_
    refine Pl.fin [(0, _), (2, _), (3, _), (4, _)] ⟨rfl, rfl, rfl, rfl, trivial⟩ ?_
    refine Go'.block ?_
    unfold ptr
    have hC2 := hC.down hk0
    rw [Pl.bl_succ hkL] at hq0
    have hkne := (hin.c.1 k0 hk0m).2.1
    have hkh := Gt.high hR.mn hgk (Nat.le_trans hR.mn hkne)
    have hQ : q = a + Pl.bl (K.map (Gt.L h1)) i + (Gt.L h1 k0).length := by omega
    have h0q : 0 < q := by omega
    clear hTop hC hR hg hx hl hroot haf hgd hin hkat hgk hNk hk00 hkne
    have hC := hC2
    clear hC2
    refine Go'.loop ?_
    refine Go'.keep [(0, _), (4, _)] ⟨rfl, rfl, trivial⟩ ?_
    refine Go'.ind (σ := ((h : Nat) × Gt EI h) × List (Nat × Int) × (Nat → Prop)) (fun s => s.1.1) (fun s H' => Itr EI H H' it tr mt Z true sa se s.2.2 s.2.1 kv ∧ ∃ a, Ctx t0 s.2.1 s.1.1 s.1.2 a ∧ q = a + (Gt.L s.1.1 s.1.2).length)
      (fun s => [(0, .pointer (some ⟨it, 0, none⟩)), (4, .pointer (some ⟨Gt.p s.1.1 s.1.2, 0, none⟩))]) (⟨_, _⟩, _, _) ⟨hI, _, hC, hQ⟩ rfl ?_
    clear hI hC
    rintro ⟨⟨h1, s1⟩, fs1, Z1⟩ H2 ⟨hI, a, hC, hQ⟩ ih
    simp only at hI hC ih
    have hsv0 := hI.st
    obtain ⟨sv, hsv, hA⟩ := hsv0
    replace hQ : q = a + (Gt.L h1 s1).length := hQ
    have hR := hK _ hI.f
    obtain ⟨hg, hx, hl, hroot, haf⟩ := hR.rt
    obtain ⟨hgd, hx1, hfl, haf1⟩ := Ctx.good hR.mn hg hx hC
    have hhi := Gt.high hR.mn hg hx
    rw [hl] at hhi
    obtain ⟨kp, hN⟩ := hgd.node
    refine (show Go' _ _ _ _ _ [(0, .pointer (some ⟨it, 0, none⟩)), (4, .pointer (some ⟨Gt.p h1 s1, 0, none⟩))] _ _ from ?_)
    refine Go'.block ?_
    refine Go'.seq ?_
    -- region 21 (map.go:1092)
    refine Go'.draw (fun H' => cl H' it 5 = some sv) [(0, 0), (1, 0), (2, 0), (3, 0), (4, 0), (5, 0), (6, 0), (7, 0), (8, 0), (9, 1), (10, 0), (11, 0), (12, 2), (13, 2), (14, 0), (15, 0), (16, 3)] (by kernel_rfl) (by kernel_rfl) (hsv) ?_
    refine O.mv rfl rfl rfl rfl rfl ?_
    refine O.mv rfl rfl rfl rfl rfl ?_
    refine O.nc rfl rfl rfl rfl rfl ?_
    refine O.fa0 (off := 5) rfl rfl rfl rfl ⟨_, _, _, Go.Proofs.Try.underlying156, rfl, rfl, Go.Proofs.Try.sizeOf154⟩ rfl ?_
    refine O.ldC rfl rfl rfl (fun w => ⟨Go.Proofs.Try.isAgg154 w, Go.Proofs.Try.sizeOf154 w⟩) rfl (fun _ h => h) ?_
    refine O.mv rfl rfl rfl rfl rfl ?_
    refine O.mv rfl rfl rfl rfl rfl ?_
    refine O.nc rfl rfl rfl rfl rfl ?_
    refine O.fa0 (off := 2) rfl rfl rfl rfl ⟨_, _, _, Go.Proofs.Try.underlying205, rfl, rfl, Go.Proofs.Try.sizeOf202⟩ rfl ?_
    refine O.ld rfl rfl rfl (fun w => ⟨Go.Proofs.Try.isAgg202 w, Go.Proofs.Try.sizeOf202 w⟩) rfl hN.c2 ?_
    refine O.len rfl rfl rfl rfl Go.Proofs.Try.underlying202 rfl ?_
    refine O.bld (cs := (EK.enc (Gt.p h1 s1, (((Gt.X h1 s1).length : Nat) : Int)))) rfl rfl rfl rfl (st231) rfl (by kernel_rfl) ?_
    refine O.bsl (cs := (EK.enc (Gt.p h1 s1, (((Gt.X h1 s1).length : Nat) : Int)))) rfl rfl rfl ⟨Go.Proofs.Try.underlying154, Go.Proofs.Try.sizeOf231, Go.Proofs.Try.zeroValue231, ⟨_, Go.Proofs.Try.typeInfo231, rfl⟩, rfl, by decide, by decide⟩ rfl (by decide) (by kernel_rfl) ?_
    intro H3 M3
    have hs3 := M3.size
    have hA3 := hA.fr (M3.fr nowhere) (fun _ _ _ _ => nw)
    have m3 : Rd H3 H2.size 0 (row EK [(Gt.p h1 s1, (((Gt.X h1 s1).length : Nat) : Int))]) := M3.rd _ [] (by simp [row, EK])
    refine ⟨((M3.fr nowhere).keep hsv nw), ?_⟩
    refine O.appA (E := EK) (Y := [(Gt.p h1 s1, (((Gt.X h1 s1).length : Nat) : Int))]) rfl rfl rfl ⟨Go.Proofs.Try.underlying154, Go.Proofs.Try.sizeOf231, Go.Proofs.Try.zeroValue231, ⟨_, Go.Proofs.Try.typeInfo231, rfl⟩, rfl, by decide, by decide⟩ rfl hA3 rfl ⟨_, _, _, rfl, m3⟩ (Nat.succ_pos _) (Nat.le_trans (Nat.mul_le_mul_left _ (Nat.le_of_ble_eq_true (n := _) (m := 4096) rfl)) (by rw [List.length_reverse]; simp only [List.length_singleton]; omega)) (by rw [List.length_reverse]; simp only [List.length_singleton]; omega) ?_
    intro v4 H4 hA4 hF4 hs4
    obtain ⟨a4, m4, c4, rfl⟩ := hA4.form
    have hw4 : Wr H4 it 5 1 := hF4.wr ((M3.fr nowhere).wr (hI.w 5 (by decide)))
    refine ⟨(hF4.keep ((M3.fr nowhere).keep hsv nw) hI.nz), ?_⟩
    refine O.nc rfl rfl rfl rfl rfl ?_
    refine O.fa0 (off := 5) rfl rfl rfl rfl ⟨_, _, _, Go.Proofs.Try.underlying156, rfl, rfl, Go.Proofs.Try.sizeOf154⟩ rfl ?_
    refine O.st3 rfl rfl Go.Proofs.Try.sizeOf154 rfl rfl rfl rfl rfl hw4 ?_
    intro H5 W5
    replace hI := hI.push (M3.fr nowhere) hF4 hA4 W5
    refine Pl.fin [(0, _), (4, _)] ⟨rfl, rfl, trivial⟩ ?_
    refine Go'.seq ?_
    refine Go'.seq ?_
    clear hR hg hx hl hroot haf hgd hx1 hfl haf1 hN kp
    have hR := hK _ hI.f
    obtain ⟨hg, hx, hl, hroot, haf⟩ := hR.rt
    obtain ⟨hgd, hx1, hfl, haf1⟩ := Ctx.good hR.mn hg hx hC
    rcases h1 with _ | h1
    rotate_left
    · skip
      obtain ⟨g, X, K⟩ := s1
      have hin : Inn _ P h1 g X ((Gt.ps h1 K).map some) K := hgd.inn
      have hKl : K.length = X.length + 1 := hgd.2.2.2.2.2.1
      have hol : ((Gt.ps h1 K).map some).length = X.length + 1 := by rw [List.length_map, Gt.ps, List.length_map]; exact hKl
      have hKL : (K.map (Gt.L h1)).length = X.length + 1 := by rw [List.length_map]; exact hKl
      obtain ⟨k0, hk0⟩ : ∃ k, K[X.length]? = some k := ⟨K[X.length], List.getElem?_eq_getElem (by omega)⟩
      have hk0m : k0 ∈ K := List.mem_of_getElem? hk0
      have hok : ((Gt.ps h1 K).map some)[X.length]? = some (some (Gt.p h1 k0)) := by rw [Gt.ps, List.map_map, List.getElem?_map, hk0]; rfl
      have hkL : (K.map (Gt.L h1))[X.length]? = some (Gt.L h1 k0) := by rw [List.getElem?_map, hk0]; rfl
      have hkat := hin.k.at hok
      have hgk := (hin.c.1 k0 hk0m).1
      obtain ⟨kpk, hNk⟩ := hgk.node
      have hk00 := hNk.c0
      rw [hgk.isoe] at hk00
      -- region 22 (map.go:1094)
      refine Go'.region [(0, 0), (1, 2)] rfl ?_
      refine O.mv rfl rfl rfl rfl rfl ?_
      refine O.callQ rfl rfl rfl Go.Proofs.Try.call152 rfl (leaf_spec hin.n.c3) trivial ?_
      refine Pl.fin [(0, _), (4, _), (145, _)] ⟨rfl, rfl, rfl, trivial⟩ ?_
      refine Go'.condF rfl ?_
      refine Go'.skip ?_
      -- region 24 (map.go:1098)
      refine Go'.draw (fun _ => True) [(0, 0), (1, 0), (2, 0), (3, 1), (4, 0), (5, 0), (6, 0), (7, 1), (8, 0), (9, 1), (10, 0), (11, 0), (12, 0), (13, 1), (14, 0), (15, 0), (16, 0), (17, 0), (18, 0), (19, 1), (20, 2), (21, 0)] (by kernel_rfl) (by kernel_rfl) (trivial) ?_
      refine O.mv rfl rfl rfl rfl rfl ?_
      refine O.nc rfl rfl rfl rfl rfl ?_
      refine O.faz rfl rfl rfl rfl ⟨_, _, _, Go.Proofs.Try.underlying156, rfl, rfl, Go.Proofs.Try.sizeOf150⟩ rfl ?_
      refine O.ld rfl rfl rfl (fun w => ⟨Go.Proofs.Try.isAgg150 w, Go.Proofs.Try.sizeOf150 w⟩) rfl hI.c0 ?_
      refine O.mv rfl rfl rfl rfl rfl ?_
      refine O.nc rfl rfl rfl rfl rfl ?_
      refine O.fa0 (off := 3) rfl rfl rfl rfl ⟨_, _, _, Go.Proofs.Try.underlying205, rfl, rfl, Go.Proofs.Try.sizeOf203⟩ rfl ?_
      refine O.ld rfl rfl rfl (fun w => ⟨Go.Proofs.Try.isAgg203 w, Go.Proofs.Try.sizeOf203 w⟩) rfl hin.n.c3 ?_
      refine O.nc rfl rfl rfl rfl rfl ?_
      refine O.ld rfl rfl rfl (fun w => ⟨Go.Proofs.Try.isAgg206 w, Go.Proofs.Try.sizeOf206 w⟩) rfl hin.k.c ?_
      refine O.mv rfl rfl rfl rfl rfl ?_
      refine O.nc rfl rfl rfl rfl rfl ?_
      refine O.fa0 (off := 2) rfl rfl rfl rfl ⟨_, _, _, Go.Proofs.Try.underlying205, rfl, rfl, Go.Proofs.Try.sizeOf202⟩ rfl ?_
      refine O.ld rfl rfl rfl (fun w => ⟨Go.Proofs.Try.isAgg202 w, Go.Proofs.Try.sizeOf202 w⟩) rfl hin.n.c2 ?_
      refine O.len rfl rfl rfl rfl Go.Proofs.Try.underlying202 rfl ?_
      refine O.ix (j := X.length) rfl rfl rfl rfl Go.Proofs.Try.underlying206 Go.Proofs.Try.sizeOf135 rfl rfl (by omega) (by omega) ?_
      refine O.mv rfl rfl rfl rfl rfl ?_
      refine O.nc rfl rfl rfl rfl rfl ?_
      refine O.fa0 (off := 1) rfl rfl rfl rfl ⟨_, _, _, Go.Proofs.Try.underlying156, rfl, rfl, Go.Proofs.Try.sizeOf4⟩ rfl ?_
      refine O.ld rfl rfl rfl (fun w => ⟨Go.Proofs.Try.isAgg4 w, Go.Proofs.Try.sizeOf4 w⟩) rfl hI.c1 ?_
      refine O.callQ rfl rfl rfl Go.Proofs.Try.call151 rfl (isoLoad_spec mt hkat hk00 hR.iso) trivial ?_
      refine O.asg rfl rfl rfl rfl rfl ?_
      refine Pl.fin [(0, _), (4, _), (145, _)] ⟨rfl, rfl, rfl, trivial⟩ ?_
      refine Go'.inBlock ?_
      unfold ptr
      refine Go'.keep [(0, _), (4, _)] ⟨rfl, rfl, trivial⟩ ?_
      refine Go'.inLoop ?_
      refine ih (⟨h1, k0⟩, (g.p, ((X.length : Nat) : Int)) :: fs1, _) _ ⟨hI, _, hC.down (i := X.length) hk0, ?_⟩ (by simp only; omega)
      have := (Pl.inter_bl X (K.map (Gt.L h1)) hKL hkL).2.2.1 rfl
      have e : (Gt.L (h1 + 1) ((g, X, K) : Gt EI (h1 + 1))).length = (Pl.inter X (K.map (Gt.L h1))).length := rfl
      simp only
      omega
    · skip
      obtain ⟨g, X⟩ := s1
      have hN : NodeM EI _ g X (.pointer none) := hgd.1
      have hX1 : 1 ≤ X.length := hx1
      replace hI : Itr EI H H5 it tr mt Z true sa se _ ((g.p, (((X.length : Nat) : Int) : Int)) :: fs1) kv := hI
      have hQ2 : q = a + X.length := hQ
      have hb4 : a + X.length ≤ l.length := by have := (Ctx.list hR.mn hg hx hC).2; rw [hl] at this; exact this
      -- region 22 (map.go:1094)
      refine Go'.region [(0, 0), (1, 2)] rfl ?_
      refine O.mv rfl rfl rfl rfl rfl ?_
      refine O.callQ rfl rfl rfl Go.Proofs.Try.call152 rfl (leaf_spec hN.c3) trivial ?_
      refine Pl.fin [(0, _), (4, _), (145, _)] ⟨rfl, rfl, rfl, trivial⟩ ?_
      refine Go'.condT rfl ?_
      refine Go'.seq ?_
      obtain ⟨b, o, c, hTop⟩ := hI.top
      -- region 23 (map.go:1095)
      refine Go'.draw (fun _ => True) [(0, 0), (1, 0), (2, 0), (3, 1), (4, 0), (5, 0), (6, 0), (7, 1), (8, 0), (9, 0), (10, 0), (11, 0), (12, 1), (13, 0), (14, 0), (15, 0), (16, 3)] (by kernel_rfl) (by kernel_rfl) (trivial) ?_
      refine O.mv rfl rfl rfl rfl rfl ?_
      refine O.nc rfl rfl rfl rfl rfl ?_
      refine O.fa0 (off := 5) rfl rfl rfl rfl ⟨_, _, _, Go.Proofs.Try.underlying156, rfl, rfl, Go.Proofs.Try.sizeOf154⟩ rfl ?_
      refine O.ld rfl rfl rfl (fun w => ⟨Go.Proofs.Try.isAgg154 w, Go.Proofs.Try.sizeOf154 w⟩) rfl hTop.c5 ?_
      refine O.mv rfl rfl rfl rfl rfl ?_
      refine O.nc rfl rfl rfl rfl rfl ?_
      refine O.fa0 (off := 5) rfl rfl rfl rfl ⟨_, _, _, Go.Proofs.Try.underlying156, rfl, rfl, Go.Proofs.Try.sizeOf154⟩ rfl ?_
      refine O.ld rfl rfl rfl (fun w => ⟨Go.Proofs.Try.isAgg154 w, Go.Proofs.Try.sizeOf154 w⟩) rfl hTop.c5 ?_
      refine O.len rfl rfl rfl rfl Go.Proofs.Try.underlying154 rfl ?_
      refine O.sub (((fs1.length : Nat) : Int)) rfl rfl rfl rfl rfl rfl (by omega) (by omega) ?_
      refine O.ix (j := fs1.length) rfl rfl rfl rfl Go.Proofs.Try.underlying154 Go.Proofs.Try.sizeOf231 rfl rfl (by omega) (by omega) ?_
      refine O.fa (off := 1) rfl rfl rfl rfl ⟨_, _, _, Go.Proofs.Try.underlying231, rfl, rfl, Go.Proofs.Try.sizeOf3⟩ rfl ?_
      refine O.ld rfl rfl rfl (fun w => ⟨Go.Proofs.Try.isAgg3 w, Go.Proofs.Try.sizeOf3 w⟩) rfl hTop.ci ?_
      refine O.sub (((X.length - 1 : Nat) : Int)) rfl rfl rfl rfl rfl rfl (by omega) (by omega) ?_
      refine O.ix (j := fs1.length) rfl rfl rfl rfl Go.Proofs.Try.underlying154 Go.Proofs.Try.sizeOf231 rfl rfl (by omega) (by omega) ?_
      refine O.fa (off := 1) rfl rfl rfl rfl ⟨_, _, _, Go.Proofs.Try.underlying231, rfl, rfl, Go.Proofs.Try.sizeOf3⟩ rfl ?_
      refine O.st3 rfl rfl Go.Proofs.Try.sizeOf3 rfl rfl rfl rfl rfl hTop.wi ?_
      intro H6 W6
      obtain ⟨hI6, hTop6⟩ := hI.sti hTop W6
      clear hI hTop hR hg hx hl hroot haf hgd hx1 hfl haf1
      have hI := hI6
      clear hI6
      refine Pl.fin [(0, _), (4, _), (145, _)] ⟨rfl, rfl, rfl, trivial⟩ ?_
      refine Go'.exit rfl ?_
      refine Go'.seq ?_
      have hR := hK _ hI.f
      obtain ⟨hg, hx, hl, hroot, haf⟩ := hR.rt
      obtain ⟨hgd, hx1, hfl, haf1⟩ := Ctx.good hR.mn hg hx hC
      have hS : Stand t0 ((g.p, ((X.length - 1 : Nat) : Int)) :: fs1) (q - 1) := .inl ⟨fs1, g, X, a, X.length - 1, rfl, hC, by omega, by omega⟩
      have hR := hK _ hI.f
      obtain ⟨hg, hx, hl, hroot, haf⟩ := hR.rt
      obtain ⟨fs2, g2, X2, kp2, i2, y, e2, hN2, hi2, hy, hq, hfs2⟩ := hS.item hR.mn hg hx
      have hhi2 := Gt.high hR.mn hg hx
      rw [hl] at hhi2
      rw [e2] at hI hS
      obtain ⟨b, o, c, hTop⟩ := hI.top
      -- region 25 (map.go:1101)
      refine Go'.draw (fun _ => True) [(0, 0), (1, 0), (2, 0), (3, 1), (4, 0), (5, 0), (6, 0), (7, 1), (8, 0), (9, 0), (10, 0), (11, 0)] (by kernel_rfl) (by kernel_rfl) (trivial) ?_
      refine O.mv rfl rfl rfl rfl rfl ?_
      refine O.nc rfl rfl rfl rfl rfl ?_
      refine O.fa0 (off := 5) rfl rfl rfl rfl ⟨_, _, _, Go.Proofs.Try.underlying156, rfl, rfl, Go.Proofs.Try.sizeOf154⟩ rfl ?_
      refine O.ld rfl rfl rfl (fun w => ⟨Go.Proofs.Try.isAgg154 w, Go.Proofs.Try.sizeOf154 w⟩) rfl hTop.c5 ?_
      refine O.mv rfl rfl rfl rfl rfl ?_
      refine O.nc rfl rfl rfl rfl rfl ?_
      refine O.fa0 (off := 5) rfl rfl rfl rfl ⟨_, _, _, Go.Proofs.Try.underlying156, rfl, rfl, Go.Proofs.Try.sizeOf154⟩ rfl ?_
      refine O.ld rfl rfl rfl (fun w => ⟨Go.Proofs.Try.isAgg154 w, Go.Proofs.Try.sizeOf154 w⟩) rfl hTop.c5 ?_
      refine O.len rfl rfl rfl rfl Go.Proofs.Try.underlying154 rfl ?_
      refine O.sub (((fs2.length : Nat) : Int)) rfl rfl rfl rfl rfl rfl (by omega) (by omega) ?_
      refine O.ix (j := fs2.length) rfl rfl rfl rfl Go.Proofs.Try.underlying154 Go.Proofs.Try.sizeOf231 rfl rfl (by omega) (by omega) ?_
      refine O.asg rfl rfl rfl rfl rfl ?_
      refine Pl.fin [(0, _), (3, _)] ⟨rfl, rfl, trivial⟩ ?_
      refine Go'.seq ?_
      -- region 26 (map.go:1102)
      refine Go'.draw (fun _ => True) [(0, 0), (1, 0), (2, 0), (3, 0), (4, 1), (5, 0), (6, 0), (7, 1), (8, 0), (9, 0), (10, 0), (11, 1), (12, 0), (13, 1), (14, 0), (15, 0), (16, 3)] (by kernel_rfl) (by kernel_rfl) (trivial) ?_
      refine O.mv rfl rfl rfl rfl rfl ?_
      refine O.mv rfl rfl rfl rfl rfl ?_
      refine O.nc rfl rfl rfl rfl rfl ?_
      refine O.faz rfl rfl rfl rfl ⟨_, _, _, Go.Proofs.Try.underlying231, rfl, rfl, Go.Proofs.Try.sizeOf135⟩ rfl ?_
      refine O.ld rfl rfl rfl (fun w => ⟨Go.Proofs.Try.isAgg135 w, Go.Proofs.Try.sizeOf135 w⟩) rfl hTop.cp ?_
      refine O.nc rfl rfl rfl rfl rfl ?_
      refine O.fa0 (off := 2) rfl rfl rfl rfl ⟨_, _, _, Go.Proofs.Try.underlying205, rfl, rfl, Go.Proofs.Try.sizeOf202⟩ rfl ?_
      refine O.ld rfl rfl rfl (fun w => ⟨Go.Proofs.Try.isAgg202 w, Go.Proofs.Try.sizeOf202 w⟩) rfl hN2.c2 ?_
      refine O.mv rfl rfl rfl rfl rfl ?_
      refine O.nc rfl rfl rfl rfl rfl ?_
      refine O.fa (off := 1) rfl rfl rfl rfl ⟨_, _, _, Go.Proofs.Try.underlying231, rfl, rfl, Go.Proofs.Try.sizeOf3⟩ rfl ?_
      refine O.ld rfl rfl rfl (fun w => ⟨Go.Proofs.Try.isAgg3 w, Go.Proofs.Try.sizeOf3 w⟩) rfl hTop.ci ?_
      refine O.ix (j := i2) rfl rfl rfl rfl Go.Proofs.Try.underlying202 Go.Proofs.Try.sizeOf138 rfl rfl (by omega) hi2 ?_
      refine O.lds rfl rfl rfl (fun w => ⟨Go.Proofs.Try.isAgg138 w, Go.Proofs.Try.sizeOf138 w⟩) rfl rfl (hN2.sl.item hy) ?_
      refine O.nc rfl rfl rfl rfl rfl ?_
      refine O.fa0 (off := 6) rfl rfl rfl rfl ⟨_, _, _, Go.Proofs.Try.underlying156, rfl, rfl, Go.Proofs.Try.sizeOf138⟩ rfl ?_
      refine O.st3 (vs := (EI.enc y)) rfl rfl Go.Proofs.Try.sizeOf138 rfl rfl rfl rfl rfl hI.wk ?_
      intro H9 W9
      have hI9 := hI.set6 W9
      refine Pl.fin [] trivial ?_
      refine Go'.seq ?_
      -- region 27 (map.go:1103)
      refine Go'.region [(0, 0)] rfl ?_
      refine O.asg rfl rfl rfl rfl rfl ?_
      refine Pl.fin [(2, _)] ⟨rfl, trivial⟩ ?_
      rw [hl] at hq
      refine Go'.ret (vs := [_]) Go.Proofs.Try.func146 Go.Proofs.Try.results146 ⟨rfl, trivial⟩ ?_
      exact ⟨congrArg Value.bool (decide_eq_true h0q).symm, _, _, _, _, _, _, hI9, by rw [if_pos h0q]; exact ⟨rfl, hq, _, _, rfl, hS⟩⟩

end Go.Bt.FZ
