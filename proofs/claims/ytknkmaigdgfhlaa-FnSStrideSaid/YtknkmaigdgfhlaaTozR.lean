/- Contracts of functions of the program, proved by walking through their code. Conditions: those that each theorem names. -/
import Derived.Test.YtknkmaigdgfhlaaTozP
import Derived.Test.YtknkmaigdgfhlaaToSo
namespace Go.Bt.FZ
open Go Go.Proofs
set_option maxRecDepth 20000
set_option maxHeartbeats 4000000
set_option linter.unusedVariables false

structure DPre (H : Mem) (tr : Nat) (P : Ps) (h : Nat) (t : Gt EI h) (bp op : Nat) : Prop where
  tc : TrC H tr P.iso P.mx P.mn
  g : Gt.Good H P h t
  c : cl H bp op = some (ptr (Gt.p h t))
  nt : ∀ b o, Gt.af h t b o → ¬ (b = tr)
  srt : Pl.Srt OI (Gt.L h t)
  len : (Gt.L h t).length < 4611686018427387904
  x1 : 1 ≤ (Gt.X h t).length
def DelQ (H : Mem) (P : Ps) (h : Nat) (t : Gt EI h) (mx : Bool) (x : Int) (v : Value) (H' : Mem) : Prop :=
  match Pl.dlr OI mx x (Gt.L h t) with
  | some (y, L') => ∃ t', v = .tuple #[.agg (EI.enc y).toArray, .bool true] ∧ DelT H H' P h t t' L'
  | none => v = .tuple #[.agg (EI.enc (0 : Int)).toArray, .bool false] ∧ Fr nowhere H H'

theorem rebal_at {B : World} {H : Mem} {tr : Nat} {P : Ps} (hP : PsOk P) (tc : TrC H tr P.iso P.mx P.mn) {i i0 : Nat} {g : Ng} {X : List Int} {x : Int} (hi0 : i0 = i ∨ (i0 = i + 1 ∧ i0 = X.length)) (hi1 : i0 = X.length → i0 = i + 1) :
    ∀ {h : Nat} {K1 K2 : List (Gt EI h)} {tl tt : Gt EI h}, RebT H P (fun b => b = tr) h i g X K1 K2 tl tt x →
    Fn Try.prog B 173 [.pointer (some ⟨tr, 0, none⟩), .pointer (some ⟨g.p, 0, none⟩), .int .i64 (i0 : Int)] H (fun v H' => v = resVal [] ∧ ∃ (g' : Ng) (X' : List Int) (K' : List (Gt EI h)), g'.p = g.p ∧ g'.cnt = g.cnt ∧ Fr (fun b o => innc h g (K1 ++ K2) b o ∨ (Gt.af h tl b o ∨ Gt.af h tt b o)) H H' ∧ Inn H' P h g' X' ((Gt.ps h K').map some) K' ∧ K'.length = X'.length + 1 ∧
      Pl.inter X' (K'.map (Gt.L h)) = Pl.inter X ((K1 ++ [tl, tt] ++ K2).map (Gt.L h)) ∧ X'.length ≤ P.mx ∧ X.length ≤ X'.length + 1 ∧ Gro H (fun b o => innc h g (K1 ++ K2) b o ∨ (Gt.af h tl b o ∨ Gt.af h tt b o)) (innc h g' K'))
  | 0, _, _, (gl, Xl), (gr, Xr), ht => (rebalL_spec hP tc (ht.in0 (fun _ => 0)) hi0 hi1).mono fun v H' ⟨e, ho⟩ => ⟨e, ht.fin0 hP.h1 ho⟩
  | h + 1, _, _, (gl, Xl, Kl), (gr, Xr, Kr), ht => (rebalI_spec hP tc (ht.inS).1 hi0 hi1).mono fun v H' ⟨e, ho⟩ => ⟨e, ht.finS hP.h1 ho⟩
theorem rebal_tree {B : World} {H : Mem} {tr : Nat} {P : Ps} (hP : PsOk P) (tc : TrC H tr P.iso P.mx P.mn) {h i0 : Nat} {g : Ng} {X : List Int} {K1 K2 : List (Gt EI h)} {k : Gt EI h} (hI : Inn H P h g X ((Gt.ps h (K1 ++ [k] ++ K2)).map some) (K1 ++ K2))
    (hk : Gt.Good H P h k) (ok : Off (Gt.af h k) (innc h g (K1 ++ K2))) (tn : ∀ b o, innc h g (K1 ++ K2) b o → ¬ (fun b => b = tr) b) (tk : ∀ b o, Gt.af h k b o → ¬ (fun b => b = tr) b) (dD : ∀ b, (fun b => b = tr) b → b < H.size) (hi : K1.length = i0) (hx1 : 1 ≤ X.length)
    (hK : (K1 ++ [k] ++ K2).length = X.length + 1) (hxm : X.length ≤ P.mx) (hsh : (Gt.X h k).length < P.mn) (hml : P.mn ≤ (Gt.X h k).length + 1) (hb : (Pl.inter X ((K1 ++ [k] ++ K2).map (Gt.L h))).length < 4611686018427387904) :
    Fn Try.prog B 173 [.pointer (some ⟨tr, 0, none⟩), .pointer (some ⟨g.p, 0, none⟩), .int .i64 (i0 : Int)] H (fun v H' => v = resVal [] ∧ ∃ (g' : Ng) (X' : List Int) (K' : List (Gt EI h)), g'.p = g.p ∧ g'.cnt = g.cnt ∧ Fr (fun b o => innc h g (K1 ++ K2) b o ∨ Gt.af h k b o) H H' ∧ Inn H' P h g' X' ((Gt.ps h K').map some) K' ∧ K'.length = X'.length + 1 ∧
      Pl.inter X' (K'.map (Gt.L h)) = Pl.inter X ((K1 ++ [k] ++ K2).map (Gt.L h)) ∧ X'.length ≤ P.mx ∧ X.length ≤ X'.length + 1 ∧ Gro H (fun b o => innc h g (K1 ++ K2) b o ∨ Gt.af h k b o) (innc h g' K')) := by
  have hlen := Pl.inter_length X ((K1 ++ [k] ++ K2).map (Gt.L h)) (by rw [List.length_map]; exact hK)
  have hkl : (Gt.L h k).length ≤ (((K1 ++ [k] ++ K2).map (Gt.L h)).map List.length).sum := sum_mem List.length (List.mem_map.2 ⟨k, by simp, rfl⟩)
  rcases K2 with _ | ⟨kr, K2⟩
  · obtain ⟨K1', kl, rfl⟩ : ∃ K1' kl, K1 = K1' ++ [kl] := by
      rcases List.eq_nil_or_concat K1 with rfl | ⟨a, b, e⟩
      · have h9 := hK
        simp only [List.length_append, List.length_cons, List.length_nil] at h9
        omega
      · exact ⟨a, b, by simpa using e⟩
    have hlK : K1'.length + 1 = X.length := by simp at hK; omega
    obtain ⟨x, hx⟩ : ∃ x, X[K1'.length]? = some x := ⟨X[K1'.length]'(by omega), List.getElem?_eq_getElem (by omega)⟩
    have e1 : K1' ++ [kl] ++ [k] ++ [] = K1' ++ [kl, k] ++ [] := by simp
    have hkm : kl ∈ K1' ++ [kl] ++ [] := by simp
    obtain ⟨q1, q2, q3⟩ := hI.c.1 kl hkm
    have hsub : (K1' ++ []).Sublist (K1' ++ [kl] ++ []) := by simp
    have hkl2 : (Gt.L h kl).length + (Gt.L h k).length ≤ (((K1' ++ [kl] ++ [k] ++ []).map (Gt.L h)).map List.length).sum := by simp <;> omega
    have ekl : kl ∈ K1' ++ [kl] := by simp
    have hpw := hI.c.2
    rw [List.append_nil, List.pairwise_append] at hpw
    have okl : Off (Gt.af h kl) (innc h g (K1' ++ [])) := fun b o hb hn => by
      rcases hn with hn | hn | ⟨m, hm, hn⟩
      · exact (q3 b o hb).1 hn
      · exact (q3 b o hb).2 hn
      · rw [List.append_nil] at hm
        exact hpw.2.2 m hm kl (List.mem_singleton.2 rfl) b o hn hb
    have ht : RebT H P (fun b => b = tr) h K1'.length g X K1' [] kl k x := ⟨by rw [← e1]; exact hI.sub hsub, q1, hk, okl, fun b o hb hn => ok b o hb (innc_sub (fun m hm => hsub.subset hm) hn), fun b o h1 h2 => ok b o h2 (.inr (.inr ⟨kl, hkm, h1⟩)),
      fun b o hb => tn b o (innc_sub (fun m hm => hsub.subset hm) hb), fun b o hb => tn b o (.inr (.inr ⟨kl, hkm, hb⟩)), tk, dD, rfl, hx, by rw [← e1]; exact hK, hxm, by omega, .inr hsh, by omega, hml⟩
    rw [List.length_append] at hi
    refine (rebal_at hP tc (i0 := i0) (.inr ⟨by simpa using hi.symm, by simp at hi; omega⟩) (fun _ => by simpa using hi.symm) ht).mono ?_
    rintro v H' ⟨e, g', X', K', r1, r2, r3, r4, r5, r6, r7, r8, r9⟩
    have hA : ∀ b o, innc h g (K1' ++ []) b o ∨ (Gt.af h kl b o ∨ Gt.af h k b o) → innc h g (K1' ++ [kl] ++ []) b o ∨ Gt.af h k b o := fun b o hz => by
      rcases hz with hz | hz | hz
      · exact .inl (innc_sub (fun m hm => hsub.subset hm) hz)
      · exact .inl (.inr (.inr ⟨kl, hkm, hz⟩))
      · exact .inr hz
    exact ⟨e, g', X', K', r1, r2, r3.mono fun b o _ hz => hA b o hz, r4, r5, by rw [r6, e1], r7, r8, fun b o hb => (r9 b o hb).imp (hA b o) id⟩
  · have hlK : K1.length < X.length := by simp at hK; omega
    obtain ⟨x, hx⟩ : ∃ x, X[K1.length]? = some x := ⟨X[K1.length]'(by omega), List.getElem?_eq_getElem (by omega)⟩
    have e1 : K1 ++ [k] ++ kr :: K2 = K1 ++ [k, kr] ++ K2 := by simp
    have hkm : kr ∈ K1 ++ kr :: K2 := by simp
    obtain ⟨q1, q2, q3⟩ := hI.c.1 kr hkm
    have hsub : (K1 ++ K2).Sublist (K1 ++ kr :: K2) := List.Sublist.append_left (List.sublist_cons_self _ _) _
    have hkl2 : (Gt.L h k).length + (Gt.L h kr).length ≤ (((K1 ++ [k] ++ kr :: K2).map (Gt.L h)).map List.length).sum := by simp <;> omega
    have hpw := hI.c.2
    rw [List.pairwise_append, List.pairwise_cons] at hpw
    have okr : Off (Gt.af h kr) (innc h g (K1 ++ K2)) := fun b o hb hn => by
      rcases hn with hn | hn | ⟨m, hm, hn⟩
      · exact (q3 b o hb).1 hn
      · exact (q3 b o hb).2 hn
      · rcases List.mem_append.1 hm with hm | hm
        · exact hpw.2.2 m hm kr List.mem_cons_self b o hn hb
        · exact hpw.2.1.1 m hm b o hb hn
    have ht : RebT H P (fun b => b = tr) h K1.length g X K1 K2 k kr x := ⟨by rw [← e1]; exact hI.sub hsub, hk, q1, fun b o hb hn => ok b o hb (innc_sub (fun m hm => hsub.subset hm) hn), okr, fun b o h1 h2 => ok b o h1 (.inr (.inr ⟨kr, hkm, h2⟩)),
      fun b o hb => tn b o (innc_sub (fun m hm => hsub.subset hm) hb), tk, fun b o hb => tn b o (.inr (.inr ⟨kr, hkm, hb⟩)), dD, rfl, hx, by rw [← e1]; exact hK, hxm, by omega, .inl hsh, hml, by omega⟩
    refine (rebal_at hP tc (i0 := i0) (.inl hi.symm) (fun h9 => by omega) ht).mono ?_
    rintro v H' ⟨e, g', X', K', r1, r2, r3, r4, r5, r6, r7, r8, r9⟩
    have hA : ∀ b o, innc h g (K1 ++ K2) b o ∨ (Gt.af h k b o ∨ Gt.af h kr b o) → innc h g (K1 ++ kr :: K2) b o ∨ Gt.af h k b o := fun b o hz => by
      rcases hz with hz | hz | hz
      · exact .inl (innc_sub (fun m hm => hsub.subset hm) hz)
      · exact .inr hz
      · exact .inl (.inr (.inr ⟨kr, hkm, hz⟩))
    exact ⟨e, g', X', K', r1, r2, r3.mono fun b o _ hz => hA b o hz, r4, r5, by rw [r6, e1], r7, r8, fun b o hb => (r9 b o hb).imp (hA b o) id⟩

theorem del0 {B : World} {H : Mem} {tr bp op : Nat} {P : Ps} (hP : PsOk P) {mx : Bool} {x : Int} {t : Gt EI 0} (hp : DPre H tr P 0 t bp op) :
    Fn Try.prog B 166 [.pointer (some ⟨tr, 0, none⟩), .pointer (some ⟨bp, op, none⟩), .bool mx, .int .i64 x] H (DelQ H P 0 t mx x) := by
  obtain ⟨⟨np, niso, ncnt, nib, nio, nic, ncb, nkb, nko, nkc⟩, X⟩ := t
  obtain ⟨tc, hg, hc, tn, hsX, hlen, hx1⟩ := hp
  replace hsX : Pl.Srt OI X := hsX
  replace hx1 : 1 ≤ X.length := hx1
  replace hlen : X.length < 4611686018427387904 := hlen
  have hn : NodeM EI H (⟨np, niso, ncnt, nib, nio, nic, ncb, nkb, nko, nkc⟩ : Ng) X (.pointer none) := hg.1
  have hiso : niso = P.iso := hg.2.1
  have hcnt : ncnt = X.length := hg.2.2.1
  have hxm : X.length ≤ P.mx := hg.2.2.2
  replace tn : ∀ b o, (ncl EI (⟨np, niso, ncnt, nib, nio, nic, ncb, nkb, nko, nkc⟩ : Ng)) b o → ¬ (b = tr) := tn
  have hx255 := hP.hx
  have hlt : ∀ b o, (ncl EI (⟨np, niso, ncnt, nib, nio, nic, ncb, nkb, nko, nkc⟩ : Ng)) b o → b < H.size := fun b o hb => NodeM.lt hn hb
  have hD : ∀ b, (b = tr) → b < H.size := fun b hb => by subst hb; exact cl_lt tc.iso
  have htl : tr < H.size := cl_lt tc.iso
  have hic := hn.sl.hle
  simp only at hic
  have hF : Fr (ncl EI (⟨np, niso, ncnt, nib, nio, nic, ncb, nkb, nko, nkc⟩ : Ng)) H H := Fr.refl _ _
  have hQ : Fr nowhere H H := Fr.refl _ _
  have sn : Gro H (ncl EI (⟨np, niso, ncnt, nib, nio, nic, ncb, nkb, nko, nkc⟩ : Ng)) (ncl EI (⟨np, niso, ncnt, nib, nio, nic, ncb, nkb, nko, nkc⟩ : Ng)) := Gro.refl _ _
  refine fn_of Go.Proofs.Try.func166 rfl Go.Proofs.Try.ntmps166 ?_
  refine (show Go' _ _ _ _ 205 [(0, _), (1, _), (2, _), (3, _)] [.code _] _ from ?_)
  refine Go'.seq ?_
  -- region 0 (map.go:359)
  refine Go'.region [(0, 2), (1, 0)] rfl ?_
  refine O.alloc rfl rfl rfl Go.Proofs.Try.zeroValue138 ?_
  intro H1 MH1
  refine ⟨trivial, ?_⟩
  have hsH1 := MH1.size
  replace hn := NodeM.fr EI hn (MH1.fr nowhere) (fun _ _ _ => nw)
  replace tc := tc.fr (MH1.fr nowhere) (fun _ _ _ => nw)
  replace hF := hF.trans' (MH1.fr nowhere) (fun _ _ _ h => h) (fun _ _ _ h => h.elim)
  replace hQ := hQ.trans (MH1.fr nowhere)
  have w8 : Wr H1 H.size 0 1 := MH1.wr 1 (by decide)
  refine O.asg rfl rfl rfl rfl rfl ?_
  refine Pl.fin [(0, _), (1, _), (2, _), (3, _), (8, _), (9, _)] ⟨rfl, rfl, rfl, rfl, rfl, rfl, trivial⟩ ?_
  refine Go'.seq ?_
  have hc0 : cl H1 np 0 = some (.int .u64 (P.iso : Int)) := by have := hn.c0; simp only [hiso] at this; exact this
  -- region 1 (map.go:361)
  refine Go'.region [(0, 0), (1, 0), (2, 2), (3, 0)] rfl ?_
  refine O.mv rfl rfl rfl rfl rfl ?_
  refine O.mv rfl rfl rfl rfl rfl ?_
  refine O.callQ rfl rfl rfl Go.Proofs.Try.call151 rfl (isoLoad_spec true (Fr.keep (MH1.fr nowhere) hc nw) hc0 tc.iso) trivial ?_
  refine O.asg rfl rfl rfl rfl rfl ?_
  refine Pl.fin [(0, _), (2, _), (3, _), (8, _), (9, _), (10, _)] ⟨rfl, rfl, rfl, rfl, rfl, rfl, trivial⟩ ?_
  refine Go'.seq ?_
  -- region 2 (map.go:362)
  refine Go'.region [(0, 0)] rfl ?_
  refine O.asg rfl rfl rfl rfl rfl ?_
  refine Pl.fin [(0, _), (2, _), (3, _), (8, _), (9, _), (10, _), (11, _)] ⟨rfl, rfl, rfl, rfl, rfl, rfl, rfl, trivial⟩ ?_
  refine Go'.seq ?_
  -- region 3 (map.go:363)
  refine Go'.region [(0, 0)] rfl ?_
  refine O.asg rfl rfl rfl rfl rfl ?_
  refine Pl.fin [(0, _), (2, _), (3, _), (8, _), (9, _), (10, _), (11, _), (12, _)] ⟨rfl, rfl, rfl, rfl, rfl, rfl, rfl, rfl, trivial⟩ ?_
  refine Go'.seq ?_
  refine Go'.seq ?_
  -- region 4 (map.go:364)
  refine Go'.region [(0, 0)] rfl ?_
  refine O.mv rfl rfl rfl rfl rfl ?_
  refine Pl.fin [(0, _), (2, _), (3, _), (8, _), (9, _), (10, _), (11, _), (12, _), (21, _)] ⟨rfl, rfl, rfl, rfl, rfl, rfl, rfl, rfl, rfl, trivial⟩ ?_
  refine Go'.join (σ := Nat × Bool) (fun s H' => H' = H1 ∧ Pl.Sel OI mx x X s) (fun s => [(0, .pointer (some ⟨tr, 0, none⟩)), (2, .bool mx), (3, .int .i64 x), (8, .pointer (some ⟨H.size, 0, none⟩)), (9, .bool false), (10, .pointer (some ⟨np, 0, none⟩)), (11, .int .i64 (s.1 : Int)), (12, .bool s.2)]) ?_ ?_
  rotate_left
  · intro tail
    cases mx
    · skip
      refine Go'.condF rfl ?_
      -- region 6 (map.go:367)
      refine Go'.region [(0, 0), (1, 0), (2, 0), (3, 2), (4, 0), (5, 0), (6, 0), (7, 0), (8, 0)] rfl ?_
      refine O.mv rfl rfl rfl rfl rfl ?_
      refine O.mv rfl rfl rfl rfl rfl ?_
      refine O.mv rfl rfl rfl rfl rfl ?_
      refine O.callQ rfl rfl rfl Go.Proofs.Try.call168 rfl (search_spec x hn hsX (by omega)) trivial ?_
      refine O.mv rfl rfl rfl rfl rfl ?_
      refine O.ext rfl rfl rfl rfl rfl rfl ?_
      refine O.ext rfl rfl rfl rfl rfl rfl ?_
      refine O.asg rfl rfl rfl rfl rfl ?_
      refine O.asg rfl rfl rfl rfl rfl ?_
      refine Pl.fin [(0, _), (2, _), (3, _), (8, _), (9, _), (10, _), (11, _), (12, _)] ⟨rfl, rfl, rfl, rfl, rfl, rfl, rfl, rfl, trivial⟩ ?_
      refine Go'.keep [(0, _), (2, _), (3, _), (8, _), (9, _), (10, _), (11, _), (12, _)] ⟨rfl, rfl, rfl, rfl, rfl, rfl, rfl, rfl, trivial⟩ ?_
      exact tail (Pl.pos OI x X, Pl.fnd OI x X) H1 ⟨rfl, Pl.sel_key OI x X⟩
    · skip
      refine Go'.condT rfl ?_
      -- region 5 (map.go:365)
      refine Go'.region [(0, 0), (1, 0), (2, 0), (3, 1), (4, 0), (5, 0), (6, 0), (7, 0)] rfl ?_
      refine O.mv rfl rfl rfl rfl rfl ?_
      refine O.nc rfl rfl rfl rfl rfl ?_
      refine O.fa0 (off := 2) rfl rfl rfl rfl ⟨_, _, _, Go.Proofs.Try.underlying205, rfl, rfl, Go.Proofs.Try.sizeOf202⟩ rfl ?_
      refine O.ld rfl rfl rfl (fun w => ⟨Go.Proofs.Try.isAgg202 w, Go.Proofs.Try.sizeOf202 w⟩) rfl (show cl _ np 2 = some (.slice (some ⟨nib, nio, none⟩) X.length nic) from hn.c2) ?_
      refine O.len rfl rfl rfl rfl Go.Proofs.Try.underlying202 rfl ?_
      refine O.sub (((X.length - 1 : Nat) : Int)) rfl rfl rfl rfl rfl rfl (by omega) (by omega) ?_
      refine O.asg rfl rfl rfl rfl rfl ?_
      refine O.asg rfl rfl rfl rfl rfl ?_
      refine Pl.fin [(0, _), (2, _), (3, _), (8, _), (9, _), (10, _), (11, _), (12, _)] ⟨rfl, rfl, rfl, rfl, rfl, rfl, rfl, rfl, trivial⟩ ?_
      refine Go'.keep [(0, _), (2, _), (3, _), (8, _), (9, _), (10, _), (11, _), (12, _)] ⟨rfl, rfl, rfl, rfl, rfl, rfl, rfl, rfl, trivial⟩ ?_
      exact tail (X.length - 1, true) H1 ⟨rfl, Pl.sel_max OI x hx1⟩
  rintro ⟨i, fo⟩ H' ⟨hHH, hsel⟩
  have e : H1 = H' := hHH.symm
  subst e
  clear hHH
  simp only
  refine Go'.seq ?_
  refine Go'.seq ?_
  -- region 7 (map.go:369)
  refine Go'.region [(0, 0), (1, 2)] rfl ?_
  refine O.mv rfl rfl rfl rfl rfl ?_
  refine O.callQ rfl rfl rfl Go.Proofs.Try.call152 rfl (leaf_spec hn.c3) trivial ?_
  refine Pl.fin [(0, _), (2, _), (3, _), (8, _), (9, _), (10, _), (11, _), (12, _), (36, _)] ⟨rfl, rfl, rfl, rfl, rfl, rfl, rfl, rfl, rfl, trivial⟩ ?_
  refine Go'.condT rfl ?_
  refine Go'.seq ?_
  refine Go'.seq ?_
  -- region 8 (map.go:370)
  refine Go'.region [(0, 0)] rfl ?_
  refine O.mv rfl rfl rfl rfl rfl ?_
  refine Pl.fin [(0, _), (2, _), (3, _), (8, _), (9, _), (10, _), (11, _), (12, _), (37, _)] ⟨rfl, rfl, rfl, rfl, rfl, rfl, rfl, rfl, rfl, trivial⟩ ?_
  cases fo
  · -- there is none
    refine Go'.condF rfl ?_
    refine Go'.skip ?_
    refine Go'.seq ?_
    -- region 15 (map.go:379)
    refine Go'.region [(0, 0), (1, 0), (2, 0), (3, 1), (4, 2), (5, 0)] rfl ?_
    refine O.mv rfl rfl rfl rfl rfl ?_
    refine O.nc rfl rfl rfl rfl rfl ?_
    refine O.fa0 (off := 4) rfl rfl rfl rfl ⟨_, _, _, Go.Proofs.Try.underlying140, rfl, rfl, Go.Proofs.Try.sizeOf138⟩ rfl ?_
    refine O.lds rfl rfl rfl (fun w => ⟨Go.Proofs.Try.isAgg138 w, Go.Proofs.Try.sizeOf138 w⟩) rfl rfl tc.emp ?_
    refine O.st rfl rfl Go.Proofs.Try.sizeOf138 rfl rfl rfl rfl rfl w8 ?_
    intro H2 WH2
    have hsH2 := WH2.size
    replace hn := NodeM.fr EI hn WH2.fr (fun b o hb => nr (.inl (by have := hlt b o hb; omega)))
    replace tc := tc.fr WH2.fr (fun o _ _ => nr (.inl (by omega)))
    replace hF := hF.trans' WH2.fr (fun _ _ _ h => h) (fun b o hb h => by simp only [rng] at h; omega)
    replace hQ := hQ.trans' WH2.fr (fun _ _ _ h => h) (fun b o hb h => by simp only [rng] at h; omega)
    replace w8 := Fr.wr WH2.fr w8
    have m8 : Rd H2 H.size 0 (EI.enc (0 : Int)) := WH2.all
    refine ⟨trivial, ?_⟩
    refine O.asg rfl rfl rfl rfl rfl ?_
    refine Pl.fin [(0, _), (2, _), (3, _), (8, _), (9, _), (10, _), (11, _), (12, _)] ⟨rfl, rfl, rfl, rfl, rfl, rfl, rfl, rfl, trivial⟩ ?_
    refine Go'.ret (vs := [_, _]) Go.Proofs.Try.func166 Go.Proofs.Try.results166 ⟨⟨_, _, rfl, fun _ _ => run_loadVar_agg (fun w => ⟨Go.Proofs.Try.isAgg138 w, Go.Proofs.Try.sizeOf138 w⟩) rfl m8⟩, rfl, trivial⟩ ?_
    unfold DelQ
    rw [show Pl.dlr OI mx x (Gt.L 0 (((⟨np, niso, ncnt, nib, nio, nic, ncb, nkb, nko, nkc⟩ : Ng), X) : Gt EI 0)) = none from Pl.dlr_none OI hsel]
    exact ⟨rfl, hQ⟩
  · -- found
    refine Go'.condT rfl ?_
    refine Go'.seq ?_
    have hil : i < X.length := hsel.1 rfl
    obtain ⟨y, hy⟩ : ∃ y, X[i]? = some y := ⟨X[i], List.getElem?_eq_getElem hil⟩
    -- region 9 (map.go:372)
    refine Go'.region [(0, 0), (1, 0), (2, 0), (3, 1), (4, 0), (5, 0), (6, 1), (7, 2), (8, 2)] rfl ?_
    refine O.mv rfl rfl rfl rfl rfl ?_
    refine O.nc rfl rfl rfl rfl rfl ?_
    refine O.fa0 (off := 2) rfl rfl rfl rfl ⟨_, _, _, Go.Proofs.Try.underlying205, rfl, rfl, Go.Proofs.Try.sizeOf202⟩ rfl ?_
    refine O.ld rfl rfl rfl (fun w => ⟨Go.Proofs.Try.isAgg202 w, Go.Proofs.Try.sizeOf202 w⟩) rfl (show cl _ np 2 = some (.slice (some ⟨nib, nio, none⟩) X.length nic) from hn.c2) ?_
    refine O.mv rfl rfl rfl rfl rfl ?_
    refine O.ix (j := i) rfl rfl rfl rfl Go.Proofs.Try.underlying202 Go.Proofs.Try.sizeOf138 rfl rfl (by omega) (by omega) ?_
    refine O.lds rfl rfl rfl (fun w => ⟨Go.Proofs.Try.isAgg138 w, Go.Proofs.Try.sizeOf138 w⟩) rfl rfl (hn.sl.item hy) ?_
    refine O.alloc rfl rfl rfl Go.Proofs.Try.zeroValue138 ?_
    intro H3 MH3
    refine ⟨trivial, ?_⟩
    have hsH3 := MH3.size
    replace hn := NodeM.fr EI hn (MH3.fr nowhere) (fun _ _ _ => nw)
    replace tc := tc.fr (MH3.fr nowhere) (fun _ _ _ => nw)
    replace hF := hF.trans' (MH3.fr nowhere) (fun _ _ _ h => h) (fun _ _ _ h => h.elim)
    replace w8 := Fr.wr (MH3.fr nowhere) w8
    replace hQ := hQ.trans (MH3.fr nowhere)
    have w13 : Wr H3 H1.size 0 1 := MH3.wr 1 (by decide)
    obtain ⟨b13, eb13⟩ : ∃ z, z = H1.size := ⟨_, rfl⟩
    rw [← eb13] at w13 ⊢
    refine O.st rfl rfl Go.Proofs.Try.sizeOf138 rfl rfl rfl rfl rfl w13 ?_
    intro H4 WH4
    have hsH4 := WH4.size
    replace hn := NodeM.fr EI hn WH4.fr (fun b o hb => nr (.inl (by have := hlt b o hb; omega)))
    replace tc := tc.fr WH4.fr (fun o _ _ => nr (.inl (by omega)))
    replace hF := hF.trans' WH4.fr (fun _ _ _ h => h) (fun b o hb h => by simp only [rng] at h; omega)
    replace hQ := hQ.trans' WH4.fr (fun _ _ _ h => h) (fun b o hb h => by simp only [rng] at h; omega)
    replace w8 := Fr.wr WH4.fr w8
    replace w13 := Fr.wr WH4.fr w13
    have m13 : Rd H4 b13 0 (EI.enc y) := WH4.all
    refine ⟨trivial, ?_⟩
    refine Pl.fin [(0, _), (2, _), (3, _), (8, _), (9, _), (10, _), (11, _), (12, _), (13, _)] ⟨rfl, rfl, rfl, rfl, rfl, rfl, rfl, rfl, rfl, trivial⟩ ?_
    refine Go'.seq ?_
    have hxd : X.length - (i + 1) + (i + 1) = X.length := by omega
    -- region 10 (map.go:373)
    refine Go'.draw (fun _ => True) [(0, 0), (1, 0), (2, 0), (3, 1), (4, 0), (5, 0), (6, 0), (7, 0), (8, 0), (9, 1), (10, 0), (11, 0), (12, 0), (13, 2)] (by kernel_rfl) (by kernel_rfl) (trivial) ?_
    refine O.mv rfl rfl rfl rfl rfl ?_
    refine O.nc rfl rfl rfl rfl rfl ?_
    refine O.fa0 (off := 2) rfl rfl rfl rfl ⟨_, _, _, Go.Proofs.Try.underlying205, rfl, rfl, Go.Proofs.Try.sizeOf202⟩ rfl ?_
    refine O.ld rfl rfl rfl (fun w => ⟨Go.Proofs.Try.isAgg202 w, Go.Proofs.Try.sizeOf202 w⟩) rfl (show cl _ np 2 = some (.slice (some ⟨nib, nio, none⟩) X.length nic) from hn.c2) ?_
    refine O.mv rfl rfl rfl rfl rfl ?_
    refine O.slc (jl := i) (jh := X.length) (jm := nic) rfl rfl rfl rfl Go.Proofs.Try.underlying202 Go.Proofs.Try.sizeOf138 rfl rfl rfl ⟨_, by rfl⟩ (by omega) (by omega) (by simp) (by simp) ?_
    intro od hod
    refine O.mv rfl rfl rfl rfl rfl ?_
    refine O.nc rfl rfl rfl rfl rfl ?_
    refine O.fa0 (off := 2) rfl rfl rfl rfl ⟨_, _, _, Go.Proofs.Try.underlying205, rfl, rfl, Go.Proofs.Try.sizeOf202⟩ rfl ?_
    refine O.ld rfl rfl rfl (fun w => ⟨Go.Proofs.Try.isAgg202 w, Go.Proofs.Try.sizeOf202 w⟩) rfl (show cl _ np 2 = some (.slice (some ⟨nib, nio, none⟩) X.length nic) from hn.c2) ?_
    refine O.mv rfl rfl rfl rfl rfl ?_
    refine O.add (((i + 1 : Nat) : Int)) rfl rfl rfl rfl rfl rfl (by omega) (by omega) ?_
    refine O.slc (jl := i + 1) (jh := X.length) (jm := nic) rfl rfl rfl rfl Go.Proofs.Try.underlying202 Go.Proofs.Try.sizeOf138 rfl rfl rfl ⟨_, by rfl⟩ (by omega) (by omega) (by simp) (by simp) ?_
    intro os2 hos2
    refine O.copy (b := nib) (o := (nio + (i) * 1)) (j := (X.length - (i + 1))) (cs := (row EI (X.drop (i + 1)))) rfl rfl rfl ⟨Go.Proofs.Try.underlying202, Go.Proofs.Try.sizeOf138, Go.Proofs.Try.zeroValue138, ⟨_, Go.Proofs.Try.typeInfo138, rfl⟩, rfl, by decide, by decide⟩ rfl rfl (show _ = min _ _ by omega) ((Nat.lt_or_ge (i) nic).elim (fun h => .inl (by rw [hod h])) (fun h => .inr (by omega))) (.inl ⟨_, _, _, rfl, hn.sl.rdDrop (i := i + 1) hos2 (by omega)⟩) (by rw [row_len]; first | rfl | (congr 1; simp only [List.length_drop]; try omega)) (row_ones EI _) (hn.sl.wrm (i := i) (m := X.length - (i + 1)) (by omega)) ?_
    intro H5 WH5
    have hyl : (X.drop (i + 1)).length = X.length - (i + 1) := by simp only [List.length_drop]; try omega
    have fW : Fr (ncl EI (⟨np, niso, ncnt, nib, nio, nic, ncb, nkb, nko, nkc⟩ : Ng)) H4 H5 := (NodeM.fCpy hn (i := i) (Y := X.drop (i + 1)) WH5 (by omega))
    replace tc := tc.fr fW (fun o _ _ hz => tn tr o hz rfl)
    replace hF := Fr.tot hF fW sn (fun _ _ h => h)
    replace w8 := Fr.wr fW w8
    replace w13 := Fr.wr fW w13
    replace m13 := Fr.rd fW m13 (fun _ _ hz => by have := hlt _ _ hz; omega)
    clear hQ
    obtain ⟨nX1, enX1, hn⟩ : ∃ X1, X1 = X.take (i) ++ X.drop (i + 1) ++ X.drop (i + (X.drop (i + 1)).length) ∧ NodeM EI H5 (⟨np, niso, ncnt, nib, nio, nic, ncb, nkb, nko, nkc⟩ : Ng) (X1) (.pointer none) := ⟨_, rfl, hn.cpy (i := i) (Y := X.drop (i + 1)) WH5 (by omega)⟩
    have lnX1 : nX1.length = X.length := by rw [enX1]; simp only [List.length_append, List.length_take, List.length_drop]; omega
    clear fW
    clear hyl
    refine ⟨trivial, ?_⟩
    refine Pl.fin [(0, _), (2, _), (3, _), (8, _), (9, _), (10, _), (11, _), (12, _), (13, _)] ⟨rfl, rfl, rfl, rfl, rfl, rfl, rfl, rfl, rfl, trivial⟩ ?_
    refine Go'.seq ?_
    -- region 11 (map.go:374)
    refine Go'.draw (fun _ => True) [(0, 0), (1, 0), (2, 0), (3, 1), (4, 0), (5, 0), (6, 0), (7, 1), (8, 0), (9, 0), (10, 0), (11, 0), (12, 0), (13, 1), (14, 0), (15, 3)] (by kernel_rfl) (by kernel_rfl) (trivial) ?_
    refine O.mv rfl rfl rfl rfl rfl ?_
    refine O.nc rfl rfl rfl rfl rfl ?_
    refine O.fa0 (off := 2) rfl rfl rfl rfl ⟨_, _, _, Go.Proofs.Try.underlying205, rfl, rfl, Go.Proofs.Try.sizeOf202⟩ rfl ?_
    refine O.ld rfl rfl rfl (fun w => ⟨Go.Proofs.Try.isAgg202 w, Go.Proofs.Try.sizeOf202 w⟩) rfl (show cl _ np 2 = some (.slice (some ⟨nib, nio, none⟩) nX1.length nic) from hn.c2) ?_
    refine O.mv rfl rfl rfl rfl rfl ?_
    refine O.nc rfl rfl rfl rfl rfl ?_
    refine O.fa0 (off := 2) rfl rfl rfl rfl ⟨_, _, _, Go.Proofs.Try.underlying205, rfl, rfl, Go.Proofs.Try.sizeOf202⟩ rfl ?_
    refine O.ld rfl rfl rfl (fun w => ⟨Go.Proofs.Try.isAgg202 w, Go.Proofs.Try.sizeOf202 w⟩) rfl (show cl _ np 2 = some (.slice (some ⟨nib, nio, none⟩) nX1.length nic) from hn.c2) ?_
    refine O.len rfl rfl rfl rfl Go.Proofs.Try.underlying202 rfl ?_
    refine O.sub (((nX1.length - 1 : Nat) : Int)) rfl rfl rfl rfl rfl rfl (by omega) (by omega) ?_
    refine O.mv rfl rfl rfl rfl rfl ?_
    refine O.nc rfl rfl rfl rfl rfl ?_
    refine O.fa0 (off := 4) rfl rfl rfl rfl ⟨_, _, _, Go.Proofs.Try.underlying140, rfl, rfl, Go.Proofs.Try.sizeOf138⟩ rfl ?_
    refine O.lds rfl rfl rfl (fun w => ⟨Go.Proofs.Try.isAgg138 w, Go.Proofs.Try.sizeOf138 w⟩) rfl rfl tc.emp ?_
    refine O.ix (j := nX1.length - 1) rfl rfl rfl rfl Go.Proofs.Try.underlying202 Go.Proofs.Try.sizeOf138 rfl rfl (by omega) (by omega) ?_
    refine O.st3 rfl rfl Go.Proofs.Try.sizeOf138 rfl rfl rfl rfl rfl (hn.sl.wri (i := nX1.length - 1) (by omega)) ?_
    intro H6 WH6
    have fW : Fr (ncl EI (⟨np, niso, ncnt, nib, nio, nic, ncb, nkb, nko, nkc⟩ : Ng)) H5 H6 := (NodeM.fSet hn (i := nX1.length - 1) (x := (0 : Int)) WH6 (by omega))
    replace tc := tc.fr fW (fun o _ _ hz => tn tr o hz rfl)
    replace hF := Fr.tot hF fW sn (fun _ _ h => h)
    replace w8 := Fr.wr fW w8
    replace w13 := Fr.wr fW w13
    replace m13 := Fr.rd fW m13 (fun _ _ hz => by have := hlt _ _ hz; omega)
    obtain ⟨nX2, enX2, hn⟩ : ∃ X1, X1 = nX1.take (nX1.length - 1) ++ (0 : Int) :: nX1.drop (nX1.length - 1 + 1) ∧ NodeM EI H6 (⟨np, niso, ncnt, nib, nio, nic, ncb, nkb, nko, nkc⟩ : Ng) (X1) (.pointer none) := ⟨_, rfl, hn.set (i := nX1.length - 1) (x := (0 : Int)) WH6 (by omega)⟩
    have lnX2 : nX2.length = nX1.length := by rw [enX2]; simp only [List.length_append, List.length_take, List.length_cons, List.length_drop]; omega
    clear fW
    refine Pl.fin [(0, _), (2, _), (3, _), (8, _), (9, _), (10, _), (11, _), (12, _), (13, _)] ⟨rfl, rfl, rfl, rfl, rfl, rfl, rfl, rfl, rfl, trivial⟩ ?_
    refine Go'.seq ?_
    -- region 12 (map.go:375)
    refine Go'.draw (fun _ => True) [(0, 0), (1, 0), (2, 0), (3, 0), (4, 1), (5, 0), (6, 0), (7, 0), (8, 1), (9, 0), (10, 0), (11, 0), (12, 0), (13, 0), (14, 3)] (by kernel_rfl) (by kernel_rfl) (trivial) ?_
    refine O.mv rfl rfl rfl rfl rfl ?_
    refine O.mv rfl rfl rfl rfl rfl ?_
    refine O.nc rfl rfl rfl rfl rfl ?_
    refine O.fa0 (off := 2) rfl rfl rfl rfl ⟨_, _, _, Go.Proofs.Try.underlying205, rfl, rfl, Go.Proofs.Try.sizeOf202⟩ rfl ?_
    refine O.ld rfl rfl rfl (fun w => ⟨Go.Proofs.Try.isAgg202 w, Go.Proofs.Try.sizeOf202 w⟩) rfl (show cl _ np 2 = some (.slice (some ⟨nib, nio, none⟩) nX2.length nic) from hn.c2) ?_
    refine O.mv rfl rfl rfl rfl rfl ?_
    refine O.nc rfl rfl rfl rfl rfl ?_
    refine O.fa0 (off := 2) rfl rfl rfl rfl ⟨_, _, _, Go.Proofs.Try.underlying205, rfl, rfl, Go.Proofs.Try.sizeOf202⟩ rfl ?_
    refine O.ld rfl rfl rfl (fun w => ⟨Go.Proofs.Try.isAgg202 w, Go.Proofs.Try.sizeOf202 w⟩) rfl (show cl _ np 2 = some (.slice (some ⟨nib, nio, none⟩) nX2.length nic) from hn.c2) ?_
    refine O.len rfl rfl rfl rfl Go.Proofs.Try.underlying202 rfl ?_
    refine O.sub (((nX2.length - 1 : Nat) : Int)) rfl rfl rfl rfl rfl rfl (by omega) (by omega) ?_
    refine O.slc (jl := 0) (jh := nX2.length - 1) (jm := nic) rfl rfl rfl rfl Go.Proofs.Try.underlying202 Go.Proofs.Try.sizeOf138 rfl rfl ⟨_, by rfl⟩ rfl (by omega) (by omega) (by simp) (by simp) ?_
    intro oc hoc
    have hoc2 : nio = oc := by rw [hoc (by omega)]; simp
    subst hoc2
    rw [Nat.sub_zero]
    refine O.nc rfl rfl rfl rfl rfl ?_
    refine O.fa0 (off := 2) rfl rfl rfl rfl ⟨_, _, _, Go.Proofs.Try.underlying205, rfl, rfl, Go.Proofs.Try.sizeOf202⟩ rfl ?_
    refine O.st3 rfl rfl Go.Proofs.Try.sizeOf202 rfl rfl rfl rfl rfl (hn.wr.at0 2 1 (by omega)) ?_
    intro H7 WH7
    have fW : Fr (ncl EI (⟨np, niso, ncnt, nib, nio, nic, ncb, nkb, nko, nkc⟩ : Ng)) H6 H7 := (Wrote.fHdr (E := EI) (g := (⟨np, niso, ncnt, nib, nio, nic, ncb, nkb, nko, nkc⟩ : Ng)) WH7 (by omega))
    replace tc := tc.fr fW (fun o _ _ hz => tn tr o hz rfl)
    replace hF := Fr.tot hF fW sn (fun _ _ h => h)
    replace w8 := Fr.wr fW w8
    replace w13 := Fr.wr fW w13
    replace m13 := Fr.rd fW m13 (fun _ _ hz => by have := hlt _ _ hz; omega)
    obtain ⟨nX3, enX3, hn⟩ : ∃ X1, X1 = nX2.take (nX2.length - 1) ∧ NodeM EI H7 (⟨np, niso, ncnt, nib, nio, nic, ncb, nkb, nko, nkc⟩ : Ng) (X1) (.pointer none) := ⟨_, rfl, hn.cut WH7 (by omega)⟩
    have lnX3 : nX3.length = nX2.length - 1 := by rw [enX3]; simp only [List.length_take]; omega
    clear fW
    refine Pl.fin [(0, _), (2, _), (3, _), (8, _), (9, _), (10, _), (11, _), (12, _), (13, _)] ⟨rfl, rfl, rfl, rfl, rfl, rfl, rfl, rfl, rfl, trivial⟩ ?_
    refine Go'.seq ?_
    -- region 13 (map.go:376)
    refine Go'.region [(0, 0), (1, 0), (2, 0), (3, 1), (4, 0), (5, 0), (6, 0), (7, 2)] rfl ?_
    refine O.mv rfl rfl rfl rfl rfl ?_
    refine O.nc rfl rfl rfl rfl rfl ?_
    refine O.fa0 (off := 1) rfl rfl rfl rfl ⟨_, _, _, Go.Proofs.Try.underlying205, rfl, rfl, Go.Proofs.Try.sizeOf3⟩ rfl ?_
    refine O.ld rfl rfl rfl (fun w => ⟨Go.Proofs.Try.isAgg3 w, Go.Proofs.Try.sizeOf3 w⟩) rfl (show cl _ np 1 = some (.int .i64 (ncnt : Int)) from hn.c1) ?_
    refine O.sub (((ncnt - 1 : Nat) : Int)) rfl rfl rfl rfl rfl rfl (by omega) (by omega) ?_
    refine O.nc rfl rfl rfl rfl rfl ?_
    refine O.fa0 (off := 1) rfl rfl rfl rfl ⟨_, _, _, Go.Proofs.Try.underlying205, rfl, rfl, Go.Proofs.Try.sizeOf3⟩ rfl ?_
    refine O.st rfl rfl Go.Proofs.Try.sizeOf3 rfl rfl rfl rfl rfl (hn.wr.at0 1 1 (by omega)) ?_
    intro H8 WH8
    have fW : Fr (ncl EI (⟨np, niso, ncnt, nib, nio, nic, ncb, nkb, nko, nkc⟩ : Ng)) H7 H8 := (Wrote.fHdr (E := EI) (g := (⟨np, niso, ncnt, nib, nio, nic, ncb, nkb, nko, nkc⟩ : Ng)) WH8 (by omega))
    replace tc := tc.fr fW (fun o _ _ hz => tn tr o hz rfl)
    replace hF := Fr.tot hF fW sn (fun _ _ h => h)
    replace w8 := Fr.wr fW w8
    replace w13 := Fr.wr fW w13
    replace m13 := Fr.rd fW m13 (fun _ _ hz => by have := hlt _ _ hz; omega)
    obtain ⟨ncnt_8, encnt_8⟩ : ∃ z, z = ncnt - 1 := ⟨_, rfl⟩
    rw [← encnt_8] at WH8
    replace hn : NodeM EI H8 (⟨np, niso, ncnt_8, nib, nio, nic, ncb, nkb, nko, nkc⟩ : Ng) (nX3) (.pointer none) := hn.count WH8
    clear fW
    refine ⟨trivial, ?_⟩
    refine Pl.fin [(0, _), (2, _), (3, _), (8, _), (9, _), (10, _), (11, _), (12, _), (13, _)] ⟨rfl, rfl, rfl, rfl, rfl, rfl, rfl, rfl, rfl, trivial⟩ ?_
    refine Go'.seq ?_
    -- region 14 (map.go:377)
    refine Go'.region [(0, 1), (1, 2), (2, 0)] rfl ?_
    refine O.lds rfl rfl rfl (fun w => ⟨Go.Proofs.Try.isAgg138 w, Go.Proofs.Try.sizeOf138 w⟩) rfl rfl m13 ?_
    refine O.st rfl rfl Go.Proofs.Try.sizeOf138 rfl rfl rfl rfl rfl w8 ?_
    intro H9 WH9
    have hsH9 := WH9.size
    replace hn := NodeM.fr EI hn WH9.fr (fun b o hb => nr (.inl (by have := hlt b o hb; omega)))
    replace tc := tc.fr WH9.fr (fun o _ _ => nr (.inl (by omega)))
    replace hF := hF.trans' WH9.fr (fun _ _ _ h => h) (fun b o hb h => by simp only [rng] at h; omega)
    replace w8 := Fr.wr WH9.fr w8
    replace w13 := Fr.wr WH9.fr w13
    replace m13 := Fr.rd WH9.fr m13 (fun _ _ => nr (.inl (by omega)))
    have m8 : Rd H9 H.size 0 (EI.enc y) := WH9.all
    refine ⟨trivial, ?_⟩
    refine O.asg rfl rfl rfl rfl rfl ?_
    refine Pl.fin [(0, _), (2, _), (3, _), (8, _), (9, _), (10, _), (11, _), (12, _)] ⟨rfl, rfl, rfl, rfl, rfl, rfl, rfl, rfl, trivial⟩ ?_
    refine Go'.ret (vs := [_, _]) Go.Proofs.Try.func166 Go.Proofs.Try.results166 ⟨⟨_, _, rfl, fun _ _ => run_loadVar_agg (fun w => ⟨Go.Proofs.Try.isAgg138 w, Go.Proofs.Try.sizeOf138 w⟩) rfl m8⟩, rfl, trivial⟩ ?_
    have hX : nX3 = X.take i ++ X.drop (i + 1) := by
      rw [enX3, lnX2, lnX1, enX2, lnX1, enX1]
      exact Pl.cut_at X _ i hil
    unfold DelQ
    rw [show Pl.dlr OI mx x (Gt.L 0 (((⟨np, niso, ncnt, nib, nio, nic, ncb, nkb, nko, nkc⟩ : Ng), X) : Gt EI 0)) = some (y, X.take i ++ X.drop (i + 1)) from Pl.dlr_leaf OI hsel hy]
    exact ⟨(((⟨np, niso, ncnt_8, nib, nio, nic, ncb, nkb, nko, nkc⟩ : Ng), nX3) : Gt EI 0), rfl, hF, ⟨hn, hiso, (show ncnt_8 = nX3.length by omega), (show nX3.length ≤ P.mx by omega)⟩, rfl, fun b o hb => .inl hb, hX, (show X.length ≤ nX3.length + 1 by omega)⟩

end Go.Bt.FZ
namespace Go.Bt.FZ
open Go Go.Proofs
set_option maxRecDepth 20000
set_option maxHeartbeats 4000000
set_option linter.unusedVariables false

theorem DelQ.uni {H : Mem} {P : Ps} {h : Nat} {t : Gt EI h} {mx : Bool} {x : Int} {v : Value} {H' : Mem} (hq : DelQ H P h t mx x v H') : ∃ y bb, v = .tuple #[.agg (EI.enc y).toArray, .bool bb] ∧ Fr (Gt.af h t) H H' ∧
    ((bb = false ∧ Pl.dlr OI mx x (Gt.L h t) = none ∧ Fr nowhere H H') ∨ (bb = true ∧ ∃ L' t', Pl.dlr OI mx x (Gt.L h t) = some (y, L') ∧ DelT H H' P h t t' L')) := by
  unfold DelQ at hq
  cases e : Pl.dlr OI mx x (Gt.L h t) with
  | none =>
    rw [e] at hq
    exact ⟨_, _, hq.1, hq.2.mono fun _ _ _ h => h.elim, .inl ⟨rfl, rfl, hq.2⟩⟩
  | some r =>
    obtain ⟨y, L'⟩ := r
    rw [e] at hq
    obtain ⟨t', e1, hd⟩ := hq
    exact ⟨_, _, e1, hd.fr, .inr ⟨rfl, L', t', rfl, hd⟩⟩
theorem del_step {B : World} {tr : Nat} {P : Ps} (hP : PsOk P) {h : Nat} (ih : ∀ {H : Mem} {bp op : Nat} {mx : Bool} {x : Int} {t : Gt EI h}, DPre H tr P h t bp op → Fn Try.prog B 166 [.pointer (some ⟨tr, 0, none⟩), .pointer (some ⟨bp, op, none⟩), .bool mx, .int .i64 x] H (DelQ H P h t mx x))
    {H : Mem} {bp op : Nat} {mx : Bool} {x : Int} {t : Gt EI (h + 1)} (hp : DPre H tr P (h + 1) t bp op) :
    Fn Try.prog B 166 [.pointer (some ⟨tr, 0, none⟩), .pointer (some ⟨bp, op, none⟩), .bool mx, .int .i64 x] H (DelQ H P (h + 1) t mx x) := by
  obtain ⟨⟨np, niso, ncnt, nib, nio, nic, ncb, nkb, nko, nkc⟩, X, K⟩ := t
  obtain ⟨tc, hg, hc, tn, hs, hlen, hx1⟩ := hp
  replace hx1 : 1 ≤ X.length := hx1
  have hn : Inn H P h (⟨np, niso, ncnt, nib, nio, nic, ncb, nkb, nko, nkc⟩ : Ng) X ((Gt.ps h K).map some) K := hg.inn
  have hiso : niso = P.iso := hn.iso
  have hKl : K.length = X.length + 1 := hg.2.2.2.2.2.1
  have hxm : X.length ≤ P.mx := hg.2.2.2.2.1
  have hmn := hP.h1
  have hmm := hP.hm
  have hx255 := hP.hx
  have hKL : (K.map (Gt.L h)).length = X.length + 1 := by rw [List.length_map]; exact hKl
  replace hs : Pl.Srt OI (Pl.inter X (K.map (Gt.L h))) := hs
  replace hlen : (Pl.inter X (K.map (Gt.L h))).length < 4611686018427387904 := hlen
  have hcnt : ncnt = (Pl.inter X (K.map (Gt.L h))).length := hg.2.2.2.1
  have hsX : Pl.Srt OI X := hs.sublist (Pl.sublist_inter X _ (by omega))
  have hil := Pl.inter_length X (K.map (Gt.L h)) hKL
  replace tn : ∀ b o, (innc (E := EI) h (⟨np, niso, ncnt, nib, nio, nic, ncb, nkb, nko, nkc⟩ : Ng) (K)) b o → ¬ (b = tr) := tn
  have hlt : ∀ b o, (innc (E := EI) h (⟨np, niso, ncnt, nib, nio, nic, ncb, nkb, nko, nkc⟩ : Ng) (K)) b o → b < H.size := fun b o hb => hn.lt hb
  have hD : ∀ b, (b = tr) → b < H.size := fun b hb => by subst hb; exact cl_lt tc.iso
  have htl : tr < H.size := cl_lt tc.iso
  have hn00 := hn
  have hF : Fr (Gt.af (h + 1) (((⟨np, niso, ncnt, nib, nio, nic, ncb, nkb, nko, nkc⟩ : Ng), X, K) : Gt EI (h + 1))) H H := Fr.refl _ _
  have hQ : Fr nowhere H H := Fr.refl _ _
  have hol : ((Gt.ps h K).map some).length = K.length := by rw [List.length_map, Gt.ps, List.length_map]
  have hoi : ∀ {j k}, K[j]? = some k → ((Gt.ps h K).map some)[j]? = some (some (Gt.p h k)) := fun hk => by rw [Gt.ps, List.map_map, List.getElem?_map, hk]; rfl
  generalize hos : (Gt.ps h K).map some = os at *
  have sn : Gro H (innc (E := EI) h (⟨np, niso, ncnt, nib, nio, nic, ncb, nkb, nko, nkc⟩ : Ng) (K)) (innc (E := EI) h (⟨np, niso, ncnt, nib, nio, nic, ncb, nkb, nko, nkc⟩ : Ng) (K)) := Gro.refl _ _
  have hkd : ∀ {j k}, K[j]? = some k → Gt.Good H P h k ∧ P.mn ≤ (Gt.X h k).length ∧ Pl.Srt OI (Gt.L h k) ∧ (Gt.L h k).length < 4611686018427387904 := fun {j k} hk => by
    have hkK := List.mem_of_getElem? hk
    obtain ⟨q1, q2, _⟩ := hn.c.1 k hkK
    have hkL : (K.map (Gt.L h))[j]? = some (Gt.L h k) := by rw [List.getElem?_map, hk]; rfl
    have e := Pl.inter_self hKL hkL
    refine ⟨q1, q2, ?_, ?_⟩
    · have h9 := hs
      rw [e, Pl.Srt.append, Pl.Srt.append] at h9
      exact h9.1.2.1
    · have h9 := hlen
      rw [e, List.length_append, List.length_append] at h9
      omega
  have hklt : ∀ {j k}, K[j]? = some k → ∀ b o, Gt.af h k b o → b < H.size := fun hk b o hb => hlt b o (.inr (.inr ⟨_, List.mem_of_getElem? hk, hb⟩))
  refine fn_of Go.Proofs.Try.func166 rfl Go.Proofs.Try.ntmps166 ?_
  refine (show Go' _ _ _ _ 205 [(0, _), (1, _), (2, _), (3, _)] [.code _] _ from ?_)
  refine Go'.seq ?_
  -- region 0 (map.go:359)
  refine Go'.region [(0, 2), (1, 0)] rfl ?_
  refine O.alloc rfl rfl rfl Go.Proofs.Try.zeroValue138 ?_
  intro H1 MH1
  refine ⟨trivial, ?_⟩
  have hsH1 := MH1.size
  replace hn := hn.fr (MH1.fr nowhere) (fun _ _ _ => nw)
  replace tc := tc.fr (MH1.fr nowhere) (fun _ _ _ => nw)
  replace hF := hF.trans' (MH1.fr nowhere) (fun _ _ _ h => h) (fun _ _ _ h => h.elim)
  replace hQ := hQ.trans (MH1.fr nowhere)
  have w8 : Wr H1 H.size 0 1 := MH1.wr 1 (by decide)
  refine O.asg rfl rfl rfl rfl rfl ?_
  refine Pl.fin [(0, _), (1, _), (2, _), (3, _), (8, _), (9, _)] ⟨rfl, rfl, rfl, rfl, rfl, rfl, trivial⟩ ?_
  refine Go'.seq ?_
  have hc0 : cl H1 np 0 = some (.int .u64 (P.iso : Int)) := by have := hn.n.c0; simp only [hiso] at this; exact this
  -- region 1 (map.go:361)
  refine Go'.region [(0, 0), (1, 0), (2, 2), (3, 0)] rfl ?_
  refine O.mv rfl rfl rfl rfl rfl ?_
  refine O.mv rfl rfl rfl rfl rfl ?_
  refine O.callQ rfl rfl rfl Go.Proofs.Try.call151 rfl (isoLoad_spec true (Fr.keep (MH1.fr nowhere) hc nw) hc0 tc.iso) trivial ?_
  refine O.asg rfl rfl rfl rfl rfl ?_
  refine Pl.fin [(0, _), (2, _), (3, _), (8, _), (9, _), (10, _)] ⟨rfl, rfl, rfl, rfl, rfl, rfl, trivial⟩ ?_
  refine Go'.seq ?_
  -- region 2 (map.go:362)
  refine Go'.region [(0, 0)] rfl ?_
  refine O.asg rfl rfl rfl rfl rfl ?_
  refine Pl.fin [(0, _), (2, _), (3, _), (8, _), (9, _), (10, _), (11, _)] ⟨rfl, rfl, rfl, rfl, rfl, rfl, rfl, trivial⟩ ?_
  refine Go'.seq ?_
  -- region 3 (map.go:363)
  refine Go'.region [(0, 0)] rfl ?_
  refine O.asg rfl rfl rfl rfl rfl ?_
  refine Pl.fin [(0, _), (2, _), (3, _), (8, _), (9, _), (10, _), (11, _), (12, _)] ⟨rfl, rfl, rfl, rfl, rfl, rfl, rfl, rfl, trivial⟩ ?_
  refine Go'.seq ?_
  refine Go'.seq ?_
  -- region 4 (map.go:364)
  refine Go'.region [(0, 0)] rfl ?_
  refine O.mv rfl rfl rfl rfl rfl ?_
  refine Pl.fin [(0, _), (2, _), (3, _), (8, _), (9, _), (10, _), (11, _), (12, _), (21, _)] ⟨rfl, rfl, rfl, rfl, rfl, rfl, rfl, rfl, rfl, trivial⟩ ?_
  refine Go'.join (σ := Nat × Bool) (fun s H' => H' = H1 ∧ Pl.Sel OI mx x X s) (fun s => [(0, .pointer (some ⟨tr, 0, none⟩)), (2, .bool mx), (3, .int .i64 x), (8, .pointer (some ⟨H.size, 0, none⟩)), (9, .bool false), (10, .pointer (some ⟨np, 0, none⟩)), (11, .int .i64 (s.1 : Int)), (12, .bool s.2)]) ?_ ?_
  rotate_left
  · intro tail
    cases mx
    · skip
      refine Go'.condF rfl ?_
      -- region 6 (map.go:367)
      refine Go'.region [(0, 0), (1, 0), (2, 0), (3, 2), (4, 0), (5, 0), (6, 0), (7, 0), (8, 0)] rfl ?_
      refine O.mv rfl rfl rfl rfl rfl ?_
      refine O.mv rfl rfl rfl rfl rfl ?_
      refine O.mv rfl rfl rfl rfl rfl ?_
      refine O.callQ rfl rfl rfl Go.Proofs.Try.call168 rfl (search_spec x hn.n hsX (by omega)) trivial ?_
      refine O.mv rfl rfl rfl rfl rfl ?_
      refine O.ext rfl rfl rfl rfl rfl rfl ?_
      refine O.ext rfl rfl rfl rfl rfl rfl ?_
      refine O.asg rfl rfl rfl rfl rfl ?_
      refine O.asg rfl rfl rfl rfl rfl ?_
      refine Pl.fin [(0, _), (2, _), (3, _), (8, _), (9, _), (10, _), (11, _), (12, _)] ⟨rfl, rfl, rfl, rfl, rfl, rfl, rfl, rfl, trivial⟩ ?_
      refine Go'.keep [(0, _), (2, _), (3, _), (8, _), (9, _), (10, _), (11, _), (12, _)] ⟨rfl, rfl, rfl, rfl, rfl, rfl, rfl, rfl, trivial⟩ ?_
      exact tail (Pl.pos OI x X, Pl.fnd OI x X) H1 ⟨rfl, Pl.sel_key OI x X⟩
    · skip
      refine Go'.condT rfl ?_
      -- region 5 (map.go:365)
      refine Go'.region [(0, 0), (1, 0), (2, 0), (3, 1), (4, 0), (5, 0), (6, 0), (7, 0)] rfl ?_
      refine O.mv rfl rfl rfl rfl rfl ?_
      refine O.nc rfl rfl rfl rfl rfl ?_
      refine O.fa0 (off := 2) rfl rfl rfl rfl ⟨_, _, _, Go.Proofs.Try.underlying205, rfl, rfl, Go.Proofs.Try.sizeOf202⟩ rfl ?_
      refine O.ld rfl rfl rfl (fun w => ⟨Go.Proofs.Try.isAgg202 w, Go.Proofs.Try.sizeOf202 w⟩) rfl (show cl _ np 2 = some (.slice (some ⟨nib, nio, none⟩) X.length nic) from hn.n.c2) ?_
      refine O.len rfl rfl rfl rfl Go.Proofs.Try.underlying202 rfl ?_
      refine O.sub (((X.length - 1 : Nat) : Int)) rfl rfl rfl rfl rfl rfl (by omega) (by omega) ?_
      refine O.asg rfl rfl rfl rfl rfl ?_
      refine O.asg rfl rfl rfl rfl rfl ?_
      refine Pl.fin [(0, _), (2, _), (3, _), (8, _), (9, _), (10, _), (11, _), (12, _)] ⟨rfl, rfl, rfl, rfl, rfl, rfl, rfl, rfl, trivial⟩ ?_
      refine Go'.keep [(0, _), (2, _), (3, _), (8, _), (9, _), (10, _), (11, _), (12, _)] ⟨rfl, rfl, rfl, rfl, rfl, rfl, rfl, rfl, trivial⟩ ?_
      exact tail (X.length - 1, true) H1 ⟨rfl, Pl.sel_max OI x hx1⟩
  rintro ⟨i, fo⟩ H' ⟨hHH, hsel⟩
  have e : H1 = H' := hHH.symm
  subst e
  clear hHH
  simp only
  refine Go'.seq ?_
  refine Go'.seq ?_
  -- region 7 (map.go:369)
  refine Go'.region [(0, 0), (1, 2)] rfl ?_
  refine O.mv rfl rfl rfl rfl rfl ?_
  refine O.callQ rfl rfl rfl Go.Proofs.Try.call152 rfl (leaf_spec hn.n.c3) trivial ?_
  refine Pl.fin [(0, _), (2, _), (3, _), (8, _), (9, _), (10, _), (11, _), (12, _), (36, _)] ⟨rfl, rfl, rfl, rfl, rfl, rfl, rfl, rfl, rfl, trivial⟩ ?_
  refine Go'.condF rfl ?_
  refine Go'.skip ?_
  refine Go'.seq ?_
  -- region 16 (map.go:382)
  refine Go'.region [(0, 2)] rfl ?_
  refine O.alloc rfl rfl rfl Go.Proofs.Try.zeroValue138 ?_
  intro H2 MH2
  refine ⟨trivial, ?_⟩
  have hsH2 := MH2.size
  replace hn := hn.fr (MH2.fr nowhere) (fun _ _ _ => nw)
  replace tc := tc.fr (MH2.fr nowhere) (fun _ _ _ => nw)
  replace hF := hF.trans' (MH2.fr nowhere) (fun _ _ _ h => h) (fun _ _ _ h => h.elim)
  replace w8 := Fr.wr (MH2.fr nowhere) w8
  replace hQ := hQ.trans (MH2.fr nowhere)
  have w14 : Wr H2 H1.size 0 1 := MH2.wr 1 (by decide)
  obtain ⟨b14, eb14⟩ : ∃ z, z = H1.size := ⟨_, rfl⟩
  rw [← eb14] at w14 ⊢
  refine Pl.fin [(0, _), (2, _), (3, _), (8, _), (9, _), (10, _), (11, _), (12, _), (14, _)] ⟨rfl, rfl, rfl, rfl, rfl, rfl, rfl, rfl, rfl, trivial⟩ ?_
  refine Go'.seq ?_
  -- region 17 (map.go:383)
  refine Go'.region [(0, 0)] rfl ?_
  refine O.asg rfl rfl rfl rfl rfl ?_
  refine Pl.fin [(0, _), (2, _), (3, _), (8, _), (9, _), (10, _), (11, _), (12, _), (14, _), (15, _)] ⟨rfl, rfl, rfl, rfl, rfl, rfl, rfl, rfl, rfl, rfl, trivial⟩ ?_
  refine Go'.seq ?_
  refine Go'.seq ?_
  -- region 18 (map.go:384)
  refine Go'.region [(0, 0)] rfl ?_
  refine O.mv rfl rfl rfl rfl rfl ?_
  refine Pl.fin [(0, _), (2, _), (3, _), (8, _), (9, _), (10, _), (11, _), (14, _), (15, _), (100, _)] ⟨rfl, rfl, rfl, rfl, rfl, rfl, rfl, rfl, rfl, rfl, trivial⟩ ?_
  refine Go'.join (σ := Nat × Option (List Int × Gt EI h × Int × List Int)) (fun s H' => TrC H' tr P.iso P.mx P.mn ∧ Wr H' H.size 0 1 ∧ match s.2 with | none => Fr nowhere H H' ∧ Pl.dlr OI mx x (Pl.inter X (K.map (Gt.L h))) = none | some (X1, k1, y, L') => s.1 < K.length ∧ Rd H' b14 0 (EI.enc y) ∧ (∀ b o, b = H.size ∨ b = b14 → ¬ Gt.af h k1 b o) ∧ Pl.dlr OI mx x (Pl.inter X (K.map (Gt.L h))) = some (y, L') ∧ DMid H H' P h (⟨np, niso, ncnt, nib, nio, nic, ncb, nkb, nko, nkc⟩ : Ng) X K s.1 X1 k1 L') (fun s => [(0, .pointer (some ⟨tr, 0, none⟩)), (8, .pointer (some ⟨H.size, 0, none⟩)), (9, .bool false), (10, .pointer (some ⟨np, 0, none⟩)), (11, .int .i64 (s.1 : Int)), (14, .pointer (some ⟨b14, 0, none⟩)), (15, .bool s.2.isSome)]) ?_ ?_
  rotate_left
  · intro tail
    have hik : i < K.length := by have := hsel.2.1; simp only at this; omega
    cases fo
    · -- below
      refine Go'.condF rfl ?_
      obtain rfl : mx = false := by
        cases mx with
        | false => rfl
        | true => have := congrArg Prod.snd (hsel.2.2.1 rfl); cases this
      have hsel2 := hsel.2.2.2 rfl
      have hpi : Pl.pos OI x X = i := (congrArg Prod.fst hsel2).symm
      have hfd : Pl.fnd OI x X = false := (congrArg Prod.snd hsel2).symm
      obtain ⟨k, hkk⟩ : ∃ k, K[i]? = some k := ⟨K[i]'(by omega), List.getElem?_eq_getElem (by omega)⟩
      have hkK : k ∈ K := List.mem_of_getElem? hkk
      obtain ⟨_, hkmn, hsk, hlk⟩ := hkd hkk
      have hkL : (K.map (Gt.L h))[i]? = some (Gt.L h k) := by rw [List.getElem?_map, hkk]; rfl
      -- region 26 (map.go:395)
      refine Go'.region [(0, 0), (1, 0), (2, 0), (3, 0), (4, 1), (5, 0), (6, 1), (7, 0), (8, 0), (9, 0), (10, 0), (11, 2), (12, 0), (13, 0), (14, 0), (15, 2), (16, 0)] rfl ?_
      refine O.mv rfl rfl rfl rfl rfl ?_
      refine O.mv rfl rfl rfl rfl rfl ?_
      refine O.nc rfl rfl rfl rfl rfl ?_
      refine O.fa0 (off := 3) rfl rfl rfl rfl ⟨_, _, _, Go.Proofs.Try.underlying205, rfl, rfl, Go.Proofs.Try.sizeOf203⟩ rfl ?_
      refine O.ld rfl rfl rfl (fun w => ⟨Go.Proofs.Try.isAgg203 w, Go.Proofs.Try.sizeOf203 w⟩) rfl (show cl _ np 3 = some (.pointer (some ⟨ncb, 0, none⟩)) from hn.n.c3) ?_
      refine O.nc rfl rfl rfl rfl rfl ?_
      refine O.ld rfl rfl rfl (fun w => ⟨Go.Proofs.Try.isAgg206 w, Go.Proofs.Try.sizeOf206 w⟩) rfl (show cl _ ncb 0 = some (.slice (some ⟨nkb, nko, none⟩) (os).length nkc) from hn.k.c) ?_
      refine O.mv rfl rfl rfl rfl rfl ?_
      refine O.ix (j := i) rfl rfl rfl rfl Go.Proofs.Try.underlying206 Go.Proofs.Try.sizeOf135 rfl rfl (by omega) (by omega) ?_
      refine O.mv rfl rfl rfl rfl rfl ?_
      refine O.mv rfl rfl rfl rfl rfl ?_
      refine O.call rfl rfl rfl Go.Proofs.Try.call166 rfl ((ih (mx := false) (x := x) (t := k) ⟨tc, (hn.c.1 k hkK).1, hn.k.at (hoi hkk), fun b o hb => tn b o (.inr (.inr ⟨k, hkK, hb⟩)), hsk, hlk, by omega⟩).mono fun _ _ => DelQ.uni) ?_
      rintro _ Hc ⟨y, bb, rfl, hfr, hq⟩
      have hsz : H2.size ≤ Hc.size := hfr.size
      replace hn : Inn (E := EI) Hc P h (⟨np, niso, ncnt, nib, nio, nic, ncb, nkb, nko, nkc⟩ : Ng) (X) (os) (K.take (i) ++ K.drop (i + 1)) := hn.kid hkk hfr
      replace hlt : ∀ b o, (innc (E := EI) h (⟨np, niso, ncnt, nib, nio, nic, ncb, nkb, nko, nkc⟩ : Ng) (K.take (i) ++ K.drop (i + 1))) b o → b < H.size := fun b o hb => hlt b o (innc_sub (fun m hm => (kid_sub hkk).subset hm) hb)
      replace tc := tc.fr hfr (fun o _ _ hz => tn tr o (.inr (.inr ⟨k, hkK, hz⟩)) rfl)
      replace w8 := Fr.wr hfr w8
      replace w14 := Fr.wr hfr w14
      replace hF := hF.trans' hfr (fun _ _ _ h => h) (fun b o _ hz => .inr (.inr ⟨k, hkK, hz⟩))
      have hQ3 := hQ
      clear hQ
      refine ⟨trivial, ?_⟩
      refine O.mv rfl rfl rfl rfl rfl ?_
      refine O.ext rfl rfl rfl rfl rfl rfl ?_
      refine O.ext rfl rfl rfl rfl rfl rfl ?_
      refine O.st rfl rfl Go.Proofs.Try.sizeOf138 rfl rfl rfl rfl rfl w14 ?_
      intro H3 WH3
      have hsH3 := WH3.size
      replace hn := hn.fr WH3.fr (fun b o hb => nr (.inl (by have := hlt b o hb; omega)))
      replace tc := tc.fr WH3.fr (fun o _ _ => nr (.inl (by omega)))
      replace hF := hF.trans' WH3.fr (fun _ _ _ h => h) (fun b o hb h => by simp only [rng] at h; omega)
      replace w8 := Fr.wr WH3.fr w8
      replace w14 := Fr.wr WH3.fr w14
      have m14 : Rd H3 b14 0 (EI.enc y) := WH3.all
      refine ⟨trivial, ?_⟩
      refine O.asg rfl rfl rfl rfl rfl ?_
      refine Pl.fin [(0, _), (8, _), (9, _), (10, _), (11, _), (14, _), (15, _)] ⟨rfl, rfl, rfl, rfl, rfl, rfl, rfl, trivial⟩ ?_
      refine Go'.keep [(0, _), (8, _), (9, _), (10, _), (11, _), (14, _), (15, _)] ⟨rfl, rfl, rfl, rfl, rfl, rfl, rfl, trivial⟩ ?_
      rcases hq with ⟨rfl, hd, hfn⟩ | ⟨rfl, L1, k1, hd, hT⟩
      · refine tail (i, none) _ ⟨tc, w8, (hQ3.trans hfn).trans' WH3.fr (fun _ _ _ h => h) (fun b o hb h => by simp only [rng] at h; omega), Pl.dlr_none_child OI hs hKL hfd (by rw [hpi]; exact hkL) hd⟩
      · refine tail (i, some (X, k1, y, _)) _ ⟨tc, w8, hik, m14, (fun b o hb9 hz9 => (hT.a b o hz9).elim (fun h => by have := hklt hkk b o h; omega) (fun h => by omega)), Pl.dlr_child OI hs hKL hfd hpi hkL hd, ?_⟩
        have hgk1 := hT.g.fr WH3.fr (fun b o hb => nr (.inl (by
          rcases hT.a b o hb with h9 | h9
          · have := hklt hkk _ _ h9; omega
          · omega)))
        exact ⟨by rw [hos]; exact hn, hgk1, ⟨k, hkk, hT.p, fun b o hb => (hT.a b o hb).imp id (fun h => by omega)⟩, Nat.le_trans hkmn hT.x, by rw [List.map_append, List.map_append, List.map_take, List.map_drop]; simp only [List.map_cons, List.map_nil]; rw [hT.l], rfl, hF⟩
    · -- here
      refine Go'.condT rfl ?_
      refine Go'.seq ?_
      -- region 19 (map.go:385)
      refine Go'.region [(0, 0)] rfl ?_
      refine O.mv rfl rfl rfl rfl rfl ?_
      refine Pl.fin [(0, _), (8, _), (9, _), (10, _), (11, _), (14, _), (15, _), (101, _)] ⟨rfl, rfl, rfl, rfl, rfl, rfl, rfl, rfl, trivial⟩ ?_
      cases mx
      rotate_left
      · -- the last
        have hil1 : i + 1 = X.length := by have := congrArg Prod.fst (hsel.2.2.1 rfl); simp only at this; omega
        refine Go'.condT rfl ?_
        refine Go'.seq ?_
        -- region 20 (map.go:386)
        refine Go'.region [(0, 0), (1, 0), (2, 0)] rfl ?_
        refine O.mv rfl rfl rfl rfl rfl ?_
        refine O.add (((i + 1 : Nat) : Int)) rfl rfl rfl rfl rfl rfl (by omega) (by omega) ?_
        refine O.asg rfl rfl rfl rfl rfl ?_
        refine Pl.fin [(0, _), (8, _), (9, _), (10, _), (11, _), (14, _), (15, _)] ⟨rfl, rfl, rfl, rfl, rfl, rfl, rfl, trivial⟩ ?_
        obtain ⟨k, hkk⟩ : ∃ k, K[i + 1]? = some k := ⟨K[i + 1]'(by omega), List.getElem?_eq_getElem (by omega)⟩
        have hkK : k ∈ K := List.mem_of_getElem? hkk
        obtain ⟨_, hkmn, hsk, hlk⟩ := hkd hkk
        have hkL : (K.map (Gt.L h))[i + 1]? = some (Gt.L h k) := by rw [List.getElem?_map, hkk]; rfl
        -- region 21 (map.go:387)
        refine Go'.draw (fun _ => True) [(0, 0), (1, 0), (2, 0), (3, 0), (4, 1), (5, 0), (6, 1), (7, 0), (8, 0), (9, 0), (10, 0), (11, 0), (12, 0), (13, 1), (14, 2), (15, 0), (16, 0), (17, 0), (18, 2), (19, 0)] (by kernel_rfl) (by kernel_rfl) (trivial) ?_
        refine O.mv rfl rfl rfl rfl rfl ?_
        refine O.mv rfl rfl rfl rfl rfl ?_
        refine O.nc rfl rfl rfl rfl rfl ?_
        refine O.fa0 (off := 3) rfl rfl rfl rfl ⟨_, _, _, Go.Proofs.Try.underlying205, rfl, rfl, Go.Proofs.Try.sizeOf203⟩ rfl ?_
        refine O.ld rfl rfl rfl (fun w => ⟨Go.Proofs.Try.isAgg203 w, Go.Proofs.Try.sizeOf203 w⟩) rfl (show cl _ np 3 = some (.pointer (some ⟨ncb, 0, none⟩)) from hn.n.c3) ?_
        refine O.nc rfl rfl rfl rfl rfl ?_
        refine O.ld rfl rfl rfl (fun w => ⟨Go.Proofs.Try.isAgg206 w, Go.Proofs.Try.sizeOf206 w⟩) rfl (show cl _ ncb 0 = some (.slice (some ⟨nkb, nko, none⟩) (os).length nkc) from hn.k.c) ?_
        refine O.mv rfl rfl rfl rfl rfl ?_
        refine O.ix (j := i + 1) rfl rfl rfl rfl Go.Proofs.Try.underlying206 Go.Proofs.Try.sizeOf135 rfl rfl (by omega) (by omega) ?_
        refine O.mv rfl rfl rfl rfl rfl ?_
        refine O.nc rfl rfl rfl rfl rfl ?_
        refine O.fa0 (off := 4) rfl rfl rfl rfl ⟨_, _, _, Go.Proofs.Try.underlying140, rfl, rfl, Go.Proofs.Try.sizeOf138⟩ rfl ?_
        refine O.faz rfl rfl rfl rfl ⟨_, _, _, Go.Proofs.Try.underlying138, rfl, rfl, Go.Proofs.Try.sizeOf3⟩ rfl ?_
        refine O.ld rfl rfl rfl (fun w => ⟨Go.Proofs.Try.isAgg3 w, Go.Proofs.Try.sizeOf3 w⟩) rfl (tc.emp 0 _ rfl) ?_
        refine O.call rfl rfl rfl Go.Proofs.Try.call166 rfl ((ih (mx := true) (x := (0 : Int)) (t := k) ⟨tc, (hn.c.1 k hkK).1, hn.k.at (hoi hkk), fun b o hb => tn b o (.inr (.inr ⟨k, hkK, hb⟩)), hsk, hlk, by omega⟩).mono fun _ _ => DelQ.uni) ?_
        rintro _ Hc ⟨y, bb, rfl, hfr, hq⟩
        have hsz : H2.size ≤ Hc.size := hfr.size
        replace hn : Inn (E := EI) Hc P h (⟨np, niso, ncnt, nib, nio, nic, ncb, nkb, nko, nkc⟩ : Ng) (X) (os) (K.take (i + 1) ++ K.drop (i + 1 + 1)) := hn.kid hkk hfr
        replace hlt : ∀ b o, (innc (E := EI) h (⟨np, niso, ncnt, nib, nio, nic, ncb, nkb, nko, nkc⟩ : Ng) (K.take (i + 1) ++ K.drop (i + 1 + 1))) b o → b < H.size := fun b o hb => hlt b o (innc_sub (fun m hm => (kid_sub hkk).subset hm) hb)
        replace tc := tc.fr hfr (fun o _ _ hz => tn tr o (.inr (.inr ⟨k, hkK, hz⟩)) rfl)
        replace w8 := Fr.wr hfr w8
        replace w14 := Fr.wr hfr w14
        replace hF := hF.trans' hfr (fun _ _ _ h => h) (fun b o _ hz => .inr (.inr ⟨k, hkK, hz⟩))
        have hQ3 := hQ
        clear hQ
        refine ⟨trivial, ?_⟩
        refine O.mv rfl rfl rfl rfl rfl ?_
        refine O.ext rfl rfl rfl rfl rfl rfl ?_
        refine O.ext rfl rfl rfl rfl rfl rfl ?_
        refine O.st rfl rfl Go.Proofs.Try.sizeOf138 rfl rfl rfl rfl rfl w14 ?_
        intro H4 WH4
        have hsH4 := WH4.size
        replace hn := hn.fr WH4.fr (fun b o hb => nr (.inl (by have := hlt b o hb; omega)))
        replace tc := tc.fr WH4.fr (fun o _ _ => nr (.inl (by omega)))
        replace hF := hF.trans' WH4.fr (fun _ _ _ h => h) (fun b o hb h => by simp only [rng] at h; omega)
        replace w8 := Fr.wr WH4.fr w8
        replace w14 := Fr.wr WH4.fr w14
        have m14 : Rd H4 b14 0 (EI.enc y) := WH4.all
        refine ⟨trivial, ?_⟩
        refine O.asg rfl rfl rfl rfl rfl ?_
        refine Pl.fin [(0, _), (8, _), (9, _), (10, _), (11, _), (14, _), (15, _)] ⟨rfl, rfl, rfl, rfl, rfl, rfl, rfl, trivial⟩ ?_
        refine Go'.keep [(0, _), (8, _), (9, _), (10, _), (11, _), (14, _), (15, _)] ⟨rfl, rfl, rfl, rfl, rfl, rfl, rfl, trivial⟩ ?_
        rcases hq with ⟨rfl, hd, hfn⟩ | ⟨rfl, L1, k1, hd, hT⟩
        · exact (Pl.dlr_max_ne OI ((hkd hkk).1.ne (by omega)) hd).elim
        have hgk1 := hT.g.fr WH4.fr (fun b o hb => nr (.inl (by
          rcases hT.a b o hb with h9 | h9
          · have := hklt hkk _ _ h9; omega
          · omega)))
        have hLk := Pl.dlr_max OI hd
        have hkL2 : (K.map (Gt.L h))[X.length]? = some (Gt.L h k) := by rw [← hil1]; exact hkL
        have hdl := Pl.del_last hKL hkL2 hLk
        rw [← hil1] at hdl
        refine tail (i + 1, some (X, k1, y, _)) _ ⟨tc, w8, by omega, m14, (fun b o hb9 hz9 => (hT.a b o hz9).elim (fun h => by have := hklt hkk b o h; omega) (fun h => by omega)), Pl.dlr_max' OI hdl, ?_⟩
        exact ⟨by rw [hos]; exact hn, hgk1, ⟨k, hkk, hT.p, fun b o hb => (hT.a b o hb).imp id (fun h => by omega)⟩, Nat.le_trans hkmn hT.x, by rw [List.map_append, List.map_append, List.map_take, List.map_drop]; simp only [List.map_cons, List.map_nil]; rw [hT.l], rfl, hF⟩
      · -- the key
        have hsel2 := hsel.2.2.2 rfl
        have hpi : Pl.pos OI x X = i := (congrArg Prod.fst hsel2).symm
        have hfd : Pl.fnd OI x X = true := (congrArg Prod.snd hsel2).symm
        have hil1 : i < X.length := hsel.1 rfl
        obtain ⟨z, hz⟩ : ∃ z, X[i]? = some z := ⟨X[i], List.getElem?_eq_getElem hil1⟩
        refine Go'.condF rfl ?_
        refine Go'.seq ?_
        -- region 22 (map.go:389)
        refine Go'.region [(0, 0), (1, 0), (2, 0), (3, 1), (4, 0), (5, 0), (6, 1), (7, 2)] rfl ?_
        refine O.mv rfl rfl rfl rfl rfl ?_
        refine O.nc rfl rfl rfl rfl rfl ?_
        refine O.fa0 (off := 2) rfl rfl rfl rfl ⟨_, _, _, Go.Proofs.Try.underlying205, rfl, rfl, Go.Proofs.Try.sizeOf202⟩ rfl ?_
        refine O.ld rfl rfl rfl (fun w => ⟨Go.Proofs.Try.isAgg202 w, Go.Proofs.Try.sizeOf202 w⟩) rfl (show cl _ np 2 = some (.slice (some ⟨nib, nio, none⟩) X.length nic) from hn.n.c2) ?_
        refine O.mv rfl rfl rfl rfl rfl ?_
        refine O.ix (j := i) rfl rfl rfl rfl Go.Proofs.Try.underlying202 Go.Proofs.Try.sizeOf138 rfl rfl (by omega) (by omega) ?_
        refine O.lds rfl rfl rfl (fun w => ⟨Go.Proofs.Try.isAgg138 w, Go.Proofs.Try.sizeOf138 w⟩) rfl rfl (hn.n.sl.item hz) ?_
        refine O.st rfl rfl Go.Proofs.Try.sizeOf138 rfl rfl rfl rfl rfl w14 ?_
        intro H5 WH5
        have hsH5 := WH5.size
        replace hn := hn.fr WH5.fr (fun b o hb => nr (.inl (by have := hlt b o hb; omega)))
        replace tc := tc.fr WH5.fr (fun o _ _ => nr (.inl (by omega)))
        replace hF := hF.trans' WH5.fr (fun _ _ _ h => h) (fun b o hb h => by simp only [rng] at h; omega)
        replace hQ := hQ.trans' WH5.fr (fun _ _ _ h => h) (fun b o hb h => by simp only [rng] at h; omega)
        replace w8 := Fr.wr WH5.fr w8
        replace w14 := Fr.wr WH5.fr w14
        have m14 : Rd H5 b14 0 (EI.enc z) := WH5.all
        refine ⟨trivial, ?_⟩
        refine Pl.fin [(0, _), (8, _), (9, _), (10, _), (11, _), (14, _), (15, _)] ⟨rfl, rfl, rfl, rfl, rfl, rfl, rfl, trivial⟩ ?_
        refine Go'.seq ?_
        obtain ⟨k, hkk⟩ : ∃ k, K[i]? = some k := ⟨K[i]'(by omega), List.getElem?_eq_getElem (by omega)⟩
        have hkK : k ∈ K := List.mem_of_getElem? hkk
        obtain ⟨_, hkmn, hsk, hlk⟩ := hkd hkk
        have hkL : (K.map (Gt.L h))[i]? = some (Gt.L h k) := by rw [List.getElem?_map, hkk]; rfl
        -- region 23 (map.go:390), two orders
        refine Go'.draw2s (σ := Int × Bool × Gt EI h × List Int × Nat) (fun H' => cl H' np 3 = some (.pointer (some ⟨ncb, 0, none⟩)) ∧ cl H' ncb 0 = some (.slice (some ⟨nkb, nko, none⟩) (os).length nkc) ∧ cl H' tr 4 = some (.int .i64 0)) (fun s Hn => TrC Hn tr P.iso P.mx P.mn ∧ Wr Hn H.size 0 1 ∧ Rd Hn b14 0 (EI.enc z) ∧ Rd Hn s.2.2.2.2 0 (EI.enc s.1) ∧ H.size ≤ s.2.2.2.2 ∧ Inn (E := EI) Hn P h (⟨np, niso, ncnt, nib, nio, nic, ncb, nkb, nko, nkc⟩ : Ng) (X) (os) (K.take i ++ K.drop (i + 1)) ∧ Fr (Gt.af (h + 1) (((⟨np, niso, ncnt, nib, nio, nic, ncb, nkb, nko, nkc⟩ : Ng), X, K) : Gt EI (h + 1))) H Hn ∧ H5.size ≤ Hn.size ∧ Gt.Good Hn P h s.2.2.1 ∧ Gt.p h s.2.2.1 = Gt.p h k ∧ Gro H (Gt.af h k) (Gt.af h s.2.2.1) ∧ P.mn ≤ (Gt.X h s.2.2.1).length + 1 ∧ Gt.L h k = Gt.L h s.2.2.1 ++ [s.1] ∧ (∀ b o, b = H.size ∨ b = b14 → ¬ Gt.af h s.2.2.1 b o)) (fun s => [(0, .pointer (some ⟨tr, 0, none⟩)), (8, .pointer (some ⟨H.size, 0, none⟩)), (9, .bool false), (10, .pointer (some ⟨np, 0, none⟩)), (11, .int .i64 (i : Int)), (14, .pointer (some ⟨b14, 0, none⟩)), (16, .pointer (some ⟨s.2.2.2.2, 0, none⟩))]) 14 18 [(0, 0), (1, 0), (2, 0), (3, 0), (4, 0), (5, 0), (6, 0), (7, 0), (8, 0), (9, 0), (10, 0), (11, 0), (12, 0), (13, 0), (14, 2), (15, 0), (16, 0), (17, 0), (18, 2), (19, 2), (20, 0)] [(0, 0), (1, 0), (2, 0), (3, 0), (4, 0), (5, 0), (6, 0), (7, 0), (8, 0), (9, 0), (10, 0), (11, 0), (12, 0), (13, 0), (18, 2), (14, 2), (15, 0), (16, 0), (17, 0), (19, 2), (20, 0)] (by kernel_rfl) (by kernel_rfl) (⟨(show cl _ np 3 = some (.pointer (some ⟨ncb, 0, none⟩)) from hn.n.c3), (show cl _ ncb 0 = some (.slice (some ⟨nkb, nko, none⟩) (os).length nkc) from hn.k.c), (tc.emp 0 _ rfl)⟩) ?_ ?_ ?_
        · intro _ _ _ hj
          refine O.mv rfl rfl rfl rfl rfl ?_
          refine O.mv rfl rfl rfl rfl rfl ?_
          refine O.nc rfl rfl rfl rfl rfl ?_
          refine O.fa0 (off := 3) rfl rfl rfl rfl ⟨_, _, _, Go.Proofs.Try.underlying205, rfl, rfl, Go.Proofs.Try.sizeOf203⟩ rfl ?_
          refine O.ldC rfl rfl rfl (fun w => ⟨Go.Proofs.Try.isAgg203 w, Go.Proofs.Try.sizeOf203 w⟩) rfl (fun _ h => h.1) ?_
          refine O.nc rfl rfl rfl rfl rfl ?_
          refine O.ldC rfl rfl rfl (fun w => ⟨Go.Proofs.Try.isAgg206 w, Go.Proofs.Try.sizeOf206 w⟩) rfl (fun _ h => h.2.1) ?_
          refine O.mv rfl rfl rfl rfl rfl ?_
          refine O.ix (j := i) rfl rfl rfl rfl Go.Proofs.Try.underlying206 Go.Proofs.Try.sizeOf135 rfl rfl (by omega) (by omega) ?_
          refine O.mv rfl rfl rfl rfl rfl ?_
          refine O.nc rfl rfl rfl rfl rfl ?_
          refine O.fa0 (off := 4) rfl rfl rfl rfl ⟨_, _, _, Go.Proofs.Try.underlying140, rfl, rfl, Go.Proofs.Try.sizeOf138⟩ rfl ?_
          refine O.faz rfl rfl rfl rfl ⟨_, _, _, Go.Proofs.Try.underlying138, rfl, rfl, Go.Proofs.Try.sizeOf3⟩ rfl ?_
          refine O.ldC rfl rfl rfl (fun w => ⟨Go.Proofs.Try.isAgg3 w, Go.Proofs.Try.sizeOf3 w⟩) rfl (fun _ h => h.2.2) ?_
          refine O.call rfl rfl rfl Go.Proofs.Try.call166 rfl ((ih (mx := true) (x := (0 : Int)) (t := k) ⟨tc, (hn.c.1 k hkK).1, hn.k.at (hoi hkk), fun b o hb => tn b o (.inr (.inr ⟨k, hkK, hb⟩)), hsk, hlk, by omega⟩).mono fun _ _ => DelQ.uni) ?_
          rintro _ Hc ⟨y, bb, rfl, hfr, hq⟩
          have hsz : H5.size ≤ Hc.size := hfr.size
          replace hn : Inn (E := EI) Hc P h (⟨np, niso, ncnt, nib, nio, nic, ncb, nkb, nko, nkc⟩ : Ng) (X) (os) (K.take (i) ++ K.drop (i + 1)) := hn.kid hkk hfr
          replace hlt : ∀ b o, (innc (E := EI) h (⟨np, niso, ncnt, nib, nio, nic, ncb, nkb, nko, nkc⟩ : Ng) (K.take (i) ++ K.drop (i + 1))) b o → b < H.size := fun b o hb => hlt b o (innc_sub (fun m hm => (kid_sub hkk).subset hm) hb)
          replace tc := tc.fr hfr (fun o _ _ hz => tn tr o (.inr (.inr ⟨k, hkK, hz⟩)) rfl)
          replace w8 := Fr.wr hfr w8
          replace w14 := Fr.wr hfr w14
          replace m14 := Fr.rd hfr m14 (fun _ _ hz => by have := hklt hkk _ _ hz; omega)
          replace hF := hF.trans' hfr (fun _ _ _ h => h) (fun b o _ hz => .inr (.inr ⟨k, hkK, hz⟩))
          have hQ3 := hQ
          clear hQ
          refine ⟨⟨(show cl _ np 3 = some (.pointer (some ⟨ncb, 0, none⟩)) from hn.n.c3), (show cl _ ncb 0 = some (.slice (some ⟨nkb, nko, none⟩) (os).length nkc) from hn.k.c), (tc.emp 0 _ rfl)⟩, ?_⟩
          refine O.mv rfl rfl rfl rfl rfl ?_
          refine O.ext rfl rfl rfl rfl rfl rfl ?_
          refine O.ext rfl rfl rfl rfl rfl rfl ?_
          refine O.alloc rfl rfl rfl Go.Proofs.Try.zeroValue138 ?_
          intro H6 MH6
          have hsH6 := MH6.size
          replace hn := hn.fr (MH6.fr nowhere) (fun _ _ _ => nw)
          replace tc := tc.fr (MH6.fr nowhere) (fun _ _ _ => nw)
          replace hF := hF.trans' (MH6.fr nowhere) (fun _ _ _ h => h) (fun _ _ _ h => h.elim)
          replace w8 := Fr.wr (MH6.fr nowhere) w8
          replace w14 := Fr.wr (MH6.fr nowhere) w14
          replace m14 := Fr.rd (MH6.fr nowhere) m14 (fun _ _ => nw)
          have w16 : Wr H6 Hc.size 0 1 := MH6.wr 1 (by decide)
          refine ⟨⟨(show cl _ np 3 = some (.pointer (some ⟨ncb, 0, none⟩)) from hn.n.c3), (show cl _ ncb 0 = some (.slice (some ⟨nkb, nko, none⟩) (os).length nkc) from hn.k.c), (tc.emp 0 _ rfl)⟩, ?_⟩
          refine O.st rfl rfl Go.Proofs.Try.sizeOf138 rfl rfl rfl rfl rfl w16 ?_
          intro H7 WH7
          have hsH7 := WH7.size
          replace hn := hn.fr WH7.fr (fun b o hb => nr (.inl (by have := hlt b o hb; omega)))
          replace tc := tc.fr WH7.fr (fun o _ _ => nr (.inl (by omega)))
          replace hF := hF.trans' WH7.fr (fun _ _ _ h => h) (fun b o hb h => by simp only [rng] at h; omega)
          replace w8 := Fr.wr WH7.fr w8
          replace w14 := Fr.wr WH7.fr w14
          replace m14 := Fr.rd WH7.fr m14 (fun _ _ => nr (.inl (by omega)))
          replace w16 := Fr.wr WH7.fr w16
          have m16 : Rd H7 Hc.size 0 (EI.enc y) := WH7.all
          rcases hq with ⟨rfl, hd, hfn⟩ | ⟨rfl, L1, k1, hd, hT⟩
          · exact (Pl.dlr_max_ne OI ((hkd hkk).1.ne (by omega)) hd).elim
          refine ⟨⟨(show cl _ np 3 = some (.pointer (some ⟨ncb, 0, none⟩)) from hn.n.c3), (show cl _ ncb 0 = some (.slice (some ⟨nkb, nko, none⟩) (os).length nkc) from hn.k.c), (tc.emp 0 _ rfl)⟩, ?_⟩
          refine O.asg rfl rfl rfl rfl rfl ?_
          refine Pl.fin [(0, _), (8, _), (9, _), (10, _), (11, _), (14, _), (16, _)] ⟨rfl, rfl, rfl, rfl, rfl, rfl, rfl, trivial⟩ (hj (y, true, k1, [], Hc.size) _ ?_)
          have hLk := Pl.dlr_max OI hd
          have hafk : ∀ b o, Gt.af h k1 b o → Gt.af h k b o ∨ H5.size ≤ b := fun b o hb => (hT.a b o hb).imp id (fun h => by omega)
          have hgk0 : Gt.Good H6 P h k1 := hT.g.fr (MH6.fr nowhere) (fun _ _ _ => nw)
          have hgk1 := hgk0.fr WH7.fr (fun b o hb => nr (.inl (by
            have h7 := hT.g.lt hb
            rcases hT.a b o hb with h9 | h9
            · have := hklt hkk _ _ h9; omega
            · omega)))
          exact ⟨tc, w8, m14, m16, (show H.size ≤ Hc.size by omega), hn, hF, by omega, hgk1, hT.p, fun b o hb => (hafk b o hb).imp id (fun h => by omega), Nat.le_trans hkmn hT.x, by rw [hT.l]; exact hLk, (fun b o hb9 hz9 => (hT.a b o hz9).elim (fun h => by have := hklt hkk b o h; omega) (fun h => by omega))⟩
        · intro _ _ _ hj
          refine O.mv rfl rfl rfl rfl rfl ?_
          refine O.mv rfl rfl rfl rfl rfl ?_
          refine O.nc rfl rfl rfl rfl rfl ?_
          refine O.fa0 (off := 3) rfl rfl rfl rfl ⟨_, _, _, Go.Proofs.Try.underlying205, rfl, rfl, Go.Proofs.Try.sizeOf203⟩ rfl ?_
          refine O.ldC rfl rfl rfl (fun w => ⟨Go.Proofs.Try.isAgg203 w, Go.Proofs.Try.sizeOf203 w⟩) rfl (fun _ h => h.1) ?_
          refine O.nc rfl rfl rfl rfl rfl ?_
          refine O.ldC rfl rfl rfl (fun w => ⟨Go.Proofs.Try.isAgg206 w, Go.Proofs.Try.sizeOf206 w⟩) rfl (fun _ h => h.2.1) ?_
          refine O.mv rfl rfl rfl rfl rfl ?_
          refine O.ix (j := i) rfl rfl rfl rfl Go.Proofs.Try.underlying206 Go.Proofs.Try.sizeOf135 rfl rfl (by omega) (by omega) ?_
          refine O.mv rfl rfl rfl rfl rfl ?_
          refine O.nc rfl rfl rfl rfl rfl ?_
          refine O.fa0 (off := 4) rfl rfl rfl rfl ⟨_, _, _, Go.Proofs.Try.underlying140, rfl, rfl, Go.Proofs.Try.sizeOf138⟩ rfl ?_
          refine O.faz rfl rfl rfl rfl ⟨_, _, _, Go.Proofs.Try.underlying138, rfl, rfl, Go.Proofs.Try.sizeOf3⟩ rfl ?_
          refine O.ldC rfl rfl rfl (fun w => ⟨Go.Proofs.Try.isAgg3 w, Go.Proofs.Try.sizeOf3 w⟩) rfl (fun _ h => h.2.2) ?_
          refine O.alloc rfl rfl rfl Go.Proofs.Try.zeroValue138 ?_
          intro H8 MH8
          have hsH8 := MH8.size
          replace hn := hn.fr (MH8.fr nowhere) (fun _ _ _ => nw)
          replace tc := tc.fr (MH8.fr nowhere) (fun _ _ _ => nw)
          replace hF := hF.trans' (MH8.fr nowhere) (fun _ _ _ h => h) (fun _ _ _ h => h.elim)
          replace w8 := Fr.wr (MH8.fr nowhere) w8
          replace w14 := Fr.wr (MH8.fr nowhere) w14
          replace m14 := Fr.rd (MH8.fr nowhere) m14 (fun _ _ => nw)
          replace hQ := hQ.trans (MH8.fr nowhere)
          have w16 : Wr H8 H5.size 0 1 := MH8.wr 1 (by decide)
          refine ⟨⟨(show cl _ np 3 = some (.pointer (some ⟨ncb, 0, none⟩)) from hn.n.c3), (show cl _ ncb 0 = some (.slice (some ⟨nkb, nko, none⟩) (os).length nkc) from hn.k.c), (tc.emp 0 _ rfl)⟩, ?_⟩
          refine O.call rfl rfl rfl Go.Proofs.Try.call166 rfl ((ih (mx := true) (x := (0 : Int)) (t := k) ⟨tc, (hn.c.1 k hkK).1, hn.k.at (hoi hkk), fun b o hb => tn b o (.inr (.inr ⟨k, hkK, hb⟩)), hsk, hlk, by omega⟩).mono fun _ _ => DelQ.uni) ?_
          rintro _ Hc ⟨y, bb, rfl, hfr, hq⟩
          have hsz : H8.size ≤ Hc.size := hfr.size
          replace hn : Inn (E := EI) Hc P h (⟨np, niso, ncnt, nib, nio, nic, ncb, nkb, nko, nkc⟩ : Ng) (X) (os) (K.take (i) ++ K.drop (i + 1)) := hn.kid hkk hfr
          replace hlt : ∀ b o, (innc (E := EI) h (⟨np, niso, ncnt, nib, nio, nic, ncb, nkb, nko, nkc⟩ : Ng) (K.take (i) ++ K.drop (i + 1))) b o → b < H.size := fun b o hb => hlt b o (innc_sub (fun m hm => (kid_sub hkk).subset hm) hb)
          replace tc := tc.fr hfr (fun o _ _ hz => tn tr o (.inr (.inr ⟨k, hkK, hz⟩)) rfl)
          replace w8 := Fr.wr hfr w8
          replace w14 := Fr.wr hfr w14
          replace m14 := Fr.rd hfr m14 (fun _ _ hz => by have := hklt hkk _ _ hz; omega)
          replace w16 := Fr.wr hfr w16
          replace hF := hF.trans' hfr (fun _ _ _ h => h) (fun b o _ hz => .inr (.inr ⟨k, hkK, hz⟩))
          have hQ3 := hQ
          clear hQ
          refine ⟨⟨(show cl _ np 3 = some (.pointer (some ⟨ncb, 0, none⟩)) from hn.n.c3), (show cl _ ncb 0 = some (.slice (some ⟨nkb, nko, none⟩) (os).length nkc) from hn.k.c), (tc.emp 0 _ rfl)⟩, ?_⟩
          refine O.mv rfl rfl rfl rfl rfl ?_
          refine O.ext rfl rfl rfl rfl rfl rfl ?_
          refine O.ext rfl rfl rfl rfl rfl rfl ?_
          refine O.st rfl rfl Go.Proofs.Try.sizeOf138 rfl rfl rfl rfl rfl w16 ?_
          intro H9 WH9
          have hsH9 := WH9.size
          replace hn := hn.fr WH9.fr (fun b o hb => nr (.inl (by have := hlt b o hb; omega)))
          replace tc := tc.fr WH9.fr (fun o _ _ => nr (.inl (by omega)))
          replace hF := hF.trans' WH9.fr (fun _ _ _ h => h) (fun b o hb h => by simp only [rng] at h; omega)
          replace w8 := Fr.wr WH9.fr w8
          replace w14 := Fr.wr WH9.fr w14
          replace m14 := Fr.rd WH9.fr m14 (fun _ _ => nr (.inl (by omega)))
          replace w16 := Fr.wr WH9.fr w16
          have m16 : Rd H9 H5.size 0 (EI.enc y) := WH9.all
          rcases hq with ⟨rfl, hd, hfn⟩ | ⟨rfl, L1, k1, hd, hT⟩
          · exact (Pl.dlr_max_ne OI ((hkd hkk).1.ne (by omega)) hd).elim
          refine ⟨⟨(show cl _ np 3 = some (.pointer (some ⟨ncb, 0, none⟩)) from hn.n.c3), (show cl _ ncb 0 = some (.slice (some ⟨nkb, nko, none⟩) (os).length nkc) from hn.k.c), (tc.emp 0 _ rfl)⟩, ?_⟩
          refine O.asg rfl rfl rfl rfl rfl ?_
          refine Pl.fin [(0, _), (8, _), (9, _), (10, _), (11, _), (14, _), (16, _)] ⟨rfl, rfl, rfl, rfl, rfl, rfl, rfl, trivial⟩ (hj (y, true, k1, [], H5.size) _ ?_)
          have hLk := Pl.dlr_max OI hd
          have hafk : ∀ b o, Gt.af h k1 b o → Gt.af h k b o ∨ H5.size ≤ b := fun b o hb => (hT.a b o hb).imp id (fun h => by omega)
          have hgk0 : Gt.Good Hc P h k1 := hT.g
          have hgk1 := hgk0.fr WH9.fr (fun b o hb => nr (.inl (by
            have h7 := hT.g.lt hb
            rcases hT.a b o hb with h9 | h9
            · have := hklt hkk _ _ h9; omega
            · omega)))
          exact ⟨tc, w8, m14, m16, (show H.size ≤ H5.size by omega), hn, hF, by omega, hgk1, hT.p, fun b o hb => (hafk b o hb).imp id (fun h => by omega), Nat.le_trans hkmn hT.x, by rw [hT.l]; exact hLk, (fun b o hb9 hz9 => (hT.a b o hz9).elim (fun h => by have := hklt hkk b o h; omega) (fun h => by omega))⟩
        clear m14
        rintro ⟨y, _, k1, _, b16⟩ Hn ⟨tc, w8, m14, m16, hb16, hn, hF, hsn, hgk, hpk, hak, hmk, hLk, hnew⟩
        simp only at m16 hb16 hgk hpk hak hmk hLk hnew
        refine Go'.seq ?_
        clear hQ
        replace hlt : ∀ b o, (innc (E := EI) h (⟨np, niso, ncnt, nib, nio, nic, ncb, nkb, nko, nkc⟩ : Ng) (K.take i ++ K.drop (i + 1))) b o → b < H.size := fun b o hb => hlt b o (innc_sub (fun m hm => (kid_sub hkk).subset hm) hb)
        replace sn : Gro H (Gt.af (h + 1) (((⟨np, niso, ncnt, nib, nio, nic, ncb, nkb, nko, nkc⟩ : Ng), X, K) : Gt EI (h + 1))) (innc (E := EI) h (⟨np, niso, ncnt, nib, nio, nic, ncb, nkb, nko, nkc⟩ : Ng) (K.take i ++ K.drop (i + 1))) := fun b o hb => .inl (innc_sub (K := K) (fun m hm => (kid_sub hkk).subset hm) hb)
        replace tn : ∀ b o, (innc (E := EI) h (⟨np, niso, ncnt, nib, nio, nic, ncb, nkb, nko, nkc⟩ : Ng) (K.take i ++ K.drop (i + 1))) b o → ¬ (b = tr) := fun b o hb => tn b o (innc_sub (fun m hm => (kid_sub hkk).subset hm) hb)
        -- region 24 (map.go:391)
        refine Go'.region [(0, 0)] rfl ?_
        refine O.asg rfl rfl rfl rfl rfl ?_
        refine Pl.fin [(0, _), (8, _), (9, _), (10, _), (11, _), (14, _), (15, _), (16, _)] ⟨rfl, rfl, rfl, rfl, rfl, rfl, rfl, rfl, trivial⟩ ?_
        have dkn : Off (Gt.af h k1) (innc (E := EI) h (⟨np, niso, ncnt, nib, nio, nic, ncb, nkb, nko, nkc⟩ : Ng) (K.take i ++ K.drop (i + 1))) := (Gro.off hak (kid_off hn00 hkk).symm (fun b o hb => hn00.lt (innc_sub (fun m hm => (kid_sub hkk).subset hm) hb))).symm
        -- region 25 (map.go:392)
        refine Go'.draw (fun _ => True) [(0, 0), (1, 0), (2, 0), (3, 1), (4, 0), (5, 1), (6, 0), (7, 3)] (by kernel_rfl) (by kernel_rfl) (trivial) ?_
        refine O.mv rfl rfl rfl rfl rfl ?_
        refine O.nc rfl rfl rfl rfl rfl ?_
        refine O.fa0 (off := 2) rfl rfl rfl rfl ⟨_, _, _, Go.Proofs.Try.underlying205, rfl, rfl, Go.Proofs.Try.sizeOf202⟩ rfl ?_
        refine O.ld rfl rfl rfl (fun w => ⟨Go.Proofs.Try.isAgg202 w, Go.Proofs.Try.sizeOf202 w⟩) rfl (show cl _ np 2 = some (.slice (some ⟨nib, nio, none⟩) X.length nic) from hn.n.c2) ?_
        refine O.mv rfl rfl rfl rfl rfl ?_
        refine O.lds rfl rfl rfl (fun w => ⟨Go.Proofs.Try.isAgg138 w, Go.Proofs.Try.sizeOf138 w⟩) rfl rfl m16 ?_
        refine O.ix (j := i) rfl rfl rfl rfl Go.Proofs.Try.underlying202 Go.Proofs.Try.sizeOf138 rfl rfl (by omega) (by omega) ?_
        refine O.st3 rfl rfl Go.Proofs.Try.sizeOf138 rfl rfl rfl rfl rfl (hn.n.sl.wri (i := i) (by omega)) ?_
        intro H10 WH10
        have fW : Fr (innc (E := EI) h (⟨np, niso, ncnt, nib, nio, nic, ncb, nkb, nko, nkc⟩ : Ng) (K.take i ++ K.drop (i + 1))) Hn H10 := (NodeM.fSet hn.n (i := i) (x := y) WH10 (by omega)).inN
        replace hgk := hgk.fr fW (dkn)
        replace tc := tc.fr fW (fun o _ _ hz => tn tr o hz rfl)
        replace hF := Fr.tot hF fW sn (fun _ _ h => h)
        replace w8 := Fr.wr fW w8
        replace m14 := Fr.rd fW m14 (fun _ _ hz => by have := hlt _ _ hz; omega)
        replace m16 := Fr.rd fW m16 (fun _ _ hz => by have := hlt _ _ hz; omega)
        obtain ⟨nX1, enX1, hn⟩ : ∃ X1, X1 = X.take (i) ++ y :: X.drop (i + 1) ∧ Inn (E := EI) H10 P h (⟨np, niso, ncnt, nib, nio, nic, ncb, nkb, nko, nkc⟩ : Ng) (X1) (os) (K.take i ++ K.drop (i + 1)) := ⟨_, rfl, hn.set (i := i) (x := y) WH10 (by omega)⟩
        have lnX1 : nX1.length = X.length := by rw [enX1]; simp only [List.length_append, List.length_take, List.length_cons, List.length_drop]; omega
        clear fW
        refine Pl.fin [(0, _), (8, _), (9, _), (10, _), (11, _), (14, _), (15, _)] ⟨rfl, rfl, rfl, rfl, rfl, rfl, rfl, trivial⟩ ?_
        refine Go'.keep [(0, _), (8, _), (9, _), (10, _), (11, _), (14, _), (15, _)] ⟨rfl, rfl, rfl, rfl, rfl, rfl, rfl, trivial⟩ ?_
        
        refine tail (i, some (nX1, k1, z, _)) _ ⟨tc, w8, hik, m14, hnew, Pl.dlr_found OI hs hKL hfd hpi hkL hz hLk, ⟨by rw [hos]; exact hn, hgk, ⟨k, hkk, hpk, hak⟩, hmk, ?_, (by omega), hF⟩⟩
        rw [enX1, List.map_append, List.map_append, List.map_take, List.map_drop]
        rfl
  rintro ⟨i1, so⟩ Hm ⟨tc, w8, hso⟩
  simp only at hso ⊢
  refine Go'.seq ?_
  refine Go'.seq ?_
  clear hn hsel
  rcases so with _ | ⟨X1, k1, y, L1⟩
  · obtain ⟨hQ, hd⟩ := hso
    -- region 27 (map.go:397)
    refine Go'.region [(0, 0), (1, 0)] rfl ?_
    refine O.mv rfl rfl rfl rfl rfl ?_
    refine O.not rfl rfl rfl rfl rfl ?_
    refine Pl.fin [(0, _), (8, _), (9, _), (10, _), (11, _), (14, _), (170, _)] ⟨rfl, rfl, rfl, rfl, rfl, rfl, rfl, trivial⟩ ?_
    refine Go'.condT rfl ?_
    refine Go'.seq ?_
    -- region 28 (map.go:398)
    refine Go'.region [(0, 0), (1, 0), (2, 0), (3, 1), (4, 2), (5, 0)] rfl ?_
    refine O.mv rfl rfl rfl rfl rfl ?_
    refine O.nc rfl rfl rfl rfl rfl ?_
    refine O.fa0 (off := 4) rfl rfl rfl rfl ⟨_, _, _, Go.Proofs.Try.underlying140, rfl, rfl, Go.Proofs.Try.sizeOf138⟩ rfl ?_
    refine O.lds rfl rfl rfl (fun w => ⟨Go.Proofs.Try.isAgg138 w, Go.Proofs.Try.sizeOf138 w⟩) rfl rfl tc.emp ?_
    refine O.st rfl rfl Go.Proofs.Try.sizeOf138 rfl rfl rfl rfl rfl w8 ?_
    intro H9 W9
    replace hQ := hQ.trans' W9.fr (fun _ _ _ h => h) (fun b o hb h => by simp only [rng] at h; omega)
    have m8 : Rd H9 H.size 0 (EI.enc (0 : Int)) := W9.all
    refine ⟨trivial, ?_⟩
    refine O.asg rfl rfl rfl rfl rfl ?_
    refine Pl.fin [(0, _), (8, _), (9, _), (10, _), (11, _), (14, _)] ⟨rfl, rfl, rfl, rfl, rfl, rfl, trivial⟩ ?_
    refine Go'.ret (vs := [_, _]) Go.Proofs.Try.func166 Go.Proofs.Try.results166 ⟨⟨_, _, rfl, fun _ _ => run_loadVar_agg (fun w => ⟨Go.Proofs.Try.isAgg138 w, Go.Proofs.Try.sizeOf138 w⟩) rfl m8⟩, rfl, trivial⟩ ?_
    unfold DelQ
    rw [show Pl.dlr OI mx x (Gt.L (h + 1) (((⟨np, niso, ncnt, nib, nio, nic, ncb, nkb, nko, nkc⟩ : Ng), X, K) : Gt EI (h + 1))) = none from hd]
    exact ⟨rfl, hQ⟩
  · obtain ⟨hi1, m14, hnew, hd, dm⟩ := hso
    have hn := dm.n
    have hk := dm.k
    have hF := dm.fr
    have hsz : H.size ≤ Hm.size := hF.size
    have hdl := Pl.dlr_len OI hd
    have hlen1 := dm.len
    have dkn : Off (Gt.af h k1) (innc (E := EI) h (⟨np, niso, ncnt, nib, nio, nic, ncb, nkb, nko, nkc⟩ : Ng) (K.take i1 ++ K.drop (i1 + 1))) := dm.off hn00
    obtain ⟨k, hkk, hpk, hak⟩ := dm.p
    have hkK : k ∈ K := List.mem_of_getElem? hkk
    have hok : os[i1]? = some (some (Gt.p h k1)) := by rw [hpk]; exact hoi hkk
    replace hlt : ∀ b o, (innc (E := EI) h (⟨np, niso, ncnt, nib, nio, nic, ncb, nkb, nko, nkc⟩ : Ng) (K.take i1 ++ K.drop (i1 + 1))) b o → b < H.size := fun b o hb => hlt b o (innc_sub (fun m hm => (kid_sub hkk).subset hm) hb)
    replace sn : Gro H (Gt.af (h + 1) (((⟨np, niso, ncnt, nib, nio, nic, ncb, nkb, nko, nkc⟩ : Ng), X, K) : Gt EI (h + 1))) (innc (E := EI) h (⟨np, niso, ncnt, nib, nio, nic, ncb, nkb, nko, nkc⟩ : Ng) (K.take i1 ++ K.drop (i1 + 1))) := fun b o hb => .inl (innc_sub (K := K) (fun m hm => (kid_sub hkk).subset hm) hb)
    have tnk : ∀ b o, Gt.af h k1 b o → ¬ (b = tr) := Gro.offD hak (fun b o hb => tn b o (.inr (.inr ⟨k, hkK, hb⟩))) hD
    have tn0 := tn
    replace tn : ∀ b o, (innc (E := EI) h (⟨np, niso, ncnt, nib, nio, nic, ncb, nkb, nko, nkc⟩ : Ng) (K.take i1 ++ K.drop (i1 + 1))) b o → ¬ (b = tr) := fun b o hb => tn b o (innc_sub (fun m hm => (kid_sub hkk).subset hm) hb)
    rw [hos] at hn
    have gall : Gro H (Gt.af (h + 1) (((⟨np, niso, ncnt, nib, nio, nic, ncb, nkb, nko, nkc⟩ : Ng), X, K) : Gt EI (h + 1))) (fun b o => (innc (E := EI) h (⟨np, niso, ncnt, nib, nio, nic, ncb, nkb, nko, nkc⟩ : Ng) (K.take i1 ++ K.drop (i1 + 1))) b o ∨ Gt.af h k1 b o) := dm.gro
    have hpk2 : os = (Gt.ps h (K.take i1 ++ [k1] ++ K.drop (i1 + 1))).map some := by rw [← hos]; exact dm.pk
    have hxl := hn.n.sl.hle
    clear hQ
    -- region 27 (map.go:397)
    refine Go'.region [(0, 0), (1, 0)] rfl ?_
    refine O.mv rfl rfl rfl rfl rfl ?_
    refine O.not rfl rfl rfl rfl rfl ?_
    refine Pl.fin [(0, _), (8, _), (9, _), (10, _), (11, _), (14, _), (170, _)] ⟨rfl, rfl, rfl, rfl, rfl, rfl, rfl, trivial⟩ ?_
    refine Go'.condF rfl ?_
    refine Go'.skip ?_
    refine Go'.seq ?_
    -- region 29 (map.go:400)
    refine Go'.region [(0, 0), (1, 0), (2, 0), (3, 1), (4, 0), (5, 0), (6, 0), (7, 2)] rfl ?_
    refine O.mv rfl rfl rfl rfl rfl ?_
    refine O.nc rfl rfl rfl rfl rfl ?_
    refine O.fa0 (off := 1) rfl rfl rfl rfl ⟨_, _, _, Go.Proofs.Try.underlying205, rfl, rfl, Go.Proofs.Try.sizeOf3⟩ rfl ?_
    refine O.ld rfl rfl rfl (fun w => ⟨Go.Proofs.Try.isAgg3 w, Go.Proofs.Try.sizeOf3 w⟩) rfl (show cl _ np 1 = some (.int .i64 (ncnt : Int)) from hn.n.c1) ?_
    refine O.sub (((ncnt - 1 : Nat) : Int)) rfl rfl rfl rfl rfl rfl (by omega) (by omega) ?_
    refine O.nc rfl rfl rfl rfl rfl ?_
    refine O.fa0 (off := 1) rfl rfl rfl rfl ⟨_, _, _, Go.Proofs.Try.underlying205, rfl, rfl, Go.Proofs.Try.sizeOf3⟩ rfl ?_
    refine O.st rfl rfl Go.Proofs.Try.sizeOf3 rfl rfl rfl rfl rfl (hn.n.wr.at0 1 1 (by omega)) ?_
    intro H11 WH11
    have fW : Fr (innc (E := EI) h (⟨np, niso, ncnt, nib, nio, nic, ncb, nkb, nko, nkc⟩ : Ng) (K.take i1 ++ K.drop (i1 + 1))) Hm H11 := (Wrote.fHdr (E := EI) (g := (⟨np, niso, ncnt, nib, nio, nic, ncb, nkb, nko, nkc⟩ : Ng)) WH11 (by omega)).inN
    replace hk := hk.fr fW (dkn)
    replace tc := tc.fr fW (fun o _ _ hz => tn tr o hz rfl)
    replace hF := Fr.tot hF fW sn (fun _ _ h => h)
    replace w8 := Fr.wr fW w8
    replace m14 := Fr.rd fW m14 (fun _ _ hz => by have := hlt _ _ hz; omega)
    obtain ⟨ncnt_11, encnt_11⟩ : ∃ z, z = ncnt - 1 := ⟨_, rfl⟩
    rw [← encnt_11] at WH11
    replace hn : Inn (E := EI) H11 P h (⟨np, niso, ncnt_11, nib, nio, nic, ncb, nkb, nko, nkc⟩ : Ng) (X1) (os) (K.take i1 ++ K.drop (i1 + 1)) := hn.count WH11
    clear fW
    refine ⟨trivial, ?_⟩
    refine Pl.fin [(0, _), (8, _), (9, _), (10, _), (11, _), (14, _)] ⟨rfl, rfl, rfl, rfl, rfl, rfl, trivial⟩ ?_
    refine Go'.seq ?_
    refine Go'.seq ?_
    replace tn : ∀ b o, (innc (E := EI) h (⟨np, niso, ncnt_11, nib, nio, nic, ncb, nkb, nko, nkc⟩ : Ng) (K.take i1 ++ K.drop (i1 + 1))) b o → ¬ (b = tr) := tn
    replace hlt : ∀ b o, (innc (E := EI) h (⟨np, niso, ncnt_11, nib, nio, nic, ncb, nkb, nko, nkc⟩ : Ng) (K.take i1 ++ K.drop (i1 + 1))) b o → b < H.size := hlt
    replace dkn : Off (Gt.af h k1) (innc (E := EI) h (⟨np, niso, ncnt_11, nib, nio, nic, ncb, nkb, nko, nkc⟩ : Ng) (K.take i1 ++ K.drop (i1 + 1))) := dkn
    replace gall : Gro H (Gt.af (h + 1) (((⟨np, niso, ncnt, nib, nio, nic, ncb, nkb, nko, nkc⟩ : Ng), X, K) : Gt EI (h + 1))) (fun b o => (innc (E := EI) h (⟨np, niso, ncnt_11, nib, nio, nic, ncb, nkb, nko, nkc⟩ : Ng) (K.take i1 ++ K.drop (i1 + 1))) b o ∨ Gt.af h k1 b o) := gall
    clear sn
    obtain ⟨kp, hkn⟩ := hk.node
    have hol2 : i1 < os.length := by omega
    by_cases hsh : (Gt.X h k1).length < P.mn
    · -- too few
      -- region 30 (map.go:401)
      refine Go'.draw (fun _ => True) [(0, 0), (1, 0), (2, 0), (3, 1), (4, 0), (5, 1), (6, 0), (7, 0), (8, 1), (9, 0), (10, 0), (11, 1), (12, 0), (13, 0), (14, 0), (15, 0), (16, 1), (17, 0)] (by kernel_rfl) (by kernel_rfl) (trivial) ?_
      refine O.mv rfl rfl rfl rfl rfl ?_
      refine O.nc rfl rfl rfl rfl rfl ?_
      refine O.fa0 (off := 3) rfl rfl rfl rfl ⟨_, _, _, Go.Proofs.Try.underlying205, rfl, rfl, Go.Proofs.Try.sizeOf203⟩ rfl ?_
      refine O.ld rfl rfl rfl (fun w => ⟨Go.Proofs.Try.isAgg203 w, Go.Proofs.Try.sizeOf203 w⟩) rfl (show cl _ np 3 = some (.pointer (some ⟨ncb, 0, none⟩)) from hn.n.c3) ?_
      refine O.nc rfl rfl rfl rfl rfl ?_
      refine O.ld rfl rfl rfl (fun w => ⟨Go.Proofs.Try.isAgg206 w, Go.Proofs.Try.sizeOf206 w⟩) rfl (show cl _ ncb 0 = some (.slice (some ⟨nkb, nko, none⟩) (os).length nkc) from hn.k.c) ?_
      refine O.mv rfl rfl rfl rfl rfl ?_
      refine O.ix (j := i1) rfl rfl rfl rfl Go.Proofs.Try.underlying206 Go.Proofs.Try.sizeOf135 rfl rfl (by omega) (by omega) ?_
      refine O.ld rfl rfl rfl (fun w => ⟨Go.Proofs.Try.isAgg135 w, Go.Proofs.Try.sizeOf135 w⟩) rfl (hn.k.at hok) ?_
      refine O.nc rfl rfl rfl rfl rfl ?_
      refine O.fa0 (off := 2) rfl rfl rfl rfl ⟨_, _, _, Go.Proofs.Try.underlying205, rfl, rfl, Go.Proofs.Try.sizeOf202⟩ rfl ?_
      refine O.ld rfl rfl rfl (fun w => ⟨Go.Proofs.Try.isAgg202 w, Go.Proofs.Try.sizeOf202 w⟩) rfl (show cl _ (Gt.p h k1) 2 = some (.slice (some ⟨(Gt.g h k1).ib, (Gt.g h k1).io, none⟩) (Gt.X h k1).length (Gt.g h k1).ic) from hkn.c2) ?_
      refine O.len rfl rfl rfl rfl Go.Proofs.Try.underlying202 rfl ?_
      refine O.mv rfl rfl rfl rfl rfl ?_
      refine O.nc rfl rfl rfl rfl rfl ?_
      refine O.fa0 (off := 5) rfl rfl rfl rfl ⟨_, _, _, Go.Proofs.Try.underlying140, rfl, rfl, Go.Proofs.Try.sizeOf3⟩ rfl ?_
      refine O.ld rfl rfl rfl (fun w => ⟨Go.Proofs.Try.isAgg3 w, Go.Proofs.Try.sizeOf3 w⟩) rfl tc.mn' ?_
      refine O.cmp rfl rfl rfl rfl rfl rfl (lssT (by omega)) ?_
      refine Pl.fin [(0, _), (8, _), (9, _), (10, _), (11, _), (14, _), (199, _)] ⟨rfl, rfl, rfl, rfl, rfl, rfl, rfl, trivial⟩ ?_
      refine Go'.condT rfl ?_
      have hKL1 : (K.take i1 ++ [k1] ++ K.drop (i1 + 1)).length = X1.length + 1 := by simp only [List.length_append, List.length_take, List.length_drop, List.length_cons, List.length_nil]; omega
      have hsz5 := hF.size
      have hdD : ∀ b, (b = tr) → b < H11.size := fun b hb => by have := hD b hb; omega
      have hnr := hn
      rw [hpk2] at hnr
      have hb9 : (Pl.inter X1 ((K.take i1 ++ [k1] ++ K.drop (i1 + 1)).map (Gt.L h))).length < 4611686018427387904 := by
        have := congrArg List.length dm.l
        omega
      have hlT : (K.take i1).length = i1 := by rw [List.length_take]; omega
      have hx11 : 1 ≤ X1.length := by omega
      have hxm1 : X1.length ≤ P.mx := by omega
      have hmn9 := dm.mn
      have hw8l : H.size < H11.size := by obtain ⟨⟨v, hv⟩, _⟩ := w8 0 (by decide); exact cl_lt hv
      have hreb := rebal_tree (B := B) hP tc hnr hk dkn tn tnk hdD hlT hx11 hKL1 hxm1 hsh hmn9 hb9
      -- region 31 (map.go:402)
      refine Go'.region [(0, 0), (1, 0), (2, 0), (3, 2)] rfl ?_
      refine O.mv rfl rfl rfl rfl rfl ?_
      refine O.mv rfl rfl rfl rfl rfl ?_
      refine O.mv rfl rfl rfl rfl rfl ?_
      refine O.call rfl rfl rfl Go.Proofs.Try.call173 rfl hreb ?_
      rintro _ H9 ⟨rfl, g', X', K', r1, r2, r3, r4, r5, r6, r7, r8, r9⟩
      have hsz9 := r3.size
      replace tc := tc.fr r3 (fun o _ _ hz => hz.elim (fun hz => tn tr o hz rfl) (fun hz => tnk tr o hz rfl))
      have hq8 : ∀ b o, H.size ≤ b → b = H.size ∨ b = b14 → ¬ ((innc (E := EI) h (⟨np, niso, ncnt_11, nib, nio, nic, ncb, nkb, nko, nkc⟩ : Ng) (K.take i1 ++ K.drop (i1 + 1))) b o ∨ Gt.af h k1 b o) := fun b o h1 h3 hz => hz.elim (fun hz => by have := hlt b o hz; omega) (fun hz => (hak b o hz).elim (fun h => by have := hklt hkk b o h; omega) (fun h => hnew b o h3 hz))
      replace w8 := r3.wr w8
      replace m14 := r3.rd m14 (fun i hi => hq8 _ _ (by omega) (.inr rfl))
      replace hF := hF.trans' r3 (fun _ _ _ h => h) (fun b o hb hz => (gall b o hz).elim id (fun h => by omega))
      refine ⟨trivial, ?_⟩
      refine Pl.fin [(8, _), (9, _), (14, _)] ⟨rfl, rfl, rfl, trivial⟩ ?_
      refine Go'.seq ?_
      -- region 32 (map.go:404)
      refine Go'.region [(0, 1), (1, 2), (2, 0)] rfl ?_
      refine O.lds rfl rfl rfl (fun w => ⟨Go.Proofs.Try.isAgg138 w, Go.Proofs.Try.sizeOf138 w⟩) rfl rfl m14 ?_
      refine O.st rfl rfl Go.Proofs.Try.sizeOf138 rfl rfl rfl rfl rfl w8 ?_
      intro H10 W10
      have hlt9 : ∀ b o, innc h g' K' b o → b ≠ H.size := fun b o hb e => by
        rcases r9 b o hb with h9 | h9
        · exact hq8 b o (by omega) (.inl e) h9
        · omega
      replace r4 := r4.fr W10.fr (fun b o hb => nr (.inl (hlt9 b o hb)))
      replace hF := hF.trans' W10.fr (fun _ _ _ h => h) (fun b o hb h => by simp only [rng] at h; omega)
      have m8 : Rd H10 H.size 0 (EI.enc y) := W10.all
      refine ⟨trivial, ?_⟩
      refine O.asg rfl rfl rfl rfl rfl ?_
      refine Pl.fin [(8, _), (9, _)] ⟨rfl, rfl, trivial⟩ ?_
      refine Go'.ret (vs := [_, _]) Go.Proofs.Try.func166 Go.Proofs.Try.results166 ⟨⟨_, _, rfl, fun _ _ => run_loadVar_agg (fun w => ⟨Go.Proofs.Try.isAgg138 w, Go.Proofs.Try.sizeOf138 w⟩) rfl m8⟩, rfl, trivial⟩ ?_
      unfold DelQ
      rw [show Pl.dlr OI mx x (Gt.L (h + 1) (((⟨np, niso, ncnt, nib, nio, nic, ncb, nkb, nko, nkc⟩ : Ng), X, K) : Gt EI (h + 1))) = some (y, L1) from hd]
      have hlL : Gt.L (h + 1) ((g', X', K') : Gt EI (h + 1)) = L1 := by
        show Pl.inter X' (K'.map (Gt.L h)) = L1
        rw [r6]; exact dm.l
      refine ⟨((g', X', K') : Gt EI (h + 1)), rfl, hF, r4.good (by rw [r2]; show ncnt_11 = _; rw [show Pl.inter X' (K'.map (Gt.L h)) = L1 from hlL]; omega) r7 r5, r1, fun b o hb => ?_, hlL, ?_⟩
      · exact (r9 b o hb).elim (gall b o) (fun h => .inr (by omega))
      · show X.length ≤ X'.length + 1
        omega
    · -- enough
      -- region 30 (map.go:401)
      refine Go'.draw (fun _ => True) [(0, 0), (1, 0), (2, 0), (3, 1), (4, 0), (5, 1), (6, 0), (7, 0), (8, 1), (9, 0), (10, 0), (11, 1), (12, 0), (13, 0), (14, 0), (15, 0), (16, 1), (17, 0)] (by kernel_rfl) (by kernel_rfl) (trivial) ?_
      refine O.mv rfl rfl rfl rfl rfl ?_
      refine O.nc rfl rfl rfl rfl rfl ?_
      refine O.fa0 (off := 3) rfl rfl rfl rfl ⟨_, _, _, Go.Proofs.Try.underlying205, rfl, rfl, Go.Proofs.Try.sizeOf203⟩ rfl ?_
      refine O.ld rfl rfl rfl (fun w => ⟨Go.Proofs.Try.isAgg203 w, Go.Proofs.Try.sizeOf203 w⟩) rfl (show cl _ np 3 = some (.pointer (some ⟨ncb, 0, none⟩)) from hn.n.c3) ?_
      refine O.nc rfl rfl rfl rfl rfl ?_
      refine O.ld rfl rfl rfl (fun w => ⟨Go.Proofs.Try.isAgg206 w, Go.Proofs.Try.sizeOf206 w⟩) rfl (show cl _ ncb 0 = some (.slice (some ⟨nkb, nko, none⟩) (os).length nkc) from hn.k.c) ?_
      refine O.mv rfl rfl rfl rfl rfl ?_
      refine O.ix (j := i1) rfl rfl rfl rfl Go.Proofs.Try.underlying206 Go.Proofs.Try.sizeOf135 rfl rfl (by omega) (by omega) ?_
      refine O.ld rfl rfl rfl (fun w => ⟨Go.Proofs.Try.isAgg135 w, Go.Proofs.Try.sizeOf135 w⟩) rfl (hn.k.at hok) ?_
      refine O.nc rfl rfl rfl rfl rfl ?_
      refine O.fa0 (off := 2) rfl rfl rfl rfl ⟨_, _, _, Go.Proofs.Try.underlying205, rfl, rfl, Go.Proofs.Try.sizeOf202⟩ rfl ?_
      refine O.ld rfl rfl rfl (fun w => ⟨Go.Proofs.Try.isAgg202 w, Go.Proofs.Try.sizeOf202 w⟩) rfl (show cl _ (Gt.p h k1) 2 = some (.slice (some ⟨(Gt.g h k1).ib, (Gt.g h k1).io, none⟩) (Gt.X h k1).length (Gt.g h k1).ic) from hkn.c2) ?_
      refine O.len rfl rfl rfl rfl Go.Proofs.Try.underlying202 rfl ?_
      refine O.mv rfl rfl rfl rfl rfl ?_
      refine O.nc rfl rfl rfl rfl rfl ?_
      refine O.fa0 (off := 5) rfl rfl rfl rfl ⟨_, _, _, Go.Proofs.Try.underlying140, rfl, rfl, Go.Proofs.Try.sizeOf3⟩ rfl ?_
      refine O.ld rfl rfl rfl (fun w => ⟨Go.Proofs.Try.isAgg3 w, Go.Proofs.Try.sizeOf3 w⟩) rfl tc.mn' ?_
      refine O.cmp rfl rfl rfl rfl rfl rfl (lssF (by omega)) ?_
      refine Pl.fin [(0, _), (8, _), (9, _), (10, _), (11, _), (14, _), (199, _)] ⟨rfl, rfl, rfl, rfl, rfl, rfl, rfl, trivial⟩ ?_
      refine Go'.condF rfl ?_
      refine Go'.skip ?_
      refine Go'.seq ?_
      -- region 32 (map.go:404)
      refine Go'.region [(0, 1), (1, 2), (2, 0)] rfl ?_
      refine O.lds rfl rfl rfl (fun w => ⟨Go.Proofs.Try.isAgg138 w, Go.Proofs.Try.sizeOf138 w⟩) rfl rfl m14 ?_
      refine O.st rfl rfl Go.Proofs.Try.sizeOf138 rfl rfl rfl rfl rfl w8 ?_
      intro H10 W10
      replace hk := hk.fr W10.fr (fun b o hb => nr (.inl (fun e => (hak b o hb).elim (fun h => by have := hklt hkk b o h; omega) (fun _ => hnew b o (.inl e) hb))))
      replace hn := hn.fr W10.fr (fun b o hb => nr (.inl (by have := hlt b o hb; omega)))
      replace hF := hF.trans' W10.fr (fun _ _ _ h => h) (fun b o hb h => by simp only [rng] at h; omega)
      have m8 : Rd H10 H.size 0 (EI.enc y) := W10.all
      refine ⟨trivial, ?_⟩
      refine O.asg rfl rfl rfl rfl rfl ?_
      refine Pl.fin [(8, _), (9, _)] ⟨rfl, rfl, trivial⟩ ?_
      refine Go'.ret (vs := [_, _]) Go.Proofs.Try.func166 Go.Proofs.Try.results166 ⟨⟨_, _, rfl, fun _ _ => run_loadVar_agg (fun w => ⟨Go.Proofs.Try.isAgg138 w, Go.Proofs.Try.sizeOf138 w⟩) rfl m8⟩, rfl, trivial⟩ ?_
      unfold DelQ
      rw [show Pl.dlr OI mx x (Gt.L (h + 1) (((⟨np, niso, ncnt, nib, nio, nic, ncb, nkb, nko, nkc⟩ : Ng), X, K) : Gt EI (h + 1))) = some (y, L1) from hd]
      have hnP := hn.putM hn.alone (Fr.refl nowhere _) (fun _ _ _ h => h.elim) (Gro.refl _ _) (RA := Gt.af h k1) dkn (M := [k1]) (fun m hm => by
        rw [List.mem_singleton] at hm; subst hm
        exact ⟨hk, by omega, Gro.refl _ _, fun b o hb hr => dkn b o hb (rn_innc hr)⟩) (List.pairwise_singleton _ _)
      have hKL1 : (K.take i1 ++ [k1] ++ K.drop (i1 + 1)).length = X1.length + 1 := by simp only [List.length_append, List.length_take, List.length_drop, List.length_cons, List.length_nil]; omega
      rw [hpk2] at hnP
      refine ⟨(((⟨np, niso, ncnt_11, nib, nio, nic, ncb, nkb, nko, nkc⟩ : Ng), X1, K.take i1 ++ [k1] ++ K.drop (i1 + 1)) : Gt EI (h + 1)), rfl, hF, hnP.good (by show ncnt_11 = _; rw [dm.l]; omega) (by omega) hKL1, rfl, fun b o hb => ?_, dm.l, ?_⟩
      · rcases hb with hb | hb | ⟨m, hm, hb⟩
        · exact .inl (.inl hb)
        · exact .inl (.inr (.inl hb))
        · simp only [List.mem_append, List.mem_singleton] at hm
          rcases hm with (hm | rfl) | hm
          · exact .inl (.inr (.inr ⟨m, List.mem_of_mem_take hm, hb⟩))
          · exact (hak b o hb).imp (fun h => .inr (.inr ⟨k, hkK, h⟩)) id
          · exact .inl (.inr (.inr ⟨m, List.mem_of_mem_drop hm, hb⟩))
      · show X.length ≤ X1.length + 1
        omega

end Go.Bt.FZ
