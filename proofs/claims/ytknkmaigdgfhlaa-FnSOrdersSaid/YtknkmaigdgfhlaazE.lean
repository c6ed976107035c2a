/- Contracts of functions of the program, proved by walking through their code. Conditions: those that each theorem names. -/
import Derived.Test.YtknkmaigdgfhlaazD
namespace Go.Bt.FZ
open Go Go.Proofs
set_option maxRecDepth 20000
set_option maxHeartbeats 4000000
set_option linter.unusedVariables false

def PV : Option Int → Value := fun _ => .agg #[]
structure NPre (H : Mem) (tr : Nat) (P : Ps) (h : Nat) (t : Gt EI h) (bp op : Nat) : Prop where
  tc : TrC H tr P.iso P.mx P.mn
  g : Gt.Good H P h t
  c : cl H bp op = some (ptr (Gt.p h t))
  nt : ∀ o, ¬ Gt.af h t tr o
  srt : Pl.Srt OI (Gt.L h t)
  len : (Gt.L h t).length < 4611686018427387904
def SetQ (H : Mem) (P : Ps) (h : Nat) (t : Gt EI h) (x : Int) (v : Value) (H' : Mem) : Prop :=
  (∃ t', v = .tuple #[PV (Pl.got OI x (Gt.L h t)), .bool (Pl.fnd OI x (Gt.L h t)), .bool false] ∧ SetT OI H H' P h t t' x) ∨
  (v = .tuple #[PV none, .bool false, .bool true] ∧ Fr nowhere H H' ∧ (Gt.X h t).length = P.mx ∧ ¬ Gt.NF OI P x h t)
structure PsOk (P : Ps) : Prop where
  hm : P.mx = 2 * P.mn + 1
  h1 : 1 ≤ P.mn
  hx : P.mx ≤ 255

theorem split_spec {B : World} {H : Mem} {tr : Nat} {P : Ps} (hP : PsOk P) : ∀ {h : Nat} {t : Gt EI h}, TrC H tr P.iso P.mx P.mn → Gt.Good H P h t → (Gt.X h t).length = P.mx → (∀ o, ¬ Gt.af h t tr o) → (Gt.L h t).length < 4611686018427387904 →
    Fn Try.prog B 162 [.pointer (some ⟨tr, 0, none⟩), .pointer (some ⟨Gt.p h t, 0, none⟩)] H (fun v H' => ∃ t1 t2 med, v = .tuple #[ptr (Gt.p h t2), .agg (EI.enc med).toArray] ∧ SplT H H' P h t t1 t2 med)
  | 0, (g, X), ht, hg, hX, hoff, hb => by
    have hN : NodeM EI H g X (.pointer none) := hg.1
    have hX' : X.length = P.mx := hX
    have hmm := hP.hm
    obtain ⟨n1, n2⟩ := off_node (E := EI) (g := g) hN.ic hoff
    obtain ⟨med, hmed⟩ : ∃ med, X[P.mn]? = some med := ⟨X[P.mn], List.getElem?_eq_getElem (by omega)⟩
    refine (splitLeaf_spec ht hN hX' hmm hP.h1 hP.hx hmed n1 n2).mono ?_
    rintro v H' ⟨q, rfl, hq, hql, hf, m1, m2⟩
    obtain ⟨t1, t2, e, hs⟩ := split_leaf hg hX' hmm hP.h1 hmed hq hql hf m1 m2
    exact ⟨t1, t2, med, by rw [e], hs⟩
  | h + 1, (g, X, K), ht, hg, hX, hoff, hb => by
    have hN : NodeM EI H g X (.pointer (some ⟨g.cb, 0, none⟩)) := hg.1
    have hK : KidM H g (Gt.ps h K) := hg.2.1
    have hX' : X.length = P.mx := hX
    have hmm := hP.hm
    have hh1 := hP.h1
    have hKl : K.length = X.length + 1 := hg.2.2.2.2.2.1
    obtain ⟨n1, n2⟩ := off_node (E := EI) (g := g) hN.ic (fun o ho => hoff o (.inl ho))
    obtain ⟨n3, n4⟩ := off_kids (g := g) hK.kc (fun o ho => hoff o (.inr (.inl ho)))
    obtain ⟨med, hmed⟩ : ∃ med, X[P.mn]? = some med := ⟨X[P.mn], List.getElem?_eq_getElem (by omega)⟩
    let cn : Nat → Nat := fun q => match cl H q 1 with
      | some (.int _ z) => z.toNat
      | _ => 0
    have hcn : ∀ k ∈ K, cl H (Gt.p h k) 1 = some (.int .i64 (cn (Gt.p h k) : Int)) ∧ cn (Gt.p h k) = (Gt.L h k).length := fun k hk => by
      obtain ⟨hkg, _⟩ := hg.2.2.2.2.2.2.1 k hk
      obtain ⟨kp, hkn⟩ := hkg.node
      have e := hkn.c1
      have e2 : cn (Gt.p h k) = (Gt.g h k).cnt := by
        show (match cl H (Gt.g h k).p 1 with
          | some (.int _ z) => z.toNat
          | _ => 0) = _
        rw [e]
        exact Int.toNat_natCast _
      rw [e2]
      exact ⟨e, hkg.cnt⟩
    have hsum : ∀ l : List (Gt EI h), (∀ k ∈ l, k ∈ K) → ((Gt.ps h l).map cn).sum = ((l.map (Gt.L h)).map List.length).sum := fun l hl => by
      congr 1
      unfold Gt.ps
      rw [List.map_map, List.map_map]
      exact List.map_congr_left fun k hk => (hcn k (hl k hk)).2
    have hlen : (Pl.inter X (K.map (Gt.L h))).length = X.length + ((K.map (Gt.L h)).map List.length).sum := Pl.inter_length _ _ (by rw [List.length_map]; exact hKl)
    have hb' : (Pl.inter X (K.map (Gt.L h))).length < 4611686018427387904 := hb
    refine (splitInner_spec cn ht hN hK hX' (by rw [Gt.ps, List.length_map]; omega) hmm hP.h1 hP.hx hmed n1 n2 n3 n4 (fun q hq => ?_) (by rw [hsum K (fun _ h => h)]; omega)).mono ?_
    · obtain ⟨k, hk, rfl⟩ := List.mem_map.1 hq
      obtain ⟨hkg, _, hkd⟩ := hg.2.2.2.2.2.2.1 k hk
      obtain ⟨kp, hkn⟩ := hkg.node
      have hp0 : ∀ o, o < 4 → (¬ ncl EI g (Gt.p h k) o ∧ ¬ kcl g (Gt.p h k) o) := fun o ho => hkd _ _ (Gt.af_node (.inl ⟨rfl, ho⟩))
      exact ⟨(hcn k hk).1, fun e => (hp0 0 (by omega)).1 (.inl ⟨e, by omega⟩), fun e => (hp0 1 (by omega)).1 (.inr e), fun e => (hp0 0 (by omega)).2 (.inl ⟨e, by omega⟩)⟩
    · rintro v H' ⟨q, rfl, hq, hql, hf, m1, k1, m2, k2⟩
      have s1 := hsum (K.take (P.mn + 1)) (fun _ h => List.mem_of_mem_take h)
      have s2 := hsum (K.drop (P.mn + 1)) (fun _ h => List.mem_of_mem_drop h)
      rw [show Gt.ps h (K.take (P.mn + 1)) = (Gt.ps h K).take (P.mn + 1) from List.map_take, List.map_take (f := Gt.L h)] at s1
      rw [show Gt.ps h (K.drop (P.mn + 1)) = (Gt.ps h K).drop (P.mn + 1) from List.map_drop, List.map_drop (f := Gt.L h)] at s2
      obtain ⟨t1, t2, e, hs⟩ := split_inner hg hX' hmm hP.h1 hmed hq hql hf (by rw [s1]) (by rw [s2]) m1 k1 m2 k2
      exact ⟨t1, t2, med, by rw [e], hs⟩
end Go.Bt.FZ