/- The way down one side of a tree: counts that change on it, a leaf that changes at its end. Conditions: none. -/
import Derived.Test.YtnlempnbagoipaaToRn
namespace Go.Bt
open Go
set_option linter.unusedVariables false
variable {α : Type} {E : Elt α}
/-- The outermost child's place: the last one's,or the first one's. -/
def cix (d : Bool) (n : Nat) : Nat := bif d then n - 1 else 0
/-- The nodes on the way. -/
def Gt.sp (d : Bool) : (h : Nat) → Gt E h → Nat → Prop
  | 0,t,q => q = t.1.p
  | h + 1,t,q => q = t.1.p ∨ ∃ k,t.2.2[cix d t.2.2.length]? = some k ∧ Gt.sp d h k q
/-- The leaf at its end. -/
def Gt.lf (d : Bool) : (h : Nat) → Gt E h → Ng × List α
  | 0,t => t
  | h + 1,t => match t.2.2[cix d t.2.2.length]? with
    | some k => Gt.lf d h k
    | none => (t.1,[])
theorem Gt.sp_p (d : Bool) : ∀ {h : Nat} {t : Gt E h},Gt.sp d h t (Gt.p h t)
  | 0,_ => rfl
  | _ + 1,_ => .inl rfl
theorem Gt.sp_af {d : Bool} : ∀ {h : Nat} {t : Gt E h} {q : Nat},Gt.sp d h t q → ∀ o,o < 4 → Gt.af h t q o
  | 0,t,q,hq,o,ho => .inl ⟨hq,ho⟩
  | h + 1,t,q,hq,o,ho => by
    rcases hq with rfl | ⟨k,hk,hq⟩
    · exact .inl (.inl ⟨rfl,ho⟩)
    · exact .inr (.inr ⟨k,List.mem_of_getElem? hk,Gt.sp_af hq o ho⟩)
theorem Gt.Good.spcn {d : Bool} {H : Mem} {P : Ps} : ∀ {h : Nat} {t : Gt E h},Gt.Good H P h t → ∀ {q : Nat},Gt.sp d h t q → cl H q 1 = some (.int .i64 (Bt.cnOf H q : Int))
  | 0,t,hg,q,hq => by subst hq; exact (hg.cnOf).1
  | h + 1,t,hg,q,hq => by
    rcases hq with rfl | ⟨k,hk,hq⟩
    · exact (hg.cnOf).1
    · exact Gt.Good.spcn (hg.2.2.2.2.2.2.1 k (List.mem_of_getElem? hk)).1 hq
/-- Cells that read as they did. -/
theorem NodeM.eqv {H H' : Mem} {g : Ng} {X : List α} {kp : Value} {Z : Rg} (hn : NodeM E H g X kp) (hf : Fr Z H H') (he : ∀ b o,ncl E g b o → cl H' b o = cl H b o) : NodeM E H' g X kp where
  c0 := (he _ _ (.inl ⟨rfl,by omega⟩)).trans hn.c0
  c1 := (he _ _ (.inl ⟨rfl,by omega⟩)).trans hn.c1
  c2 := (he _ _ (.inl ⟨rfl,by omega⟩)).trans hn.c2
  c3 := (he _ _ (.inl ⟨rfl,by omega⟩)).trans hn.c3
  wr := hf.wr hn.wr
  sl := ⟨hn.sl.hlen,hn.sl.hle,fun i v hv => by
    have hi := (List.getElem?_eq_some_iff.1 hv).1
    rw [hn.sl.hlen] at hi
    have h3 := Nat.mul_le_mul_right E.s hn.sl.hle
    exact (he _ _ (.inr ⟨rfl,by omega,by omega⟩)).trans (hn.sl.rd i v hv),hf.wr hn.sl.wr⟩
  ic := hn.ic
  ne := hn.ne
theorem KidM.eqv {H H' : Mem} {g : Ng} {ks : List Nat} {Z : Rg} (hk : KidM H g ks) (hf : Fr Z H H') (he : ∀ b o,kcl g b o → cl H' b o = cl H b o) : KidM H' g ks where
  c := (he _ _ (.inl ⟨rfl,by omega⟩)).trans hk.c
  wr := hf.wr hk.wr
  sl := ⟨hk.sl.hlen,hk.sl.hle,fun i v hv => by
    have hi := (List.getElem?_eq_some_iff.1 hv).1
    rw [hk.sl.hlen] at hi
    have h3 := hk.sl.hle
    rw [show EP.s = 1 from rfl] at hi
    exact (he _ _ (.inr ⟨rfl,by omega,by omega⟩)).trans (hk.sl.rd i v hv),hf.wr hk.sl.wr⟩
  kc := hk.kc
  n1 := hk.n1
  n2 := hk.n2
  n3 := hk.n3
  n4 := hk.n4
  n5 := hk.n5
theorem Gt.Good.eqv {P : Ps} {Z : Rg} {H H' : Mem} (hf : Fr Z H H') : ∀ {h : Nat} {t : Gt E h},Gt.Good H P h t → (∀ b o,Gt.af h t b o → cl H' b o = cl H b o) → Gt.Good H' P h t
  | 0,_,⟨h1,h2⟩,he => ⟨h1.eqv hf he,h2⟩
  | h + 1,_,⟨h1,h2,h3,h4,h5,h6,h7,h8⟩,he =>
    ⟨h1.eqv hf fun b o hb => he b o (.inl hb),h2.eqv hf fun b o hb => he b o (.inr (.inl hb)),h3,h4,h5,h6,
      fun k hk => ⟨Gt.Good.eqv hf (h7 k hk).1 fun b o hb => he b o (.inr (.inr ⟨k,hk,hb⟩)),(h7 k hk).2⟩,h8⟩
/-- Where the walk down the side is. -/
structure Spn (H0 H : Mem) (P : Ps) (d : Bool) (δ : Nat → Nat) (h0 : Nat) (t0 : Gt E h0) (D : Nat → Prop) (h : Nat) (t : Gt E h) : Prop where
  g : Gt.Good H0 P h t
  fr : Fr (fun b o => o = 1 ∧ D b) H0 H
  val : ∀ q,D q → cl H q 1 = some (.int .i64 (δ (Bt.cnOf H0 q) : Int))
  off : ∀ q,D q → ¬ Gt.af h t q 1
  all : ∀ q,Gt.sp d h0 t0 q ↔ D q ∨ Gt.sp d h t q
  lf : Gt.lf d h t = Gt.lf d h0 t0
  sub : ∀ b o,Gt.af h t b o → Gt.af h0 t0 b o
  x1 : 1 ≤ (Gt.X h t).length
  le : (Gt.L h t).length ≤ (Gt.L h0 t0).length
  mn : h < h0 → P.mn ≤ (Gt.X h t).length
theorem kid_le {h : Nat} {t : Gt E (h + 1)} (hl : t.2.2.length = t.2.1.length + 1) {k : Gt E h} (hk : k ∈ t.2.2) : (Gt.L h k).length ≤ (Gt.L (h + 1) t).length := by
  have h1 : (Gt.L (h + 1) t).length = _ := Pl.inter_length t.2.1 (t.2.2.map (Gt.L h)) (by rw [List.length_map]; exact hl)
  have h2 : (Gt.L h k).length ≤ ((t.2.2.map (Gt.L h)).map List.length).sum := sum_mem List.length (List.mem_map.2 ⟨k,hk,rfl⟩)
  omega
section
variable {H0 H H' : Mem} {P : Ps} {d : Bool} {δ : Nat → Nat} {h0 h : Nat} {t0 : Gt E h0} {D : Nat → Prop}
theorem Spn.cnt {t : Gt E h} (s : Spn H0 H P d δ h0 t0 D h t) : cl H (Gt.p h t) 1 = some (.int .i64 (Bt.cnOf H0 (Gt.p h t) : Int)) :=
  s.fr.keep (s.g.cnOf).1 fun hz => s.off _ hz.2 (Gt.af_p (by omega))
/-- One step down. -/
theorem Spn.step {t : Gt E (h + 1)} {k : Gt E h} (h1 : 1 ≤ P.mn) (s : Spn H0 H P d δ h0 t0 D (h + 1) t) (hk : t.2.2[cix d t.2.2.length]? = some k) (W : Wrote H H' t.1.p 1 [.int .i64 (δ (Bt.cnOf H0 t.1.p) : Int)]) :
    Spn H0 H' P d δ h0 t0 (fun q => D q ∨ q = t.1.p) h k := by
  obtain ⟨q1,q2,q3⟩ := s.g.2.2.2.2.2.2.1 k (List.mem_of_getElem? hk)
  have hD : ∀ q,D q → q ≠ t.1.p := fun q hq e => s.off q hq (by rw [e]; exact Gt.af_p (t := t) (by omega))
  refine ⟨q1,s.fr.trans' W.fr (fun b o _ hz => ⟨hz.1,.inl hz.2⟩) (fun b o _ hz => ?_),fun q hq => ?_,fun q hq hb => ?_,fun q => ?_,?_,fun b o hb => s.sub b o (.inr (.inr ⟨k,List.mem_of_getElem? hk,hb⟩)),Nat.le_trans h1 q2,Nat.le_trans (kid_le s.g.2.2.2.2.2.1 (List.mem_of_getElem? hk)) s.le,fun _ => q2⟩
  · have h1 := hz.1; have h2 := hz.2.1; have h3 := hz.2.2
    simp only [List.length_cons,List.length_nil] at h3
    exact ⟨by omega,.inr h1⟩
  · rcases hq with hq | rfl
    · exact W.fr.keep (s.val q hq) (nr (.inl (hD q hq)))
    · exact W.at
  · rcases hq with hq | rfl
    · exact s.off q hq (.inr (.inr ⟨k,List.mem_of_getElem? hk,hb⟩))
    · exact (q3 _ _ hb).1 (.inl ⟨rfl,by omega⟩)
  · rw [s.all q]
    constructor
    · rintro (hq | hq)
      · exact .inl (.inl hq)
      · rcases hq with rfl | ⟨k',hk',hq⟩
        · exact .inl (.inr rfl)
        · rw [hk] at hk'; cases hk'; exact .inr hq
    · rintro ((hq | rfl) | hq)
      · exact .inl hq
      · exact .inr (.inl rfl)
      · exact .inr (.inr ⟨k,hk,hq⟩)
  · rw [← s.lf]
    show _ = (match t.2.2[cix d t.2.2.length]? with
      | some k => Gt.lf d h k
      | none => (t.1,[]))
    rw [hk]
end
end Go.Bt
namespace Go.Bt
open Go
set_option linter.unusedVariables false
variable {α : Type} {E : Elt α}
/-- A node's own cells,but for its count,are none of a spine's counts. -/
theorem Gt.Good.own {H : Mem} {P : Ps} {d : Bool} {h : Nat} {t : Gt E (h + 1)} (hg : Gt.Good H P (h + 1) t) {b o : Nat} (hb : ncl E t.1 b o ∨ kcl t.1 b o) (hne : ¬ (b = t.1.p ∧ o = 1)) : ¬ (o = 1 ∧ Gt.sp d (h + 1) t b) := by
  rintro ⟨ho,hs⟩
  rcases hs with rfl | ⟨k,hk,hs⟩
  · exact hne ⟨rfl,ho⟩
  · have h1 := (hg.2.2.2.2.2.2.1 k (List.mem_of_getElem? hk)).2.2 b o (Gt.sp_af hs o (by omega))
    exact hb.elim h1.1 h1.2
/-- The walk back: the counts are set right again. -/
structure Sp2 (H0 H : Mem) (P : Ps) (d : Bool) (δ : Nat → Nat) (h0 : Nat) (t0 : Gt E h0) (bx : Nat) (D : Nat → Prop) (h : Nat) (t : Gt E h) : Prop where
  g : Gt.Good H0 P h t
  fr : Fr (fun b o => (o = 1 ∧ Gt.sp d h0 t0 b) ∨ b = bx) H0 H
  nb : ∀ o,¬ Gt.af h0 t0 bx o
  val : ∀ q,D q → cl H q 1 = some (.int .i64 (Bt.cnOf H0 q : Int))
  val2 : ∀ q,Gt.sp d h t q → cl H q 1 = some (.int .i64 (δ (Bt.cnOf H0 q) : Int))
  off : ∀ q,D q → ¬ Gt.af h t q 1
  all : ∀ q,Gt.sp d h0 t0 q ↔ D q ∨ Gt.sp d h t q
  sub : ∀ b o,Gt.af h t b o → Gt.af h0 t0 b o
  le : (Gt.L h t).length ≤ (Gt.L h0 t0).length
  x1 : 1 ≤ (Gt.X h t).length
section
variable {H0 H H' : Mem} {P : Ps} {d : Bool} {δ : Nat → Nat} {h0 h bx : Nat} {t0 : Gt E h0} {D : Nat → Prop}
theorem Sp2.keep {t : Gt E (h + 1)} (s : Sp2 H0 H P d δ h0 t0 bx D (h + 1) t) {b o : Nat} {v : Value} (hb : ncl E t.1 b o ∨ kcl t.1 b o) (hne : ¬ (b = t.1.p ∧ o = 1)) (hv : cl H0 b o = some v) : cl H b o = some v := by
  have haf : Gt.af (h + 1) t b o := hb.elim .inl (fun h => .inr (.inl h))
  refine s.fr.keep hv fun hz => ?_
  rcases hz with ⟨ho,hs⟩ | rfl
  · rcases (s.all b).1 hs with hD | hs
    · exact s.off b hD (ho ▸ haf)
    · exact s.g.own hb hne ⟨ho,hs⟩
  · exact s.nb o (s.sub _ _ haf)
theorem Sp2.inner {t : Gt E (h + 1)} (s : Sp2 H0 H P d δ h0 t0 bx D (h + 1) t) {k : Gt E h} (hk : t.2.2[cix d t.2.2.length]? = some k) :
    cl H t.1.p 3 = some (.pointer (some ⟨t.1.cb,0,none⟩)) ∧ cl H t.1.cb 0 = some (.slice (some ⟨t.1.kb,t.1.ko,none⟩) t.2.2.length t.1.kc) ∧ cl H t.1.kb (t.1.ko + cix d t.2.2.length * 1) = some (ptr (Gt.p h k)) := by
  have hK := s.g.2.1
  have hi := (List.getElem?_eq_some_iff.1 hk).1
  have hc := hK.c
  rw [Gt.ps,List.length_map] at hc
  have hle := hK.sl.hle
  rw [List.length_map,Gt.ps,List.length_map] at hle
  refine ⟨s.keep (.inl (.inl ⟨rfl,by omega⟩)) (by omega) s.g.1.c3,s.keep (.inr (.inl ⟨rfl,by omega⟩)) (by omega) hc,s.keep (.inr (.inr ⟨rfl,by omega,by omega⟩)) (fun e => hK.n3 e.1.symm) ?_⟩
  exact hK.o.at (by rw [Gt.ps,List.map_map,List.getElem?_map,hk]; rfl)
theorem Sp2.wfr {t : Gt E h} (s : Sp2 H0 H P d δ h0 t0 bx D h t) (W : Wrote H H' (Gt.p h t) 1 [.int .i64 (Bt.cnOf H0 (Gt.p h t) : Int)]) : Fr (fun b o => (o = 1 ∧ Gt.sp d h0 t0 b) ∨ b = bx) H0 H' :=
  s.fr.trans' W.fr (fun _ _ _ h => h) fun b o _ hz => by
    have h1 := hz.1; have h2 := hz.2.1; have h3 := hz.2.2
    simp only [List.length_cons,List.length_nil] at h3
    exact .inl ⟨by omega,h1 ▸ (s.all _).2 (.inr (Gt.sp_p d))⟩
theorem Sp2.step {t : Gt E (h + 1)} {k : Gt E h} (h1 : 1 ≤ P.mn) (s : Sp2 H0 H P d δ h0 t0 bx D (h + 1) t) (hk : t.2.2[cix d t.2.2.length]? = some k) (W : Wrote H H' t.1.p 1 [.int .i64 (Bt.cnOf H0 t.1.p : Int)]) :
    Sp2 H0 H' P d δ h0 t0 bx (fun q => D q ∨ q = t.1.p) h k := by
  obtain ⟨q1,q2,q3⟩ := s.g.2.2.2.2.2.2.1 k (List.mem_of_getElem? hk)
  have hD : ∀ q,D q → q ≠ t.1.p := fun q hq e => s.off q hq (by rw [e]; exact Gt.af_p (t := t) (by omega))
  have hpk : ∀ q,Gt.sp d h k q → q ≠ t.1.p := fun q hq e => (q3 _ _ (Gt.sp_af hq 1 (by omega))).1 (.inl ⟨e,by omega⟩)
  refine ⟨q1,s.wfr (t := t) W,s.nb,fun q hq => ?_,fun q hq => W.fr.keep (s.val2 q (.inr ⟨k,hk,hq⟩)) (nr (.inl (hpk q hq))),fun q hq hb => ?_,fun q => ?_,fun b o hb => s.sub b o (.inr (.inr ⟨k,List.mem_of_getElem? hk,hb⟩)),Nat.le_trans (kid_le s.g.2.2.2.2.2.1 (List.mem_of_getElem? hk)) s.le,Nat.le_trans h1 q2⟩
  · rcases hq with hq | rfl
    · exact W.fr.keep (s.val q hq) (nr (.inl (hD q hq)))
    · exact W.at
  · rcases hq with hq | rfl
    · exact s.off q hq (.inr (.inr ⟨k,List.mem_of_getElem? hk,hb⟩))
    · exact (q3 _ _ hb).1 (.inl ⟨rfl,by omega⟩)
  · rw [s.all q]
    constructor
    · rintro (hq | hq)
      · exact .inl (.inl hq)
      · rcases hq with rfl | ⟨k',hk',hq⟩
        · exact .inl (.inr rfl)
        · rw [hk] at hk'; cases hk'; exact .inr hq
    · rintro ((hq | rfl) | hq)
      · exact .inl hq
      · exact .inr (.inl rfl)
      · exact .inr (.inr ⟨k,hk,hq⟩)
/-- At the leaf: all is as it was. -/
theorem Sp2.fin {t : Gt E 0} (s : Sp2 H0 H P d δ h0 t0 bx D 0 t) (hg0 : Gt.Good H0 P h0 t0) (W : Wrote H H' t.1.p 1 [.int .i64 (Bt.cnOf H0 t.1.p : Int)]) : Gt.Good H' P h0 t0 := by
  have hf := s.wfr (t := t) W
  have hD : ∀ q,D q → q ≠ t.1.p := fun q hq e => s.off q hq (by rw [e]; exact Gt.af_p (t := t) (by omega))
  refine hg0.eqv hf fun b o hb => ?_
  by_cases hs : o = 1 ∧ Gt.sp d h0 t0 b
  · obtain ⟨rfl,hs⟩ := hs
    rw [hg0.spcn hs]
    rcases (s.all b).1 hs with hq | hq
    · exact W.fr.keep (s.val b hq) (nr (.inl (hD b hq)))
    · have e : b = t.1.p := hq
      subst e
      exact W.at
  · exact hf.cell b o (hg0.lt hb) fun hz => hz.elim hs fun e => s.nb o (e ▸ hb)
end
namespace Pl
variable {α : Type} (O : Swo α)
end Pl
end Go.Bt
namespace Go.Bt
open Go
variable {α : Type} {E : Elt α}
section
variable {H0 H : Mem} {P : Ps} {d : Bool} {δ : Nat → Nat} {h0 h bx : Nat} {t0 : Gt E h0} {D : Nat → Prop} {l X : List α} {g : Ng}
theorem Sp2.pos {t : Gt E h} (s : Sp2 H0 H P d δ h0 t0 bx D h t) : 1 ≤ (Gt.L h t).length := s.g.ne s.x1
end
end Go.Bt
