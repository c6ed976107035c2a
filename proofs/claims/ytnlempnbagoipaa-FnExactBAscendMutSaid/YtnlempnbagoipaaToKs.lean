/- What the moves of an iterator tell. Conditions: none. -/
import Derived.ChangeArms
import Derived.Deep.Strs
import Derived.ChangeSame
import Derived.Test.YtnlempnbagoipaaToKi
namespace Go.Bt
open Go
set_option linter.unusedVariables false
/-- A move: its number,its item. -/
def EMv : Elt (Int × Int × Int) := { enc := fun m => [.int .i64 m.1,.int .i64 m.2.1,.int .i64 m.2.2],s := 3,len := fun _ => rfl,one := fun _ => rfl,pos := by decide }
theorem EMv.of (vs : List Value) (h : AllOk [.int .i64,.int .i64,.int .i64] vs) : ∃ y,EMv.enc y = vs := by
  obtain ⟨x1,v1,e1,⟨a,e2,_⟩,h1⟩ := h.get1
  obtain ⟨x2,v2,e3,⟨b,e4,_⟩,h2⟩ := h1.get1
  obtain ⟨x3,v3,e5,⟨c,e6,_⟩,h3⟩ := h2.get1
  rw [e1,e3,e5,e2,e4,e6,h3.nil']
  exact ⟨(a,b,c),rfl⟩
namespace Pl
/-- A place in a list of n items,if it is one. -/
def cut (n : Nat) (z : Int) : Option Nat := if 0 ≤ z ∧ z < (n : Int) then some z.toNat else none
theorem cut_nat (n q : Nat) : cut n (q : Int) = if q < n then some q else none := by
  unfold cut
  by_cases h : q < n
  · rw [if_pos ⟨by omega,by omega⟩,if_pos h]; rfl
  · rw [if_neg (by omega),if_neg h]
theorem cut_last (n : Nat) : cut n ((n : Int) - 1) = if 0 < n then some (n - 1) else none := by
  by_cases h : 0 < n
  · rw [show (n : Int) - 1 = ((n - 1 : Nat) : Int) by omega,cut_nat,if_pos (by omega),if_pos h]
  · rw [if_neg h,cut,if_neg (by omega)]
theorem cut_first (n : Nat) : cut n 0 = if 0 < n then some 0 else none := cut_nat n 0
theorem cut_next (n q : Nat) : cut n ((q : Int) + 1) = if q + 1 < n then some (q + 1) else none := cut_nat n (q + 1)
theorem cut_neg (n : Nat) : cut n (-1) = none := by rw [cut,if_neg (by omega)]
section
variable {α : Type} (O : Swo α) (l : List α)
/-- Where a move leads from a place (−1 or the list's length: nowhere). -/
def mvTo (m : Int × α) (st : Option Nat) : Int :=
  if m.1 = 2 ∨ m.1 = 3 then (match st with | none => -1 | some q => if m.1 = 2 then (q : Int) + 1 else (q : Int) - 1)
  else if m.1 = 1 then (l.length : Int) - 1
  else if m.1 = 4 ∨ m.1 = 5 then (pos O m.2 l : Int)
  else 0
/-- Whether it is told. -/
def mvTold (m : Int × α) (st : Option Nat) : Bool := if m.1 = 2 ∨ m.1 = 3 then st.isSome || l.isEmpty else true
end
/-- Two lists agree wherever it is told. -/
def Agree {γ : Type} (a b : List γ) (t : List Bool) : Prop := a.length = b.length ∧ t.length = b.length ∧ ∀ j : Nat,t[j]? = some true → a[j]? = b[j]?
theorem Agree.nil {γ : Type} : Agree ([] : List γ) [] [] := ⟨rfl,rfl,fun _ _ => rfl⟩
end Pl
end Go.Bt
namespace Go.Bt
open Go
namespace Pl
section
variable {α : Type} (O : Swo α) (l : List α)
/-- What a move did: where it is told,it came to what the reference says; else the reference stands nowhere. -/
structure Res (m : Int × α) (s0 : Option Nat) (b : Bool) (st : Option Nat) : Prop where
  told : mvTold l m s0 = true → b = st.isSome ∧ st = cut l.length (mvTo O l m s0)
  not : mvTold l m s0 = false → cut l.length (mvTo O l m s0) = none
variable {O l}
theorem Res.out {m : Int × α} {s0 st : Option Nat} {b : Bool} (h : Res O l m s0 b st) {kv : α} (hkv : ∀ q,st = some q → l[q]? = some kv) (ht : mvTold l m s0 = true) : (if b = true then some kv else none) = (cut l.length (mvTo O l m s0)).bind (l[·]?) := by
  obtain ⟨h1,h2⟩ := h.told ht
  rw [← h2,h1]
  cases st with
  | none => rfl
  | some q => exact (hkv q rfl).symm
theorem Res.first {m : Int × α} {s0 : Option Nat} (h1 : m.1 ≠ 1) (h2 : m.1 ≠ 2) (h3 : m.1 ≠ 3) (h4 : m.1 ≠ 4) (h5 : m.1 ≠ 5) : Res O l m s0 (decide (0 < l.length)) (if 0 < l.length then some 0 else none) := by
  have e : mvTo O l m s0 = 0 := by unfold mvTo; rw [if_neg (by omega),if_neg h1,if_neg (by omega)]
  refine ⟨fun _ => ⟨?_,by rw [e,cut_first]⟩,fun h => ?_⟩
  · by_cases h : 0 < l.length <;> simp [h]
  · unfold mvTold at h; rw [if_neg (by omega)] at h; cases h
theorem Res.last {m : Int × α} {s0 : Option Nat} (h1 : m.1 = 1) : Res O l m s0 (decide (0 < l.length)) (if 0 < l.length then some (l.length - 1) else none) := by
  have e : mvTo O l m s0 = (l.length : Int) - 1 := by unfold mvTo; rw [if_neg (by omega),if_pos h1]
  refine ⟨fun _ => ⟨?_,by rw [e,cut_last]⟩,fun h => ?_⟩
  · by_cases h : 0 < l.length <;> simp [h]
  · unfold mvTold at h; rw [if_neg (by omega)] at h; cases h
theorem Res.next {m : Int × α} {s0 st st' : Option Nat} {b : Bool} (h1 : m.1 = 2) (hs : ∀ q,s0 = some q → st = some q) (h : ∀ q,st = some q → b = decide (q + 1 < l.length) ∧ st' = if q + 1 < l.length then some (q + 1) else none) (hn : l = [] → b = false ∧ st' = none) : Res O l m s0 b st' := by
  cases s0 with
  | some q =>
    have e : mvTo O l m (some q) = (q : Int) + 1 := by unfold mvTo; rw [if_pos (.inl h1)]; simp only; rw [if_pos h1]
    obtain ⟨h2,h3⟩ := h q (hs q rfl)
    refine ⟨fun _ => ⟨?_,by rw [e,cut_next]; exact h3⟩,fun h => ?_⟩
    · rw [h2,h3]; by_cases h : q + 1 < l.length <;> simp [h]
    · unfold mvTold at h; rw [if_pos (.inl h1)] at h; cases h
  | none =>
    have e : mvTo O l m none = -1 := by unfold mvTo; rw [if_pos (.inl h1)]
    refine ⟨fun h => ?_,fun _ => by rw [e,cut_neg]⟩
    unfold mvTold at h
    rw [if_pos (.inl h1)] at h
    obtain ⟨h2,h3⟩ := hn (by simpa using h)
    rw [e,cut_neg,h2,h3]; exact ⟨rfl,rfl⟩
end
end Pl
end Go.Bt
namespace Go.Bt
open Go
namespace Pl
section
variable {α : Type} (O : Swo α) (T : List α)
end
end Pl
end Go.Bt
/- A slice of truth values that came in. Conditions: those that each theorem names. -/
namespace Go.Bt
open Go
set_option linter.unusedVariables false
theorem slice_inG {α : Type} (E : Elt α) {Hh : Type} {enc : TypeId × Value → Hh} {P : Program} {w : World} {fuel : Nat} {t e : TypeId} {a : Option Addr} {len cap : Nat} {x : DataW Hh × List MemPlace} (ht : P.underlying t = some (.slice e))
    (hce : P.cellsOf e = E.s) (hE : ∀ (n : Nat) (cs : List Value) (y : DataW Hh × List MemPlace),DataW.trod enc P w 0 (fun _ => true) true n e cs = some y → ∃ y,E.enc y = cs) (h : DataW.trod enc P w 0 (fun _ => true) true fuel t [.slice a len cap] = some x) : ∃ l,InS E w.heap (.slice a len cap) l := by
  rcases Go.Deep.open_slice ht h with ⟨hcs,_⟩ | ⟨a',len',cap',m',n,D,Pl,hcs,_,hl,_,hm,_,hx⟩
  · simp at hcs
    obtain ⟨rfl,rfl,rfl⟩ := hcs
    exact ⟨[],.inr ⟨rfl,_,_,rfl⟩⟩
  · simp at hcs
    obtain ⟨rfl,rfl,rfl⟩ := hcs
    simp only [if_true] at hm
    subst hm
    rcases Nat.eq_zero_or_pos m' with rfl | hc
    · obtain rfl : len = 0 := by omega
      exact ⟨[],.inr ⟨rfl,_,_,rfl⟩⟩
    · have hex : ∀ i,i < m' → ∃ y : α,w.cells? 0 (a'.add (i * E.s)) E.s = some (E.enc y) := fun i hi => by
        obtain ⟨cs',h1,h2⟩ := hx i hi
        obtain ⟨y,hy⟩ := hE _ _ _ h2
        rw [hce] at h1
        exact ⟨y,by rw [hy]; exact h1⟩
      have hx' : ∀ i,∃ y : α,i < m' → w.cells? 0 (a'.add (i * E.s)) E.s = some (E.enc y) := fun i => by
        by_cases hi : i < m'
        · obtain ⟨y,hy⟩ := hex i hi
          exact ⟨y,fun _ => hy⟩
        · obtain ⟨y,_⟩ := hex 0 hc
          exact ⟨y,fun hh => absurd hh hi⟩
      obtain ⟨f,hf⟩ : ∃ f : Nat → α,∀ i,i < m' → w.cells? 0 (a'.add (i * E.s)) E.s = some (E.enc (f i)) := ⟨fun i => Classical.choose (hx' i),fun i => Classical.choose_spec (hx' i)⟩
      obtain ⟨b,o,s⟩ := a'
      have cell : ∀ i j,i < m' → j < E.s → w.cell? ((Addr.add ⟨b,o,s⟩ (i * E.s)).add j) = (E.enc (f i))[j]? := fun i j hi hj => (World.cells?_some (hf i hi)).2.2 j hj
      have hs : s = none := by
        have h0 := cell 0 0 hc E.pos
        cases s with
        | none => rfl
        | some k =>
          have hne : (E.enc (f 0))[0]? ≠ none := by
            intro hh
            have := List.getElem?_eq_none_iff.1 hh
            rw [E.len] at this
            have := E.pos
            omega
          rw [← h0] at hne
          simp only [Nat.zero_mul,Addr.add,if_true,World.cell?] at hne
          split at hne <;> simp at hne
      subst hs
      refine ⟨(List.range len).map f,.inl ⟨b,o,m',by simp,by simpa using hl,fun j v hv => ?_⟩⟩
      have hj := (List.getElem?_eq_some_iff.1 hv).1
      rw [row_len,List.length_map,List.length_range] at hj
      have hi : j / E.s < len := Nat.div_lt_of_lt_mul (by rw [Nat.mul_comm]; exact hj)
      have hr : j % E.s < E.s := Nat.mod_lt _ E.pos
      have hq : ((List.range len).map f)[j / E.s]? = some (f (j / E.s)) := by simp [hi]
      have hjm : j / E.s * E.s + j % E.s = j := by rw [Nat.mul_comm]; exact Nat.div_add_mod j E.s
      have h1 := cell (j / E.s) (j % E.s) (by omega) hr
      have hlt : j % E.s < (E.enc (f (j / E.s))).length := by rw [E.len]; exact hr
      have hg := row_get E hq (j % E.s) _ (List.getElem?_eq_getElem hlt)
      rw [hjm] at hg
      have hvv := Option.some.inj (hv.symm.trans hg)
      have cc : ∀ n,World.cell? w ⟨b,n,none⟩ = cl w.heap b n := fun n => by rw [← mk_self w]; exact mk_cell _ _ _ _ _
      rw [Addr.add_lit,Addr.add_lit,cc] at h1
      rw [show o + j = o + j / E.s * E.s + j % E.s by omega,h1,hvv]
      exact List.getElem?_eq_getElem hlt
end Go.Bt
/- How structs that come in are opened: how a tree is made,an item,the options of a range. Conditions: none. -/
namespace Go.Bt
open Go Go.ChangeShapes
section
variable {Hh : Type} {enc : TypeId × Value → Hh} {P : Program} {w : World} {fuel : Nat} {t e : TypeId} {f0 f1 f2 : Field} {cs : List Value} {x : DataW Hh × List MemPlace}
theorem len1 {α : Type} {l : List α} {c : α} (h : l = [c]) : l = [c] := h
theorem open_mk (ht : P.underlying t = some (.struct #[f0,f1,f2])) (o0 : f0.offset = 0) (o1 : f1.offset = 1) (o2 : f2.offset = 2) (h0 : P.underlying f0.type = some (.slice e)) (hce : P.cellsOf e = 1) (he : P.underlying e = some (.int .i64))
    (h1 : P.underlying f1.type = some (.int .i64)) (h2 : P.underlying f2.type = some .bool) (c0 : P.cellsOf f0.type = 1) (c1 : P.cellsOf f1.type = 1) (c2 : P.cellsOf f2.type = 1) (ct : P.cellsOf t = 3)
    (h : DataW.trod enc P w 0 (fun _ => true) true fuel t cs = some x) (hsl : ∀ v n y,DataW.trod enc P w 0 (fun _ => true) true n f0.type [v] = some y → ∃ a m c,v = .slice a m c) :
    ∃ (v : Value) (l : List Int) (z : Int) (b : Bool),cs = [v,.int .i64 z,.bool b] ∧ InS EN w.heap v l := by
  obtain ⟨y0,y1,y2,n,_,hl,t0,t1,t2⟩ := Go.Deep.trod_struct3 ht h
  rw [ct] at hl
  obtain ⟨a0,a1,a2,rfl⟩ : ∃ a0 a1 a2,cs = [a0,a1,a2] := by
    match cs,hl with
    | [a0,a1,a2],_ => exact ⟨a0,a1,a2,rfl⟩
  rw [o0,c0] at t0
  rw [o1,c1] at t1
  rw [o2,c2] at t2
  obtain ⟨z,hz,_⟩ := DataW.trod_int h1 t1
  obtain ⟨b,hb,_⟩ := DataW.trod_bool h2 t2
  obtain ⟨a,m,c,rfl⟩ := hsl a0 n y0 t0
  obtain ⟨l,hi⟩ := slice_inG EN (a := a) (len := m) (cap := c) h0 hce (fun n cs y hy => by obtain ⟨z,hz,_⟩ := DataW.trod_int he hy; exact ⟨z,hz.symm⟩) t0
  have ez : a1 = .int .i64 z := by simpa using hz
  have eb : a2 = .bool b := by simpa using hb
  exact ⟨_,l,z,b,by rw [ez,eb],hi⟩
theorem open_it (ht : P.underlying t = some (.struct #[f0,f1])) (o0 : f0.offset = 0) (o1 : f1.offset = 1) (h0 : P.underlying f0.type = some (.int .i64)) (h1 : P.underlying f1.type = some (.int .i64)) (c0 : P.cellsOf f0.type = 1) (c1 : P.cellsOf f1.type = 1) (ct : P.cellsOf t = 2)
    (h : DataW.trod enc P w 0 (fun _ => true) true fuel t cs = some x) : ∃ z0 z1 : Int,cs = [.int .i64 z0,.int .i64 z1] := by
  obtain ⟨y0,y1,n,_,hl,t0,t1⟩ := trod_struct2 ht h
  rw [ct] at hl
  obtain ⟨a0,a1,rfl⟩ : ∃ a0 a1,cs = [a0,a1] := by
    match cs,hl with
    | [a0,a1],_ => exact ⟨a0,a1,rfl⟩
  rw [o0,c0] at t0
  rw [o1,c1] at t1
  obtain ⟨z0,hz0,_⟩ := DataW.trod_int h0 t0
  obtain ⟨z1,hz1,_⟩ := DataW.trod_int h1 t1
  have e0 : a0 = .int .i64 z0 := by simpa using hz0
  have e1 : a1 = .int .i64 z1 := by simpa using hz1
  exact ⟨z0,z1,by rw [e0,e1]⟩
/-- What is a slice by its type is one. -/
theorem trod_isl (ht : P.underlying t = some (.slice e)) {v : Value} {n : Nat} {y : DataW Hh × List MemPlace} (h : DataW.trod enc P w 0 (fun _ => true) true n t [v] = some y) : ∃ a m c,v = .slice a m c := by
  rcases Go.Deep.open_slice ht h with ⟨hcs,_⟩ | ⟨a',len',cap',m',n,D,Pl,hcs,_⟩
  · exact ⟨_,_,_,by simpa using hcs⟩
  · exact ⟨_,_,_,by simpa using hcs⟩
end
end Go.Bt
