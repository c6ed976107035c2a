/- A slice of truth values that came in. Conditions: those that each theorem names. -/
import Derived.ChangeArms
import Derived.Deep.Strs
import Derived.ChangeSame
import Derived.Test.YtnlempnbagoipaaToMv
namespace Go.Bt
open Go
set_option linter.unusedVariables false
theorem slice_inG {α : Type} (E : Elt α) {Hh : Type} {enc : TypeId × Value → Hh} {P : Program} {w : World} {fuel : Nat} {t e : TypeId} {a : Option Addr} {len cap : Nat} {x : DataW Hh × List MemPlace} (ht : P.underlying t = some (.slice e))
    (hce : P.cellsOf e = E.s) (hE : ∀ (n : Nat) (cs : List Value) (y : DataW Hh × List MemPlace),DataW.trod enc P w 0 (fun _ => true) true n e cs = some y → ∃ y,E.enc y = cs) (h : DataW.trod enc P w 0 (fun _ => true) true fuel t [.slice a len cap] = some x) : ∃ l,InS E w.heap (.slice a len cap) l := by
  rcases Go.Deep.open_slice ht h with ⟨hcs,_⟩ | ⟨a',len',cap',m',n,D,Pl,hcs,_,hl,_,hm,_,hx⟩
  · simp at hcs
    obtain ⟨rfl,rfl,rfl⟩ := hcs
    exact ⟨[],.inr ⟨rfl,_,_,rfl⟩⟩
  · simp at hcs
    obtain ⟨rfl,rfl,rfl⟩ := hcs
    simp only [if_true] at hm
    subst hm
    rcases Nat.eq_zero_or_pos m' with rfl | hc
    · obtain rfl : len = 0 := by omega
      exact ⟨[],.inr ⟨rfl,_,_,rfl⟩⟩
    · have hex : ∀ i,i < m' → ∃ y : α,w.cells? 0 (a'.add (i * E.s)) E.s = some (E.enc y) := fun i hi => by
        obtain ⟨cs',h1,h2⟩ := hx i hi
        obtain ⟨y,hy⟩ := hE _ _ _ h2
        rw [hce] at h1
        exact ⟨y,by rw [hy]; exact h1⟩
      have hx' : ∀ i,∃ y : α,i < m' → w.cells? 0 (a'.add (i * E.s)) E.s = some (E.enc y) := fun i => by
        by_cases hi : i < m'
        · obtain ⟨y,hy⟩ := hex i hi
          exact ⟨y,fun _ => hy⟩
        · obtain ⟨y,_⟩ := hex 0 hc
          exact ⟨y,fun hh => absurd hh hi⟩
      obtain ⟨f,hf⟩ : ∃ f : Nat → α,∀ i,i < m' → w.cells? 0 (a'.add (i * E.s)) E.s = some (E.enc (f i)) := ⟨fun i => Classical.choose (hx' i),fun i => Classical.choose_spec (hx' i)⟩
      obtain ⟨b,o,s⟩ := a'
      have cell : ∀ i j,i < m' → j < E.s → w.cell? ((Addr.add ⟨b,o,s⟩ (i * E.s)).add j) = (E.enc (f i))[j]? := fun i j hi hj => (World.cells?_some (hf i hi)).2.2 j hj
      have hs : s = none := by
        have h0 := cell 0 0 hc E.pos
        cases s with
        | none => rfl
        | some k =>
          have hne : (E.enc (f 0))[0]? ≠ none := by
            intro hh
            have := List.getElem?_eq_none_iff.1 hh
            rw [E.len] at this
            have := E.pos
            omega
          rw [← h0] at hne
          simp only [Nat.zero_mul,Addr.add,if_true,World.cell?] at hne
          split at hne <;> simp at hne
      subst hs
      refine ⟨(List.range len).map f,.inl ⟨b,o,m',by simp,by simpa using hl,fun j v hv => ?_⟩⟩
      have hj := (List.getElem?_eq_some_iff.1 hv).1
      rw [row_len,List.length_map,List.length_range] at hj
      have hi : j / E.s < len := Nat.div_lt_of_lt_mul (by rw [Nat.mul_comm]; exact hj)
      have hr : j % E.s < E.s := Nat.mod_lt _ E.pos
      have hq : ((List.range len).map f)[j / E.s]? = some (f (j / E.s)) := by simp [hi]
      have hjm : j / E.s * E.s + j % E.s = j := by rw [Nat.mul_comm]; exact Nat.div_add_mod j E.s
      have h1 := cell (j / E.s) (j % E.s) (by omega) hr
      have hlt : j % E.s < (E.enc (f (j / E.s))).length := by rw [E.len]; exact hr
      have hg := row_get E hq (j % E.s) _ (List.getElem?_eq_getElem hlt)
      rw [hjm] at hg
      have hvv := Option.some.inj (hv.symm.trans hg)
      have cc : ∀ n,World.cell? w ⟨b,n,none⟩ = cl w.heap b n := fun n => by rw [← mk_self w]; exact mk_cell _ _ _ _ _
      rw [Addr.add_lit,Addr.add_lit,cc] at h1
      rw [show o + j = o + j / E.s * E.s + j % E.s by omega,h1,hvv]
      exact List.getElem?_eq_getElem hlt
end Go.Bt
/- How structs that come in are opened: how a tree is made,an item,the options of a range. Conditions: none. -/
namespace Go.Bt
open Go Go.ChangeShapes
section
variable {Hh : Type} {enc : TypeId × Value → Hh} {P : Program} {w : World} {fuel : Nat} {t e : TypeId} {f0 f1 f2 : Field} {cs : List Value} {x : DataW Hh × List MemPlace}
theorem len1 {α : Type} {l : List α} {c : α} (h : l = [c]) : l = [c] := h
theorem open_mk (ht : P.underlying t = some (.struct #[f0,f1,f2])) (o0 : f0.offset = 0) (o1 : f1.offset = 1) (o2 : f2.offset = 2) (h0 : P.underlying f0.type = some (.slice e)) (hce : P.cellsOf e = 1) (he : P.underlying e = some (.int .i64))
    (h1 : P.underlying f1.type = some (.int .i64)) (h2 : P.underlying f2.type = some .bool) (c0 : P.cellsOf f0.type = 1) (c1 : P.cellsOf f1.type = 1) (c2 : P.cellsOf f2.type = 1) (ct : P.cellsOf t = 3)
    (h : DataW.trod enc P w 0 (fun _ => true) true fuel t cs = some x) (hsl : ∀ v n y,DataW.trod enc P w 0 (fun _ => true) true n f0.type [v] = some y → ∃ a m c,v = .slice a m c) :
    ∃ (v : Value) (l : List Int) (z : Int) (b : Bool),cs = [v,.int .i64 z,.bool b] ∧ InS EN w.heap v l := by
  obtain ⟨y0,y1,y2,n,_,hl,t0,t1,t2⟩ := Go.Deep.trod_struct3 ht h
  rw [ct] at hl
  obtain ⟨a0,a1,a2,rfl⟩ : ∃ a0 a1 a2,cs = [a0,a1,a2] := by
    match cs,hl with
    | [a0,a1,a2],_ => exact ⟨a0,a1,a2,rfl⟩
  rw [o0,c0] at t0
  rw [o1,c1] at t1
  rw [o2,c2] at t2
  obtain ⟨z,hz,_⟩ := DataW.trod_int h1 t1
  obtain ⟨b,hb,_⟩ := DataW.trod_bool h2 t2
  obtain ⟨a,m,c,rfl⟩ := hsl a0 n y0 t0
  obtain ⟨l,hi⟩ := slice_inG EN (a := a) (len := m) (cap := c) h0 hce (fun n cs y hy => by obtain ⟨z,hz,_⟩ := DataW.trod_int he hy; exact ⟨z,hz.symm⟩) t0
  have ez : a1 = .int .i64 z := by simpa using hz
  have eb : a2 = .bool b := by simpa using hb
  exact ⟨_,l,z,b,by rw [ez,eb],hi⟩
/-- What is a slice by its type is one. -/
theorem trod_isl (ht : P.underlying t = some (.slice e)) {v : Value} {n : Nat} {y : DataW Hh × List MemPlace} (h : DataW.trod enc P w 0 (fun _ => true) true n t [v] = some y) : ∃ a m c,v = .slice a m c := by
  rcases Go.Deep.open_slice ht h with ⟨hcs,_⟩ | ⟨a',len',cap',m',n,D,Pl,hcs,_⟩
  · exact ⟨_,_,_,by simpa using hcs⟩
  · exact ⟨_,_,_,by simpa using hcs⟩
end
end Go.Bt
