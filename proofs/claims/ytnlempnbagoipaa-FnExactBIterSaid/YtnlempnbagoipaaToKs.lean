/- How structs that come in are opened: how a tree is made, an item, the options of a range. Conditions: none. -/
import Derived.Deep.Strs
import Derived.ChangeSame
import Derived.Test.YtnlempnbagoipaaToKb
namespace Go.Bt
open Go Go.ChangeShapes
section
variable {Hh : Type} {enc : TypeId × Value → Hh} {P : Program} {w : World} {fuel : Nat} {t e : TypeId} {f0 f1 f2 : Field} {cs : List Value} {x : DataW Hh × List MemPlace}
theorem len1 {α : Type} {l : List α} {c : α} (h : l = [c]) : l = [c] := h
theorem open_mk (ht : P.underlying t = some (.struct #[f0,f1,f2])) (o0 : f0.offset = 0) (o1 : f1.offset = 1) (o2 : f2.offset = 2) (h0 : P.underlying f0.type = some (.slice e)) (hce : P.cellsOf e = 1) (he : P.underlying e = some (.int .i64))
    (h1 : P.underlying f1.type = some (.int .i64)) (h2 : P.underlying f2.type = some .bool) (c0 : P.cellsOf f0.type = 1) (c1 : P.cellsOf f1.type = 1) (c2 : P.cellsOf f2.type = 1) (ct : P.cellsOf t = 3)
    (h : DataW.trod enc P w 0 (fun _ => true) true fuel t cs = some x) (hsl : ∀ v n y,DataW.trod enc P w 0 (fun _ => true) true n f0.type [v] = some y → ∃ a m c,v = .slice a m c) :
    ∃ (v : Value) (l : List Int) (z : Int) (b : Bool),cs = [v,.int .i64 z,.bool b] ∧ InS EN w.heap v l := by
  obtain ⟨y0,y1,y2,n,_,hl,t0,t1,t2⟩ := Go.Deep.trod_struct3 ht h
  rw [ct] at hl
  obtain ⟨a0,a1,a2,rfl⟩ : ∃ a0 a1 a2,cs = [a0,a1,a2] := by
    match cs,hl with
    | [a0,a1,a2],_ => exact ⟨a0,a1,a2,rfl⟩
  rw [o0,c0] at t0
  rw [o1,c1] at t1
  rw [o2,c2] at t2
  obtain ⟨z,hz,_⟩ := DataW.trod_int h1 t1
  obtain ⟨b,hb,_⟩ := DataW.trod_bool h2 t2
  obtain ⟨a,m,c,rfl⟩ := hsl a0 n y0 t0
  obtain ⟨l,hi⟩ := slice_inG EN (a := a) (len := m) (cap := c) h0 hce (fun n cs y hy => by obtain ⟨z,hz,_⟩ := DataW.trod_int he hy; exact ⟨z,hz.symm⟩) t0
  have ez : a1 = .int .i64 z := by simpa using hz
  have eb : a2 = .bool b := by simpa using hb
  exact ⟨_,l,z,b,by rw [ez,eb],hi⟩
theorem open_it (ht : P.underlying t = some (.struct #[f0,f1])) (o0 : f0.offset = 0) (o1 : f1.offset = 1) (h0 : P.underlying f0.type = some (.int .i64)) (h1 : P.underlying f1.type = some (.int .i64)) (c0 : P.cellsOf f0.type = 1) (c1 : P.cellsOf f1.type = 1) (ct : P.cellsOf t = 2)
    (h : DataW.trod enc P w 0 (fun _ => true) true fuel t cs = some x) : ∃ z0 z1 : Int,cs = [.int .i64 z0,.int .i64 z1] := by
  obtain ⟨y0,y1,n,_,hl,t0,t1⟩ := trod_struct2 ht h
  rw [ct] at hl
  obtain ⟨a0,a1,rfl⟩ : ∃ a0 a1,cs = [a0,a1] := by
    match cs,hl with
    | [a0,a1],_ => exact ⟨a0,a1,rfl⟩
  rw [o0,c0] at t0
  rw [o1,c1] at t1
  obtain ⟨z0,hz0,_⟩ := DataW.trod_int h0 t0
  obtain ⟨z1,hz1,_⟩ := DataW.trod_int h1 t1
  have e0 : a0 = .int .i64 z0 := by simpa using hz0
  have e1 : a1 = .int .i64 z1 := by simpa using hz1
  exact ⟨z0,z1,by rw [e0,e1]⟩
/-- What is a slice by its type is one. -/
theorem trod_isl (ht : P.underlying t = some (.slice e)) {v : Value} {n : Nat} {y : DataW Hh × List MemPlace} (h : DataW.trod enc P w 0 (fun _ => true) true n t [v] = some y) : ∃ a m c,v = .slice a m c := by
  rcases Go.Deep.open_slice ht h with ⟨hcs,_⟩ | ⟨a',len',cap',m',n,D,Pl,hcs,_⟩
  · exact ⟨_,_,_,by simpa using hcs⟩
  · exact ⟨_,_,_,by simpa using hcs⟩
end
end Go.Bt
