/- Contracts of functions of the program, proved by walking through their code. Conditions: those that each theorem names. -/
import Derived.Test.YtmboghgpakhceaaRows
import Derived.WalkKit
import Derived.ProofKit
import Derived.JoinedOf
import Derived.Test.YtmboghgpakhceaaProg
import Derived.Test.YtmboghgpakhceaaToIt
import Derived.Test.YtmboghgpakhceaaToBg
namespace Go.Proofs.Ytmboghgpakhceaa
open Go
theorem an {a b : Bool} (ha : a = true) (hb : b = true) : (a && b) = true := by rw [ha, hb]; rfl
theorem frame1 : (laidOutB Try.pinned.checked.prog) = true := by kernel_rfl
theorem frame2 : (mapsRowed Try.pinned.checked.prog) = true := by kernel_rfl
theorem frame22 : ((Rows.fnExactGLenRow.plainKeys == Try.pinned.checked.prog.plainKeys)) = true := by kernel_rfl
theorem frame24 : (Try.pinned.checked.prog.stopsHeard) = true := by kernel_rfl
theorem frame25 : (Try.pinned.checked.prog.mayEnter) = true := by kernel_rfl
theorem frame26 : ((Rows.fnExactGLenRow.lifted == Try.pinned.checked.prog.liftsFinal)) = true := by kernel_rfl
theorem frame27 : ((Try.pinned.checked.prog.make == some Rows.fnExactGLenRow.make)) = true := by kernel_rfl
end Go.Proofs.Ytmboghgpakhceaa
namespace Go.Bt.FG
open Go Go.Proofs
set_option maxRecDepth 20000
set_option maxHeartbeats 4000000
set_option linter.unusedVariables false
set_option linter.unusedSectionVars false

theorem st27 : StT Try.prog 27 [(0, 1), (1, 1)] [.int .i64 0, .int .i64 0] := ⟨⟨_, Try.underlying27, fun w => by simp [Array.mapM_eq_mapM_toList, Try.sizeOf3]⟩, Try.zeroValue27⟩
theorem st68 : StT Try.prog 68 [(0, 2), (2, 1)] [.int .i64 0, .int .i64 0, .bool false] := ⟨⟨_, Try.underlying68, fun w => by simp [Array.mapM_eq_mapM_toList, Try.sizeOf4, Try.sizeOf27]⟩, Try.zeroValue68⟩

theorem st168 : StT Try.prog 168 [(0, 1), (1, 1), (2, 1), (3, 1)] [.int .u64 0, .int .i64 0, .slice none 0 0, .pointer none] := ⟨⟨_, Try.underlying168, fun w => by simp [Array.mapM_eq_mapM_toList, Try.sizeOf3, Try.sizeOf25, Try.sizeOf155, Try.sizeOf166]⟩, Try.zeroValue168⟩

/-- What is fixed for a tree: the order, the cell that its function less holds, the value there, the number of blocks that were there when the tree was made, and which of them are the tree's. -/
structure Cx where
  ord : List Int
  ob : Nat
  ov : Value
  base : Nat
  own : Nat → Prop
variable [Inhabited Cx]
def cx : Cx := default
def OI : Pl.Swo (Int × Int) := OO cx.ord
/-- A slice that is read, in a block of D. -/
def InB {α : Type} (E : Elt α) (D : Nat → Prop) (H : Mem) (v : Value) (l : List α) : Prop := (∃ b o c, v = .slice (some ⟨b, o, none⟩) l.length c ∧ l.length ≤ c ∧ Rd H b o (row E l) ∧ D b) ∨ (l = [] ∧ ∃ a c, v = .slice a 0 c)
theorem InB.inS {α : Type} {E : Elt α} {D : Nat → Prop} {H : Mem} {v : Value} {l : List α} (h : InB E D H v l) : InS E H v l := h.imp (fun ⟨b, o, c, h1, h2, h3, _⟩ => ⟨b, o, c, h1, h2, h3⟩) id
theorem InB.fr {α : Type} {E : Elt α} {D : Nat → Prop} {H H' : Mem} {v : Value} {l : List α} {Z : Nat → Nat → Prop} (h : InB E D H v l) (hf : Fr Z H H') (hz : ∀ b o, D b → ¬ Z b o) : InB E D H' v l :=
  h.imp (fun ⟨b, o, c, h1, h2, h3, h4⟩ => ⟨b, o, c, h1, h2, hf.rd h3 (fun _ _ => hz _ _ h4), h4⟩) id
/-- What stays of a tree: its number, its bounds, that its items have no methods, its order. -/
structure TrC (H : Mem) (tr id mx mn : Nat) : Prop where
  iso : cl H tr 0 = some (.int .u64 (id : Int))
  emp : Rd H tr 7 [.int .i64 0, .int .i64 0]
  mn' : cl H tr 10 = some (.int .i64 (mn : Int))
  mx' : cl H tr 9 = some (.int .i64 (mx : Int))
  cv : cl H tr 4 = some (.bool false)
  icv : cl H tr 5 = some (.bool false)
  le : cl H tr 6 = some (.func (.func 170) #[] #[ptr cx.ob])
  wr : Wr H tr 0 11
  ob : cl H cx.ob 0 = some cx.ov
  od : InB EN (fun b => b < cx.base ∧ cx.own b ∧ b ≠ tr) H cx.ov cx.ord
  ol : cx.ord.length < 4611686018427387904
  tb : tr < cx.base
  obb : cx.ob < cx.base
  obt : cx.ob ≠ tr
  hb : cx.base ≤ H.size
  tw : cx.own tr
  obw : cx.own cx.ob
theorem TrC.fr {H H' : Mem} {Z : Nat → Nat → Prop} {tr id mx mn : Nat} (h : TrC H tr id mx mn) (hf : Fr Z H H') (hz : ∀ b o, b < cx.base ∧ cx.own b → (b = tr → o ≠ 2 ∧ o ≠ 3) → ¬ Z b o) : TrC H' tr id mx mn where
  iso := hf.keep h.iso (hz _ _ ⟨h.tb, h.tw⟩ (fun _ => by decide))
  emp := hf.rd h.emp fun i hi => hz _ _ ⟨h.tb, h.tw⟩ (fun _ => by simp at hi; omega)
  mn' := hf.keep h.mn' (hz _ _ ⟨h.tb, h.tw⟩ (fun _ => by decide))
  mx' := hf.keep h.mx' (hz _ _ ⟨h.tb, h.tw⟩ (fun _ => by decide))
  cv := hf.keep h.cv (hz _ _ ⟨h.tb, h.tw⟩ (fun _ => by decide))
  icv := hf.keep h.icv (hz _ _ ⟨h.tb, h.tw⟩ (fun _ => by decide))
  le := hf.keep h.le (hz _ _ ⟨h.tb, h.tw⟩ (fun _ => by decide))
  wr := hf.wr h.wr
  ob := hf.keep h.ob (hz _ _ ⟨h.obb, h.obw⟩ (fun e => absurd e h.obt))
  od := h.od.fr hf fun b o hb => hz b o ⟨hb.1, hb.2.1⟩ (fun e => absurd e hb.2.2)
  ol := h.ol
  tb := h.tb
  obb := h.obb
  obt := h.obt
  hb := Nat.le_trans h.hb hf.size
  tw := h.tw
  obw := h.obw

theorem leaf_spec {B : World} {H : Mem} {p : Nat} {a : Option Addr} (h3 : cl H p 3 = some (.pointer a)) :
    Fn Try.prog B 133 [.pointer (some ⟨p, 0, none⟩)] H (fun v H' => v = .bool a.isNone ∧ H' = H) := by
  refine fn_of Try.func133 rfl Try.ntmps133 ?_
  refine (show Go' _ _ _ _ 8 [(0, _)] [.code _] _ from ?_)
  refine Go'.seq ?_
  -- region 0 (btreeg.go:86)
  refine Go'.region [(0, 0)] rfl ?_
  refine O.asg rfl rfl rfl rfl rfl ?_
  refine Pl.fin [(0, _), (2, _)] ⟨rfl, rfl, trivial⟩ ?_
  refine Go'.seq ?_
  -- region 1 (btreeg.go:87)
  refine Go'.region [(0, 0), (1, 0), (2, 0), (3, 1), (4, 0), (5, 0)] rfl ?_
  refine O.mv rfl rfl rfl rfl rfl ?_
  refine O.nc rfl rfl rfl rfl rfl ?_
  refine O.fa0 (off := 3) rfl rfl rfl rfl ⟨_, _, _, Try.underlying168, rfl, rfl, Try.sizeOf166⟩ rfl ?_
  refine O.ld rfl rfl rfl (fun w => ⟨Try.isAgg166 w, Try.sizeOf166 w⟩) rfl h3 ?_
  refine O.isNil rfl rfl rfl rfl Try.underlying166 rfl rfl ?_
  refine O.asg rfl rfl rfl rfl rfl ?_
  refine Pl.fin [(2, _)] ⟨rfl, trivial⟩ ?_
  refine Go'.ret (vs := [_]) Try.func133 Try.results133 ⟨rfl, trivial⟩ ?_
  exact ⟨rfl, rfl⟩

theorem deg_spec {B : World} {H : Mem} {m : Nat} (h : 2 ≤ m ∧ m ≤ 128) :
    Fn Try.prog B 198 [.int .i64 m] H (fun v H' => v = .tuple #[.int .i64 ((m - 1 : Nat) : Int), .int .i64 ((2 * m - 1 : Nat) : Int)] ∧ H' = H) := by
  refine fn_of Try.func198 rfl Try.ntmps198 ?_
  refine (show Go' _ _ _ _ 15 [(0, _)] [.code _] _ from ?_)
  refine Go'.seq ?_
  -- region 0 (map.go:20)
  refine Go'.region [(0, 0), (1, 0)] rfl ?_
  refine O.asg rfl rfl rfl rfl rfl ?_
  refine O.asg rfl rfl rfl rfl rfl ?_
  refine Pl.fin [(0, _), (2, _), (3, _)] ⟨rfl, rfl, rfl, trivial⟩ ?_
  refine Go'.seq ?_
  refine Go'.seq ?_
  -- region 1 (map.go:21)
  refine Go'.region [(0, 0), (1, 0)] rfl ?_
  refine O.mv rfl rfl rfl rfl rfl ?_
  refine O.cmp rfl rfl rfl rfl rfl rfl (leqF (by omega)) ?_
  refine Pl.fin [(0, _), (2, _), (3, _), (5, _)] ⟨rfl, rfl, rfl, rfl, trivial⟩ ?_
  refine Go'.condF rfl ?_
  refine Go'.seq ?_
  -- region 3 (map.go:23)
  refine Go'.region [(0, 0), (1, 0)] rfl ?_
  refine O.mv rfl rfl rfl rfl rfl ?_
  refine O.cmp rfl rfl rfl rfl rfl rfl (eqlF (by omega)) ?_
  refine Pl.fin [(0, _), (2, _), (3, _), (7, _)] ⟨rfl, rfl, rfl, rfl, trivial⟩ ?_
  refine Go'.condF rfl ?_
  refine Go'.skip ?_
  refine Go'.seq ?_
  -- region 5 (map.go:26)
  refine Go'.region [(0, 0), (1, 0), (2, 0), (3, 0)] rfl ?_
  refine O.mv rfl rfl rfl rfl rfl ?_
  refine O.mul (((2 * m : Nat) : Int)) rfl rfl rfl rfl rfl rfl (by omega) (by omega) ?_
  refine O.sub (((2 * m - 1 : Nat) : Int)) rfl rfl rfl rfl rfl rfl (by omega) (by omega) ?_
  refine O.asg rfl rfl rfl rfl rfl ?_
  refine Pl.fin [(2, _), (3, _)] ⟨rfl, rfl, trivial⟩ ?_
  refine Go'.seq ?_
  -- region 6 (map.go:27)
  refine Go'.region [(0, 0), (1, 0), (2, 0)] rfl ?_
  refine O.mv rfl rfl rfl rfl rfl ?_
  refine O.quo (((m - 1 : Nat) : Int)) rfl rfl rfl rfl rfl rfl (by decide) (by rw [Int.tdiv_eq_ediv_of_nonneg (by omega)]; omega) (by omega) ?_
  refine O.asg rfl rfl rfl rfl rfl ?_
  refine Pl.fin [(2, _), (3, _)] ⟨rfl, rfl, trivial⟩ ?_
  refine Go'.seq ?_
  -- region 7 (map.go:28)
  refine Go'.region [(0, 0), (1, 0), (2, 0), (3, 0)] rfl ?_
  refine O.mv rfl rfl rfl rfl rfl ?_
  refine O.mv rfl rfl rfl rfl rfl ?_
  refine O.asg rfl rfl rfl rfl rfl ?_
  refine O.asg rfl rfl rfl rfl rfl ?_
  refine Pl.fin [(2, _), (3, _)] ⟨rfl, rfl, trivial⟩ ?_
  refine Go'.ret (vs := [_, _]) Try.func198 Try.results198 ⟨rfl, rfl, trivial⟩ ?_
  exact ⟨rfl, rfl⟩

theorem isoLoad_spec {B : World} {H : Mem} {tr bp op p id : Nat} (mt : Bool) (hp : cl H bp op = some (ptr p)) (h0 : cl H p 0 = some (.int .u64 (id : Int))) (ht : cl H tr 0 = some (.int .u64 (id : Int))) :
    Fn Try.prog B 130 [.pointer (some ⟨tr, 0, none⟩), .pointer (some ⟨bp, op, none⟩), .bool mt] H (fun v H' => v = ptr p ∧ H' = H) := by
  unfold ptr at hp
  cases mt
  · skip
    refine fn_of Try.func130 rfl Try.ntmps130 ?_
    refine (show Go' _ _ _ _ 31 [(0, _), (1, _), (2, _)] [.code _] _ from ?_)
    refine Go'.seq ?_
    -- region 0 (btreeg.go:284)
    refine Go'.region [(0, 0)] rfl ?_
    refine O.asg rfl rfl rfl rfl rfl ?_
    refine Pl.fin [(0, _), (1, _), (2, _), (6, _)] ⟨rfl, rfl, rfl, rfl, trivial⟩ ?_
    refine Go'.seq ?_
    refine Go'.seq ?_
    -- region 1 (btreeg.go:285)
    refine Go'.draw (fun _ => True) [(0, 0), (1, 0), (2, 0), (3, 0), (4, 1), (5, 0), (6, 0), (7, 1), (8, 0), (9, 0), (10, 0), (11, 1), (12, 0), (13, 0)] (by kernel_rfl) (by kernel_rfl) (trivial) ?_
    refine O.mv rfl rfl rfl rfl rfl ?_
    refine O.mv rfl rfl rfl rfl rfl ?_
    refine Pl.pass rfl rfl rfl rfl ?_
    refine Pl.pass rfl rfl rfl rfl ?_
    refine Pl.pass rfl rfl rfl rfl ?_
    refine Pl.pass rfl rfl rfl rfl ?_
    refine Pl.pass rfl rfl rfl rfl ?_
    refine Pl.pass rfl rfl rfl rfl ?_
    refine Pl.pass rfl rfl rfl rfl ?_
    refine Pl.pass rfl rfl rfl rfl ?_
    refine Pl.pass rfl rfl rfl rfl ?_
    refine Pl.pass rfl rfl rfl rfl ?_
    refine Pl.pass rfl rfl rfl rfl ?_
    refine O.pick rfl rfl rfl rfl rfl rfl ?_
    refine Pl.fin [(0, _), (1, _), (6, _), (20, _)] ⟨rfl, rfl, rfl, rfl, trivial⟩ ?_
    refine Go'.condF rfl ?_
    refine Go'.skip ?_
    refine Go'.seq ?_
    -- region 3 (btreeg.go:288)
    refine Go'.region [(0, 0), (1, 0), (2, 1), (3, 0)] rfl ?_
    refine O.mv rfl rfl rfl rfl rfl ?_
    refine O.nc rfl rfl rfl rfl rfl ?_
    refine O.ld rfl rfl rfl (fun w => ⟨Try.isAgg129 w, Try.sizeOf129 w⟩) rfl hp ?_
    refine O.asg rfl rfl rfl rfl rfl ?_
    refine Pl.fin [(6, _)] ⟨rfl, trivial⟩ ?_
    refine Go'.ret (vs := [_]) Try.func130 Try.results130 ⟨rfl, trivial⟩ ?_
    exact ⟨rfl, rfl⟩
  · skip
    refine fn_of Try.func130 rfl Try.ntmps130 ?_
    refine (show Go' _ _ _ _ 31 [(0, _), (1, _), (2, _)] [.code _] _ from ?_)
    refine Go'.seq ?_
    -- region 0 (btreeg.go:284)
    refine Go'.region [(0, 0)] rfl ?_
    refine O.asg rfl rfl rfl rfl rfl ?_
    refine Pl.fin [(0, _), (1, _), (2, _), (6, _)] ⟨rfl, rfl, rfl, rfl, trivial⟩ ?_
    refine Go'.seq ?_
    refine Go'.seq ?_
    -- region 1 (btreeg.go:285)
    refine Go'.draw (fun _ => True) [(0, 0), (1, 0), (2, 0), (3, 0), (4, 1), (5, 0), (6, 0), (7, 1), (8, 0), (9, 0), (10, 0), (11, 1), (12, 0), (13, 0)] (by kernel_rfl) (by kernel_rfl) (trivial) ?_
    refine O.mv rfl rfl rfl rfl rfl ?_
    refine O.mv rfl rfl rfl rfl rfl ?_
    refine O.mv rfl rfl rfl rfl rfl ?_
    refine O.nc rfl rfl rfl rfl rfl ?_
    refine O.ld rfl rfl rfl (fun w => ⟨Try.isAgg129 w, Try.sizeOf129 w⟩) rfl hp ?_
    refine O.nc rfl rfl rfl rfl rfl ?_
    refine O.faz rfl rfl rfl rfl ⟨_, _, _, Try.underlying168, rfl, rfl, Try.sizeOf155⟩ rfl ?_
    refine O.ld rfl rfl rfl (fun w => ⟨Try.isAgg155 w, Try.sizeOf155 w⟩) rfl h0 ?_
    refine O.mv rfl rfl rfl rfl rfl ?_
    refine O.nc rfl rfl rfl rfl rfl ?_
    refine O.faz rfl rfl rfl rfl ⟨_, _, _, Try.underlying158, rfl, rfl, Try.sizeOf155⟩ rfl ?_
    refine O.ld rfl rfl rfl (fun w => ⟨Try.isAgg155 w, Try.sizeOf155 w⟩) rfl ht ?_
    refine O.cmp rfl rfl rfl rfl rfl rfl (neqF rfl) ?_
    refine O.pick rfl rfl rfl rfl rfl rfl ?_
    refine Pl.fin [(0, _), (1, _), (6, _), (20, _)] ⟨rfl, rfl, rfl, rfl, trivial⟩ ?_
    refine Go'.condF rfl ?_
    refine Go'.skip ?_
    refine Go'.seq ?_
    -- region 3 (btreeg.go:288)
    refine Go'.region [(0, 0), (1, 0), (2, 1), (3, 0)] rfl ?_
    refine O.mv rfl rfl rfl rfl rfl ?_
    refine O.nc rfl rfl rfl rfl rfl ?_
    refine O.ld rfl rfl rfl (fun w => ⟨Try.isAgg129 w, Try.sizeOf129 w⟩) rfl hp ?_
    refine O.asg rfl rfl rfl rfl rfl ?_
    refine Pl.fin [(6, _)] ⟨rfl, trivial⟩ ?_
    refine Go'.ret (vs := [_]) Try.func130 Try.results130 ⟨rfl, trivial⟩ ?_
    exact ⟨rfl, rfl⟩


theorem newLeaf_spec {B : World} {H : Mem} {tr id : Nat} (ht : cl H tr 0 = some (.int .u64 (id : Int))) :
    Fn Try.prog B 194 [.pointer (some ⟨tr, 0, none⟩), .bool true] H (fun v H' => v = ptr H.size ∧ H'.size = H.size + 1 ∧ Fr nowhere H H' ∧ cl H' H.size 0 = some (.int .u64 (id : Int)) ∧ cl H' H.size 1 = some (.int .i64 0) ∧ cl H' H.size 2 = some (.slice none 0 0) ∧ cl H' H.size 3 = some (.pointer none) ∧ Wr H' H.size 0 4) := by
  have htl := cl_lt ht
  refine fn_of Try.func194 rfl Try.ntmps194 ?_
  refine (show Go' _ _ _ _ 19 [(0, _), (1, _)] [.code _] _ from ?_)
  refine Go'.seq ?_
  -- region 0 (btreeg.go:77)
  refine Go'.region [(0, 0)] rfl ?_
  refine O.asg rfl rfl rfl rfl rfl ?_
  refine Pl.fin [(0, _), (1, _), (4, _)] ⟨rfl, rfl, rfl, trivial⟩ ?_
  refine Go'.seq ?_
  -- region 1 (btreeg.go:78)
  refine Go'.region [(0, 0), (1, 0), (2, 0), (3, 1), (4, 0), (5, 2), (6, 0)] rfl ?_
  refine O.mv rfl rfl rfl rfl rfl ?_
  refine O.nc rfl rfl rfl rfl rfl ?_
  refine O.faz rfl rfl rfl rfl ⟨_, _, _, Try.underlying158, rfl, rfl, Try.sizeOf155⟩ rfl ?_
  refine O.ld rfl rfl rfl (fun w => ⟨Try.isAgg155 w, Try.sizeOf155 w⟩) rfl ht ?_
  refine O.bld (cs := [.int .u64 id, .int .i64 0, .slice none 0 0, .pointer none]) rfl rfl rfl rfl (st168) rfl (by kernel_rfl) ?_
  refine O.box rfl rfl rfl rfl ?_
  intro H1 M1
  refine ⟨trivial, ?_⟩
  have hs1 := M1.size
  replace ht := M1.keep ht
  have g0 : cl H1 H.size 0 = some (.int .u64 id) := (M1.cl 0).trans rfl
  have g1 : cl H1 H.size 1 = some (.int .i64 0) := (M1.cl 1).trans rfl
  have g2 : cl H1 H.size 2 = some (.slice none 0 0) := (M1.cl 2).trans rfl
  have g3 : cl H1 H.size 3 = some (.pointer none) := (M1.cl 3).trans rfl
  have gw : Wr H1 H.size 0 4 := M1.wr 4 (by simp [Value.cells])
  have hf2 := M1.fr nowhere
  refine O.asg rfl rfl rfl rfl rfl ?_
  refine Pl.fin [(1, _), (4, _), (5, _)] ⟨rfl, rfl, rfl, trivial⟩ ?_
  refine Go'.seq ?_
  refine Go'.seq ?_
  -- region 2 (btreeg.go:79)
  refine Go'.region [(0, 0), (1, 0)] rfl ?_
  refine O.mv rfl rfl rfl rfl rfl ?_
  refine O.not rfl rfl rfl rfl rfl ?_
  refine Pl.fin [(4, _), (5, _), (13, _)] ⟨rfl, rfl, rfl, trivial⟩ ?_
  refine Go'.condF rfl ?_
  refine Go'.skip ?_
  refine Go'.seq ?_
  -- region 4 (btreeg.go:82)
  refine Go'.region [(0, 0), (1, 0)] rfl ?_
  refine O.mv rfl rfl rfl rfl rfl ?_
  refine O.asg rfl rfl rfl rfl rfl ?_
  refine Pl.fin [(4, _)] ⟨rfl, trivial⟩ ?_
  refine Go'.ret (vs := [_]) Try.func194 Try.results194 ⟨rfl, trivial⟩ ?_
  exact ⟨rfl, by omega, hf2, g0, g1, g2, g3, gw⟩

theorem newInner_spec {B : World} {H : Mem} {tr id : Nat} (ht : cl H tr 0 = some (.int .u64 (id : Int))) :
    Fn Try.prog B 194 [.pointer (some ⟨tr, 0, none⟩), .bool false] H (fun v H' => v = ptr H.size ∧ H'.size = H.size + 2 ∧ Fr nowhere H H' ∧ cl H' H.size 0 = some (.int .u64 (id : Int)) ∧ cl H' H.size 1 = some (.int .i64 0) ∧ cl H' H.size 2 = some (.slice none 0 0) ∧ cl H' H.size 3 = some (ptr (H.size + 1)) ∧ Wr H' H.size 0 4 ∧ cl H' (H.size + 1) 0 = some (.slice none 0 0) ∧ Wr H' (H.size + 1) 0 1) := by
  have htl := cl_lt ht
  refine fn_of Try.func194 rfl Try.ntmps194 ?_
  refine (show Go' _ _ _ _ 19 [(0, _), (1, _)] [.code _] _ from ?_)
  refine Go'.seq ?_
  -- region 0 (btreeg.go:77)
  refine Go'.region [(0, 0)] rfl ?_
  refine O.asg rfl rfl rfl rfl rfl ?_
  refine Pl.fin [(0, _), (1, _), (4, _)] ⟨rfl, rfl, rfl, trivial⟩ ?_
  refine Go'.seq ?_
  -- region 1 (btreeg.go:78)
  refine Go'.region [(0, 0), (1, 0), (2, 0), (3, 1), (4, 0), (5, 2), (6, 0)] rfl ?_
  refine O.mv rfl rfl rfl rfl rfl ?_
  refine O.nc rfl rfl rfl rfl rfl ?_
  refine O.faz rfl rfl rfl rfl ⟨_, _, _, Try.underlying158, rfl, rfl, Try.sizeOf155⟩ rfl ?_
  refine O.ld rfl rfl rfl (fun w => ⟨Try.isAgg155 w, Try.sizeOf155 w⟩) rfl ht ?_
  refine O.bld (cs := [.int .u64 id, .int .i64 0, .slice none 0 0, .pointer none]) rfl rfl rfl rfl (st168) rfl (by kernel_rfl) ?_
  refine O.box rfl rfl rfl rfl ?_
  intro H1 M1
  refine ⟨trivial, ?_⟩
  have hs1 := M1.size
  replace ht := M1.keep ht
  have g0 : cl H1 H.size 0 = some (.int .u64 id) := (M1.cl 0).trans rfl
  have g1 : cl H1 H.size 1 = some (.int .i64 0) := (M1.cl 1).trans rfl
  have g2 : cl H1 H.size 2 = some (.slice none 0 0) := (M1.cl 2).trans rfl
  have g3 : cl H1 H.size 3 = some (.pointer none) := (M1.cl 3).trans rfl
  have gw : Wr H1 H.size 0 4 := M1.wr 4 (by simp [Value.cells])
  have hf2 := M1.fr nowhere
  refine O.asg rfl rfl rfl rfl rfl ?_
  refine Pl.fin [(1, _), (4, _), (5, _)] ⟨rfl, rfl, rfl, trivial⟩ ?_
  refine Go'.seq ?_
  refine Go'.seq ?_
  -- region 2 (btreeg.go:79)
  refine Go'.region [(0, 0), (1, 0)] rfl ?_
  refine O.mv rfl rfl rfl rfl rfl ?_
  refine O.not rfl rfl rfl rfl rfl ?_
  refine Pl.fin [(4, _), (5, _), (13, _)] ⟨rfl, rfl, rfl, trivial⟩ ?_
  refine Go'.condT rfl ?_
  -- region 3 (btreeg.go:80)
  refine Go'.region [(0, 0), (1, 2), (2, 0), (3, 0), (4, 2)] rfl ?_
  refine O.mv rfl rfl rfl rfl rfl ?_
  refine O.alloc rfl rfl rfl Try.zeroValue170 ?_
  intro H3 M3
  refine ⟨trivial, ?_⟩
  have hs3 := M3.size
  have k0 : cl H3 H1.size 0 = some (.slice none 0 0) := (M3.cl 0).trans rfl
  have kw : Wr H3 H1.size 0 1 := M3.wr 1 (by decide)
  replace gw := (M3.fr nowhere).wr gw
  replace g0 := M3.keep g0
  replace g1 := M3.keep g1
  replace g2 := M3.keep g2
  replace g3 := M3.keep g3
  have e2 : H1.size = H.size + 1 := by omega
  rw [e2] at k0 kw
  have hf3 := hf2.trans (M3.fr nowhere)
  refine O.nc rfl rfl rfl rfl rfl ?_
  refine O.fa0 (off := 3) rfl rfl rfl rfl ⟨_, _, _, Try.underlying168, rfl, rfl, Try.sizeOf166⟩ rfl ?_
  refine O.st rfl rfl Try.sizeOf166 rfl rfl rfl rfl rfl (gw.at0 3 1 (by omega)) ?_
  intro H4 W4
  have hs4 := W4.size
  replace g3 := W4.at
  replace g0 := W4.keep1 g0 (by omega)
  replace g1 := W4.keep1 g1 (by omega)
  replace g2 := W4.keep1 g2 (by omega)
  replace k0 := W4.keep1 k0 (by omega)
  replace gw := W4.fr.wr gw
  replace kw := W4.fr.wr kw
  have hf4 : Fr nowhere H H4 := hf3.trans' W4.fr (fun _ _ _ h => h) (fun b o hb h => by simp only [rng] at h; omega)
  rw [e2] at g3
  refine ⟨trivial, ?_⟩
  refine Pl.fin [(4, _), (5, _)] ⟨rfl, rfl, trivial⟩ ?_
  refine Go'.seq ?_
  -- region 4 (btreeg.go:82)
  refine Go'.region [(0, 0), (1, 0)] rfl ?_
  refine O.mv rfl rfl rfl rfl rfl ?_
  refine O.asg rfl rfl rfl rfl rfl ?_
  refine Pl.fin [(4, _)] ⟨rfl, trivial⟩ ?_
  refine Go'.ret (vs := [_]) Try.func194 Try.results194 ⟨rfl, trivial⟩ ?_
  exact ⟨rfl, by omega, hf4, g0, g1, g2, g3, gw, k0, kw⟩

theorem updLeaf_spec {B : World} {H : Mem} {p m cp : Nat} {a : Option Addr} (hw : Wr H p 1 1) (h2 : cl H p 2 = some (.slice a m cp)) (h3 : cl H p 3 = some (.pointer none)) :
    Fn Try.prog B 197 [.pointer (some ⟨p, 0, none⟩)] H (fun _ H' => Wrote H H' p 1 [.int .i64 (m : Int)]) := by
  refine fn_of Try.func197 rfl Try.ntmps197 ?_
  refine (show Go' _ _ _ _ 44 [(0, _)] [.code _] _ from ?_)
  refine Go'.seq ?_
  -- region 0 (btreeg.go:251)
  refine Go'.region [(0, 0), (1, 0), (2, 0), (3, 0), (4, 1), (5, 0), (6, 0), (7, 0), (8, 2)] rfl ?_
  refine O.mv rfl rfl rfl rfl rfl ?_
  refine O.mv rfl rfl rfl rfl rfl ?_
  refine O.nc rfl rfl rfl rfl rfl ?_
  refine O.fa0 (off := 2) rfl rfl rfl rfl ⟨_, _, _, Try.underlying168, rfl, rfl, Try.sizeOf25⟩ rfl ?_
  refine O.ld rfl rfl rfl (fun w => ⟨Try.isAgg25 w, Try.sizeOf25 w⟩) rfl h2 ?_
  refine O.len rfl rfl rfl rfl Try.underlying25 rfl ?_
  refine O.nc rfl rfl rfl rfl rfl ?_
  refine O.fa0 (off := 1) rfl rfl rfl rfl ⟨_, _, _, Try.underlying168, rfl, rfl, Try.sizeOf3⟩ rfl ?_
  refine O.st rfl rfl Try.sizeOf3 rfl rfl rfl rfl rfl hw ?_
  intro H1 W1
  refine ⟨trivial, ?_⟩
  refine Pl.fin [(0, _)] ⟨rfl, trivial⟩ ?_
  refine Go'.seq ?_
  -- region 1 (btreeg.go:252)
  refine Go'.region [(0, 0), (1, 2), (2, 0)] rfl ?_
  refine O.mv rfl rfl rfl rfl rfl ?_
  refine O.callQ rfl rfl rfl Try.call133 rfl (leaf_spec (W1.keep1 h3 (by omega))) trivial ?_
  refine O.not rfl rfl rfl rfl rfl ?_
  refine Pl.fin [(0, _), (13, _)] ⟨rfl, rfl, trivial⟩ ?_
  refine Go'.condF rfl ?_
  refine Go'.skip ?_
  refine Go'.fall Try.func197 Try.results197 (vs := []) trivial ?_
  exact W1

theorem updInner_spec {B : World} {H : Mem} {p m cp cb kb ko kc : Nat} {a : Option Addr} {qs : List Nat} (cn : Nat → Nat) (hw : Wr H p 1 1) (h2 : cl H p 2 = some (.slice a m cp)) (h3 : cl H p 3 = some (.pointer (some ⟨cb, 0, none⟩)))
    (hc : cl H cb 0 = some (.slice (some ⟨kb, ko, none⟩) qs.length kc)) (hk : SlE EP H kb ko kc (qs.map some)) (hq : ∀ q ∈ qs, cl H q 1 = some (.int .i64 (cn q : Int)) ∧ q ≠ p) (n2 : kb ≠ p)
    (hb : m + (qs.map cn).sum < 9223372036854775808) (hl : qs.length < 1000) :
    Fn Try.prog B 197 [.pointer (some ⟨p, 0, none⟩)] H (fun _ H' => Fr (rng p 1 1) H H' ∧ H'.size = H.size ∧ cl H' p 1 = some (.int .i64 ((m + (qs.map cn).sum : Nat) : Int))) := by
  refine fn_of Try.func197 rfl Try.ntmps197 ?_
  refine (show Go' _ _ _ _ 44 [(0, _)] [.code _] _ from ?_)
  refine Go'.seq ?_
  -- region 0 (btreeg.go:251)
  refine Go'.region [(0, 0), (1, 0), (2, 0), (3, 0), (4, 1), (5, 0), (6, 0), (7, 0), (8, 2)] rfl ?_
  refine O.mv rfl rfl rfl rfl rfl ?_
  refine O.mv rfl rfl rfl rfl rfl ?_
  refine O.nc rfl rfl rfl rfl rfl ?_
  refine O.fa0 (off := 2) rfl rfl rfl rfl ⟨_, _, _, Try.underlying168, rfl, rfl, Try.sizeOf25⟩ rfl ?_
  refine O.ld rfl rfl rfl (fun w => ⟨Try.isAgg25 w, Try.sizeOf25 w⟩) rfl h2 ?_
  refine O.len rfl rfl rfl rfl Try.underlying25 rfl ?_
  refine O.nc rfl rfl rfl rfl rfl ?_
  refine O.fa0 (off := 1) rfl rfl rfl rfl ⟨_, _, _, Try.underlying168, rfl, rfl, Try.sizeOf3⟩ rfl ?_
  refine O.st rfl rfl Try.sizeOf3 rfl rfl rfl rfl rfl hw ?_
  intro H1 W1
  have h3H := h3
  replace h3 := W1.keep1 h3 (by omega)
  refine ⟨trivial, ?_⟩
  refine Pl.fin [(0, _)] ⟨rfl, trivial⟩ ?_
  refine Go'.seq ?_
  -- region 1 (btreeg.go:252)
  refine Go'.region [(0, 0), (1, 2), (2, 0)] rfl ?_
  refine O.mv rfl rfl rfl rfl rfl ?_
  refine O.callQ rfl rfl rfl Try.call133 rfl (leaf_spec h3) trivial ?_
  refine O.not rfl rfl rfl rfl rfl ?_
  refine Pl.fin [(0, _), (13, _)] ⟨rfl, rfl, trivial⟩ ?_
  refine Go'.condT rfl ?_
  refine Go'.seq ?_
  -- region 2 (btreeg.go:253)
  refine Go'.region [(0, 0)] rfl ?_
  refine O.asg rfl rfl rfl rfl rfl ?_
  refine Pl.fin [(0, _), (2, _)] ⟨rfl, rfl, trivial⟩ ?_
  refine Go'.block ?_
  refine Go'.loop ?_
  refine Go'.keep [(0, _), (2, _)] ⟨rfl, rfl, trivial⟩ ?_
  refine Go'.ind (σ := Nat) (fun j => qs.length - j) (fun j H' => Fr (rng p 1 1) H H' ∧ H'.size = H.size ∧ j ≤ qs.length ∧ cl H' p 1 = some (.int .i64 ((m + ((qs.take j).map cn).sum : Nat) : Int)))
    (fun j => [(0, .pointer (some ⟨p, 0, none⟩)), (2, .int .i64 (j : Int))]) 0 ⟨W1.fr, W1.size, Nat.zero_le _, by simpa using W1.at⟩ rfl ?_
  rintro j H2 ⟨hF, hS, hj, h1⟩ ih
  replace h3 : cl H2 p 3 = some (.pointer (some ⟨cb, 0, none⟩)) := hF.keep h3H (nr (by omega))
  have hc2 := hF.keep hc (nr (by omega))
  have hk2 := hk.fr hF (fun i _ _ => nr (by omega))
  have hw2 := hF.wr hw
  refine Go'.seq ?_
  refine Go'.seq ?_
  by_cases hlt : j < qs.length
  · -- a round
    obtain ⟨q, hqj⟩ : ∃ q, qs[j]? = some q := ⟨qs[j], by simp [hlt]⟩
    have hqm : q ∈ qs := List.mem_of_getElem? hqj
    obtain ⟨hq1, hqp⟩ := hq q hqm
    replace hq1 := hF.keep hq1 (nr (by omega))
    have hsum : (((qs.take (j + 1)).map cn).sum) = ((qs.take j).map cn).sum + cn q := by
      rw [List.take_add_one, hqj]; simp
    have hle : ((qs.take (j + 1)).map cn).sum ≤ (qs.map cn).sum := by
      conv => rhs; rw [← List.take_append_drop (j + 1) qs]
      rw [List.map_append, List.sum_append]; omega
    have hptr : cl H2 kb (ko + j * 1) = some (.pointer (some ⟨q, 0, none⟩)) := hk2.cell (i := j) (x := some q) (by simp [hqj]) (j := 0) rfl
    -- region 3 (btreeg.go:253)
    refine Go'.region [(0, 0), (1, 0), (2, 0), (3, 0), (4, 1), (5, 0), (6, 1), (7, 0), (8, 0)] rfl ?_
    refine O.mv rfl rfl rfl rfl rfl ?_
    refine O.mv rfl rfl rfl rfl rfl ?_
    refine O.nc rfl rfl rfl rfl rfl ?_
    refine O.fa0 (off := 3) rfl rfl rfl rfl ⟨_, _, _, Try.underlying168, rfl, rfl, Try.sizeOf166⟩ rfl ?_
    refine O.ld rfl rfl rfl (fun w => ⟨Try.isAgg166 w, Try.sizeOf166 w⟩) rfl h3 ?_
    refine O.nc rfl rfl rfl rfl rfl ?_
    refine O.ld rfl rfl rfl (fun w => ⟨Try.isAgg170 w, Try.sizeOf170 w⟩) rfl hc2 ?_
    refine O.len rfl rfl rfl rfl Try.underlying170 rfl ?_
    refine O.cmp rfl rfl rfl rfl rfl rfl (lssT (by omega)) ?_
    refine Pl.fin [(0, _), (2, _), (22, _)] ⟨rfl, rfl, rfl, trivial⟩ ?_
    refine Go'.condT rfl ?_
    refine Go'.skip ?_
    refine Go'.seq ?_
    refine Go'.block ?_
    -- region 5 (btreeg.go:254)
    refine Go'.draw (fun _ => True) [(0, 0), (1, 0), (2, 0), (3, 1), (4, 0), (5, 0), (6, 0), (7, 1), (8, 0), (9, 1), (10, 0), (11, 0), (12, 1), (13, 0), (14, 0), (15, 1), (16, 0), (17, 0), (18, 0), (19, 3)] (by kernel_rfl) (by kernel_rfl) (trivial) ?_
    refine O.mv rfl rfl rfl rfl rfl ?_
    refine O.nc rfl rfl rfl rfl rfl ?_
    refine O.fa0 (off := 1) rfl rfl rfl rfl ⟨_, _, _, Try.underlying168, rfl, rfl, Try.sizeOf3⟩ rfl ?_
    refine O.ld rfl rfl rfl (fun w => ⟨Try.isAgg3 w, Try.sizeOf3 w⟩) rfl h1 ?_
    refine O.mv rfl rfl rfl rfl rfl ?_
    refine O.nc rfl rfl rfl rfl rfl ?_
    refine O.fa0 (off := 3) rfl rfl rfl rfl ⟨_, _, _, Try.underlying168, rfl, rfl, Try.sizeOf166⟩ rfl ?_
    refine O.ld rfl rfl rfl (fun w => ⟨Try.isAgg166 w, Try.sizeOf166 w⟩) rfl h3 ?_
    refine O.nc rfl rfl rfl rfl rfl ?_
    refine O.ld rfl rfl rfl (fun w => ⟨Try.isAgg170 w, Try.sizeOf170 w⟩) rfl hc2 ?_
    refine O.mv rfl rfl rfl rfl rfl ?_
    refine O.ix (j := j) rfl rfl rfl rfl Try.underlying170 Try.sizeOf129 rfl rfl (by omega) (by omega) ?_
    refine O.ld rfl rfl rfl (fun w => ⟨Try.isAgg129 w, Try.sizeOf129 w⟩) rfl hptr ?_
    refine O.nc rfl rfl rfl rfl rfl ?_
    refine O.fa0 (off := 1) rfl rfl rfl rfl ⟨_, _, _, Try.underlying168, rfl, rfl, Try.sizeOf3⟩ rfl ?_
    refine O.ld rfl rfl rfl (fun w => ⟨Try.isAgg3 w, Try.sizeOf3 w⟩) rfl hq1 ?_
    refine O.add (((m + ((qs.take (j + 1)).map cn).sum : Nat) : Int)) rfl rfl rfl rfl rfl rfl (by omega) (by omega) ?_
    refine O.nc rfl rfl rfl rfl rfl ?_
    refine O.fa0 (off := 1) rfl rfl rfl rfl ⟨_, _, _, Try.underlying168, rfl, rfl, Try.sizeOf3⟩ rfl ?_
    refine O.st3 rfl rfl Try.sizeOf3 rfl rfl rfl rfl rfl hw2 ?_
    intro H3 W3
    refine Pl.fin [(0, _), (2, _), (22, _)] ⟨rfl, rfl, rfl, trivial⟩ ?_
    refine Go'.inBlock ?_
    -- region 4 (btreeg.go:253)
    refine Go'.region [(0, 0), (1, 0), (2, 0)] rfl ?_
    refine O.mv rfl rfl rfl rfl rfl ?_
    refine O.add (((j + 1 : Nat) : Int)) rfl rfl rfl rfl rfl rfl (by omega) (by omega) ?_
    refine O.asg rfl rfl rfl rfl rfl ?_
    refine Pl.fin [(0, _), (2, _), (22, _)] ⟨rfl, rfl, rfl, trivial⟩ ?_
    refine Go'.keep [(0, _), (2, _)] ⟨rfl, rfl, trivial⟩ ?_
    refine Go'.inLoop ?_
    exact ih (j + 1) H3 ⟨hF.trans W3.fr, W3.size.trans hS, hlt, W3.at⟩ (by omega)
  · -- the end
    obtain rfl : j = qs.length := by omega
    -- region 3 (btreeg.go:253)
    refine Go'.region [(0, 0), (1, 0), (2, 0), (3, 0), (4, 1), (5, 0), (6, 1), (7, 0), (8, 0)] rfl ?_
    refine O.mv rfl rfl rfl rfl rfl ?_
    refine O.mv rfl rfl rfl rfl rfl ?_
    refine O.nc rfl rfl rfl rfl rfl ?_
    refine O.fa0 (off := 3) rfl rfl rfl rfl ⟨_, _, _, Try.underlying168, rfl, rfl, Try.sizeOf166⟩ rfl ?_
    refine O.ld rfl rfl rfl (fun w => ⟨Try.isAgg166 w, Try.sizeOf166 w⟩) rfl h3 ?_
    refine O.nc rfl rfl rfl rfl rfl ?_
    refine O.ld rfl rfl rfl (fun w => ⟨Try.isAgg170 w, Try.sizeOf170 w⟩) rfl hc2 ?_
    refine O.len rfl rfl rfl rfl Try.underlying170 rfl ?_
    refine O.cmp rfl rfl rfl rfl rfl rfl (lssF (by omega)) ?_
    refine Pl.fin [(0, _), (2, _), (22, _)] ⟨rfl, rfl, rfl, trivial⟩ ?_
    refine Go'.condF rfl ?_
    refine Go'.exit rfl ?_
    refine Go'.fall Try.func197 Try.results197 (vs := []) trivial ?_
    refine ⟨hF, hS, ?_⟩
    rw [List.take_length] at h1
    exact h1


theorem lock_spec {B : World} {H : Mem} {tr : Nat} {m : Bool} : Fn Try.prog B 128 [.pointer (some ⟨tr, 0, none⟩), .bool m] H (fun v H' => v = .bool false ∧ H' = H) := by
  refine fn_of Try.func128 rfl Try.ntmps128 ?_
  refine (show Go' _ _ _ _ 5 [(0, _), (1, _)] [.code _] _ from ?_)
  refine Go'.seq ?_
  -- region 0 (btreeg.go:1522)
  refine Go'.region [(0, 0)] rfl ?_
  refine O.asg rfl rfl rfl rfl rfl ?_
  refine Pl.fin [(4, _)] ⟨rfl, trivial⟩ ?_
  refine Go'.seq ?_
  -- region 1 (btreeg.go:1523)
  refine Go'.region [(0, 0)] rfl ?_
  refine O.asg rfl rfl rfl rfl rfl ?_
  refine Pl.fin [(4, _)] ⟨rfl, trivial⟩ ?_
  refine Go'.ret (vs := [_]) Try.func128 Try.results128 ⟨rfl, trivial⟩ ?_
  exact ⟨rfl, rfl⟩

theorem remainder_spec {B : World} {H : Mem} {k : Int} {n j : Nat} (hn : 0 < n) (hl : n < 4611686018427387904) (hj : (k.tmod n + n).tmod n = (j : Int)) :
    Fn Try.prog B 199 [.int .i64 k, .int .i64 (n : Int)] H (fun r H' => r = .int .i64 (j : Int) ∧ H' = H) := by
  have hp : (0 : Int) < n := by omega
  have b1 := Int.tmod_lt_of_pos k hp
  have b2 : -(n : Int) < k.tmod n := by
    have := Int.lt_tmod_of_pos k hp
    omega
  refine fn_of Try.func199 rfl Try.ntmps199 ?_
  refine (show Go' _ _ _ _ 12 [(0, _), (1, _)] [.code _] _ from ?_)
  refine Go'.seq ?_
  -- region 0 (impl.go:169)
  refine Go'.region [(0, 0)] rfl ?_
  refine O.asg rfl rfl rfl rfl rfl ?_
  refine Pl.fin [(0, _), (1, _), (4, _)] ⟨rfl, rfl, rfl, trivial⟩ ?_
  refine Go'.seq ?_
  -- region 1 (impl.go:170)
  refine Go'.region [(0, 0), (1, 0), (2, 0), (3, 0), (4, 0), (5, 0), (6, 0), (7, 0)] rfl ?_
  refine O.mv rfl rfl rfl rfl rfl ?_
  refine O.mv rfl rfl rfl rfl rfl ?_
  refine O.rem (k.tmod n) rfl rfl rfl rfl rfl rfl (by omega) rfl ?_
  refine O.mv rfl rfl rfl rfl rfl ?_
  refine O.add ((k.tmod n + n)) rfl rfl rfl rfl rfl rfl (by omega) (by omega) ?_
  refine O.mv rfl rfl rfl rfl rfl ?_
  refine O.rem ((j : Int)) rfl rfl rfl rfl rfl rfl (by omega) hj ?_
  refine O.asg rfl rfl rfl rfl rfl ?_
  refine Pl.fin [(4, _)] ⟨rfl, trivial⟩ ?_
  refine Go'.ret (vs := [_]) Try.func199 Try.results199 ⟨rfl, trivial⟩ ?_
  exact ⟨rfl, rfl⟩

theorem irank_spec {B : World} {H : Mem} {v : Value} {ord : List Int} {k : Int} (ho : InS EN H v ord) (hl : ord.length < 4611686018427387904) :
    Fn Try.prog B 171 [v, .int .i64 k] H (fun r H' => r = .int .i64 (rank ord k) ∧ H' = H) := by
  obtain ⟨a, c, rfl⟩ := ho.len
  refine fn_of Try.func171 rfl Try.ntmps171 ?_
  refine (show Go' _ _ _ _ 16 [(0, _), (1, _)] [.code _] _ from ?_)
  refine Go'.seq ?_
  -- region 0 (impl.go:161)
  refine Go'.region [(0, 0)] rfl ?_
  refine O.asg rfl rfl rfl rfl rfl ?_
  refine Pl.fin [(0, _), (1, _), (4, _)] ⟨rfl, rfl, rfl, trivial⟩ ?_
  refine Go'.seq ?_
  refine Go'.seq ?_
  by_cases h0 : ord.length = 0
  · skip
    -- region 1 (impl.go:162)
    refine Go'.region [(0, 0), (1, 0), (2, 0)] rfl ?_
    refine O.mv rfl rfl rfl rfl rfl ?_
    refine O.len rfl rfl rfl rfl Try.underlying22 rfl ?_
    refine O.cmp rfl rfl rfl rfl rfl rfl (eqlT (by omega)) ?_
    refine Pl.fin [(0, _), (1, _), (4, _), (7, _)] ⟨rfl, rfl, rfl, rfl, trivial⟩ ?_
    refine Go'.condT rfl ?_
    refine Go'.seq ?_
    -- region 2 (impl.go:163)
    refine Go'.region [(0, 0), (1, 0)] rfl ?_
    refine O.mv rfl rfl rfl rfl rfl ?_
    refine O.asg rfl rfl rfl rfl rfl ?_
    refine Pl.fin [(0, _), (1, _), (4, _)] ⟨rfl, rfl, rfl, trivial⟩ ?_
    refine Go'.ret (vs := [_]) Try.func171 Try.results171 ⟨rfl, trivial⟩ ?_
    refine ⟨?_, rfl⟩
    unfold rank; rw [if_pos h0]; rfl
  · skip
    have hp : (0 : Int) < ord.length := by omega
    have b3 := Int.tmod_lt_of_pos (k.tmod ord.length + ord.length) hp
    have b4 : 0 ≤ (k.tmod ord.length + ord.length).tmod ord.length := Int.tmod_nonneg _ (by have := Int.lt_tmod_of_pos k hp; omega)
    obtain ⟨j, hj⟩ := Int.eq_ofNat_of_zero_le b4
    obtain ⟨z, hz⟩ : ∃ z, ord[j]? = some z := ⟨ord[j]'(by omega), List.getElem?_eq_getElem (by omega)⟩
    obtain ⟨b, o, c', e, hr⟩ := ho.at hz
    cases e
    -- region 1 (impl.go:162)
    refine Go'.region [(0, 0), (1, 0), (2, 0)] rfl ?_
    refine O.mv rfl rfl rfl rfl rfl ?_
    refine O.len rfl rfl rfl rfl Try.underlying22 rfl ?_
    refine O.cmp rfl rfl rfl rfl rfl rfl (eqlF (by omega)) ?_
    refine Pl.fin [(0, _), (1, _), (4, _), (7, _)] ⟨rfl, rfl, rfl, rfl, trivial⟩ ?_
    refine Go'.condF rfl ?_
    refine Go'.skip ?_
    refine Go'.seq ?_
    -- region 3 (impl.go:165)
    refine Go'.region [(0, 0), (1, 0), (2, 0), (3, 0), (4, 2), (5, 0), (6, 1), (7, 0)] rfl ?_
    refine O.mv rfl rfl rfl rfl rfl ?_
    refine O.mv rfl rfl rfl rfl rfl ?_
    refine O.mv rfl rfl rfl rfl rfl ?_
    refine O.len rfl rfl rfl rfl Try.underlying22 rfl ?_
    refine O.callQ rfl rfl rfl Try.call199 rfl (remainder_spec (by omega) hl hj) trivial ?_
    refine O.ix (j := j) rfl rfl rfl rfl Try.underlying22 Try.sizeOf3 rfl rfl (by omega) (by omega) ?_
    refine O.ld rfl rfl rfl (fun w => ⟨Try.isAgg3 w, Try.sizeOf3 w⟩) rfl (hr 0 _ rfl) ?_
    refine O.asg rfl rfl rfl rfl rfl ?_
    refine Pl.fin [(4, _)] ⟨rfl, trivial⟩ ?_
    refine Go'.ret (vs := [_]) Try.func171 Try.results171 ⟨rfl, trivial⟩ ?_
    refine ⟨?_, rfl⟩
    unfold rank; rw [if_neg h0, hj, Int.toNat_natCast, List.getD_eq_getElem?_getD, hz]; rfl

/-- less, as the tree calls it. -/
theorem less_spec {B : World} {H : Mem} {tr id mx mn : Nat} (tc : TrC H tr id mx mn) (x y : Int × Int) :
    Fn Try.prog B 170 [.agg (EJ.enc x).toArray, .agg (EJ.enc y).toArray, ptr cx.ob] H (fun r H' => r = .bool (OI.lt x y) ∧ Fr nowhere H H') := by
  refine fn_of Try.func170 rfl Try.ntmps170 ?_
  refine (show Go' _ _ _ _ 15 [(0, _), (1, _), (2, _)] [.code _] _ from ?_)
  refine Go'.seq ?_
  -- region 0 (impl.go:176)
  refine Go'.region [(0, 2), (1, 2), (2, 0)] rfl ?_
  refine O.box rfl rfl rfl rfl ?_
  intro H1 M1
  refine ⟨trivial, ?_⟩
  have hf1 := M1.fr nowhere
  replace tc := tc.fr hf1 (fun _ _ _ _ => nw)
  have mi : Rd H1 H.size 0 (EJ.enc x) := M1.rd _ [] (by simp [Value.cells])
  refine O.box rfl rfl rfl rfl ?_
  intro H2 M2
  refine ⟨trivial, ?_⟩
  have hf2 := hf1.trans (M2.fr nowhere)
  replace tc := tc.fr (M2.fr nowhere) (fun _ _ _ _ => nw)
  replace mi := (M2.fr nowhere).rd mi (fun _ _ => nw)
  have mj : Rd H2 H1.size 0 (EJ.enc y) := M2.rd _ [] (by simp [Value.cells])
  refine O.asg rfl rfl rfl rfl rfl ?_
  refine Pl.fin [(2, _), (3, _), (4, _), (5, _)] ⟨rfl, rfl, rfl, rfl, trivial⟩ ?_
  refine Go'.seq ?_
  -- region 1 (impl.go:176)
  refine Go'.draw (fun H' => cl H' cx.ob 0 = some cx.ov ∧ cl H' H1.size (0 + 0) = some (.int .i64 y.1)) [(0, 1), (1, 0), (2, 1), (4, 0), (5, 0), (6, 0), (3, 2), (7, 2), (8, 0), (9, 0)] (by kernel_rfl) (by kernel_rfl) (⟨tc.ob, (mj 0 _ rfl)⟩) ?_
  refine O.ld rfl rfl rfl (fun w => ⟨Try.isAgg22 w, Try.sizeOf22 w⟩) rfl tc.ob ?_
  refine O.faz rfl rfl rfl rfl ⟨_, _, _, Try.underlying27, rfl, rfl, Try.sizeOf3⟩ rfl ?_
  refine O.ld rfl rfl rfl (fun w => ⟨Try.isAgg3 w, Try.sizeOf3 w⟩) rfl (mi 0 _ rfl) ?_
  refine O.ldC rfl rfl rfl (fun w => ⟨Try.isAgg22 w, Try.sizeOf22 w⟩) rfl (fun _ h => h.1) ?_
  refine O.faz rfl rfl rfl rfl ⟨_, _, _, Try.underlying27, rfl, rfl, Try.sizeOf3⟩ rfl ?_
  refine O.ldC rfl rfl rfl (fun w => ⟨Try.isAgg3 w, Try.sizeOf3 w⟩) rfl (fun _ h => h.2) ?_
  refine O.callQ rfl rfl rfl Try.call171 rfl (irank_spec tc.od.inS tc.ol) ⟨tc.ob, (mj 0 _ rfl)⟩ ?_
  refine O.callQ rfl rfl rfl Try.call171 rfl (irank_spec tc.od.inS tc.ol) ⟨tc.ob, (mj 0 _ rfl)⟩ ?_
  refine O.cmp rfl rfl rfl rfl rfl rfl (show cmpOf .lss _ _ = some (OI.lt x y) from rfl) ?_
  refine O.asg rfl rfl rfl rfl rfl ?_
  refine Pl.fin [(5, _)] ⟨rfl, trivial⟩ ?_
  refine Go'.ret (vs := [_]) Try.func170 Try.results170 ⟨rfl, trivial⟩ ?_
  exact ⟨rfl, hf2⟩

end Go.Bt.FG
