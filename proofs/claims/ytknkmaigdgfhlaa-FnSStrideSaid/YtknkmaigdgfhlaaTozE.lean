/- Contracts of functions of the program, proved by walking through their code. Conditions: those that each theorem names. -/
import Derived.Test.YtknkmaigdgfhlaaProg
import Derived.Test.YtknkmaigdgfhlaaToRb
namespace Go.Bt.FZ
open Go Go.Proofs
set_option maxRecDepth 20000
set_option maxHeartbeats 4000000

set_option maxRecDepth 100000 in
theorem ty : tyOk Try.prog = true := by kernel_rfl
def EI : Elt Int := { enc := fun x => [.int .i64 x], s := 1, len := fun _ => rfl, one := fun _ => rfl, pos := by decide }
def OI : Pl.Swo Int := { lt := fun x y => decide (x < y), irr := fun x => by simp, ntr := fun h k => by simp at *; omega, asy := fun h => by simp at *; omega }


/-- What stays of a map: its number, its bounds, that its values have no methods. -/
structure TrC (H : Mem) (tr id mx mn : Nat) : Prop where
  iso : cl H tr 0 = some (.int .u64 (id : Int))
  emp : Rd H tr 4 [.int .i64 0]
  mn' : cl H tr 5 = some (.int .i64 (mn : Int))
  mx' : cl H tr 6 = some (.int .i64 (mx : Int))
  cv : cl H tr 7 = some (.bool false)
  icv : cl H tr 8 = some (.bool false)
  wr : Wr H tr 0 9
theorem TrC.fr {H H' : Mem} {Z : Nat → Nat → Prop} {tr id mx mn : Nat} (h : TrC H tr id mx mn) (hf : Fr Z H H') (hz : ∀ o, o ≠ 2 → o ≠ 3 → ¬ Z tr o) : TrC H' tr id mx mn where
  iso := hf.keep h.iso (hz _ (by decide) (by decide))
  emp := hf.rd h.emp fun i hi => hz _ (by simp at hi; omega) (by simp at hi; omega)
  mn' := hf.keep h.mn' (hz _ (by decide) (by decide))
  mx' := hf.keep h.mx' (hz _ (by decide) (by decide))
  cv := hf.keep h.cv (hz _ (by decide) (by decide))
  icv := hf.keep h.icv (hz _ (by decide) (by decide))
  wr := hf.wr h.wr

theorem leaf_spec {B : World} {H : Mem} {p : Nat} {a : Option Addr} (h3 : cl H p 3 = some (.pointer a)) :
    Fn Try.prog B 152 [.pointer (some ⟨p, 0, none⟩)] H (fun v H' => v = .bool a.isNone ∧ H' = H) := by
  refine fn_of Go.Proofs.Try.func152 rfl Go.Proofs.Try.ntmps152 ?_
  refine (show Go' _ _ _ _ 8 [(0, _)] [.code _] _ from ?_)
  refine Go'.seq ?_
  -- region 0 (map.go:128)
  refine Go'.region [(0, 0)] rfl ?_
  refine O.asg rfl rfl rfl rfl rfl ?_
  refine Pl.fin [(0, _), (2, _)] ⟨rfl, rfl, trivial⟩ ?_
  refine Go'.seq ?_
  -- region 1 (map.go:129)
  refine Go'.region [(0, 0), (1, 0), (2, 0), (3, 1), (4, 0), (5, 0)] rfl ?_
  refine O.mv rfl rfl rfl rfl rfl ?_
  refine O.nc rfl rfl rfl rfl rfl ?_
  refine O.fa0 (off := 3) rfl rfl rfl rfl ⟨_, _, _, Go.Proofs.Try.underlying205, rfl, rfl, Go.Proofs.Try.sizeOf203⟩ rfl ?_
  refine O.ld rfl rfl rfl (fun w => ⟨Go.Proofs.Try.isAgg203 w, Go.Proofs.Try.sizeOf203 w⟩) rfl h3 ?_
  refine O.isNil rfl rfl rfl rfl Go.Proofs.Try.underlying203 rfl rfl ?_
  refine O.asg rfl rfl rfl rfl rfl ?_
  refine Pl.fin [(2, _)] ⟨rfl, trivial⟩ ?_
  refine Go'.ret (vs := [_]) Go.Proofs.Try.func152 Go.Proofs.Try.results152 ⟨rfl, trivial⟩ ?_
  exact ⟨rfl, rfl⟩

theorem deg0_spec {B : World} {H : Mem} : Fn Try.prog B 157 [.int .i64 0] H (fun v H' => v = .tuple #[.int .i64 ((31 : Nat) : Int), .int .i64 ((63 : Nat) : Int)] ∧ H' = H) := by
  refine fn_of Go.Proofs.Try.func157 rfl Go.Proofs.Try.ntmps157 ?_
  refine (show Go' _ _ _ _ 15 [(0, _)] [.code _] _ from ?_)
  refine Go'.seq ?_
  -- region 0 (map.go:20)
  refine Go'.region [(0, 0), (1, 0)] rfl ?_
  refine O.asg rfl rfl rfl rfl rfl ?_
  refine O.asg rfl rfl rfl rfl rfl ?_
  refine Pl.fin [(0, _), (2, _), (3, _)] ⟨rfl, rfl, rfl, trivial⟩ ?_
  refine Go'.seq ?_
  refine Go'.seq ?_
  -- region 1 (map.go:21)
  refine Go'.region [(0, 0), (1, 0)] rfl ?_
  refine O.mv rfl rfl rfl rfl rfl ?_
  refine O.cmp rfl rfl rfl rfl rfl rfl (leqT (by omega)) ?_
  refine Pl.fin [(0, _), (2, _), (3, _), (5, _)] ⟨rfl, rfl, rfl, rfl, trivial⟩ ?_
  refine Go'.condT rfl ?_
  -- region 2 (map.go:22)
  refine Go'.region [(0, 0)] rfl ?_
  refine O.asg rfl rfl rfl rfl rfl ?_
  refine Pl.fin [(0, _), (2, _), (3, _)] ⟨rfl, rfl, rfl, trivial⟩ ?_
  refine Go'.seq ?_
  -- region 5 (map.go:26)
  refine Go'.region [(0, 0), (1, 0), (2, 0), (3, 0)] rfl ?_
  refine O.mv rfl rfl rfl rfl rfl ?_
  refine O.mul (((64 : Nat) : Int)) rfl rfl rfl rfl rfl rfl (by omega) (by omega) ?_
  refine O.sub (((63 : Nat) : Int)) rfl rfl rfl rfl rfl rfl (by omega) (by omega) ?_
  refine O.asg rfl rfl rfl rfl rfl ?_
  refine Pl.fin [(2, _), (3, _)] ⟨rfl, rfl, trivial⟩ ?_
  refine Go'.seq ?_
  -- region 6 (map.go:27)
  refine Go'.region [(0, 0), (1, 0), (2, 0)] rfl ?_
  refine O.mv rfl rfl rfl rfl rfl ?_
  refine O.quo (((31 : Nat) : Int)) rfl rfl rfl rfl rfl rfl (by decide) rfl (by omega) ?_
  refine O.asg rfl rfl rfl rfl rfl ?_
  refine Pl.fin [(2, _), (3, _)] ⟨rfl, rfl, trivial⟩ ?_
  refine Go'.seq ?_
  -- region 7 (map.go:28)
  refine Go'.region [(0, 0), (1, 0), (2, 0), (3, 0)] rfl ?_
  refine O.mv rfl rfl rfl rfl rfl ?_
  refine O.mv rfl rfl rfl rfl rfl ?_
  refine O.asg rfl rfl rfl rfl rfl ?_
  refine O.asg rfl rfl rfl rfl rfl ?_
  refine Pl.fin [(2, _), (3, _)] ⟨rfl, rfl, trivial⟩ ?_
  refine Go'.ret (vs := [_, _]) Go.Proofs.Try.func157 Go.Proofs.Try.results157 ⟨rfl, rfl, trivial⟩ ?_
  exact ⟨rfl, rfl⟩

theorem isoLoad_spec {B : World} {H : Mem} {tr bp op p id : Nat} (mt : Bool) (hp : cl H bp op = some (ptr p)) (h0 : cl H p 0 = some (.int .u64 (id : Int))) (ht : cl H tr 0 = some (.int .u64 (id : Int))) :
    Fn Try.prog B 151 [.pointer (some ⟨tr, 0, none⟩), .pointer (some ⟨bp, op, none⟩), .bool mt] H (fun v H' => v = ptr p ∧ H' = H) := by
  unfold ptr at hp
  cases mt
  · skip
    refine fn_of Go.Proofs.Try.func151 rfl Go.Proofs.Try.ntmps151 ?_
    refine (show Go' _ _ _ _ 31 [(0, _), (1, _), (2, _)] [.code _] _ from ?_)
    refine Go'.seq ?_
    -- region 0 (map.go:96)
    refine Go'.region [(0, 0)] rfl ?_
    refine O.asg rfl rfl rfl rfl rfl ?_
    refine Pl.fin [(0, _), (1, _), (2, _), (6, _)] ⟨rfl, rfl, rfl, rfl, trivial⟩ ?_
    refine Go'.seq ?_
    refine Go'.seq ?_
    -- region 1 (map.go:97)
    refine Go'.draw (fun _ => True) [(0, 0), (1, 0), (2, 0), (3, 0), (4, 1), (5, 0), (6, 0), (7, 1), (8, 0), (9, 0), (10, 0), (11, 1), (12, 0), (13, 0)] (by kernel_rfl) (by kernel_rfl) (trivial) ?_
    refine O.mv rfl rfl rfl rfl rfl ?_
    refine O.mv rfl rfl rfl rfl rfl ?_
    refine Pl.pass rfl rfl rfl rfl ?_
    refine Pl.pass rfl rfl rfl rfl ?_
    refine Pl.pass rfl rfl rfl rfl ?_
    refine Pl.pass rfl rfl rfl rfl ?_
    refine Pl.pass rfl rfl rfl rfl ?_
    refine Pl.pass rfl rfl rfl rfl ?_
    refine Pl.pass rfl rfl rfl rfl ?_
    refine Pl.pass rfl rfl rfl rfl ?_
    refine Pl.pass rfl rfl rfl rfl ?_
    refine Pl.pass rfl rfl rfl rfl ?_
    refine Pl.pass rfl rfl rfl rfl ?_
    refine O.pick rfl rfl rfl rfl rfl rfl ?_
    refine Pl.fin [(0, _), (1, _), (6, _), (20, _)] ⟨rfl, rfl, rfl, rfl, trivial⟩ ?_
    refine Go'.condF rfl ?_
    refine Go'.skip ?_
    refine Go'.seq ?_
    -- region 3 (map.go:100)
    refine Go'.region [(0, 0), (1, 0), (2, 1), (3, 0)] rfl ?_
    refine O.mv rfl rfl rfl rfl rfl ?_
    refine O.nc rfl rfl rfl rfl rfl ?_
    refine O.ld rfl rfl rfl (fun w => ⟨Go.Proofs.Try.isAgg135 w, Go.Proofs.Try.sizeOf135 w⟩) rfl hp ?_
    refine O.asg rfl rfl rfl rfl rfl ?_
    refine Pl.fin [(6, _)] ⟨rfl, trivial⟩ ?_
    refine Go'.ret (vs := [_]) Go.Proofs.Try.func151 Go.Proofs.Try.results151 ⟨rfl, trivial⟩ ?_
    exact ⟨rfl, rfl⟩
  · skip
    refine fn_of Go.Proofs.Try.func151 rfl Go.Proofs.Try.ntmps151 ?_
    refine (show Go' _ _ _ _ 31 [(0, _), (1, _), (2, _)] [.code _] _ from ?_)
    refine Go'.seq ?_
    -- region 0 (map.go:96)
    refine Go'.region [(0, 0)] rfl ?_
    refine O.asg rfl rfl rfl rfl rfl ?_
    refine Pl.fin [(0, _), (1, _), (2, _), (6, _)] ⟨rfl, rfl, rfl, rfl, trivial⟩ ?_
    refine Go'.seq ?_
    refine Go'.seq ?_
    -- region 1 (map.go:97)
    refine Go'.draw (fun _ => True) [(0, 0), (1, 0), (2, 0), (3, 0), (4, 1), (5, 0), (6, 0), (7, 1), (8, 0), (9, 0), (10, 0), (11, 1), (12, 0), (13, 0)] (by kernel_rfl) (by kernel_rfl) (trivial) ?_
    refine O.mv rfl rfl rfl rfl rfl ?_
    refine O.mv rfl rfl rfl rfl rfl ?_
    refine O.mv rfl rfl rfl rfl rfl ?_
    refine O.nc rfl rfl rfl rfl rfl ?_
    refine O.ld rfl rfl rfl (fun w => ⟨Go.Proofs.Try.isAgg135 w, Go.Proofs.Try.sizeOf135 w⟩) rfl hp ?_
    refine O.nc rfl rfl rfl rfl rfl ?_
    refine O.faz rfl rfl rfl rfl ⟨_, _, _, Go.Proofs.Try.underlying205, rfl, rfl, Go.Proofs.Try.sizeOf133⟩ rfl ?_
    refine O.ld rfl rfl rfl (fun w => ⟨Go.Proofs.Try.isAgg133 w, Go.Proofs.Try.sizeOf133 w⟩) rfl h0 ?_
    refine O.mv rfl rfl rfl rfl rfl ?_
    refine O.nc rfl rfl rfl rfl rfl ?_
    refine O.faz rfl rfl rfl rfl ⟨_, _, _, Go.Proofs.Try.underlying140, rfl, rfl, Go.Proofs.Try.sizeOf133⟩ rfl ?_
    refine O.ld rfl rfl rfl (fun w => ⟨Go.Proofs.Try.isAgg133 w, Go.Proofs.Try.sizeOf133 w⟩) rfl ht ?_
    refine O.cmp rfl rfl rfl rfl rfl rfl (neqF rfl) ?_
    refine O.pick rfl rfl rfl rfl rfl rfl ?_
    refine Pl.fin [(0, _), (1, _), (6, _), (20, _)] ⟨rfl, rfl, rfl, rfl, trivial⟩ ?_
    refine Go'.condF rfl ?_
    refine Go'.skip ?_
    refine Go'.seq ?_
    -- region 3 (map.go:100)
    refine Go'.region [(0, 0), (1, 0), (2, 1), (3, 0)] rfl ?_
    refine O.mv rfl rfl rfl rfl rfl ?_
    refine O.nc rfl rfl rfl rfl rfl ?_
    refine O.ld rfl rfl rfl (fun w => ⟨Go.Proofs.Try.isAgg135 w, Go.Proofs.Try.sizeOf135 w⟩) rfl hp ?_
    refine O.asg rfl rfl rfl rfl rfl ?_
    refine Pl.fin [(6, _)] ⟨rfl, trivial⟩ ?_
    refine Go'.ret (vs := [_]) Go.Proofs.Try.func151 Go.Proofs.Try.results151 ⟨rfl, trivial⟩ ?_
    exact ⟨rfl, rfl⟩

theorem newLeaf_spec {B : World} {H : Mem} {tr id : Nat} (ht : cl H tr 0 = some (.int .u64 (id : Int))) :
    Fn Try.prog B 160 [.pointer (some ⟨tr, 0, none⟩), .bool true] H (fun v H' => v = ptr H.size ∧ H'.size = H.size + 1 ∧ Fr nowhere H H' ∧ cl H' H.size 0 = some (.int .u64 (id : Int)) ∧ cl H' H.size 1 = some (.int .i64 0) ∧
      cl H' H.size 2 = some (.slice none 0 0) ∧ cl H' H.size 3 = some (.pointer none) ∧ Wr H' H.size 0 4) := by
  have htl := cl_lt ht
  refine fn_of Go.Proofs.Try.func160 rfl Go.Proofs.Try.ntmps160 ?_
  refine (show Go' _ _ _ _ 21 [(0, _), (1, _)] [.code _] _ from ?_)
  refine Go'.seq ?_
  -- region 0 (map.go:118)
  refine Go'.region [(0, 0)] rfl ?_
  refine O.asg rfl rfl rfl rfl rfl ?_
  refine Pl.fin [(0, _), (1, _), (4, _)] ⟨rfl, rfl, rfl, trivial⟩ ?_
  refine Go'.seq ?_
  -- region 1 (map.go:119)
  refine Go'.region [(0, 2), (1, 0)] rfl ?_
  refine O.alloc rfl rfl rfl Go.Proofs.Try.zeroValue205 ?_
  intro H1 M1
  refine ⟨trivial, ?_⟩
  have hs1 := M1.size
  replace ht := M1.keep ht
  have g0 : cl H1 H.size 0 = some (.int .u64 0) := (M1.cl 0).trans rfl
  have g1 : cl H1 H.size 1 = some (.int .i64 0) := (M1.cl 1).trans rfl
  have g2 : cl H1 H.size 2 = some (.slice none 0 0) := (M1.cl 2).trans rfl
  have g3 : cl H1 H.size 3 = some (.pointer none) := (M1.cl 3).trans rfl
  have gw : Wr H1 H.size 0 4 := M1.wr 4 (by decide)
  have hf1 := M1.fr nowhere
  refine O.asg rfl rfl rfl rfl rfl ?_
  refine Pl.fin [(0, _), (1, _), (4, _), (5, _)] ⟨rfl, rfl, rfl, rfl, trivial⟩ ?_
  refine Go'.seq ?_
  -- region 2 (map.go:120)
  refine Go'.region [(0, 0), (1, 0), (2, 0), (3, 0), (4, 1), (5, 0), (6, 0), (7, 2)] rfl ?_
  refine O.mv rfl rfl rfl rfl rfl ?_
  refine O.mv rfl rfl rfl rfl rfl ?_
  refine O.nc rfl rfl rfl rfl rfl ?_
  refine O.faz rfl rfl rfl rfl ⟨_, _, _, Go.Proofs.Try.underlying140, rfl, rfl, Go.Proofs.Try.sizeOf133⟩ rfl ?_
  refine O.ld rfl rfl rfl (fun w => ⟨Go.Proofs.Try.isAgg133 w, Go.Proofs.Try.sizeOf133 w⟩) rfl ht ?_
  refine O.nc rfl rfl rfl rfl rfl ?_
  refine O.faz rfl rfl rfl rfl ⟨_, _, _, Go.Proofs.Try.underlying205, rfl, rfl, Go.Proofs.Try.sizeOf133⟩ rfl ?_
  refine O.st rfl rfl Go.Proofs.Try.sizeOf133 rfl rfl rfl rfl rfl (gw.at0 0 1 (by omega)) ?_
  intro H2 W2
  have hs2 := W2.size
  replace g0 := W2.at
  refine ⟨trivial, ?_⟩
  refine Pl.fin [(1, _), (4, _), (5, _)] ⟨rfl, rfl, rfl, trivial⟩ ?_
  refine Go'.seq ?_
  refine Go'.seq ?_
  replace g1 := W2.keep1 g1 (by omega)
  replace g2 := W2.keep1 g2 (by omega)
  replace g3 := W2.keep1 g3 (by omega)
  replace gw := W2.fr.wr gw
  have hf2 : Fr nowhere H H2 := hf1.trans' W2.fr (fun _ _ _ h => h) (fun b o hb h => by simp only [rng] at h; omega)
  -- region 3 (map.go:121)
  refine Go'.region [(0, 0), (1, 0)] rfl ?_
  refine O.mv rfl rfl rfl rfl rfl ?_
  refine O.not rfl rfl rfl rfl rfl ?_
  refine Pl.fin [(4, _), (5, _), (15, _)] ⟨rfl, rfl, rfl, trivial⟩ ?_
  refine Go'.condF rfl ?_
  refine Go'.skip ?_
  refine Go'.seq ?_
  -- region 5 (map.go:124)
  refine Go'.region [(0, 0), (1, 0)] rfl ?_
  refine O.mv rfl rfl rfl rfl rfl ?_
  refine O.asg rfl rfl rfl rfl rfl ?_
  refine Pl.fin [(4, _)] ⟨rfl, trivial⟩ ?_
  refine Go'.ret (vs := [_]) Go.Proofs.Try.func160 Go.Proofs.Try.results160 ⟨rfl, trivial⟩ ?_
  exact ⟨rfl, by omega, hf2, g0, g1, g2, g3, gw⟩

theorem newInner_spec {B : World} {H : Mem} {tr id : Nat} (ht : cl H tr 0 = some (.int .u64 (id : Int))) :
    Fn Try.prog B 160 [.pointer (some ⟨tr, 0, none⟩), .bool false] H (fun v H' => v = ptr H.size ∧ H'.size = H.size + 2 ∧ Fr nowhere H H' ∧ cl H' H.size 0 = some (.int .u64 (id : Int)) ∧ cl H' H.size 1 = some (.int .i64 0) ∧
      cl H' H.size 2 = some (.slice none 0 0) ∧ cl H' H.size 3 = some (ptr (H.size + 1)) ∧ Wr H' H.size 0 4 ∧ cl H' (H.size + 1) 0 = some (.slice none 0 0) ∧ Wr H' (H.size + 1) 0 1) := by
  have htl := cl_lt ht
  refine fn_of Go.Proofs.Try.func160 rfl Go.Proofs.Try.ntmps160 ?_
  refine (show Go' _ _ _ _ 21 [(0, _), (1, _)] [.code _] _ from ?_)
  refine Go'.seq ?_
  -- region 0 (map.go:118)
  refine Go'.region [(0, 0)] rfl ?_
  refine O.asg rfl rfl rfl rfl rfl ?_
  refine Pl.fin [(0, _), (1, _), (4, _)] ⟨rfl, rfl, rfl, trivial⟩ ?_
  refine Go'.seq ?_
  -- region 1 (map.go:119)
  refine Go'.region [(0, 2), (1, 0)] rfl ?_
  refine O.alloc rfl rfl rfl Go.Proofs.Try.zeroValue205 ?_
  intro H1 M1
  refine ⟨trivial, ?_⟩
  have hs1 := M1.size
  replace ht := M1.keep ht
  have g0 : cl H1 H.size 0 = some (.int .u64 0) := (M1.cl 0).trans rfl
  have g1 : cl H1 H.size 1 = some (.int .i64 0) := (M1.cl 1).trans rfl
  have g2 : cl H1 H.size 2 = some (.slice none 0 0) := (M1.cl 2).trans rfl
  have g3 : cl H1 H.size 3 = some (.pointer none) := (M1.cl 3).trans rfl
  have gw : Wr H1 H.size 0 4 := M1.wr 4 (by decide)
  have hf1 := M1.fr nowhere
  refine O.asg rfl rfl rfl rfl rfl ?_
  refine Pl.fin [(0, _), (1, _), (4, _), (5, _)] ⟨rfl, rfl, rfl, rfl, trivial⟩ ?_
  refine Go'.seq ?_
  -- region 2 (map.go:120)
  refine Go'.region [(0, 0), (1, 0), (2, 0), (3, 0), (4, 1), (5, 0), (6, 0), (7, 2)] rfl ?_
  refine O.mv rfl rfl rfl rfl rfl ?_
  refine O.mv rfl rfl rfl rfl rfl ?_
  refine O.nc rfl rfl rfl rfl rfl ?_
  refine O.faz rfl rfl rfl rfl ⟨_, _, _, Go.Proofs.Try.underlying140, rfl, rfl, Go.Proofs.Try.sizeOf133⟩ rfl ?_
  refine O.ld rfl rfl rfl (fun w => ⟨Go.Proofs.Try.isAgg133 w, Go.Proofs.Try.sizeOf133 w⟩) rfl ht ?_
  refine O.nc rfl rfl rfl rfl rfl ?_
  refine O.faz rfl rfl rfl rfl ⟨_, _, _, Go.Proofs.Try.underlying205, rfl, rfl, Go.Proofs.Try.sizeOf133⟩ rfl ?_
  refine O.st rfl rfl Go.Proofs.Try.sizeOf133 rfl rfl rfl rfl rfl (gw.at0 0 1 (by omega)) ?_
  intro H2 W2
  have hs2 := W2.size
  replace g0 := W2.at
  refine ⟨trivial, ?_⟩
  refine Pl.fin [(1, _), (4, _), (5, _)] ⟨rfl, rfl, rfl, trivial⟩ ?_
  refine Go'.seq ?_
  refine Go'.seq ?_
  replace g1 := W2.keep1 g1 (by omega)
  replace g2 := W2.keep1 g2 (by omega)
  replace g3 := W2.keep1 g3 (by omega)
  replace gw := W2.fr.wr gw
  have hf2 : Fr nowhere H H2 := hf1.trans' W2.fr (fun _ _ _ h => h) (fun b o hb h => by simp only [rng] at h; omega)
  -- region 3 (map.go:121)
  refine Go'.region [(0, 0), (1, 0)] rfl ?_
  refine O.mv rfl rfl rfl rfl rfl ?_
  refine O.not rfl rfl rfl rfl rfl ?_
  refine Pl.fin [(4, _), (5, _), (15, _)] ⟨rfl, rfl, rfl, trivial⟩ ?_
  refine Go'.condT rfl ?_
  -- region 4 (map.go:122)
  refine Go'.region [(0, 0), (1, 2), (2, 0), (3, 0), (4, 2)] rfl ?_
  refine O.mv rfl rfl rfl rfl rfl ?_
  refine O.alloc rfl rfl rfl Go.Proofs.Try.zeroValue206 ?_
  intro H3 M3
  refine ⟨trivial, ?_⟩
  have hs3 := M3.size
  have k0 : cl H3 H2.size 0 = some (.slice none 0 0) := (M3.cl 0).trans rfl
  have kw : Wr H3 H2.size 0 1 := M3.wr 1 (by decide)
  replace gw := (M3.fr nowhere).wr gw
  replace g0 := M3.keep g0
  replace g1 := M3.keep g1
  replace g2 := M3.keep g2
  replace g3 := M3.keep g3
  have e2 : H2.size = H.size + 1 := by omega
  rw [e2] at k0 kw
  have hf3 := hf2.trans (M3.fr nowhere)
  refine O.nc rfl rfl rfl rfl rfl ?_
  refine O.fa0 (off := 3) rfl rfl rfl rfl ⟨_, _, _, Go.Proofs.Try.underlying205, rfl, rfl, Go.Proofs.Try.sizeOf203⟩ rfl ?_
  refine O.st rfl rfl Go.Proofs.Try.sizeOf203 rfl rfl rfl rfl rfl (gw.at0 3 1 (by omega)) ?_
  intro H4 W4
  have hs4 := W4.size
  replace g3 := W4.at
  refine ⟨trivial, ?_⟩
  refine Pl.fin [(4, _), (5, _)] ⟨rfl, rfl, trivial⟩ ?_
  refine Go'.seq ?_
  replace g0 := W4.keep1 g0 (by omega)
  replace g1 := W4.keep1 g1 (by omega)
  replace g2 := W4.keep1 g2 (by omega)
  replace k0 := W4.keep1 k0 (by omega)
  replace gw := W4.fr.wr gw
  replace kw := W4.fr.wr kw
  have hf4 : Fr nowhere H H4 := hf3.trans' W4.fr (fun _ _ _ h => h) (fun b o hb h => by simp only [rng] at h; omega)
  rw [e2] at g3
  -- region 5 (map.go:124)
  refine Go'.region [(0, 0), (1, 0)] rfl ?_
  refine O.mv rfl rfl rfl rfl rfl ?_
  refine O.asg rfl rfl rfl rfl rfl ?_
  refine Pl.fin [(4, _)] ⟨rfl, trivial⟩ ?_
  refine Go'.ret (vs := [_]) Go.Proofs.Try.func160 Go.Proofs.Try.results160 ⟨rfl, trivial⟩ ?_
  exact ⟨rfl, by omega, hf4, g0, g1, g2, g3, gw, k0, kw⟩

end Go.Bt.FZ
namespace Go.Bt.FZ
open Go Go.Proofs
set_option maxRecDepth 20000
set_option maxHeartbeats 4000000

theorem updLeaf_spec {B : World} {H : Mem} {p m cp : Nat} {a : Option Addr} (hw : Wr H p 1 1) (h2 : cl H p 2 = some (.slice a m cp)) (h3 : cl H p 3 = some (.pointer none)) :
    Fn Try.prog B 163 [.pointer (some ⟨p, 0, none⟩)] H (fun _ H' => Wrote H H' p 1 [.int .i64 (m : Int)]) := by
  refine fn_of Go.Proofs.Try.func163 rfl Go.Proofs.Try.ntmps163 ?_
  refine (show Go' _ _ _ _ 44 [(0, _)] [.code _] _ from ?_)
  refine Go'.seq ?_
  -- region 0 (map.go:212)
  refine Go'.region [(0, 0), (1, 0), (2, 0), (3, 0), (4, 1), (5, 0), (6, 0), (7, 0), (8, 2)] rfl ?_
  refine O.mv rfl rfl rfl rfl rfl ?_
  refine O.mv rfl rfl rfl rfl rfl ?_
  refine O.nc rfl rfl rfl rfl rfl ?_
  refine O.fa0 (off := 2) rfl rfl rfl rfl ⟨_, _, _, Go.Proofs.Try.underlying205, rfl, rfl, Go.Proofs.Try.sizeOf202⟩ rfl ?_
  refine O.ld rfl rfl rfl (fun w => ⟨Go.Proofs.Try.isAgg202 w, Go.Proofs.Try.sizeOf202 w⟩) rfl h2 ?_
  refine O.len rfl rfl rfl rfl Go.Proofs.Try.underlying202 rfl ?_
  refine O.nc rfl rfl rfl rfl rfl ?_
  refine O.fa0 (off := 1) rfl rfl rfl rfl ⟨_, _, _, Go.Proofs.Try.underlying205, rfl, rfl, Go.Proofs.Try.sizeOf3⟩ rfl ?_
  refine O.st rfl rfl Go.Proofs.Try.sizeOf3 rfl rfl rfl rfl rfl hw ?_
  intro H1 W1
  refine ⟨trivial, ?_⟩
  refine Pl.fin [(0, _)] ⟨rfl, trivial⟩ ?_
  refine Go'.seq ?_
  -- region 1 (map.go:213)
  refine Go'.region [(0, 0), (1, 2), (2, 0)] rfl ?_
  refine O.mv rfl rfl rfl rfl rfl ?_
  refine O.callQ rfl rfl rfl Go.Proofs.Try.call152 rfl (leaf_spec (W1.keep1 h3 (by omega))) trivial ?_
  refine O.not rfl rfl rfl rfl rfl ?_
  refine Pl.fin [(0, _), (13, _)] ⟨rfl, rfl, trivial⟩ ?_
  refine Go'.condF rfl ?_
  refine Go'.skip ?_
  refine Go'.fall Go.Proofs.Try.func163 Go.Proofs.Try.results163 (vs := []) trivial ?_
  exact W1

theorem updInner_spec {B : World} {H : Mem} {p m cp cb kb ko kc : Nat} {a : Option Addr} {qs : List Nat} (cn : Nat → Nat) (hw : Wr H p 1 1) (h2 : cl H p 2 = some (.slice a m cp)) (h3 : cl H p 3 = some (.pointer (some ⟨cb, 0, none⟩)))
    (hc : cl H cb 0 = some (.slice (some ⟨kb, ko, none⟩) qs.length kc)) (hk : SlE EP H kb ko kc (qs.map some)) (hq : ∀ q ∈ qs, cl H q 1 = some (.int .i64 (cn q : Int)) ∧ q ≠ p) (n2 : kb ≠ p)
    (hb : m + (qs.map cn).sum < 9223372036854775808) (hl : qs.length < 1000) :
    Fn Try.prog B 163 [.pointer (some ⟨p, 0, none⟩)] H (fun _ H' => Fr (rng p 1 1) H H' ∧ H'.size = H.size ∧ cl H' p 1 = some (.int .i64 ((m + (qs.map cn).sum : Nat) : Int))) := by
  refine fn_of Go.Proofs.Try.func163 rfl Go.Proofs.Try.ntmps163 ?_
  refine (show Go' _ _ _ _ 44 [(0, _)] [.code _] _ from ?_)
  refine Go'.seq ?_
  -- region 0 (map.go:212)
  refine Go'.region [(0, 0), (1, 0), (2, 0), (3, 0), (4, 1), (5, 0), (6, 0), (7, 0), (8, 2)] rfl ?_
  refine O.mv rfl rfl rfl rfl rfl ?_
  refine O.mv rfl rfl rfl rfl rfl ?_
  refine O.nc rfl rfl rfl rfl rfl ?_
  refine O.fa0 (off := 2) rfl rfl rfl rfl ⟨_, _, _, Go.Proofs.Try.underlying205, rfl, rfl, Go.Proofs.Try.sizeOf202⟩ rfl ?_
  refine O.ld rfl rfl rfl (fun w => ⟨Go.Proofs.Try.isAgg202 w, Go.Proofs.Try.sizeOf202 w⟩) rfl h2 ?_
  refine O.len rfl rfl rfl rfl Go.Proofs.Try.underlying202 rfl ?_
  refine O.nc rfl rfl rfl rfl rfl ?_
  refine O.fa0 (off := 1) rfl rfl rfl rfl ⟨_, _, _, Go.Proofs.Try.underlying205, rfl, rfl, Go.Proofs.Try.sizeOf3⟩ rfl ?_
  refine O.st rfl rfl Go.Proofs.Try.sizeOf3 rfl rfl rfl rfl rfl hw ?_
  intro H1 W1
  have h3H := h3
  replace h3 := W1.keep1 h3 (by omega)
  refine ⟨trivial, ?_⟩
  refine Pl.fin [(0, _)] ⟨rfl, trivial⟩ ?_
  refine Go'.seq ?_
  -- region 1 (map.go:213)
  refine Go'.region [(0, 0), (1, 2), (2, 0)] rfl ?_
  refine O.mv rfl rfl rfl rfl rfl ?_
  refine O.callQ rfl rfl rfl Go.Proofs.Try.call152 rfl (leaf_spec h3) trivial ?_
  refine O.not rfl rfl rfl rfl rfl ?_
  refine Pl.fin [(0, _), (13, _)] ⟨rfl, rfl, trivial⟩ ?_
  refine Go'.condT rfl ?_
  refine Go'.seq ?_
  -- region 2 (map.go:214)
  refine Go'.region [(0, 0)] rfl ?_
  refine O.asg rfl rfl rfl rfl rfl ?_
  refine Pl.fin [(0, _), (2, _)] ⟨rfl, rfl, trivial⟩ ?_
  refine Go'.block ?_
  refine Go'.loop ?_
  refine Go'.keep [(0, _), (2, _)] ⟨rfl, rfl, trivial⟩ ?_
  refine Go'.ind (σ := Nat) (fun j => qs.length - j) (fun j H' => Fr (rng p 1 1) H H' ∧ H'.size = H.size ∧ j ≤ qs.length ∧ cl H' p 1 = some (.int .i64 ((m + ((qs.take j).map cn).sum : Nat) : Int)))
    (fun j => [(0, .pointer (some ⟨p, 0, none⟩)), (2, .int .i64 (j : Int))]) 0 ⟨W1.fr, W1.size, Nat.zero_le _, by simpa using W1.at⟩ rfl ?_
  rintro j H2 ⟨hF, hS, hj, h1⟩ ih
  replace h3 : cl H2 p 3 = some (.pointer (some ⟨cb, 0, none⟩)) := hF.keep h3H (nr (by omega))
  have hc2 := hF.keep hc (nr (by omega))
  have hk2 := hk.fr hF (fun i _ _ => nr (by omega))
  have hw2 := hF.wr hw
  refine Go'.seq ?_
  refine Go'.seq ?_
  by_cases hlt : j < qs.length
  · -- a round
    obtain ⟨q, hqj⟩ : ∃ q, qs[j]? = some q := ⟨qs[j], by simp [hlt]⟩
    have hqm : q ∈ qs := List.mem_of_getElem? hqj
    obtain ⟨hq1, hqp⟩ := hq q hqm
    replace hq1 := hF.keep hq1 (nr (by omega))
    have hsum : (((qs.take (j + 1)).map cn).sum) = ((qs.take j).map cn).sum + cn q := by
      rw [List.take_add_one, hqj]; simp
    have hle : ((qs.take (j + 1)).map cn).sum ≤ (qs.map cn).sum := by
      conv => rhs; rw [← List.take_append_drop (j + 1) qs]
      rw [List.map_append, List.sum_append]; omega
    have hptr : cl H2 kb (ko + j * 1) = some (.pointer (some ⟨q, 0, none⟩)) := hk2.cell (i := j) (x := some q) (by simp [hqj]) (j := 0) rfl
    -- region 3 (map.go:214)
    refine Go'.region [(0, 0), (1, 0), (2, 0), (3, 0), (4, 1), (5, 0), (6, 1), (7, 0), (8, 0)] rfl ?_
    refine O.mv rfl rfl rfl rfl rfl ?_
    refine O.mv rfl rfl rfl rfl rfl ?_
    refine O.nc rfl rfl rfl rfl rfl ?_
    refine O.fa0 (off := 3) rfl rfl rfl rfl ⟨_, _, _, Go.Proofs.Try.underlying205, rfl, rfl, Go.Proofs.Try.sizeOf203⟩ rfl ?_
    refine O.ld rfl rfl rfl (fun w => ⟨Go.Proofs.Try.isAgg203 w, Go.Proofs.Try.sizeOf203 w⟩) rfl h3 ?_
    refine O.nc rfl rfl rfl rfl rfl ?_
    refine O.ld rfl rfl rfl (fun w => ⟨Go.Proofs.Try.isAgg206 w, Go.Proofs.Try.sizeOf206 w⟩) rfl hc2 ?_
    refine O.len rfl rfl rfl rfl Go.Proofs.Try.underlying206 rfl ?_
    refine O.cmp rfl rfl rfl rfl rfl rfl (lssT (by omega)) ?_
    refine Pl.fin [(0, _), (2, _), (22, _)] ⟨rfl, rfl, rfl, trivial⟩ ?_
    refine Go'.condT rfl ?_
    refine Go'.skip ?_
    refine Go'.seq ?_
    refine Go'.block ?_
    -- region 5 (map.go:215)
    refine Go'.draw (fun _ => True) [(0, 0), (1, 0), (2, 0), (3, 1), (4, 0), (5, 0), (6, 0), (7, 1), (8, 0), (9, 1), (10, 0), (11, 0), (12, 1), (13, 0), (14, 0), (15, 1), (16, 0), (17, 0), (18, 0), (19, 3)] (by kernel_rfl) (by kernel_rfl) (trivial) ?_
    refine O.mv rfl rfl rfl rfl rfl ?_
    refine O.nc rfl rfl rfl rfl rfl ?_
    refine O.fa0 (off := 1) rfl rfl rfl rfl ⟨_, _, _, Go.Proofs.Try.underlying205, rfl, rfl, Go.Proofs.Try.sizeOf3⟩ rfl ?_
    refine O.ld rfl rfl rfl (fun w => ⟨Go.Proofs.Try.isAgg3 w, Go.Proofs.Try.sizeOf3 w⟩) rfl h1 ?_
    refine O.mv rfl rfl rfl rfl rfl ?_
    refine O.nc rfl rfl rfl rfl rfl ?_
    refine O.fa0 (off := 3) rfl rfl rfl rfl ⟨_, _, _, Go.Proofs.Try.underlying205, rfl, rfl, Go.Proofs.Try.sizeOf203⟩ rfl ?_
    refine O.ld rfl rfl rfl (fun w => ⟨Go.Proofs.Try.isAgg203 w, Go.Proofs.Try.sizeOf203 w⟩) rfl h3 ?_
    refine O.nc rfl rfl rfl rfl rfl ?_
    refine O.ld rfl rfl rfl (fun w => ⟨Go.Proofs.Try.isAgg206 w, Go.Proofs.Try.sizeOf206 w⟩) rfl hc2 ?_
    refine O.mv rfl rfl rfl rfl rfl ?_
    refine O.ix (j := j) rfl rfl rfl rfl Go.Proofs.Try.underlying206 Go.Proofs.Try.sizeOf135 rfl rfl (by omega) (by omega) ?_
    refine O.ld rfl rfl rfl (fun w => ⟨Go.Proofs.Try.isAgg135 w, Go.Proofs.Try.sizeOf135 w⟩) rfl hptr ?_
    refine O.nc rfl rfl rfl rfl rfl ?_
    refine O.fa0 (off := 1) rfl rfl rfl rfl ⟨_, _, _, Go.Proofs.Try.underlying205, rfl, rfl, Go.Proofs.Try.sizeOf3⟩ rfl ?_
    refine O.ld rfl rfl rfl (fun w => ⟨Go.Proofs.Try.isAgg3 w, Go.Proofs.Try.sizeOf3 w⟩) rfl hq1 ?_
    refine O.add (((m + ((qs.take (j + 1)).map cn).sum : Nat) : Int)) rfl rfl rfl rfl rfl rfl (by omega) (by omega) ?_
    refine O.nc rfl rfl rfl rfl rfl ?_
    refine O.fa0 (off := 1) rfl rfl rfl rfl ⟨_, _, _, Go.Proofs.Try.underlying205, rfl, rfl, Go.Proofs.Try.sizeOf3⟩ rfl ?_
    refine O.st3 rfl rfl Go.Proofs.Try.sizeOf3 rfl rfl rfl rfl rfl hw2 ?_
    intro H3 W3
    refine Pl.fin [(0, _), (2, _), (22, _)] ⟨rfl, rfl, rfl, trivial⟩ ?_
    refine Go'.inBlock ?_
    -- region 4 (map.go:214)
    refine Go'.region [(0, 0), (1, 0), (2, 0)] rfl ?_
    refine O.mv rfl rfl rfl rfl rfl ?_
    refine O.add (((j + 1 : Nat) : Int)) rfl rfl rfl rfl rfl rfl (by omega) (by omega) ?_
    refine O.asg rfl rfl rfl rfl rfl ?_
    refine Pl.fin [(0, _), (2, _), (22, _)] ⟨rfl, rfl, rfl, trivial⟩ ?_
    refine Go'.keep [(0, _), (2, _)] ⟨rfl, rfl, trivial⟩ ?_
    refine Go'.inLoop ?_
    exact ih (j + 1) H3 ⟨hF.trans W3.fr, W3.size.trans hS, hlt, W3.at⟩ (by omega)
  · -- the end
    obtain rfl : j = qs.length := by omega
    -- region 3 (map.go:214)
    refine Go'.region [(0, 0), (1, 0), (2, 0), (3, 0), (4, 1), (5, 0), (6, 1), (7, 0), (8, 0)] rfl ?_
    refine O.mv rfl rfl rfl rfl rfl ?_
    refine O.mv rfl rfl rfl rfl rfl ?_
    refine O.nc rfl rfl rfl rfl rfl ?_
    refine O.fa0 (off := 3) rfl rfl rfl rfl ⟨_, _, _, Go.Proofs.Try.underlying205, rfl, rfl, Go.Proofs.Try.sizeOf203⟩ rfl ?_
    refine O.ld rfl rfl rfl (fun w => ⟨Go.Proofs.Try.isAgg203 w, Go.Proofs.Try.sizeOf203 w⟩) rfl h3 ?_
    refine O.nc rfl rfl rfl rfl rfl ?_
    refine O.ld rfl rfl rfl (fun w => ⟨Go.Proofs.Try.isAgg206 w, Go.Proofs.Try.sizeOf206 w⟩) rfl hc2 ?_
    refine O.len rfl rfl rfl rfl Go.Proofs.Try.underlying206 rfl ?_
    refine O.cmp rfl rfl rfl rfl rfl rfl (lssF (by omega)) ?_
    refine Pl.fin [(0, _), (2, _), (22, _)] ⟨rfl, rfl, rfl, trivial⟩ ?_
    refine Go'.condF rfl ?_
    refine Go'.exit rfl ?_
    refine Go'.fall Go.Proofs.Try.func163 Go.Proofs.Try.results163 (vs := []) trivial ?_
    refine ⟨hF, hS, ?_⟩
    rw [List.take_length] at h1
    exact h1

end Go.Bt.FZ
namespace Go.Bt.FZ
open Go Go.Proofs
set_option maxRecDepth 20000
set_option maxHeartbeats 4000000

theorem splitLeaf_spec {B : World} {H : Mem} {tr id mx mn : Nat} {g : Ng} {X : List Int} {med : Int} (ht : TrC H tr id mx mn) (hn : NodeM EI H g X (.pointer none)) (hX : X.length = mx) (hm : mx = 2 * mn + 1) (h1 : 1 ≤ mn) (hx : mx ≤ 255)
    (hmed : X[mn]? = some med) (n1 : tr ≠ g.p) (n2 : tr ≠ g.ib) :
    Fn Try.prog B 162 [.pointer (some ⟨tr, 0, none⟩), .pointer (some ⟨g.p, 0, none⟩)] H (fun v H' => ∃ q, v = .tuple #[ptr q, .agg (EI.enc med).toArray] ∧ H.size ≤ q ∧ q < H'.size ∧ Fr (ncl EI g) H H' ∧
      NodeM EI H' { g with cnt := mn, ic := mn } (X.take mn) (.pointer none) ∧
      NodeM EI H' { p := q, iso := id, cnt := mn, ib := g.ib, io := g.io + (mn + 1) * 1, ic := g.ic - (mn + 1), cb := 0, kb := 0, ko := 0, kc := 0 } (X.drop (mn + 1)) (.pointer none)) := by
  have hn0 := hn
  have ht0 := ht
  have htl : tr < H.size := cl_lt ht.iso
  have hpl : g.p < H.size := cl_lt hn.c0
  have hil : g.ib < H.size := NodeM.lt hn (b := g.ib) (o := g.io) (.inr ⟨rfl, Nat.le_refl _, by have := Nat.mul_pos hn.ic EI.pos; omega⟩)
  have hicl := hn.sl.hle
  have hpi := hn.ne
  refine fn_of Go.Proofs.Try.func162 rfl Go.Proofs.Try.ntmps162 ?_
  refine (show Go' _ _ _ _ 95 [(0, _), (1, _)] [.code _] _ from ?_)
  refine Go'.seq ?_
  -- region 0 (map.go:188)
  refine Go'.region [(0, 0), (1, 2)] rfl ?_
  refine O.asg rfl rfl rfl rfl rfl ?_
  refine O.alloc rfl rfl rfl Go.Proofs.Try.zeroValue138 ?_
  intro H1 M1
  refine ⟨trivial, ?_⟩
  have hs1 := M1.size
  replace hn := NodeM.fr EI hn (M1.fr nowhere) (fun _ _ _ => nw)
  replace ht := ht.fr (M1.fr nowhere) (fun _ _ _ => nw)
  have mw : Wr H1 H.size 0 1 := M1.wr 1 (by decide)
  have hF1 := M1.fr nowhere
  refine Pl.fin [(0, _), (1, _), (4, _), (5, _)] ⟨rfl, rfl, rfl, rfl, trivial⟩ ?_
  refine Go'.seq ?_
  -- region 1 (map.go:190)
  refine Go'.region [(0, 0), (1, 0), (2, 0), (3, 1), (4, 0), (5, 0)] rfl ?_
  refine O.mv rfl rfl rfl rfl rfl ?_
  refine O.nc rfl rfl rfl rfl rfl ?_
  refine O.fa0 (off := 6) rfl rfl rfl rfl ⟨_, _, _, Go.Proofs.Try.underlying140, rfl, rfl, Go.Proofs.Try.sizeOf3⟩ rfl ?_
  refine O.ld rfl rfl rfl (fun w => ⟨Go.Proofs.Try.isAgg3 w, Go.Proofs.Try.sizeOf3 w⟩) rfl ht.mx' ?_
  refine O.quo ((mn : Int)) rfl rfl rfl rfl rfl rfl (by decide) (by rw [Int.tdiv_eq_ediv_of_nonneg (by omega)]; omega) (by omega) ?_
  refine O.asg rfl rfl rfl rfl rfl ?_
  refine Pl.fin [(0, _), (1, _), (4, _), (5, _), (6, _)] ⟨rfl, rfl, rfl, rfl, rfl, trivial⟩ ?_
  refine Go'.seq ?_
  -- region 2 (map.go:191)
  refine Go'.region [(0, 0), (1, 0), (2, 0), (3, 1), (4, 0), (5, 0), (6, 1), (7, 2)] rfl ?_
  refine O.mv rfl rfl rfl rfl rfl ?_
  refine O.nc rfl rfl rfl rfl rfl ?_
  refine O.fa0 (off := 2) rfl rfl rfl rfl ⟨_, _, _, Go.Proofs.Try.underlying205, rfl, rfl, Go.Proofs.Try.sizeOf202⟩ rfl ?_
  refine O.ld rfl rfl rfl (fun w => ⟨Go.Proofs.Try.isAgg202 w, Go.Proofs.Try.sizeOf202 w⟩) rfl hn.c2 ?_
  refine O.mv rfl rfl rfl rfl rfl ?_
  refine O.ix (j := mn) rfl rfl rfl rfl Go.Proofs.Try.underlying202 Go.Proofs.Try.sizeOf138 rfl rfl (by omega) (by omega) ?_
  refine O.lds rfl rfl rfl (fun w => ⟨Go.Proofs.Try.isAgg138 w, Go.Proofs.Try.sizeOf138 w⟩) rfl rfl (hn.sl.item hmed) ?_
  refine O.st rfl rfl Go.Proofs.Try.sizeOf138 rfl rfl rfl rfl rfl mw ?_
  intro H2 W2
  have hs2 := W2.size
  replace hn := NodeM.fr EI hn W2.fr (fun b o hb => nr (.inl (by have := NodeM.lt hn0 hb; omega)))
  replace ht := ht.fr W2.fr (fun o _ _ => nr (.inl (by omega)))
  replace mw := W2.fr.wr mw
  have mr := W2.all
  have hF2 := hF1.trans' W2.fr (Z := nowhere) (fun _ _ _ h => h) (fun b o hb h => by simp only [rng] at h; omega)
  refine ⟨trivial, ?_⟩
  refine Pl.fin [(0, _), (1, _), (4, _), (5, _), (6, _)] ⟨rfl, rfl, rfl, rfl, rfl, trivial⟩ ?_
  refine Go'.seq ?_
  -- region 3 (map.go:194)
  refine Go'.region [(0, 0), (1, 0), (2, 2), (3, 2), (4, 0)] rfl ?_
  refine O.mv rfl rfl rfl rfl rfl ?_
  refine O.mv rfl rfl rfl rfl rfl ?_
  refine O.callQ rfl rfl rfl Go.Proofs.Try.call152 rfl (leaf_spec hn.c3) trivial ?_
  refine O.call rfl rfl rfl Go.Proofs.Try.call160 rfl (newLeaf_spec ht.iso) ?_
  rintro _ H3 hR3
  obtain ⟨rfl, hs3, F3, q0, q1, q2, q3, qw⟩ := hR3
  have hql : H.size < H2.size := by omega
  generalize hqe : H2.size = q at *
  replace hn := NodeM.fr EI hn F3 (fun _ _ _ => nw)
  replace ht := ht.fr F3 (fun _ _ _ => nw)
  replace mw := F3.wr mw
  replace mr := F3.rd mr (fun _ _ => nw)
  have hF3 := hF2.trans F3
  refine ⟨trivial, ?_⟩
  refine O.asg rfl rfl rfl rfl rfl ?_
  refine Pl.fin [(0, _), (1, _), (4, _), (5, _), (6, _)] ⟨rfl, rfl, rfl, rfl, rfl, trivial⟩ ?_
  refine Go'.seq ?_
  -- region 4 (map.go:195)
  refine Go'.region [(0, 0), (1, 0), (2, 0), (3, 0), (4, 1), (5, 0), (6, 0), (7, 0), (8, 0), (9, 0), (10, 2)] rfl ?_
  refine O.mv rfl rfl rfl rfl rfl ?_
  refine O.mv rfl rfl rfl rfl rfl ?_
  refine O.nc rfl rfl rfl rfl rfl ?_
  refine O.fa0 (off := 2) rfl rfl rfl rfl ⟨_, _, _, Go.Proofs.Try.underlying205, rfl, rfl, Go.Proofs.Try.sizeOf202⟩ rfl ?_
  refine O.ld rfl rfl rfl (fun w => ⟨Go.Proofs.Try.isAgg202 w, Go.Proofs.Try.sizeOf202 w⟩) rfl hn.c2 ?_
  refine O.mv rfl rfl rfl rfl rfl ?_
  refine O.add (((mn + 1 : Nat) : Int)) rfl rfl rfl rfl rfl rfl (by omega) (by omega) ?_
  refine O.slc (jl := mn + 1) (jh := X.length) (jm := g.ic) rfl rfl rfl rfl Go.Proofs.Try.underlying202 Go.Proofs.Try.sizeOf138 rfl rfl rfl ⟨_, by rfl⟩ (by omega) (by omega) (by omega) (by simp) ?_
  intro o4 ho4
  obtain rfl := ho4 (by omega)
  refine O.nc rfl rfl rfl rfl rfl ?_
  refine O.fa0 (off := 2) rfl rfl rfl rfl ⟨_, _, _, Go.Proofs.Try.underlying205, rfl, rfl, Go.Proofs.Try.sizeOf202⟩ rfl ?_
  refine O.st rfl rfl Go.Proofs.Try.sizeOf202 rfl rfl rfl rfl rfl (qw.at0 2 1 (by omega)) ?_
  intro H4 W4
  have hs4 := W4.size
  replace hn := NodeM.fr EI hn W4.fr (fun b o hb => nr (.inl (by have := NodeM.lt hn0 hb; omega)))
  replace ht := ht.fr W4.fr (fun o _ _ => nr (.inl (by omega)))
  replace mr := W4.fr.rd mr (fun i _ => nr (.inl (by omega)))
  replace mw := W4.fr.wr mw
  replace qw := W4.fr.wr qw
  replace q0 := W4.keep1 q0 (by omega)
  replace q1 := W4.keep1 q1 (by omega)
  replace q2 := W4.at
  replace q3 := W4.keep1 q3 (by omega)
  have hF4 := hF3.trans' W4.fr (Z := nowhere) (fun _ _ _ h => h) (fun b o hb h => by simp only [rng] at h; omega)
  refine ⟨trivial, ?_⟩
  refine Pl.fin [(0, _), (1, _), (4, _), (5, _), (6, _)] ⟨rfl, rfl, rfl, rfl, rfl, trivial⟩ ?_
  refine Go'.seq ?_
  refine Go'.seq ?_
  -- region 5 (map.go:196)
  refine Go'.region [(0, 0), (1, 2), (2, 0)] rfl ?_
  refine O.mv rfl rfl rfl rfl rfl ?_
  refine O.callQ rfl rfl rfl Go.Proofs.Try.call152 rfl (leaf_spec hn.c3) trivial ?_
  refine O.not rfl rfl rfl rfl rfl ?_
  refine Pl.fin [(0, _), (1, _), (4, _), (5, _), (6, _), (35, _)] ⟨rfl, rfl, rfl, rfl, rfl, rfl, trivial⟩ ?_
  refine Go'.condF rfl ?_
  refine Go'.skip ?_
  refine Go'.seq ?_
  -- region 7 (map.go:199)
  refine Go'.region [(0, 0), (1, 2)] rfl ?_
  refine O.mv rfl rfl rfl rfl rfl ?_
  refine O.call rfl rfl rfl Go.Proofs.Try.call163 rfl (updLeaf_spec (qw.at0 1 1 (by omega)) q2 q3) ?_
  rintro _ H6 W6
  have hs6 := W6.size
  replace hn := NodeM.fr EI hn W6.fr (fun b o hb => nr (.inl (by have := NodeM.lt hn0 hb; omega)))
  replace ht := ht.fr W6.fr (fun o _ _ => nr (.inl (by omega)))
  replace mr := W6.fr.rd mr (fun i _ => nr (.inl (by omega)))
  replace mw := W6.fr.wr mw
  replace qw := W6.fr.wr qw
  replace q0 := W6.keep1 q0 (by omega)
  replace q1 := W6.at
  replace q2 := W6.keep1 q2 (by omega)
  replace q3 := W6.keep1 q3 (by omega)
  have hF6 := hF4.trans' W6.fr (Z := nowhere) (fun _ _ _ h => h) (fun b o hb h => by simp only [rng] at h; omega)
  refine ⟨trivial, ?_⟩
  refine Pl.fin [(0, _), (1, _), (4, _), (5, _), (6, _)] ⟨rfl, rfl, rfl, rfl, rfl, trivial⟩ ?_
  refine Go'.seq ?_
  have slL : SlE EI H6 g.ib g.io mn (X.take mn) := hn.sl.left (by omega)
  have slX : SlE EI H6 g.ib (g.io + (mn + 1) * 1) (g.ic - (mn + 1)) (X.drop (mn + 1)) := hn.sl.right (by omega)
  obtain ⟨c0, c1, c2, c3, cw⟩ := And.intro hn.c0 (And.intro hn.c1 (And.intro hn.c2 (And.intro hn.c3 hn.wr)))
  have mwr := hn.sl.wri (i := mn) (by omega)
  -- region 8 (map.go:202)
  refine Go'.draw (fun _ => True) [(0, 0), (1, 0), (2, 0), (3, 1), (4, 0), (5, 0), (6, 0), (7, 0), (8, 1), (9, 0), (10, 3)] (by kernel_rfl) (by kernel_rfl) (trivial) ?_
  refine O.mv rfl rfl rfl rfl rfl ?_
  refine O.nc rfl rfl rfl rfl rfl ?_
  refine O.fa0 (off := 2) rfl rfl rfl rfl ⟨_, _, _, Go.Proofs.Try.underlying205, rfl, rfl, Go.Proofs.Try.sizeOf202⟩ rfl ?_
  refine O.ld rfl rfl rfl (fun w => ⟨Go.Proofs.Try.isAgg202 w, Go.Proofs.Try.sizeOf202 w⟩) rfl hn.c2 ?_
  refine O.mv rfl rfl rfl rfl rfl ?_
  refine O.mv rfl rfl rfl rfl rfl ?_
  refine O.nc rfl rfl rfl rfl rfl ?_
  refine O.fa0 (off := 4) rfl rfl rfl rfl ⟨_, _, _, Go.Proofs.Try.underlying140, rfl, rfl, Go.Proofs.Try.sizeOf138⟩ rfl ?_
  refine O.lds rfl rfl rfl (fun w => ⟨Go.Proofs.Try.isAgg138 w, Go.Proofs.Try.sizeOf138 w⟩) rfl rfl ht.emp ?_
  refine O.ix (j := mn) rfl rfl rfl rfl Go.Proofs.Try.underlying202 Go.Proofs.Try.sizeOf138 rfl rfl (by omega) (by omega) ?_
  refine O.st3 rfl rfl Go.Proofs.Try.sizeOf138 rfl rfl rfl rfl rfl mwr ?_
  intro H8 W8
  have hs8 := W8.size
  have F8 := W8.fr' 1 rfl
  replace slL := slL.fr F8 (fun i h1 h2 => nr (by have e : EI.s = 1 := rfl; rw [e] at h2; omega))
  replace slX := slX.fr F8 (fun i h1 h2 => nr (by omega))
  replace c0 := W8.fr.keep c0 (nr (by omega))
  replace c1 := W8.fr.keep c1 (nr (by omega))
  replace c2 := W8.fr.keep c2 (nr (by omega))
  replace c3 := W8.fr.keep c3 (nr (by omega))
  replace ht := ht.fr W8.fr (fun o _ _ => nr (.inl (by omega)))
  replace mr := W8.fr.rd mr (fun i _ => nr (.inl (by omega)))
  replace mw := W8.fr.wr mw
  replace qw := W8.fr.wr qw
  replace q0 := W8.fr.keep q0 (nr (.inl (by omega)))
  replace q1 := W8.fr.keep q1 (nr (.inl (by omega)))
  replace q2 := W8.fr.keep q2 (nr (.inl (by omega)))
  replace q3 := W8.fr.keep q3 (nr (.inl (by omega)))
  replace cw := W8.fr.wr cw
  have hF8 : Fr (ncl EI g) H H8 := hF6.trans' W8.fr (fun _ _ _ h => h.elim) (fun b o hb h => (.inr ⟨h.1, by have := h.2.1; omega, by
    have h2 := h.2.2
    have h3 : (mn + 1) * 1 ≤ g.ic * 1 := Nat.mul_le_mul_right 1 (by omega)
    simp only [List.length_cons, List.length_nil] at h2
    have e : EI.s = 1 := rfl
    rw [e]
    omega⟩))
  refine Pl.fin [(1, _), (4, _), (5, _), (6, _)] ⟨rfl, rfl, rfl, rfl, trivial⟩ ?_
  refine Go'.seq ?_
  -- region 9 (map.go:203)
  refine Go'.region [(0, 0), (1, 0), (2, 0), (3, 0), (4, 1), (5, 0), (6, 0), (7, 0), (8, 0), (9, 0), (10, 2)] rfl ?_
  refine O.mv rfl rfl rfl rfl rfl ?_
  refine O.mv rfl rfl rfl rfl rfl ?_
  refine O.nc rfl rfl rfl rfl rfl ?_
  refine O.fa0 (off := 2) rfl rfl rfl rfl ⟨_, _, _, Go.Proofs.Try.underlying205, rfl, rfl, Go.Proofs.Try.sizeOf202⟩ rfl ?_
  refine O.ld rfl rfl rfl (fun w => ⟨Go.Proofs.Try.isAgg202 w, Go.Proofs.Try.sizeOf202 w⟩) rfl c2 ?_
  refine O.mv rfl rfl rfl rfl rfl ?_
  refine O.mv rfl rfl rfl rfl rfl ?_
  refine O.slc (jl := 0) (jh := mn) (jm := mn) rfl rfl rfl rfl Go.Proofs.Try.underlying202 Go.Proofs.Try.sizeOf138 rfl ⟨_, by rfl⟩ ⟨_, by rfl⟩ rfl (by omega) (by omega) (by omega) (by simp) ?_
  intro o9 ho9
  obtain rfl := ho9 (by omega)
  rw [Nat.zero_mul, Nat.add_zero, Nat.sub_zero]
  refine O.nc rfl rfl rfl rfl rfl ?_
  refine O.fa0 (off := 2) rfl rfl rfl rfl ⟨_, _, _, Go.Proofs.Try.underlying205, rfl, rfl, Go.Proofs.Try.sizeOf202⟩ rfl ?_
  refine O.st rfl rfl Go.Proofs.Try.sizeOf202 rfl rfl rfl rfl rfl (cw.at0 2 1 (by omega)) ?_
  intro H9 W9
  have hs9 := W9.size
  replace slL := slL.fr W9.fr (fun i h1 h2 => nr (.inl (Ne.symm hpi)))
  replace slX := slX.fr W9.fr (fun i h1 h2 => nr (.inl (Ne.symm hpi)))
  replace c0 := W9.keep1 c0 (by omega)
  replace c1 := W9.keep1 c1 (by omega)
  replace c2 := W9.at
  replace c3 := W9.keep1 c3 (by omega)
  replace ht := ht.fr W9.fr (fun o _ _ => nr (.inl (by omega)))
  replace mr := W9.fr.rd mr (fun i _ => nr (.inl (by omega)))
  replace mw := W9.fr.wr mw
  replace qw := W9.fr.wr qw
  replace q0 := W9.fr.keep q0 (nr (.inl (by omega)))
  replace q1 := W9.fr.keep q1 (nr (.inl (by omega)))
  replace q2 := W9.fr.keep q2 (nr (.inl (by omega)))
  replace q3 := W9.fr.keep q3 (nr (.inl (by omega)))
  replace cw := W9.fr.wr cw
  have hF9 : Fr (ncl EI g) H H9 := hF8.trans' W9.fr (fun _ _ _ h => h) (fun b o hb h => (.inl ⟨h.1, by have h2 := h.2.2; simp only [List.length_cons, List.length_nil] at h2; omega⟩))
  refine ⟨trivial, ?_⟩
  refine Pl.fin [(1, _), (4, _), (5, _), (6, _)] ⟨rfl, rfl, rfl, rfl, trivial⟩ ?_
  refine Go'.seq ?_
  refine Go'.seq ?_
  -- region 10 (map.go:204)
  refine Go'.region [(0, 0), (1, 2), (2, 0)] rfl ?_
  refine O.mv rfl rfl rfl rfl rfl ?_
  refine O.callQ rfl rfl rfl Go.Proofs.Try.call152 rfl (leaf_spec c3) trivial ?_
  refine O.not rfl rfl rfl rfl rfl ?_
  refine Pl.fin [(1, _), (4, _), (5, _), (6, _), (74, _)] ⟨rfl, rfl, rfl, rfl, rfl, trivial⟩ ?_
  refine Go'.condF rfl ?_
  refine Go'.skip ?_
  refine Go'.seq ?_
  -- region 12 (map.go:207)
  refine Go'.region [(0, 0), (1, 2)] rfl ?_
  refine O.mv rfl rfl rfl rfl rfl ?_
  refine O.call rfl rfl rfl Go.Proofs.Try.call163 rfl (updLeaf_spec (cw.at0 1 1 (by omega)) c2 c3) ?_
  rintro _ H12 W12
  have hs12 := W12.size
  replace slL := slL.fr W12.fr (fun i h1 h2 => nr (.inl (Ne.symm hpi)))
  replace slX := slX.fr W12.fr (fun i h1 h2 => nr (.inl (Ne.symm hpi)))
  replace c0 := W12.keep1 c0 (by omega)
  replace c1 := W12.at
  replace c2 := W12.keep1 c2 (by omega)
  replace c3 := W12.keep1 c3 (by omega)
  replace mr := W12.fr.rd mr (fun i _ => nr (.inl (by omega)))
  replace mw := W12.fr.wr mw
  replace qw := W12.fr.wr qw
  replace q0 := W12.fr.keep q0 (nr (.inl (by omega)))
  replace q1 := W12.fr.keep q1 (nr (.inl (by omega)))
  replace q2 := W12.fr.keep q2 (nr (.inl (by omega)))
  replace q3 := W12.fr.keep q3 (nr (.inl (by omega)))
  replace cw := W12.fr.wr cw
  have hF12 : Fr (ncl EI g) H H12 := hF9.trans' W12.fr (fun _ _ _ h => h) (fun b o hb h => (.inl ⟨h.1, by have h2 := h.2.2; simp only [List.length_cons, List.length_nil] at h2; omega⟩))
  refine ⟨trivial, ?_⟩
  refine Pl.fin [(4, _), (5, _)] ⟨rfl, rfl, trivial⟩ ?_
  refine Go'.seq ?_
  -- region 13 (map.go:208)
  refine Go'.draw (fun _ => True) [(0, 0), (1, 1), (2, 0), (3, 3)] (by kernel_rfl) (by kernel_rfl) (trivial) ?_
  refine O.mv rfl rfl rfl rfl rfl ?_
  refine O.lds rfl rfl rfl (fun w => ⟨Go.Proofs.Try.isAgg138 w, Go.Proofs.Try.sizeOf138 w⟩) rfl rfl mr ?_
  refine O.asg rfl rfl rfl rfl rfl ?_
  refine O.st3 rfl rfl Go.Proofs.Try.sizeOf138 rfl rfl rfl rfl rfl mw ?_
  intro H13 W13
  have hs13 := W13.size
  replace slL := slL.fr W13.fr (fun i h1 h2 => nr (.inl (by omega)))
  replace slX := slX.fr W13.fr (fun i h1 h2 => nr (.inl (by omega)))
  replace c0 := W13.fr.keep c0 (nr (.inl (by omega)))
  replace c1 := W13.fr.keep c1 (nr (.inl (by omega)))
  replace c2 := W13.fr.keep c2 (nr (.inl (by omega)))
  replace c3 := W13.fr.keep c3 (nr (.inl (by omega)))
  replace q0 := W13.fr.keep q0 (nr (.inl (by omega)))
  replace q1 := W13.fr.keep q1 (nr (.inl (by omega)))
  replace q2 := W13.fr.keep q2 (nr (.inl (by omega)))
  replace q3 := W13.fr.keep q3 (nr (.inl (by omega)))
  replace qw := W13.fr.wr qw
  replace cw := W13.fr.wr cw
  have hF13 : Fr (ncl EI g) H H13 := hF12.trans' W13.fr (fun _ _ _ h => h) (fun b o hb h => by simp only [rng] at h; omega)
  refine Pl.fin [(4, _), (5, _)] ⟨rfl, rfl, trivial⟩ ?_
  refine Go'.ret (vs := [_, _]) Go.Proofs.Try.func162 Go.Proofs.Try.results162 ⟨rfl, ⟨_, _, rfl, fun _ _ => run_loadVar_agg (fun w => ⟨Go.Proofs.Try.isAgg138 w, Go.Proofs.Try.sizeOf138 w⟩) rfl W13.all⟩, trivial⟩ ?_
  have e1 : (X.take mn).length = mn := by rw [List.length_take]; omega
  have e2 : (X.drop (mn + 1)).length = mn := by rw [List.length_drop]; omega
  have e3 : X.length - (mn + 1) = mn := by omega
  have e4 : mn - 0 = mn := rfl
  refine ⟨q, rfl, by omega, by omega, hF13, ⟨c0, c1, ?_, c3, cw, slL, by show 0 < mn; omega, hpi⟩, ⟨q0, ?_, ?_, q3, qw, slX, by show 0 < g.ic - (mn + 1); omega, by show q ≠ g.ib; omega⟩⟩
  · rw [e1]; exact c2
  · rw [e3] at q1; exact q1
  · rw [List.length_drop]; exact q2

theorem splitInner_spec {B : World} {H : Mem} {tr id mx mn : Nat} {g : Ng} {X : List Int} {ks : List Nat} (cn : Nat → Nat) {med : Int} (ht : TrC H tr id mx mn) (hn : NodeM EI H g X (.pointer (some ⟨g.cb, 0, none⟩))) (hk : KidM H g ks)
    (hX : X.length = mx) (hK : ks.length = mx + 1) (hm : mx = 2 * mn + 1) (h1 : 1 ≤ mn) (hx : mx ≤ 255) (hmed : X[mn]? = some med) (n1 : tr ≠ g.p) (n2 : tr ≠ g.ib) (_n3 : tr ≠ g.cb) (_n4 : tr ≠ g.kb)
    (hq : ∀ q ∈ ks, cl H q 1 = some (.int .i64 (cn q : Int)) ∧ q ≠ g.p ∧ ¬ (q = g.ib ∧ g.io ≤ 1 ∧ 1 < g.io + g.ic * 1) ∧ q ≠ g.cb) (hb : mx + (ks.map cn).sum < 9223372036854775808) :
    Fn Try.prog B 162 [.pointer (some ⟨tr, 0, none⟩), .pointer (some ⟨g.p, 0, none⟩)] H (fun v H' => ∃ q, v = .tuple #[ptr q, .agg (EI.enc med).toArray] ∧ H.size ≤ q ∧ q + 1 < H'.size ∧ Fr (fun b o => ncl EI g b o ∨ kcl g b o) H H' ∧
      NodeM EI H' { g with cnt := mn + ((ks.take (mn + 1)).map cn).sum, ic := mn, kc := mn + 1 } (X.take mn) (.pointer (some ⟨g.cb, 0, none⟩)) ∧ KidM H' { g with cnt := mn + ((ks.take (mn + 1)).map cn).sum, ic := mn, kc := mn + 1 } (ks.take (mn + 1)) ∧
      NodeM EI H' { p := q, iso := id, cnt := mn + ((ks.drop (mn + 1)).map cn).sum, ib := g.ib, io := g.io + (mn + 1) * 1, ic := g.ic - (mn + 1), cb := q + 1, kb := g.kb, ko := g.ko + (mn + 1), kc := g.kc - (mn + 1) } (X.drop (mn + 1)) (.pointer (some ⟨q + 1, 0, none⟩)) ∧
      KidM H' { p := q, iso := id, cnt := mn + ((ks.drop (mn + 1)).map cn).sum, ib := g.ib, io := g.io + (mn + 1) * 1, ic := g.ic - (mn + 1), cb := q + 1, kb := g.kb, ko := g.ko + (mn + 1), kc := g.kc - (mn + 1) } (ks.drop (mn + 1))) := by
  have hn0 := hn
  have ht0 := ht
  have htl : tr < H.size := cl_lt ht.iso
  have hpl : g.p < H.size := cl_lt hn.c0
  have hil : g.ib < H.size := NodeM.lt hn (b := g.ib) (o := g.io) (.inr ⟨rfl, Nat.le_refl _, by have := Nat.mul_pos hn.ic EI.pos; omega⟩)
  have hicl := hn.sl.hle
  have hpi := hn.ne
  have hk0 := hk
  have hcl0 : g.cb < H.size := cl_lt hk.c
  have hkl : g.kb < H.size := hk.lt (b := g.kb) (o := g.ko) (.inr ⟨rfl, Nat.le_refl _, by have := hk.kc; omega⟩)
  have hkcl := hk.sl.hle
  rw [List.length_map] at hkcl
  obtain ⟨hc1, hc2, hc3, hc4, hc5⟩ := And.intro hk.n1 (And.intro hk.n2 (And.intro hk.n3 (And.intro hk.n4 hk.n5)))
  refine fn_of Go.Proofs.Try.func162 rfl Go.Proofs.Try.ntmps162 ?_
  refine (show Go' _ _ _ _ 95 [(0, _), (1, _)] [.code _] _ from ?_)
  refine Go'.seq ?_
  have hq0 := hq
  -- region 0 (map.go:188)
  refine Go'.region [(0, 0), (1, 2)] rfl ?_
  refine O.asg rfl rfl rfl rfl rfl ?_
  refine O.alloc rfl rfl rfl Go.Proofs.Try.zeroValue138 ?_
  intro H1 M1
  refine ⟨trivial, ?_⟩
  have hs1 := M1.size
  replace hn := NodeM.fr EI hn (M1.fr nowhere) (fun _ _ _ => nw)
  replace ht := ht.fr (M1.fr nowhere) (fun _ _ _ => nw)
  have mw : Wr H1 H.size 0 1 := M1.wr 1 (by decide)
  have hF1 := M1.fr nowhere
  replace hk := hk.fr (M1.fr nowhere) (fun _ _ _ => nw)
  replace hq := fun q hh => And.intro (M1.keep (hq q hh).1) (hq q hh).2
  refine Pl.fin [(0, _), (1, _), (4, _), (5, _)] ⟨rfl, rfl, rfl, rfl, trivial⟩ ?_
  refine Go'.seq ?_
  -- region 1 (map.go:190)
  refine Go'.region [(0, 0), (1, 0), (2, 0), (3, 1), (4, 0), (5, 0)] rfl ?_
  refine O.mv rfl rfl rfl rfl rfl ?_
  refine O.nc rfl rfl rfl rfl rfl ?_
  refine O.fa0 (off := 6) rfl rfl rfl rfl ⟨_, _, _, Go.Proofs.Try.underlying140, rfl, rfl, Go.Proofs.Try.sizeOf3⟩ rfl ?_
  refine O.ld rfl rfl rfl (fun w => ⟨Go.Proofs.Try.isAgg3 w, Go.Proofs.Try.sizeOf3 w⟩) rfl ht.mx' ?_
  refine O.quo ((mn : Int)) rfl rfl rfl rfl rfl rfl (by decide) (by rw [Int.tdiv_eq_ediv_of_nonneg (by omega)]; omega) (by omega) ?_
  refine O.asg rfl rfl rfl rfl rfl ?_
  refine Pl.fin [(0, _), (1, _), (4, _), (5, _), (6, _)] ⟨rfl, rfl, rfl, rfl, rfl, trivial⟩ ?_
  refine Go'.seq ?_
  -- region 2 (map.go:191)
  refine Go'.region [(0, 0), (1, 0), (2, 0), (3, 1), (4, 0), (5, 0), (6, 1), (7, 2)] rfl ?_
  refine O.mv rfl rfl rfl rfl rfl ?_
  refine O.nc rfl rfl rfl rfl rfl ?_
  refine O.fa0 (off := 2) rfl rfl rfl rfl ⟨_, _, _, Go.Proofs.Try.underlying205, rfl, rfl, Go.Proofs.Try.sizeOf202⟩ rfl ?_
  refine O.ld rfl rfl rfl (fun w => ⟨Go.Proofs.Try.isAgg202 w, Go.Proofs.Try.sizeOf202 w⟩) rfl hn.c2 ?_
  refine O.mv rfl rfl rfl rfl rfl ?_
  refine O.ix (j := mn) rfl rfl rfl rfl Go.Proofs.Try.underlying202 Go.Proofs.Try.sizeOf138 rfl rfl (by omega) (by omega) ?_
  refine O.lds rfl rfl rfl (fun w => ⟨Go.Proofs.Try.isAgg138 w, Go.Proofs.Try.sizeOf138 w⟩) rfl rfl (hn.sl.item hmed) ?_
  refine O.st rfl rfl Go.Proofs.Try.sizeOf138 rfl rfl rfl rfl rfl mw ?_
  intro H2 W2
  have hs2 := W2.size
  replace hn := NodeM.fr EI hn W2.fr (fun b o hb => nr (.inl (by have := NodeM.lt hn0 hb; omega)))
  replace ht := ht.fr W2.fr (fun o _ _ => nr (.inl (by omega)))
  replace mw := W2.fr.wr mw
  have mr := W2.all
  have hF2 := hF1.trans' W2.fr (Z := nowhere) (fun _ _ _ h => h) (fun b o hb h => by simp only [rng] at h; omega)
  replace hk := hk.fr W2.fr (fun b o hb => nr (.inl (by have := hk0.lt hb; omega)))
  replace hq := fun q hh => And.intro (W2.fr.keep (hq q hh).1 (nr (.inl (by have := cl_lt (hq0 q hh).1; omega)))) (hq q hh).2
  refine ⟨trivial, ?_⟩
  refine Pl.fin [(0, _), (1, _), (4, _), (5, _), (6, _)] ⟨rfl, rfl, rfl, rfl, rfl, trivial⟩ ?_
  refine Go'.seq ?_
  -- region 3 (map.go:194)
  refine Go'.region [(0, 0), (1, 0), (2, 2), (3, 2), (4, 0)] rfl ?_
  refine O.mv rfl rfl rfl rfl rfl ?_
  refine O.mv rfl rfl rfl rfl rfl ?_
  refine O.callQ rfl rfl rfl Go.Proofs.Try.call152 rfl (leaf_spec hn.c3) trivial ?_
  refine O.call rfl rfl rfl Go.Proofs.Try.call160 rfl (newInner_spec ht.iso) ?_
  rintro _ H3 hR3
  obtain ⟨rfl, hs3, F3, q0, q1, q2, q3, qw, qh, qhw⟩ := hR3
  have hql : H.size < H2.size := by omega
  generalize hqe : H2.size = q at *
  replace hn := NodeM.fr EI hn F3 (fun _ _ _ => nw)
  replace ht := ht.fr F3 (fun _ _ _ => nw)
  replace mw := F3.wr mw
  replace mr := F3.rd mr (fun _ _ => nw)
  have hF3 := hF2.trans F3
  replace hk := hk.fr F3 (fun _ _ _ => nw)
  replace hq := fun q hh => And.intro (F3.keep (hq q hh).1 nw) (hq q hh).2
  unfold ptr at q3
  refine ⟨trivial, ?_⟩
  refine O.asg rfl rfl rfl rfl rfl ?_
  refine Pl.fin [(0, _), (1, _), (4, _), (5, _), (6, _)] ⟨rfl, rfl, rfl, rfl, rfl, trivial⟩ ?_
  refine Go'.seq ?_
  -- region 4 (map.go:195)
  refine Go'.region [(0, 0), (1, 0), (2, 0), (3, 0), (4, 1), (5, 0), (6, 0), (7, 0), (8, 0), (9, 0), (10, 2)] rfl ?_
  refine O.mv rfl rfl rfl rfl rfl ?_
  refine O.mv rfl rfl rfl rfl rfl ?_
  refine O.nc rfl rfl rfl rfl rfl ?_
  refine O.fa0 (off := 2) rfl rfl rfl rfl ⟨_, _, _, Go.Proofs.Try.underlying205, rfl, rfl, Go.Proofs.Try.sizeOf202⟩ rfl ?_
  refine O.ld rfl rfl rfl (fun w => ⟨Go.Proofs.Try.isAgg202 w, Go.Proofs.Try.sizeOf202 w⟩) rfl hn.c2 ?_
  refine O.mv rfl rfl rfl rfl rfl ?_
  refine O.add (((mn + 1 : Nat) : Int)) rfl rfl rfl rfl rfl rfl (by omega) (by omega) ?_
  refine O.slc (jl := mn + 1) (jh := X.length) (jm := g.ic) rfl rfl rfl rfl Go.Proofs.Try.underlying202 Go.Proofs.Try.sizeOf138 rfl rfl rfl ⟨_, by rfl⟩ (by omega) (by omega) (by omega) (by simp) ?_
  intro o4 ho4
  obtain rfl := ho4 (by omega)
  refine O.nc rfl rfl rfl rfl rfl ?_
  refine O.fa0 (off := 2) rfl rfl rfl rfl ⟨_, _, _, Go.Proofs.Try.underlying205, rfl, rfl, Go.Proofs.Try.sizeOf202⟩ rfl ?_
  refine O.st rfl rfl Go.Proofs.Try.sizeOf202 rfl rfl rfl rfl rfl (qw.at0 2 1 (by omega)) ?_
  intro H4 W4
  have hs4 := W4.size
  replace hn := NodeM.fr EI hn W4.fr (fun b o hb => nr (.inl (by have := NodeM.lt hn0 hb; omega)))
  replace ht := ht.fr W4.fr (fun o _ _ => nr (.inl (by omega)))
  replace mr := W4.fr.rd mr (fun i _ => nr (.inl (by omega)))
  replace mw := W4.fr.wr mw
  replace qw := W4.fr.wr qw
  replace q0 := W4.keep1 q0 (by omega)
  replace q1 := W4.keep1 q1 (by omega)
  replace q2 := W4.at
  replace q3 := W4.keep1 q3 (by omega)
  have hF4 := hF3.trans' W4.fr (Z := nowhere) (fun _ _ _ h => h) (fun b o hb h => by simp only [rng] at h; omega)
  replace hk := hk.fr W4.fr (fun b o hb => nr (.inl (by have := hk0.lt hb; omega)))
  replace hq := fun q hh => And.intro (W4.fr.keep (hq q hh).1 (nr (.inl (by have := cl_lt (hq0 q hh).1; omega)))) (hq q hh).2
  replace qh := W4.keep1 qh (by omega)
  replace qhw := W4.fr.wr qhw
  refine ⟨trivial, ?_⟩
  refine Pl.fin [(0, _), (1, _), (4, _), (5, _), (6, _)] ⟨rfl, rfl, rfl, rfl, rfl, trivial⟩ ?_
  refine Go'.seq ?_
  refine Go'.seq ?_
  -- region 5 (map.go:196)
  refine Go'.region [(0, 0), (1, 2), (2, 0)] rfl ?_
  refine O.mv rfl rfl rfl rfl rfl ?_
  refine O.callQ rfl rfl rfl Go.Proofs.Try.call152 rfl (leaf_spec hn.c3) trivial ?_
  refine O.not rfl rfl rfl rfl rfl ?_
  refine Pl.fin [(0, _), (1, _), (4, _), (5, _), (6, _), (35, _)] ⟨rfl, rfl, rfl, rfl, rfl, rfl, trivial⟩ ?_
  refine Go'.condT rfl ?_
  -- region 6 (map.go:197)
  refine Go'.draw (fun _ => True) [(0, 0), (1, 0), (2, 0), (3, 1), (4, 0), (5, 0), (6, 0), (7, 1), (8, 0), (9, 1), (10, 0), (11, 0), (12, 0), (13, 0), (14, 3)] (by kernel_rfl) (by kernel_rfl) (trivial) ?_
  refine O.mv rfl rfl rfl rfl rfl ?_
  refine O.nc rfl rfl rfl rfl rfl ?_
  refine O.fa0 (off := 3) rfl rfl rfl rfl ⟨_, _, _, Go.Proofs.Try.underlying205, rfl, rfl, Go.Proofs.Try.sizeOf203⟩ rfl ?_
  refine O.ld rfl rfl rfl (fun w => ⟨Go.Proofs.Try.isAgg203 w, Go.Proofs.Try.sizeOf203 w⟩) rfl q3 ?_
  refine O.mv rfl rfl rfl rfl rfl ?_
  refine O.nc rfl rfl rfl rfl rfl ?_
  refine O.fa0 (off := 3) rfl rfl rfl rfl ⟨_, _, _, Go.Proofs.Try.underlying205, rfl, rfl, Go.Proofs.Try.sizeOf203⟩ rfl ?_
  refine O.ld rfl rfl rfl (fun w => ⟨Go.Proofs.Try.isAgg203 w, Go.Proofs.Try.sizeOf203 w⟩) rfl hn.c3 ?_
  refine O.nc rfl rfl rfl rfl rfl ?_
  refine O.ld rfl rfl rfl (fun w => ⟨Go.Proofs.Try.isAgg206 w, Go.Proofs.Try.sizeOf206 w⟩) rfl hk.c ?_
  refine O.mv rfl rfl rfl rfl rfl ?_
  refine O.add (((mn + 1 : Nat) : Int)) rfl rfl rfl rfl rfl rfl (by omega) (by omega) ?_
  refine O.slc (jl := mn + 1) (jh := ks.length) (jm := g.kc) rfl rfl rfl rfl Go.Proofs.Try.underlying206 Go.Proofs.Try.sizeOf135 rfl rfl rfl ⟨_, by rfl⟩ (by omega) (by omega) (by omega) (by simp) ?_
  intro o5 ho5
  obtain rfl := ho5 (by omega)
  rw [Nat.mul_one]
  refine O.nc rfl rfl rfl rfl rfl ?_
  refine O.st3 rfl rfl Go.Proofs.Try.sizeOf206 rfl rfl rfl rfl rfl qhw ?_
  intro H5 W5
  have hs5 := W5.size
  replace hn := NodeM.fr EI hn W5.fr (fun b o hb => nr (.inl (by have := NodeM.lt hn0 hb; omega)))
  replace ht := ht.fr W5.fr (fun o _ _ => nr (.inl (by omega)))
  replace mr := W5.fr.rd mr (fun i _ => nr (.inl (by omega)))
  replace mw := W5.fr.wr mw
  replace qw := W5.fr.wr qw
  replace qhw := W5.fr.wr qhw
  replace q0 := W5.keep1 q0 (by omega)
  replace q1 := W5.keep1 q1 (by omega)
  replace q2 := W5.keep1 q2 (by omega)
  replace q3 := W5.keep1 q3 (by omega)
  replace qh := W5.at
  have hF5 := hF4.trans' W5.fr (Z := nowhere) (fun _ _ _ h => h) (fun b o hb h => by simp only [rng] at h; omega)
  replace hk := hk.fr W5.fr (fun b o hb => nr (.inl (by have := hk0.lt hb; omega)))
  replace hq := fun q hh => And.intro (W5.fr.keep (hq q hh).1 (nr (.inl (by have := cl_lt (hq0 q hh).1; omega)))) (hq q hh).2
  refine Pl.fin [(0, _), (1, _), (4, _), (5, _), (6, _)] ⟨rfl, rfl, rfl, rfl, rfl, trivial⟩ ?_
  refine Go'.seq ?_
  have hdl : (ks.drop (mn + 1)).length = ks.length - (mn + 1) := List.length_drop
  have slR : SlE EP H5 g.kb (g.ko + (mn + 1)) (g.kc - (mn + 1)) ((ks.drop (mn + 1)).map some) := by
    have := hk.sl.right (i := mn + 1) (by rw [List.length_map]; omega)
    rw [show EP.s = 1 from rfl, Nat.mul_one, ← List.map_drop] at this
    exact this
  have hsumR : mn + ((ks.drop (mn + 1)).map cn).sum < 9223372036854775808 := by
    have : (ks.map cn).sum = ((ks.take (mn + 1)).map cn).sum + ((ks.drop (mn + 1)).map cn).sum := by
      rw [← List.sum_append, ← List.map_append, List.take_append_drop]
    omega
  rw [← hdl] at qh
  have exl : X.length - (mn + 1) = mn := by omega
  -- region 7 (map.go:199)
  refine Go'.region [(0, 0), (1, 2)] rfl ?_
  refine O.mv rfl rfl rfl rfl rfl ?_
  refine O.call rfl rfl rfl Go.Proofs.Try.call163 rfl (updInner_spec cn (qw.at0 1 1 (by omega)) q2 q3 qh slR (fun z hz => ⟨(hq z (List.mem_of_mem_drop hz)).1, fun e => by have := cl_lt (hq0 z (List.mem_of_mem_drop hz)).1; omega⟩) (by omega) (by rw [exl]; exact hsumR) (by omega)) ?_
  rintro _ H6 ⟨F6, hs6, q1'⟩
  rw [exl] at q1'
  replace q1 := q1'
  replace hn := NodeM.fr EI hn F6 (fun b o hb => nr (.inl (by have := NodeM.lt hn0 hb; omega)))
  replace ht := ht.fr F6 (fun o _ _ => nr (.inl (by omega)))
  replace mr := F6.rd mr (fun i _ => nr (.inl (by omega)))
  replace mw := F6.wr mw
  replace qw := F6.wr qw
  replace qhw := F6.wr qhw
  replace q0 := F6.keep q0 (nr (by omega))
  replace q2 := F6.keep q2 (nr (by omega))
  replace q3 := F6.keep q3 (nr (by omega))
  replace qh := F6.keep qh (nr (by omega))
  have hF6 := hF5.trans' F6 (Z := nowhere) (fun _ _ _ h => h) (fun b o hb h => by simp only [rng] at h; omega)
  replace hk := hk.fr F6 (fun b o hb => nr (.inl (by have := hk0.lt hb; omega)))
  replace hq := fun q hh => And.intro (F6.keep (hq q hh).1 (nr (.inl (by have := cl_lt (hq0 q hh).1; omega)))) (hq q hh).2
  refine ⟨trivial, ?_⟩
  refine Pl.fin [(0, _), (1, _), (4, _), (5, _), (6, _)] ⟨rfl, rfl, rfl, rfl, rfl, trivial⟩ ?_
  refine Go'.seq ?_
  have slL : SlE EI H6 g.ib g.io mn (X.take mn) := hn.sl.left (by omega)
  have slX : SlE EI H6 g.ib (g.io + (mn + 1) * 1) (g.ic - (mn + 1)) (X.drop (mn + 1)) := hn.sl.right (by omega)
  obtain ⟨c0, c1, c2, c3, cw⟩ := And.intro hn.c0 (And.intro hn.c1 (And.intro hn.c2 (And.intro hn.c3 hn.wr)))
  have mwr := hn.sl.wri (i := mn) (by omega)
  -- region 8 (map.go:202)
  refine Go'.draw (fun _ => True) [(0, 0), (1, 0), (2, 0), (3, 1), (4, 0), (5, 0), (6, 0), (7, 0), (8, 1), (9, 0), (10, 3)] (by kernel_rfl) (by kernel_rfl) (trivial) ?_
  refine O.mv rfl rfl rfl rfl rfl ?_
  refine O.nc rfl rfl rfl rfl rfl ?_
  refine O.fa0 (off := 2) rfl rfl rfl rfl ⟨_, _, _, Go.Proofs.Try.underlying205, rfl, rfl, Go.Proofs.Try.sizeOf202⟩ rfl ?_
  refine O.ld rfl rfl rfl (fun w => ⟨Go.Proofs.Try.isAgg202 w, Go.Proofs.Try.sizeOf202 w⟩) rfl hn.c2 ?_
  refine O.mv rfl rfl rfl rfl rfl ?_
  refine O.mv rfl rfl rfl rfl rfl ?_
  refine O.nc rfl rfl rfl rfl rfl ?_
  refine O.fa0 (off := 4) rfl rfl rfl rfl ⟨_, _, _, Go.Proofs.Try.underlying140, rfl, rfl, Go.Proofs.Try.sizeOf138⟩ rfl ?_
  refine O.lds rfl rfl rfl (fun w => ⟨Go.Proofs.Try.isAgg138 w, Go.Proofs.Try.sizeOf138 w⟩) rfl rfl ht.emp ?_
  refine O.ix (j := mn) rfl rfl rfl rfl Go.Proofs.Try.underlying202 Go.Proofs.Try.sizeOf138 rfl rfl (by omega) (by omega) ?_
  refine O.st3 rfl rfl Go.Proofs.Try.sizeOf138 rfl rfl rfl rfl rfl mwr ?_
  intro H8 W8
  have hs8 := W8.size
  have F8 := W8.fr' 1 rfl
  replace slL := slL.fr F8 (fun i h1 h2 => nr (by have e : EI.s = 1 := rfl; rw [e] at h2; omega))
  replace slX := slX.fr F8 (fun i h1 h2 => nr (by omega))
  replace c0 := W8.fr.keep c0 (nr (by omega))
  replace c1 := W8.fr.keep c1 (nr (by omega))
  replace c2 := W8.fr.keep c2 (nr (by omega))
  replace c3 := W8.fr.keep c3 (nr (by omega))
  replace ht := ht.fr W8.fr (fun o _ _ => nr (.inl (by omega)))
  replace mr := W8.fr.rd mr (fun i _ => nr (.inl (by omega)))
  replace mw := W8.fr.wr mw
  replace qw := W8.fr.wr qw
  replace q0 := W8.fr.keep q0 (nr (.inl (by omega)))
  replace q1 := W8.fr.keep q1 (nr (.inl (by omega)))
  replace q2 := W8.fr.keep q2 (nr (.inl (by omega)))
  replace q3 := W8.fr.keep q3 (nr (.inl (by omega)))
  replace cw := W8.fr.wr cw
  replace qh := W8.fr.keep qh (nr (.inl (by omega)))
  replace qhw := W8.fr.wr qhw
  have hF8 : Fr (fun b o => ncl EI g b o ∨ kcl g b o) H H8 := hF6.trans' W8.fr (fun _ _ _ h => h.elim) (fun b o hb h => .inl (.inr ⟨h.1, by have := h.2.1; omega, by
    have h2 := h.2.2
    have h3 : (mn + 1) * 1 ≤ g.ic * 1 := Nat.mul_le_mul_right 1 (by omega)
    simp only [List.length_cons, List.length_nil] at h2
    have e : EI.s = 1 := rfl
    rw [e]
    omega⟩))
  replace hk := hk.fr W8.fr (fun b o hb => nr (.inl (by rcases hb with ⟨rfl, _⟩ | ⟨rfl, _⟩ <;> omega)))
  replace hq := fun q hh => And.intro (W8.fr.keep (hq q hh).1 (nr (by have h7 := (hq q hh).2.2.1; have h8 : (mn + 1) * 1 ≤ g.ic * 1 := Nat.mul_le_mul_right 1 (by omega); have h9 : (EI.enc X[X.length - 1]).length = 1 := rfl; simp only [List.length_cons, List.length_nil]; omega))) (hq q hh).2
  refine Pl.fin [(1, _), (4, _), (5, _), (6, _)] ⟨rfl, rfl, rfl, rfl, trivial⟩ ?_
  refine Go'.seq ?_
  -- region 9 (map.go:203)
  refine Go'.region [(0, 0), (1, 0), (2, 0), (3, 0), (4, 1), (5, 0), (6, 0), (7, 0), (8, 0), (9, 0), (10, 2)] rfl ?_
  refine O.mv rfl rfl rfl rfl rfl ?_
  refine O.mv rfl rfl rfl rfl rfl ?_
  refine O.nc rfl rfl rfl rfl rfl ?_
  refine O.fa0 (off := 2) rfl rfl rfl rfl ⟨_, _, _, Go.Proofs.Try.underlying205, rfl, rfl, Go.Proofs.Try.sizeOf202⟩ rfl ?_
  refine O.ld rfl rfl rfl (fun w => ⟨Go.Proofs.Try.isAgg202 w, Go.Proofs.Try.sizeOf202 w⟩) rfl c2 ?_
  refine O.mv rfl rfl rfl rfl rfl ?_
  refine O.mv rfl rfl rfl rfl rfl ?_
  refine O.slc (jl := 0) (jh := mn) (jm := mn) rfl rfl rfl rfl Go.Proofs.Try.underlying202 Go.Proofs.Try.sizeOf138 rfl ⟨_, by rfl⟩ ⟨_, by rfl⟩ rfl (by omega) (by omega) (by omega) (by simp) ?_
  intro o9 ho9
  obtain rfl := ho9 (by omega)
  rw [Nat.zero_mul, Nat.add_zero, Nat.sub_zero]
  refine O.nc rfl rfl rfl rfl rfl ?_
  refine O.fa0 (off := 2) rfl rfl rfl rfl ⟨_, _, _, Go.Proofs.Try.underlying205, rfl, rfl, Go.Proofs.Try.sizeOf202⟩ rfl ?_
  refine O.st rfl rfl Go.Proofs.Try.sizeOf202 rfl rfl rfl rfl rfl (cw.at0 2 1 (by omega)) ?_
  intro H9 W9
  have hs9 := W9.size
  replace slL := slL.fr W9.fr (fun i h1 h2 => nr (.inl (Ne.symm hpi)))
  replace slX := slX.fr W9.fr (fun i h1 h2 => nr (.inl (Ne.symm hpi)))
  replace c0 := W9.keep1 c0 (by omega)
  replace c1 := W9.keep1 c1 (by omega)
  replace c2 := W9.at
  replace c3 := W9.keep1 c3 (by omega)
  replace ht := ht.fr W9.fr (fun o _ _ => nr (.inl (by omega)))
  replace mr := W9.fr.rd mr (fun i _ => nr (.inl (by omega)))
  replace mw := W9.fr.wr mw
  replace qw := W9.fr.wr qw
  replace q0 := W9.fr.keep q0 (nr (.inl (by omega)))
  replace q1 := W9.fr.keep q1 (nr (.inl (by omega)))
  replace q2 := W9.fr.keep q2 (nr (.inl (by omega)))
  replace q3 := W9.fr.keep q3 (nr (.inl (by omega)))
  replace cw := W9.fr.wr cw
  replace qh := W9.fr.keep qh (nr (.inl (by omega)))
  replace qhw := W9.fr.wr qhw
  have hF9 : Fr (fun b o => ncl EI g b o ∨ kcl g b o) H H9 := hF8.trans' W9.fr (fun _ _ _ h => h) (fun b o hb h => .inl (.inl ⟨h.1, by have h2 := h.2.2; simp only [List.length_cons, List.length_nil] at h2; omega⟩))
  replace hk := hk.fr W9.fr (fun b o hb => nr (.inl (by rcases hb with ⟨rfl, _⟩ | ⟨rfl, _⟩ <;> omega)))
  replace hq := fun q hh => And.intro (W9.fr.keep (hq q hh).1 (nr (.inl (hq q hh).2.1))) (hq q hh).2
  refine ⟨trivial, ?_⟩
  refine Pl.fin [(1, _), (4, _), (5, _), (6, _)] ⟨rfl, rfl, rfl, rfl, trivial⟩ ?_
  refine Go'.seq ?_
  refine Go'.seq ?_
  -- region 10 (map.go:204)
  refine Go'.region [(0, 0), (1, 2), (2, 0)] rfl ?_
  refine O.mv rfl rfl rfl rfl rfl ?_
  refine O.callQ rfl rfl rfl Go.Proofs.Try.call152 rfl (leaf_spec c3) trivial ?_
  refine O.not rfl rfl rfl rfl rfl ?_
  refine Pl.fin [(1, _), (4, _), (5, _), (6, _), (74, _)] ⟨rfl, rfl, rfl, rfl, rfl, trivial⟩ ?_
  refine Go'.condT rfl ?_
  have slKL : SlE EP H9 g.kb g.ko (mn + 1) ((ks.take (mn + 1)).map some) := by
    have := hk.sl.left (i := mn + 1) (by rw [List.length_map]; omega)
    rw [← List.map_take] at this
    exact this
  have slKR : SlE EP H9 g.kb (g.ko + (mn + 1)) (g.kc - (mn + 1)) ((ks.drop (mn + 1)).map some) := by
    have := hk.sl.right (i := mn + 1) (by rw [List.length_map]; omega)
    rw [show EP.s = 1 from rfl, Nat.mul_one, ← List.map_drop] at this
    exact this
  have kw := hk.wr
  -- region 11 (map.go:205)
  refine Go'.draw (fun _ => True) [(0, 0), (1, 0), (2, 0), (3, 1), (4, 0), (5, 0), (6, 0), (7, 1), (8, 0), (9, 1), (10, 0), (11, 0), (12, 0), (13, 0), (14, 0), (15, 0), (16, 3)] (by kernel_rfl) (by kernel_rfl) (trivial) ?_
  refine O.mv rfl rfl rfl rfl rfl ?_
  refine O.nc rfl rfl rfl rfl rfl ?_
  refine O.fa0 (off := 3) rfl rfl rfl rfl ⟨_, _, _, Go.Proofs.Try.underlying205, rfl, rfl, Go.Proofs.Try.sizeOf203⟩ rfl ?_
  refine O.ld rfl rfl rfl (fun w => ⟨Go.Proofs.Try.isAgg203 w, Go.Proofs.Try.sizeOf203 w⟩) rfl c3 ?_
  refine O.mv rfl rfl rfl rfl rfl ?_
  refine O.nc rfl rfl rfl rfl rfl ?_
  refine O.fa0 (off := 3) rfl rfl rfl rfl ⟨_, _, _, Go.Proofs.Try.underlying205, rfl, rfl, Go.Proofs.Try.sizeOf203⟩ rfl ?_
  refine O.ld rfl rfl rfl (fun w => ⟨Go.Proofs.Try.isAgg203 w, Go.Proofs.Try.sizeOf203 w⟩) rfl c3 ?_
  refine O.nc rfl rfl rfl rfl rfl ?_
  refine O.ld rfl rfl rfl (fun w => ⟨Go.Proofs.Try.isAgg206 w, Go.Proofs.Try.sizeOf206 w⟩) rfl hk.c ?_
  refine O.mv rfl rfl rfl rfl rfl ?_
  refine O.add (((mn + 1 : Nat) : Int)) rfl rfl rfl rfl rfl rfl (by omega) (by omega) ?_
  refine O.mv rfl rfl rfl rfl rfl ?_
  refine O.add (((mn + 1 : Nat) : Int)) rfl rfl rfl rfl rfl rfl (by omega) (by omega) ?_
  refine O.slc (jl := 0) (jh := mn + 1) (jm := mn + 1) rfl rfl rfl rfl Go.Proofs.Try.underlying206 Go.Proofs.Try.sizeOf135 rfl ⟨_, by rfl⟩ ⟨_, by rfl⟩ rfl (by omega) (by omega) (by omega) (by simp) ?_
  intro o11 ho11
  obtain rfl := ho11 (by omega)
  rw [Nat.zero_mul, Nat.add_zero, Nat.sub_zero]
  refine O.nc rfl rfl rfl rfl rfl ?_
  refine O.st3 rfl rfl Go.Proofs.Try.sizeOf206 rfl rfl rfl rfl rfl kw ?_
  intro H11 W11
  have hs11 := W11.size
  replace slL := slL.fr W11.fr (fun i h1 h2 => nr (.inl (by omega)))
  replace slX := slX.fr W11.fr (fun i h1 h2 => nr (.inl (by omega)))
  replace slKL := slKL.fr W11.fr (fun i h1 h2 => nr (.inl (by omega)))
  replace slKR := slKR.fr W11.fr (fun i h1 h2 => nr (.inl (by omega)))
  have kh := W11.at
  replace kw := W11.fr.wr kw
  replace c0 := W11.fr.keep c0 (nr (.inl (by omega)))
  replace c1 := W11.fr.keep c1 (nr (.inl (by omega)))
  replace c2 := W11.fr.keep c2 (nr (.inl (by omega)))
  replace c3 := W11.fr.keep c3 (nr (.inl (by omega)))
  replace mr := W11.fr.rd mr (fun i _ => nr (.inl (by omega)))
  replace mw := W11.fr.wr mw
  replace qw := W11.fr.wr qw
  replace q0 := W11.fr.keep q0 (nr (.inl (by omega)))
  replace q1 := W11.fr.keep q1 (nr (.inl (by omega)))
  replace q2 := W11.fr.keep q2 (nr (.inl (by omega)))
  replace q3 := W11.fr.keep q3 (nr (.inl (by omega)))
  replace cw := W11.fr.wr cw
  replace qh := W11.fr.keep qh (nr (.inl (by omega)))
  replace qhw := W11.fr.wr qhw
  have hF11 : Fr (fun b o => ncl EI g b o ∨ kcl g b o) H H11 := hF9.trans' W11.fr (fun _ _ _ h => h) (fun b o hb h => .inr (.inl ⟨h.1, by have h2 := h.2.2; simp only [List.length_cons, List.length_nil] at h2; omega⟩))
  replace hq := fun q hh => And.intro (W11.fr.keep (hq q hh).1 (nr (.inl (hq q hh).2.2.2))) (hq q hh).2
  have htl2 : (ks.take (mn + 1)).length = mn + 1 := by rw [List.length_take]; omega
  have hsumL : mn + ((ks.take (mn + 1)).map cn).sum < 9223372036854775808 := by
    have : (ks.map cn).sum = ((ks.take (mn + 1)).map cn).sum + ((ks.drop (mn + 1)).map cn).sum := by
      rw [← List.sum_append, ← List.map_append, List.take_append_drop]
    omega
  refine Pl.fin [(1, _), (4, _), (5, _)] ⟨rfl, rfl, rfl, trivial⟩ ?_
  refine Go'.seq ?_
  rw [← htl2] at kh
  -- region 12 (map.go:207)
  refine Go'.region [(0, 0), (1, 2)] rfl ?_
  refine O.mv rfl rfl rfl rfl rfl ?_
  refine O.call rfl rfl rfl Go.Proofs.Try.call163 rfl (updInner_spec cn (cw.at0 1 1 (by omega)) c2 c3 (kc := mn + 1) (by rw [htl2] at kh ⊢; exact kh) slKL (fun z hz => ⟨(hq z (List.mem_of_mem_take hz)).1, (hq z (List.mem_of_mem_take hz)).2.1⟩) (by omega) hsumL (by omega)) ?_
  rintro _ H12 ⟨F12, hs12, c1'⟩
  replace c1 := c1'
  replace slL := slL.fr F12 (fun i h1 h2 => nr (.inl (by omega)))
  replace slX := slX.fr F12 (fun i h1 h2 => nr (.inl (by omega)))
  replace slKL := slKL.fr F12 (fun i h1 h2 => nr (.inl (by omega)))
  replace slKR := slKR.fr F12 (fun i h1 h2 => nr (.inl (by omega)))
  replace kh := F12.keep kh (nr (.inl (by omega)))
  replace kw := F12.wr kw
  replace c0 := F12.keep c0 (nr (by omega))
  replace c2 := F12.keep c2 (nr (by omega))
  replace c3 := F12.keep c3 (nr (by omega))
  replace mr := F12.rd mr (fun i _ => nr (.inl (by omega)))
  replace mw := F12.wr mw
  replace qw := F12.wr qw
  replace q0 := F12.keep q0 (nr (.inl (by omega)))
  replace q1 := F12.keep q1 (nr (.inl (by omega)))
  replace q2 := F12.keep q2 (nr (.inl (by omega)))
  replace q3 := F12.keep q3 (nr (.inl (by omega)))
  replace cw := F12.wr cw
  replace qh := F12.keep qh (nr (.inl (by omega)))
  replace qhw := F12.wr qhw
  have hF12 : Fr (fun b o => ncl EI g b o ∨ kcl g b o) H H12 := hF11.trans' F12 (fun _ _ _ h => h) (fun b o hb h => .inl (.inl ⟨h.1, by have h2 := h.2.2; omega⟩))
  refine ⟨trivial, ?_⟩
  refine Pl.fin [(4, _), (5, _)] ⟨rfl, rfl, trivial⟩ ?_
  refine Go'.seq ?_
  -- region 13 (map.go:208)
  refine Go'.draw (fun _ => True) [(0, 0), (1, 1), (2, 0), (3, 3)] (by kernel_rfl) (by kernel_rfl) (trivial) ?_
  refine O.mv rfl rfl rfl rfl rfl ?_
  refine O.lds rfl rfl rfl (fun w => ⟨Go.Proofs.Try.isAgg138 w, Go.Proofs.Try.sizeOf138 w⟩) rfl rfl mr ?_
  refine O.asg rfl rfl rfl rfl rfl ?_
  refine O.st3 rfl rfl Go.Proofs.Try.sizeOf138 rfl rfl rfl rfl rfl mw ?_
  intro H13 W13
  have hs13 := W13.size
  replace slL := slL.fr W13.fr (fun i h1 h2 => nr (.inl (by omega)))
  replace slX := slX.fr W13.fr (fun i h1 h2 => nr (.inl (by omega)))
  replace c0 := W13.fr.keep c0 (nr (.inl (by omega)))
  replace c1 := W13.fr.keep c1 (nr (.inl (by omega)))
  replace c2 := W13.fr.keep c2 (nr (.inl (by omega)))
  replace c3 := W13.fr.keep c3 (nr (.inl (by omega)))
  replace q0 := W13.fr.keep q0 (nr (.inl (by omega)))
  replace q1 := W13.fr.keep q1 (nr (.inl (by omega)))
  replace q2 := W13.fr.keep q2 (nr (.inl (by omega)))
  replace q3 := W13.fr.keep q3 (nr (.inl (by omega)))
  replace qw := W13.fr.wr qw
  replace cw := W13.fr.wr cw
  have hF13 : Fr (fun b o => ncl EI g b o ∨ kcl g b o) H H13 := hF12.trans' W13.fr (fun _ _ _ h => h) (fun b o hb h => by simp only [rng] at h; omega)
  replace slKL := slKL.fr W13.fr (fun i h1 h2 => nr (.inl (by omega)))
  replace slKR := slKR.fr W13.fr (fun i h1 h2 => nr (.inl (by omega)))
  replace kh := W13.fr.keep kh (nr (.inl (by omega)))
  replace kw := W13.fr.wr kw
  replace qh := W13.fr.keep qh (nr (.inl (by omega)))
  replace qhw := W13.fr.wr qhw
  refine Pl.fin [(4, _), (5, _)] ⟨rfl, rfl, trivial⟩ ?_
  refine Go'.ret (vs := [_, _]) Go.Proofs.Try.func162 Go.Proofs.Try.results162 ⟨rfl, ⟨_, _, rfl, fun _ _ => run_loadVar_agg (fun w => ⟨Go.Proofs.Try.isAgg138 w, Go.Proofs.Try.sizeOf138 w⟩) rfl W13.all⟩, trivial⟩ ?_
  rw [Nat.mul_one] at slX q2
  have e1 : (X.take mn).length = mn := by rw [List.length_take]; omega
  have e2 : (X.drop (mn + 1)).length = mn := by rw [List.length_drop]; omega
  rw [htl2, Nat.add_zero] at kh
  refine ⟨q, rfl, by omega, by omega, hF13, ⟨c0, c1, ?_, c3, cw, slL, by show 0 < mn; omega, hpi⟩, ⟨by rw [htl2]; exact kh, kw, slKL, by show 0 < mn + 1; omega, hc1, hc2, hc3, hc4, hc5⟩, ⟨q0, q1, ?_, q3, qw, slX, by show 0 < g.ic - (mn + 1); omega, by show q ≠ g.ib; omega⟩, ⟨qh, qhw, slKR, by show 0 < g.kc - (mn + 1); omega, by show q + 1 ≠ g.kb; omega, by show q ≠ q + 1; omega, by show q ≠ g.kb; omega, by show g.ib ≠ q + 1; omega, hc5⟩⟩
  · rw [e1]; exact c2
  · rw [List.length_drop]; exact q2

end Go.Bt.FZ
namespace Go.Bt.FZ
open Go Go.Proofs
set_option maxRecDepth 20000
set_option maxHeartbeats 4000000

theorem search_spec {B : World} {H : Mem} {g : Ng} {X : List Int} {kp u : Value} (x : Int) (hn : NodeM EI H g X kp) (hs : Pl.Srt OI X) (hl : X.length ≤ 255) :
    Fn Try.prog B 168 [u, .pointer (some ⟨g.p, 0, none⟩), .int .i64 x] H (fun v H' => v = .tuple #[.int .i64 ((Pl.pos OI x X : Nat) : Int), .bool (Pl.fnd OI x X)] ∧ H' = H) := by
  refine fn_of Go.Proofs.Try.func168 rfl Go.Proofs.Try.ntmps168 ?_
  refine (show Go' _ _ _ _ 56 [(0, _), (1, _), (2, _)] [.code _] _ from ?_)
  refine Go'.seq ?_
  -- region 0 (map.go:132)
  refine Go'.region [(0, 0), (1, 0)] rfl ?_
  refine O.asg rfl rfl rfl rfl rfl ?_
  refine O.asg rfl rfl rfl rfl rfl ?_
  refine Pl.fin [(1, _), (2, _), (6, _), (7, _)] ⟨rfl, rfl, rfl, rfl, trivial⟩ ?_
  refine Go'.seq ?_
  -- region 1 (map.go:133)
  refine Go'.draw (fun _ => True) [(0, 0), (1, 0), (2, 0), (3, 1), (4, 0), (5, 0), (6, 0)] (by kernel_rfl) (by kernel_rfl) (trivial) ?_
  refine O.mv rfl rfl rfl rfl rfl ?_
  refine O.nc rfl rfl rfl rfl rfl ?_
  refine O.fa0 (off := 2) rfl rfl rfl rfl ⟨_, _, _, Go.Proofs.Try.underlying205, rfl, rfl, Go.Proofs.Try.sizeOf202⟩ rfl ?_
  refine O.ld rfl rfl rfl (fun w => ⟨Go.Proofs.Try.isAgg202 w, Go.Proofs.Try.sizeOf202 w⟩) rfl hn.c2 ?_
  refine O.len rfl rfl rfl rfl Go.Proofs.Try.underlying202 rfl ?_
  refine O.asg rfl rfl rfl rfl rfl ?_
  refine O.asg rfl rfl rfl rfl rfl ?_
  refine Pl.fin [(1, _), (2, _), (6, _), (7, _), (8, _), (9, _)] ⟨rfl, rfl, rfl, rfl, rfl, rfl, trivial⟩ ?_
  refine Go'.seq ?_
  refine Go'.block ?_
  refine Go'.loop ?_
  refine Go'.keep [(1, _), (2, _), (8, _), (9, _)] ⟨rfl, rfl, rfl, rfl, trivial⟩ ?_
  refine Go'.ind (σ := Nat × Nat) (fun s => s.2 - s.1) (fun s H' => H' = H ∧ s.1 ≤ s.2 ∧ s.2 ≤ X.length ∧ (∀ j y, X[j]? = some y → j < s.1 → OI.lt x y = false) ∧ (∀ j y, X[j]? = some y → s.2 ≤ j → OI.lt x y = true))
    (fun s => [(1, .pointer (some ⟨g.p, 0, none⟩)), (2, .int .i64 x), (8, .int .i64 (s.1 : Int)), (9, .int .i64 (s.2 : Int))]) (0, X.length) ⟨rfl, Nat.zero_le _, Nat.le_refl _, fun j y _ h => by simp at h, fun j y h1 h2 => by
      have := (List.getElem?_eq_some_iff.1 h1).1; simp only at h2; omega⟩ rfl ?_
  rintro ⟨lo, hi⟩ H1 ⟨hHH, hlh, hhl, hlo, hhi⟩ ih
  have e : H = H1 := hHH.symm
  subst e
  clear hHH
  simp only at hlh hhl hlo hhi
  refine Go'.seq ?_
  refine Go'.seq ?_
  by_cases hlt : lo < hi
  · -- a round
    -- region 2 (map.go:134)
    refine Go'.region [(0, 0), (1, 0), (2, 0)] rfl ?_
    refine O.mv rfl rfl rfl rfl rfl ?_
    refine O.mv rfl rfl rfl rfl rfl ?_
    refine O.cmp rfl rfl rfl rfl rfl rfl (lssT (by omega)) ?_
    refine Pl.fin [(1, _), (2, _), (8, _), (9, _), (18, _)] ⟨rfl, rfl, rfl, rfl, rfl, trivial⟩ ?_
    refine Go'.condT rfl ?_
    refine Go'.skip ?_
    refine Go'.block ?_
    refine Go'.seq ?_
    -- region 3 (map.go:135)
    refine Go'.region [(0, 0), (1, 0), (2, 0), (3, 0), (4, 0)] rfl ?_
    refine O.mv rfl rfl rfl rfl rfl ?_
    refine O.mv rfl rfl rfl rfl rfl ?_
    refine O.add (((lo + hi : Nat) : Int)) rfl rfl rfl rfl rfl rfl (by omega) (by omega) ?_
    refine O.quo ((((lo + hi) / 2 : Nat) : Int)) rfl rfl rfl rfl rfl rfl (by decide) (by rw [Int.tdiv_eq_ediv_of_nonneg (by omega)]; omega) (by omega) ?_
    refine O.asg rfl rfl rfl rfl rfl ?_
    refine Pl.fin [(1, _), (2, _), (8, _), (9, _), (10, _), (18, _)] ⟨rfl, rfl, rfl, rfl, rfl, rfl, trivial⟩ ?_
    refine Go'.seq ?_
    obtain ⟨y, hy⟩ : ∃ y, X[(lo + hi) / 2]? = some y := ⟨X[(lo + hi) / 2]'(by omega), List.getElem?_eq_getElem (by omega)⟩
    have hc : cl H g.ib (g.io + (lo + hi) / 2 * 1 + 0) = some (.int .i64 y) := Rd.item' EI hn.sl.rd hy (j := 0) rfl
    cases hky : OI.lt x y
    · -- not less
      -- region 4 (map.go:136)
      refine Go'.region [(0, 0), (1, 0), (2, 0), (3, 0), (4, 1), (5, 0), (6, 0), (7, 0), (8, 1), (9, 0), (10, 0)] rfl ?_
      refine O.mv rfl rfl rfl rfl rfl ?_
      refine O.mv rfl rfl rfl rfl rfl ?_
      refine O.nc rfl rfl rfl rfl rfl ?_
      refine O.fa0 (off := 2) rfl rfl rfl rfl ⟨_, _, _, Go.Proofs.Try.underlying205, rfl, rfl, Go.Proofs.Try.sizeOf202⟩ rfl ?_
      refine O.ld rfl rfl rfl (fun w => ⟨Go.Proofs.Try.isAgg202 w, Go.Proofs.Try.sizeOf202 w⟩) rfl hn.c2 ?_
      refine O.mv rfl rfl rfl rfl rfl ?_
      refine O.ix (j := (lo + hi) / 2) rfl rfl rfl rfl Go.Proofs.Try.underlying202 Go.Proofs.Try.sizeOf138 rfl rfl (by omega) (by omega) ?_
      refine O.faz rfl rfl rfl rfl ⟨_, _, _, Go.Proofs.Try.underlying138, rfl, rfl, Go.Proofs.Try.sizeOf3⟩ rfl ?_
      refine O.ld rfl rfl rfl (fun w => ⟨Go.Proofs.Try.isAgg3 w, Go.Proofs.Try.sizeOf3 w⟩) rfl hc ?_
      refine O.cmp rfl rfl rfl rfl rfl rfl (lssF (Int.not_lt.1 (of_decide_eq_false hky))) ?_
      refine O.not rfl rfl rfl rfl rfl ?_
      refine Pl.fin [(1, _), (2, _), (8, _), (9, _), (10, _), (18, _), (33, _)] ⟨rfl, rfl, rfl, rfl, rfl, rfl, rfl, trivial⟩ ?_
      refine Go'.condT rfl ?_
      -- region 5 (map.go:137)
      refine Go'.region [(0, 0), (1, 0), (2, 0)] rfl ?_
      refine O.mv rfl rfl rfl rfl rfl ?_
      refine O.add ((((lo + hi) / 2 + 1 : Nat) : Int)) rfl rfl rfl rfl rfl rfl (by omega) (by omega) ?_
      refine O.asg rfl rfl rfl rfl rfl ?_
      refine Pl.fin [(1, _), (2, _), (8, _), (9, _), (10, _), (18, _), (33, _)] ⟨rfl, rfl, rfl, rfl, rfl, rfl, rfl, trivial⟩ ?_
      refine Go'.inBlock ?_
      refine Go'.keep [(1, _), (2, _), (8, _), (9, _)] ⟨rfl, rfl, rfl, rfl, trivial⟩ ?_
      refine Go'.inLoop ?_
      exact ih ((lo + hi) / 2 + 1, hi) H ⟨rfl, by simp only; omega, hhl, fun j z hz hj => by
        simp only at hj
        have hjl := (List.getElem?_eq_some_iff.1 hz).1
        rcases Nat.lt_or_ge j ((lo + hi) / 2) with h | h
        · have h2 := List.pairwise_iff_getElem.1 hs j ((lo + hi) / 2) hjl (by omega) h
          rw [(List.getElem?_eq_some_iff.1 hz).2, (List.getElem?_eq_some_iff.1 hy).2] at h2
          cases h3 : OI.lt x z with
          | false => rfl
          | true => have h4 := OI.trans h3 h2; rw [hky] at h4; cases h4
        · have : j = (lo + hi) / 2 := by omega
          subst this
          rw [hy] at hz
          cases hz
          exact hky, hhi⟩ (by simp only; omega)
    · -- less
      -- region 4 (map.go:136)
      refine Go'.region [(0, 0), (1, 0), (2, 0), (3, 0), (4, 1), (5, 0), (6, 0), (7, 0), (8, 1), (9, 0), (10, 0)] rfl ?_
      refine O.mv rfl rfl rfl rfl rfl ?_
      refine O.mv rfl rfl rfl rfl rfl ?_
      refine O.nc rfl rfl rfl rfl rfl ?_
      refine O.fa0 (off := 2) rfl rfl rfl rfl ⟨_, _, _, Go.Proofs.Try.underlying205, rfl, rfl, Go.Proofs.Try.sizeOf202⟩ rfl ?_
      refine O.ld rfl rfl rfl (fun w => ⟨Go.Proofs.Try.isAgg202 w, Go.Proofs.Try.sizeOf202 w⟩) rfl hn.c2 ?_
      refine O.mv rfl rfl rfl rfl rfl ?_
      refine O.ix (j := (lo + hi) / 2) rfl rfl rfl rfl Go.Proofs.Try.underlying202 Go.Proofs.Try.sizeOf138 rfl rfl (by omega) (by omega) ?_
      refine O.faz rfl rfl rfl rfl ⟨_, _, _, Go.Proofs.Try.underlying138, rfl, rfl, Go.Proofs.Try.sizeOf3⟩ rfl ?_
      refine O.ld rfl rfl rfl (fun w => ⟨Go.Proofs.Try.isAgg3 w, Go.Proofs.Try.sizeOf3 w⟩) rfl hc ?_
      refine O.cmp rfl rfl rfl rfl rfl rfl (lssT (of_decide_eq_true hky)) ?_
      refine O.not rfl rfl rfl rfl rfl ?_
      refine Pl.fin [(1, _), (2, _), (8, _), (9, _), (10, _), (18, _), (33, _)] ⟨rfl, rfl, rfl, rfl, rfl, rfl, rfl, trivial⟩ ?_
      refine Go'.condF rfl ?_
      -- region 6 (map.go:139)
      refine Go'.region [(0, 0), (1, 0)] rfl ?_
      refine O.mv rfl rfl rfl rfl rfl ?_
      refine O.asg rfl rfl rfl rfl rfl ?_
      refine Pl.fin [(1, _), (2, _), (8, _), (9, _), (10, _), (18, _), (33, _)] ⟨rfl, rfl, rfl, rfl, rfl, rfl, rfl, trivial⟩ ?_
      refine Go'.inBlock ?_
      refine Go'.keep [(1, _), (2, _), (8, _), (9, _)] ⟨rfl, rfl, rfl, rfl, trivial⟩ ?_
      refine Go'.inLoop ?_
      exact ih (lo, (lo + hi) / 2) H ⟨rfl, by simp only; omega, by simp only; omega, hlo, fun j z hz hj => by
        simp only at hj
        have hjl := (List.getElem?_eq_some_iff.1 hz).1
        rcases Nat.lt_or_ge ((lo + hi) / 2) j with h | h
        · have h2 := List.pairwise_iff_getElem.1 hs ((lo + hi) / 2) j (by omega) hjl h
          rw [(List.getElem?_eq_some_iff.1 hz).2, (List.getElem?_eq_some_iff.1 hy).2] at h2
          exact OI.trans hky h2
        · have : j = (lo + hi) / 2 := by omega
          subst this
          rw [hy] at hz
          cases hz
          exact hky⟩ (by simp only; omega)
  · -- the end
    obtain rfl : hi = lo := by omega
    -- region 2 (map.go:134)
    refine Go'.region [(0, 0), (1, 0), (2, 0)] rfl ?_
    refine O.mv rfl rfl rfl rfl rfl ?_
    refine O.mv rfl rfl rfl rfl rfl ?_
    refine O.cmp rfl rfl rfl rfl rfl rfl (lssF (by omega)) ?_
    refine Pl.fin [(1, _), (2, _), (8, _), (9, _), (18, _)] ⟨rfl, rfl, rfl, rfl, rfl, trivial⟩ ?_
    refine Go'.condF rfl ?_
    refine Go'.exit rfl ?_
    refine Go'.seq ?_
    refine Go'.seq ?_
    by_cases h0 : 0 < hi
    · obtain ⟨y, hy⟩ : ∃ y, X[hi - 1]? = some y := ⟨X[hi - 1]'(by omega), List.getElem?_eq_getElem (by omega)⟩
      have hc : cl H g.ib (g.io + (hi - 1) * 1 + 0) = some (.int .i64 y) := Rd.item' EI hn.sl.rd hy (j := 0) rfl
      have hyk := hlo (hi - 1) y hy (by omega)
      cases hky : OI.lt y x
      · skip
        -- region 7 (map.go:142)
        refine Go'.region [(0, 0), (1, 0), (2, 0), (3, 0), (4, 0), (5, 0), (6, 1), (7, 0), (8, 0), (9, 0), (10, 0), (11, 1), (12, 0), (13, 0), (14, 0), (15, 0)] rfl ?_
        refine O.mv rfl rfl rfl rfl rfl ?_
        refine O.cmp rfl rfl rfl rfl rfl rfl (gtrT (by omega)) ?_
        refine O.mv rfl rfl rfl rfl rfl ?_
        refine O.mv rfl rfl rfl rfl rfl ?_
        refine O.nc rfl rfl rfl rfl rfl ?_
        refine O.fa0 (off := 2) rfl rfl rfl rfl ⟨_, _, _, Go.Proofs.Try.underlying205, rfl, rfl, Go.Proofs.Try.sizeOf202⟩ rfl ?_
        refine O.ld rfl rfl rfl (fun w => ⟨Go.Proofs.Try.isAgg202 w, Go.Proofs.Try.sizeOf202 w⟩) rfl hn.c2 ?_
        refine O.mv rfl rfl rfl rfl rfl ?_
        refine O.sub (((hi - 1 : Nat) : Int)) rfl rfl rfl rfl rfl rfl (by omega) (by omega) ?_
        refine O.ix (j := hi - 1) rfl rfl rfl rfl Go.Proofs.Try.underlying202 Go.Proofs.Try.sizeOf138 rfl rfl (by omega) (by omega) ?_
        refine O.faz rfl rfl rfl rfl ⟨_, _, _, Go.Proofs.Try.underlying138, rfl, rfl, Go.Proofs.Try.sizeOf3⟩ rfl ?_
        refine O.ld rfl rfl rfl (fun w => ⟨Go.Proofs.Try.isAgg3 w, Go.Proofs.Try.sizeOf3 w⟩) rfl hc ?_
        refine O.mv rfl rfl rfl rfl rfl ?_
        refine O.cmp rfl rfl rfl rfl rfl rfl (lssF (Int.not_lt.1 (of_decide_eq_false hky))) ?_
        refine O.not rfl rfl rfl rfl rfl ?_
        refine O.pick rfl rfl rfl rfl rfl rfl ?_
        refine Pl.fin [(8, _), (52, _)] ⟨rfl, rfl, trivial⟩ ?_
        refine Go'.condT rfl ?_
        refine Go'.seq ?_
        -- region 8 (map.go:143)
        refine Go'.region [(0, 0), (1, 0), (2, 0), (3, 0)] rfl ?_
        refine O.mv rfl rfl rfl rfl rfl ?_
        refine O.sub (((hi - 1 : Nat) : Int)) rfl rfl rfl rfl rfl rfl (by omega) (by omega) ?_
        refine O.asg rfl rfl rfl rfl rfl ?_
        refine O.asg rfl rfl rfl rfl rfl ?_
        refine Pl.fin [(6, _), (7, _), (8, _)] ⟨rfl, rfl, rfl, trivial⟩ ?_
        refine Go'.ret (vs := [_, _]) Go.Proofs.Try.func168 Go.Proofs.Try.results168 ⟨rfl, rfl, trivial⟩ ?_
        obtain ⟨e1, e2⟩ := Pl.search_found OI (x := x) hs hy hky hyk
        rw [e1, e2]; exact ⟨rfl, rfl⟩
      · skip
        -- region 7 (map.go:142)
        refine Go'.region [(0, 0), (1, 0), (2, 0), (3, 0), (4, 0), (5, 0), (6, 1), (7, 0), (8, 0), (9, 0), (10, 0), (11, 1), (12, 0), (13, 0), (14, 0), (15, 0)] rfl ?_
        refine O.mv rfl rfl rfl rfl rfl ?_
        refine O.cmp rfl rfl rfl rfl rfl rfl (gtrT (by omega)) ?_
        refine O.mv rfl rfl rfl rfl rfl ?_
        refine O.mv rfl rfl rfl rfl rfl ?_
        refine O.nc rfl rfl rfl rfl rfl ?_
        refine O.fa0 (off := 2) rfl rfl rfl rfl ⟨_, _, _, Go.Proofs.Try.underlying205, rfl, rfl, Go.Proofs.Try.sizeOf202⟩ rfl ?_
        refine O.ld rfl rfl rfl (fun w => ⟨Go.Proofs.Try.isAgg202 w, Go.Proofs.Try.sizeOf202 w⟩) rfl hn.c2 ?_
        refine O.mv rfl rfl rfl rfl rfl ?_
        refine O.sub (((hi - 1 : Nat) : Int)) rfl rfl rfl rfl rfl rfl (by omega) (by omega) ?_
        refine O.ix (j := hi - 1) rfl rfl rfl rfl Go.Proofs.Try.underlying202 Go.Proofs.Try.sizeOf138 rfl rfl (by omega) (by omega) ?_
        refine O.faz rfl rfl rfl rfl ⟨_, _, _, Go.Proofs.Try.underlying138, rfl, rfl, Go.Proofs.Try.sizeOf3⟩ rfl ?_
        refine O.ld rfl rfl rfl (fun w => ⟨Go.Proofs.Try.isAgg3 w, Go.Proofs.Try.sizeOf3 w⟩) rfl hc ?_
        refine O.mv rfl rfl rfl rfl rfl ?_
        refine O.cmp rfl rfl rfl rfl rfl rfl (lssT (of_decide_eq_true hky)) ?_
        refine O.not rfl rfl rfl rfl rfl ?_
        refine O.pick rfl rfl rfl rfl rfl rfl ?_
        refine Pl.fin [(8, _), (52, _)] ⟨rfl, rfl, trivial⟩ ?_
        refine Go'.condF rfl ?_
        refine Go'.skip ?_
        refine Go'.seq ?_
        -- region 9 (map.go:145)
        refine Go'.region [(0, 0), (1, 0), (2, 0)] rfl ?_
        refine O.mv rfl rfl rfl rfl rfl ?_
        refine O.asg rfl rfl rfl rfl rfl ?_
        refine O.asg rfl rfl rfl rfl rfl ?_
        refine Pl.fin [(6, _), (7, _)] ⟨rfl, rfl, trivial⟩ ?_
        refine Go'.ret (vs := [_, _]) Go.Proofs.Try.func168 Go.Proofs.Try.results168 ⟨rfl, rfl, trivial⟩ ?_
        obtain ⟨e1, e2⟩ := Pl.search_none OI (x := x) hs hhl (fun z _ hz => by rw [hy] at hz; cases hz; exact hky) (fun z hz => hhi hi z hz (Nat.le_refl _))
        rw [e1, e2]; exact ⟨rfl, rfl⟩
    · obtain rfl : hi = 0 := by omega
      -- region 7 (map.go:142)
      refine Go'.region [(0, 0), (1, 0), (2, 0), (3, 0), (4, 0), (5, 0), (6, 1), (7, 0), (8, 0), (9, 0), (10, 0), (11, 1), (12, 0), (13, 0), (14, 0), (15, 0)] rfl ?_
      refine O.mv rfl rfl rfl rfl rfl ?_
      refine O.cmp rfl rfl rfl rfl rfl rfl (gtrF (by omega)) ?_
      refine O.mv rfl rfl rfl rfl rfl ?_
      refine Pl.pass rfl rfl rfl rfl ?_
      refine Pl.pass rfl rfl rfl rfl ?_
      refine Pl.pass rfl rfl rfl rfl ?_
      refine Pl.pass rfl rfl rfl rfl ?_
      refine Pl.pass rfl rfl rfl rfl ?_
      refine Pl.pass rfl rfl rfl rfl ?_
      refine Pl.pass rfl rfl rfl rfl ?_
      refine Pl.pass rfl rfl rfl rfl ?_
      refine Pl.pass rfl rfl rfl rfl ?_
      refine Pl.pass rfl rfl rfl rfl ?_
      refine Pl.pass rfl rfl rfl rfl ?_
      refine Pl.pass rfl rfl rfl rfl ?_
      refine O.pick rfl rfl rfl rfl rfl rfl ?_
      refine Pl.fin [(8, _), (52, _)] ⟨rfl, rfl, trivial⟩ ?_
      refine Go'.condF rfl ?_
      refine Go'.skip ?_
      refine Go'.seq ?_
      -- region 9 (map.go:145)
      refine Go'.region [(0, 0), (1, 0), (2, 0)] rfl ?_
      refine O.mv rfl rfl rfl rfl rfl ?_
      refine O.asg rfl rfl rfl rfl rfl ?_
      refine O.asg rfl rfl rfl rfl rfl ?_
      refine Pl.fin [(6, _), (7, _)] ⟨rfl, rfl, trivial⟩ ?_
      refine Go'.ret (vs := [_, _]) Go.Proofs.Try.func168 Go.Proofs.Try.results168 ⟨rfl, rfl, trivial⟩ ?_
      obtain ⟨e1, e2⟩ := Pl.search_none OI (x := x) hs hhl (fun z h _ => absurd rfl h) (fun z hz => hhi 0 z hz (Nat.le_refl _))
      rw [e1, e2]; exact ⟨rfl, rfl⟩

end Go.Bt.FZ
namespace Go.Bt.FZ
open Go Go.Proofs
set_option maxRecDepth 20000
set_option maxHeartbeats 4000000
set_option linter.unusedVariables false

def PV : Option Int → Value := fun _ => .agg #[]
structure NPre (H : Mem) (tr : Nat) (P : Ps) (h : Nat) (t : Gt EI h) (bp op : Nat) : Prop where
  tc : TrC H tr P.iso P.mx P.mn
  g : Gt.Good H P h t
  c : cl H bp op = some (ptr (Gt.p h t))
  nt : ∀ o, ¬ Gt.af h t tr o
  srt : Pl.Srt OI (Gt.L h t)
  len : (Gt.L h t).length < 4611686018427387904
def SetQ (H : Mem) (P : Ps) (h : Nat) (t : Gt EI h) (x : Int) (v : Value) (H' : Mem) : Prop :=
  (∃ t', v = .tuple #[PV (Pl.got OI x (Gt.L h t)), .bool (Pl.fnd OI x (Gt.L h t)), .bool false] ∧ SetT OI H H' P h t t' x) ∨
  (v = .tuple #[PV none, .bool false, .bool true] ∧ Fr nowhere H H' ∧ (Gt.X h t).length = P.mx ∧ ¬ Gt.NF OI P x h t)
structure PsOk (P : Ps) : Prop where
  hm : P.mx = 2 * P.mn + 1
  h1 : 1 ≤ P.mn
  hx : P.mx ≤ 255

theorem split_spec {B : World} {H : Mem} {tr : Nat} {P : Ps} (hP : PsOk P) : ∀ {h : Nat} {t : Gt EI h}, TrC H tr P.iso P.mx P.mn → Gt.Good H P h t → (Gt.X h t).length = P.mx → (∀ o, ¬ Gt.af h t tr o) → (Gt.L h t).length < 4611686018427387904 →
    Fn Try.prog B 162 [.pointer (some ⟨tr, 0, none⟩), .pointer (some ⟨Gt.p h t, 0, none⟩)] H (fun v H' => ∃ t1 t2 med, v = .tuple #[ptr (Gt.p h t2), .agg (EI.enc med).toArray] ∧ SplT H H' P h t t1 t2 med)
  | 0, (g, X), ht, hg, hX, hoff, hb => by
    have hN : NodeM EI H g X (.pointer none) := hg.1
    have hX' : X.length = P.mx := hX
    have hmm := hP.hm
    obtain ⟨n1, n2⟩ := off_node (E := EI) (g := g) hN.ic hoff
    obtain ⟨med, hmed⟩ : ∃ med, X[P.mn]? = some med := ⟨X[P.mn], List.getElem?_eq_getElem (by omega)⟩
    refine (splitLeaf_spec ht hN hX' hmm hP.h1 hP.hx hmed n1 n2).mono ?_
    rintro v H' ⟨q, rfl, hq, hql, hf, m1, m2⟩
    obtain ⟨t1, t2, e, hs⟩ := split_leaf hg hX' hmm hP.h1 hmed hq hql hf m1 m2
    exact ⟨t1, t2, med, by rw [e], hs⟩
  | h + 1, (g, X, K), ht, hg, hX, hoff, hb => by
    have hN : NodeM EI H g X (.pointer (some ⟨g.cb, 0, none⟩)) := hg.1
    have hK : KidM H g (Gt.ps h K) := hg.2.1
    have hX' : X.length = P.mx := hX
    have hmm := hP.hm
    have hh1 := hP.h1
    have hKl : K.length = X.length + 1 := hg.2.2.2.2.2.1
    obtain ⟨n1, n2⟩ := off_node (E := EI) (g := g) hN.ic (fun o ho => hoff o (.inl ho))
    obtain ⟨n3, n4⟩ := off_kids (g := g) hK.kc (fun o ho => hoff o (.inr (.inl ho)))
    obtain ⟨med, hmed⟩ : ∃ med, X[P.mn]? = some med := ⟨X[P.mn], List.getElem?_eq_getElem (by omega)⟩
    let cn : Nat → Nat := fun q => match cl H q 1 with
      | some (.int _ z) => z.toNat
      | _ => 0
    have hcn : ∀ k ∈ K, cl H (Gt.p h k) 1 = some (.int .i64 (cn (Gt.p h k) : Int)) ∧ cn (Gt.p h k) = (Gt.L h k).length := fun k hk => by
      obtain ⟨hkg, _⟩ := hg.2.2.2.2.2.2.1 k hk
      obtain ⟨kp, hkn⟩ := hkg.node
      have e := hkn.c1
      have e2 : cn (Gt.p h k) = (Gt.g h k).cnt := by
        show (match cl H (Gt.g h k).p 1 with
          | some (.int _ z) => z.toNat
          | _ => 0) = _
        rw [e]
        exact Int.toNat_natCast _
      rw [e2]
      exact ⟨e, hkg.cnt⟩
    have hsum : ∀ l : List (Gt EI h), (∀ k ∈ l, k ∈ K) → ((Gt.ps h l).map cn).sum = ((l.map (Gt.L h)).map List.length).sum := fun l hl => by
      congr 1
      unfold Gt.ps
      rw [List.map_map, List.map_map]
      exact List.map_congr_left fun k hk => (hcn k (hl k hk)).2
    have hlen : (Pl.inter X (K.map (Gt.L h))).length = X.length + ((K.map (Gt.L h)).map List.length).sum := Pl.inter_length _ _ (by rw [List.length_map]; exact hKl)
    have hb' : (Pl.inter X (K.map (Gt.L h))).length < 4611686018427387904 := hb
    refine (splitInner_spec cn ht hN hK hX' (by rw [Gt.ps, List.length_map]; omega) hmm hP.h1 hP.hx hmed n1 n2 n3 n4 (fun q hq => ?_) (by rw [hsum K (fun _ h => h)]; omega)).mono ?_
    · obtain ⟨k, hk, rfl⟩ := List.mem_map.1 hq
      obtain ⟨hkg, _, hkd⟩ := hg.2.2.2.2.2.2.1 k hk
      obtain ⟨kp, hkn⟩ := hkg.node
      have hp0 : ∀ o, o < 4 → (¬ ncl EI g (Gt.p h k) o ∧ ¬ kcl g (Gt.p h k) o) := fun o ho => hkd _ _ (Gt.af_node (.inl ⟨rfl, ho⟩))
      exact ⟨(hcn k hk).1, fun e => (hp0 0 (by omega)).1 (.inl ⟨e, by omega⟩), fun e => (hp0 1 (by omega)).1 (.inr e), fun e => (hp0 0 (by omega)).2 (.inl ⟨e, by omega⟩)⟩
    · rintro v H' ⟨q, rfl, hq, hql, hf, m1, k1, m2, k2⟩
      have s1 := hsum (K.take (P.mn + 1)) (fun _ h => List.mem_of_mem_take h)
      have s2 := hsum (K.drop (P.mn + 1)) (fun _ h => List.mem_of_mem_drop h)
      rw [show Gt.ps h (K.take (P.mn + 1)) = (Gt.ps h K).take (P.mn + 1) from List.map_take, List.map_take (f := Gt.L h)] at s1
      rw [show Gt.ps h (K.drop (P.mn + 1)) = (Gt.ps h K).drop (P.mn + 1) from List.map_drop, List.map_drop (f := Gt.L h)] at s2
      obtain ⟨t1, t2, e, hs⟩ := split_inner hg hX' hmm hP.h1 hmed hq hql hf (by rw [s1]) (by rw [s2]) m1 k1 m2 k2
      exact ⟨t1, t2, med, by rw [e], hs⟩
end Go.Bt.FZ
