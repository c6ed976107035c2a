/- Contracts of functions of the program, proved by walking through their code. Conditions: those that each theorem names. -/
import Derived.Test.YtknkmaigdgfhlaaProg
import Derived.Test.YtknkmaigdgfhlaaZr
namespace Go.Bt.FZ
open Go Go.Proofs
set_option maxRecDepth 20000
set_option maxHeartbeats 4000000

set_option maxRecDepth 100000 in
theorem ty : tyOk Try.prog = true := by kernel_rfl
def EI : Elt Int := { enc := fun x => [.int .i64 x], s := 1, len := fun _ => rfl, one := fun _ => rfl, pos := by decide }
def OI : Pl.Swo Int := { lt := fun x y => decide (x < y), irr := fun x => by simp, ntr := fun h k => by simp at *; omega, asy := fun h => by simp at *; omega }


/-- What stays of a map: its number, its bounds, that its values have no methods. -/
structure TrC (H : Mem) (tr id mx mn : Nat) : Prop where
  iso : cl H tr 0 = some (.int .u64 (id : Int))
  emp : Rd H tr 4 [.int .i64 0]
  mn' : cl H tr 5 = some (.int .i64 (mn : Int))
  mx' : cl H tr 6 = some (.int .i64 (mx : Int))
  cv : cl H tr 7 = some (.bool false)
  icv : cl H tr 8 = some (.bool false)
  wr : Wr H tr 0 9
theorem TrC.fr {H H' : Mem} {Z : Nat → Nat → Prop} {tr id mx mn : Nat} (h : TrC H tr id mx mn) (hf : Fr Z H H') (hz : ∀ o, o ≠ 2 → o ≠ 3 → ¬ Z tr o) : TrC H' tr id mx mn where
  iso := hf.keep h.iso (hz _ (by decide) (by decide))
  emp := hf.rd h.emp fun i hi => hz _ (by simp at hi; omega) (by simp at hi; omega)
  mn' := hf.keep h.mn' (hz _ (by decide) (by decide))
  mx' := hf.keep h.mx' (hz _ (by decide) (by decide))
  cv := hf.keep h.cv (hz _ (by decide) (by decide))
  icv := hf.keep h.icv (hz _ (by decide) (by decide))
  wr := hf.wr h.wr

theorem leaf_spec {B : World} {H : Mem} {p : Nat} {a : Option Addr} (h3 : cl H p 3 = some (.pointer a)) :
    Fn Try.prog B 152 [.pointer (some ⟨p, 0, none⟩)] H (fun v H' => v = .bool a.isNone ∧ H' = H) := by
  refine fn_of Go.Proofs.Try.func152 rfl Go.Proofs.Try.ntmps152 ?_
  refine (show Go' _ _ _ _ 8 [(0, _)] [.code _] _ from ?_)
  refine Go'.seq ?_
  -- region 0 (map.go:128)
  refine Go'.region [(0, 0)] rfl ?_
  refine O.asg rfl rfl rfl rfl rfl ?_
  refine Pl.fin [(0, _), (2, _)] ⟨rfl, rfl, trivial⟩ ?_
  refine Go'.seq ?_
  -- region 1 (map.go:129)
  refine Go'.region [(0, 0), (1, 0), (2, 0), (3, 1), (4, 0), (5, 0)] rfl ?_
  refine O.mv rfl rfl rfl rfl rfl ?_
  refine O.nc rfl rfl rfl rfl rfl ?_
  refine O.fa0 (off := 3) rfl rfl rfl rfl ⟨_, _, _, Go.Proofs.Try.underlying205, rfl, rfl, Go.Proofs.Try.sizeOf203⟩ rfl ?_
  refine O.ld rfl rfl rfl (fun w => ⟨Go.Proofs.Try.isAgg203 w, Go.Proofs.Try.sizeOf203 w⟩) rfl h3 ?_
  refine O.isNil rfl rfl rfl rfl Go.Proofs.Try.underlying203 rfl rfl ?_
  refine O.asg rfl rfl rfl rfl rfl ?_
  refine Pl.fin [(2, _)] ⟨rfl, trivial⟩ ?_
  refine Go'.ret (vs := [_]) Go.Proofs.Try.func152 Go.Proofs.Try.results152 ⟨rfl, trivial⟩ ?_
  exact ⟨rfl, rfl⟩

theorem deg_spec {B : World} {H : Mem} {m : Nat} (h : 2 ≤ m ∧ m ≤ 128) :
    Fn Try.prog B 157 [.int .i64 m] H (fun v H' => v = .tuple #[.int .i64 ((m - 1 : Nat) : Int), .int .i64 ((2 * m - 1 : Nat) : Int)] ∧ H' = H) := by
  refine fn_of Go.Proofs.Try.func157 rfl Go.Proofs.Try.ntmps157 ?_
  refine (show Go' _ _ _ _ 15 [(0, _)] [.code _] _ from ?_)
  refine Go'.seq ?_
  -- region 0 (map.go:20)
  refine Go'.region [(0, 0), (1, 0)] rfl ?_
  refine O.asg rfl rfl rfl rfl rfl ?_
  refine O.asg rfl rfl rfl rfl rfl ?_
  refine Pl.fin [(0, _), (2, _), (3, _)] ⟨rfl, rfl, rfl, trivial⟩ ?_
  refine Go'.seq ?_
  refine Go'.seq ?_
  -- region 1 (map.go:21)
  refine Go'.region [(0, 0), (1, 0)] rfl ?_
  refine O.mv rfl rfl rfl rfl rfl ?_
  refine O.cmp rfl rfl rfl rfl rfl rfl (leqF (by omega)) ?_
  refine Pl.fin [(0, _), (2, _), (3, _), (5, _)] ⟨rfl, rfl, rfl, rfl, trivial⟩ ?_
  refine Go'.condF rfl ?_
  refine Go'.seq ?_
  -- region 3 (map.go:23)
  refine Go'.region [(0, 0), (1, 0)] rfl ?_
  refine O.mv rfl rfl rfl rfl rfl ?_
  refine O.cmp rfl rfl rfl rfl rfl rfl (eqlF (by omega)) ?_
  refine Pl.fin [(0, _), (2, _), (3, _), (7, _)] ⟨rfl, rfl, rfl, rfl, trivial⟩ ?_
  refine Go'.condF rfl ?_
  refine Go'.skip ?_
  refine Go'.seq ?_
  -- region 5 (map.go:26)
  refine Go'.region [(0, 0), (1, 0), (2, 0), (3, 0)] rfl ?_
  refine O.mv rfl rfl rfl rfl rfl ?_
  refine O.mul (((2 * m : Nat) : Int)) rfl rfl rfl rfl rfl rfl (by omega) (by omega) ?_
  refine O.sub (((2 * m - 1 : Nat) : Int)) rfl rfl rfl rfl rfl rfl (by omega) (by omega) ?_
  refine O.asg rfl rfl rfl rfl rfl ?_
  refine Pl.fin [(2, _), (3, _)] ⟨rfl, rfl, trivial⟩ ?_
  refine Go'.seq ?_
  -- region 6 (map.go:27)
  refine Go'.region [(0, 0), (1, 0), (2, 0)] rfl ?_
  refine O.mv rfl rfl rfl rfl rfl ?_
  refine O.quo (((m - 1 : Nat) : Int)) rfl rfl rfl rfl rfl rfl (by decide) (by rw [Int.tdiv_eq_ediv_of_nonneg (by omega)]; omega) (by omega) ?_
  refine O.asg rfl rfl rfl rfl rfl ?_
  refine Pl.fin [(2, _), (3, _)] ⟨rfl, rfl, trivial⟩ ?_
  refine Go'.seq ?_
  -- region 7 (map.go:28)
  refine Go'.region [(0, 0), (1, 0), (2, 0), (3, 0)] rfl ?_
  refine O.mv rfl rfl rfl rfl rfl ?_
  refine O.mv rfl rfl rfl rfl rfl ?_
  refine O.asg rfl rfl rfl rfl rfl ?_
  refine O.asg rfl rfl rfl rfl rfl ?_
  refine Pl.fin [(2, _), (3, _)] ⟨rfl, rfl, trivial⟩ ?_
  refine Go'.ret (vs := [_, _]) Go.Proofs.Try.func157 Go.Proofs.Try.results157 ⟨rfl, rfl, trivial⟩ ?_
  exact ⟨rfl, rfl⟩

theorem deg0_spec {B : World} {H : Mem} : Fn Try.prog B 157 [.int .i64 0] H (fun v H' => v = .tuple #[.int .i64 ((31 : Nat) : Int), .int .i64 ((63 : Nat) : Int)] ∧ H' = H) := by
  refine fn_of Go.Proofs.Try.func157 rfl Go.Proofs.Try.ntmps157 ?_
  refine (show Go' _ _ _ _ 15 [(0, _)] [.code _] _ from ?_)
  refine Go'.seq ?_
  -- region 0 (map.go:20)
  refine Go'.region [(0, 0), (1, 0)] rfl ?_
  refine O.asg rfl rfl rfl rfl rfl ?_
  refine O.asg rfl rfl rfl rfl rfl ?_
  refine Pl.fin [(0, _), (2, _), (3, _)] ⟨rfl, rfl, rfl, trivial⟩ ?_
  refine Go'.seq ?_
  refine Go'.seq ?_
  -- region 1 (map.go:21)
  refine Go'.region [(0, 0), (1, 0)] rfl ?_
  refine O.mv rfl rfl rfl rfl rfl ?_
  refine O.cmp rfl rfl rfl rfl rfl rfl (leqT (by omega)) ?_
  refine Pl.fin [(0, _), (2, _), (3, _), (5, _)] ⟨rfl, rfl, rfl, rfl, trivial⟩ ?_
  refine Go'.condT rfl ?_
  -- region 2 (map.go:22)
  refine Go'.region [(0, 0)] rfl ?_
  refine O.asg rfl rfl rfl rfl rfl ?_
  refine Pl.fin [(0, _), (2, _), (3, _)] ⟨rfl, rfl, rfl, trivial⟩ ?_
  refine Go'.seq ?_
  -- region 5 (map.go:26)
  refine Go'.region [(0, 0), (1, 0), (2, 0), (3, 0)] rfl ?_
  refine O.mv rfl rfl rfl rfl rfl ?_
  refine O.mul (((64 : Nat) : Int)) rfl rfl rfl rfl rfl rfl (by omega) (by omega) ?_
  refine O.sub (((63 : Nat) : Int)) rfl rfl rfl rfl rfl rfl (by omega) (by omega) ?_
  refine O.asg rfl rfl rfl rfl rfl ?_
  refine Pl.fin [(2, _), (3, _)] ⟨rfl, rfl, trivial⟩ ?_
  refine Go'.seq ?_
  -- region 6 (map.go:27)
  refine Go'.region [(0, 0), (1, 0), (2, 0)] rfl ?_
  refine O.mv rfl rfl rfl rfl rfl ?_
  refine O.quo (((31 : Nat) : Int)) rfl rfl rfl rfl rfl rfl (by decide) rfl (by omega) ?_
  refine O.asg rfl rfl rfl rfl rfl ?_
  refine Pl.fin [(2, _), (3, _)] ⟨rfl, rfl, trivial⟩ ?_
  refine Go'.seq ?_
  -- region 7 (map.go:28)
  refine Go'.region [(0, 0), (1, 0), (2, 0), (3, 0)] rfl ?_
  refine O.mv rfl rfl rfl rfl rfl ?_
  refine O.mv rfl rfl rfl rfl rfl ?_
  refine O.asg rfl rfl rfl rfl rfl ?_
  refine O.asg rfl rfl rfl rfl rfl ?_
  refine Pl.fin [(2, _), (3, _)] ⟨rfl, rfl, trivial⟩ ?_
  refine Go'.ret (vs := [_, _]) Go.Proofs.Try.func157 Go.Proofs.Try.results157 ⟨rfl, rfl, trivial⟩ ?_
  exact ⟨rfl, rfl⟩

theorem isoLoad_spec {B : World} {H : Mem} {tr bp op p id : Nat} (mt : Bool) (hp : cl H bp op = some (ptr p)) (h0 : cl H p 0 = some (.int .u64 (id : Int))) (ht : cl H tr 0 = some (.int .u64 (id : Int))) :
    Fn Try.prog B 151 [.pointer (some ⟨tr, 0, none⟩), .pointer (some ⟨bp, op, none⟩), .bool mt] H (fun v H' => v = ptr p ∧ H' = H) := by
  unfold ptr at hp
  cases mt
  · skip
    refine fn_of Go.Proofs.Try.func151 rfl Go.Proofs.Try.ntmps151 ?_
    refine (show Go' _ _ _ _ 31 [(0, _), (1, _), (2, _)] [.code _] _ from ?_)
    refine Go'.seq ?_
    -- region 0 (map.go:96)
    refine Go'.region [(0, 0)] rfl ?_
    refine O.asg rfl rfl rfl rfl rfl ?_
    refine Pl.fin [(0, _), (1, _), (2, _), (6, _)] ⟨rfl, rfl, rfl, rfl, trivial⟩ ?_
    refine Go'.seq ?_
    refine Go'.seq ?_
    -- region 1 (map.go:97)
    refine Go'.draw (fun _ => True) [(0, 0), (1, 0), (2, 0), (3, 0), (4, 1), (5, 0), (6, 0), (7, 1), (8, 0), (9, 0), (10, 0), (11, 1), (12, 0), (13, 0)] (by kernel_rfl) (by kernel_rfl) (trivial) ?_
    refine O.mv rfl rfl rfl rfl rfl ?_
    refine O.mv rfl rfl rfl rfl rfl ?_
    refine Pl.pass rfl rfl rfl rfl ?_
    refine Pl.pass rfl rfl rfl rfl ?_
    refine Pl.pass rfl rfl rfl rfl ?_
    refine Pl.pass rfl rfl rfl rfl ?_
    refine Pl.pass rfl rfl rfl rfl ?_
    refine Pl.pass rfl rfl rfl rfl ?_
    refine Pl.pass rfl rfl rfl rfl ?_
    refine Pl.pass rfl rfl rfl rfl ?_
    refine Pl.pass rfl rfl rfl rfl ?_
    refine Pl.pass rfl rfl rfl rfl ?_
    refine Pl.pass rfl rfl rfl rfl ?_
    refine O.pick rfl rfl rfl rfl rfl rfl ?_
    refine Pl.fin [(0, _), (1, _), (6, _), (20, _)] ⟨rfl, rfl, rfl, rfl, trivial⟩ ?_
    refine Go'.condF rfl ?_
    refine Go'.skip ?_
    refine Go'.seq ?_
    -- region 3 (map.go:100)
    refine Go'.region [(0, 0), (1, 0), (2, 1), (3, 0)] rfl ?_
    refine O.mv rfl rfl rfl rfl rfl ?_
    refine O.nc rfl rfl rfl rfl rfl ?_
    refine O.ld rfl rfl rfl (fun w => ⟨Go.Proofs.Try.isAgg135 w, Go.Proofs.Try.sizeOf135 w⟩) rfl hp ?_
    refine O.asg rfl rfl rfl rfl rfl ?_
    refine Pl.fin [(6, _)] ⟨rfl, trivial⟩ ?_
    refine Go'.ret (vs := [_]) Go.Proofs.Try.func151 Go.Proofs.Try.results151 ⟨rfl, trivial⟩ ?_
    exact ⟨rfl, rfl⟩
  · skip
    refine fn_of Go.Proofs.Try.func151 rfl Go.Proofs.Try.ntmps151 ?_
    refine (show Go' _ _ _ _ 31 [(0, _), (1, _), (2, _)] [.code _] _ from ?_)
    refine Go'.seq ?_
    -- region 0 (map.go:96)
    refine Go'.region [(0, 0)] rfl ?_
    refine O.asg rfl rfl rfl rfl rfl ?_
    refine Pl.fin [(0, _), (1, _), (2, _), (6, _)] ⟨rfl, rfl, rfl, rfl, trivial⟩ ?_
    refine Go'.seq ?_
    refine Go'.seq ?_
    -- region 1 (map.go:97)
    refine Go'.draw (fun _ => True) [(0, 0), (1, 0), (2, 0), (3, 0), (4, 1), (5, 0), (6, 0), (7, 1), (8, 0), (9, 0), (10, 0), (11, 1), (12, 0), (13, 0)] (by kernel_rfl) (by kernel_rfl) (trivial) ?_
    refine O.mv rfl rfl rfl rfl rfl ?_
    refine O.mv rfl rfl rfl rfl rfl ?_
    refine O.mv rfl rfl rfl rfl rfl ?_
    refine O.nc rfl rfl rfl rfl rfl ?_
    refine O.ld rfl rfl rfl (fun w => ⟨Go.Proofs.Try.isAgg135 w, Go.Proofs.Try.sizeOf135 w⟩) rfl hp ?_
    refine O.nc rfl rfl rfl rfl rfl ?_
    refine O.faz rfl rfl rfl rfl ⟨_, _, _, Go.Proofs.Try.underlying205, rfl, rfl, Go.Proofs.Try.sizeOf133⟩ rfl ?_
    refine O.ld rfl rfl rfl (fun w => ⟨Go.Proofs.Try.isAgg133 w, Go.Proofs.Try.sizeOf133 w⟩) rfl h0 ?_
    refine O.mv rfl rfl rfl rfl rfl ?_
    refine O.nc rfl rfl rfl rfl rfl ?_
    refine O.faz rfl rfl rfl rfl ⟨_, _, _, Go.Proofs.Try.underlying140, rfl, rfl, Go.Proofs.Try.sizeOf133⟩ rfl ?_
    refine O.ld rfl rfl rfl (fun w => ⟨Go.Proofs.Try.isAgg133 w, Go.Proofs.Try.sizeOf133 w⟩) rfl ht ?_
    refine O.cmp rfl rfl rfl rfl rfl rfl (neqF rfl) ?_
    refine O.pick rfl rfl rfl rfl rfl rfl ?_
    refine Pl.fin [(0, _), (1, _), (6, _), (20, _)] ⟨rfl, rfl, rfl, rfl, trivial⟩ ?_
    refine Go'.condF rfl ?_
    refine Go'.skip ?_
    refine Go'.seq ?_
    -- region 3 (map.go:100)
    refine Go'.region [(0, 0), (1, 0), (2, 1), (3, 0)] rfl ?_
    refine O.mv rfl rfl rfl rfl rfl ?_
    refine O.nc rfl rfl rfl rfl rfl ?_
    refine O.ld rfl rfl rfl (fun w => ⟨Go.Proofs.Try.isAgg135 w, Go.Proofs.Try.sizeOf135 w⟩) rfl hp ?_
    refine O.asg rfl rfl rfl rfl rfl ?_
    refine Pl.fin [(6, _)] ⟨rfl, trivial⟩ ?_
    refine Go'.ret (vs := [_]) Go.Proofs.Try.func151 Go.Proofs.Try.results151 ⟨rfl, trivial⟩ ?_
    exact ⟨rfl, rfl⟩

theorem newLeaf_spec {B : World} {H : Mem} {tr id : Nat} (ht : cl H tr 0 = some (.int .u64 (id : Int))) :
    Fn Try.prog B 160 [.pointer (some ⟨tr, 0, none⟩), .bool true] H (fun v H' => v = ptr H.size ∧ H'.size = H.size + 1 ∧ Fr nowhere H H' ∧ cl H' H.size 0 = some (.int .u64 (id : Int)) ∧ cl H' H.size 1 = some (.int .i64 0) ∧
      cl H' H.size 2 = some (.slice none 0 0) ∧ cl H' H.size 3 = some (.pointer none) ∧ Wr H' H.size 0 4) := by
  have htl := cl_lt ht
  refine fn_of Go.Proofs.Try.func160 rfl Go.Proofs.Try.ntmps160 ?_
  refine (show Go' _ _ _ _ 21 [(0, _), (1, _)] [.code _] _ from ?_)
  refine Go'.seq ?_
  -- region 0 (map.go:118)
  refine Go'.region [(0, 0)] rfl ?_
  refine O.asg rfl rfl rfl rfl rfl ?_
  refine Pl.fin [(0, _), (1, _), (4, _)] ⟨rfl, rfl, rfl, trivial⟩ ?_
  refine Go'.seq ?_
  -- region 1 (map.go:119)
  refine Go'.region [(0, 2), (1, 0)] rfl ?_
  refine O.alloc rfl rfl rfl Go.Proofs.Try.zeroValue205 ?_
  intro H1 M1
  refine ⟨trivial, ?_⟩
  have hs1 := M1.size
  replace ht := M1.keep ht
  have g0 : cl H1 H.size 0 = some (.int .u64 0) := (M1.cl 0).trans rfl
  have g1 : cl H1 H.size 1 = some (.int .i64 0) := (M1.cl 1).trans rfl
  have g2 : cl H1 H.size 2 = some (.slice none 0 0) := (M1.cl 2).trans rfl
  have g3 : cl H1 H.size 3 = some (.pointer none) := (M1.cl 3).trans rfl
  have gw : Wr H1 H.size 0 4 := M1.wr 4 (by decide)
  have hf1 := M1.fr nowhere
  refine O.asg rfl rfl rfl rfl rfl ?_
  refine Pl.fin [(0, _), (1, _), (4, _), (5, _)] ⟨rfl, rfl, rfl, rfl, trivial⟩ ?_
  refine Go'.seq ?_
  -- region 2 (map.go:120)
  refine Go'.region [(0, 0), (1, 0), (2, 0), (3, 0), (4, 1), (5, 0), (6, 0), (7, 2)] rfl ?_
  refine O.mv rfl rfl rfl rfl rfl ?_
  refine O.mv rfl rfl rfl rfl rfl ?_
  refine O.nc rfl rfl rfl rfl rfl ?_
  refine O.faz rfl rfl rfl rfl ⟨_, _, _, Go.Proofs.Try.underlying140, rfl, rfl, Go.Proofs.Try.sizeOf133⟩ rfl ?_
  refine O.ld rfl rfl rfl (fun w => ⟨Go.Proofs.Try.isAgg133 w, Go.Proofs.Try.sizeOf133 w⟩) rfl ht ?_
  refine O.nc rfl rfl rfl rfl rfl ?_
  refine O.faz rfl rfl rfl rfl ⟨_, _, _, Go.Proofs.Try.underlying205, rfl, rfl, Go.Proofs.Try.sizeOf133⟩ rfl ?_
  refine O.st rfl rfl Go.Proofs.Try.sizeOf133 rfl rfl rfl rfl rfl (gw.at0 0 1 (by omega)) ?_
  intro H2 W2
  have hs2 := W2.size
  replace g0 := W2.at
  refine ⟨trivial, ?_⟩
  refine Pl.fin [(1, _), (4, _), (5, _)] ⟨rfl, rfl, rfl, trivial⟩ ?_
  refine Go'.seq ?_
  refine Go'.seq ?_
  replace g1 := W2.keep1 g1 (by omega)
  replace g2 := W2.keep1 g2 (by omega)
  replace g3 := W2.keep1 g3 (by omega)
  replace gw := W2.fr.wr gw
  have hf2 : Fr nowhere H H2 := hf1.trans' W2.fr (fun _ _ _ h => h) (fun b o hb h => by simp only [rng] at h; omega)
  -- region 3 (map.go:121)
  refine Go'.region [(0, 0), (1, 0)] rfl ?_
  refine O.mv rfl rfl rfl rfl rfl ?_
  refine O.not rfl rfl rfl rfl rfl ?_
  refine Pl.fin [(4, _), (5, _), (15, _)] ⟨rfl, rfl, rfl, trivial⟩ ?_
  refine Go'.condF rfl ?_
  refine Go'.skip ?_
  refine Go'.seq ?_
  -- region 5 (map.go:124)
  refine Go'.region [(0, 0), (1, 0)] rfl ?_
  refine O.mv rfl rfl rfl rfl rfl ?_
  refine O.asg rfl rfl rfl rfl rfl ?_
  refine Pl.fin [(4, _)] ⟨rfl, trivial⟩ ?_
  refine Go'.ret (vs := [_]) Go.Proofs.Try.func160 Go.Proofs.Try.results160 ⟨rfl, trivial⟩ ?_
  exact ⟨rfl, by omega, hf2, g0, g1, g2, g3, gw⟩

theorem newInner_spec {B : World} {H : Mem} {tr id : Nat} (ht : cl H tr 0 = some (.int .u64 (id : Int))) :
    Fn Try.prog B 160 [.pointer (some ⟨tr, 0, none⟩), .bool false] H (fun v H' => v = ptr H.size ∧ H'.size = H.size + 2 ∧ Fr nowhere H H' ∧ cl H' H.size 0 = some (.int .u64 (id : Int)) ∧ cl H' H.size 1 = some (.int .i64 0) ∧
      cl H' H.size 2 = some (.slice none 0 0) ∧ cl H' H.size 3 = some (ptr (H.size + 1)) ∧ Wr H' H.size 0 4 ∧ cl H' (H.size + 1) 0 = some (.slice none 0 0) ∧ Wr H' (H.size + 1) 0 1) := by
  have htl := cl_lt ht
  refine fn_of Go.Proofs.Try.func160 rfl Go.Proofs.Try.ntmps160 ?_
  refine (show Go' _ _ _ _ 21 [(0, _), (1, _)] [.code _] _ from ?_)
  refine Go'.seq ?_
  -- region 0 (map.go:118)
  refine Go'.region [(0, 0)] rfl ?_
  refine O.asg rfl rfl rfl rfl rfl ?_
  refine Pl.fin [(0, _), (1, _), (4, _)] ⟨rfl, rfl, rfl, trivial⟩ ?_
  refine Go'.seq ?_
  -- region 1 (map.go:119)
  refine Go'.region [(0, 2), (1, 0)] rfl ?_
  refine O.alloc rfl rfl rfl Go.Proofs.Try.zeroValue205 ?_
  intro H1 M1
  refine ⟨trivial, ?_⟩
  have hs1 := M1.size
  replace ht := M1.keep ht
  have g0 : cl H1 H.size 0 = some (.int .u64 0) := (M1.cl 0).trans rfl
  have g1 : cl H1 H.size 1 = some (.int .i64 0) := (M1.cl 1).trans rfl
  have g2 : cl H1 H.size 2 = some (.slice none 0 0) := (M1.cl 2).trans rfl
  have g3 : cl H1 H.size 3 = some (.pointer none) := (M1.cl 3).trans rfl
  have gw : Wr H1 H.size 0 4 := M1.wr 4 (by decide)
  have hf1 := M1.fr nowhere
  refine O.asg rfl rfl rfl rfl rfl ?_
  refine Pl.fin [(0, _), (1, _), (4, _), (5, _)] ⟨rfl, rfl, rfl, rfl, trivial⟩ ?_
  refine Go'.seq ?_
  -- region 2 (map.go:120)
  refine Go'.region [(0, 0), (1, 0), (2, 0), (3, 0), (4, 1), (5, 0), (6, 0), (7, 2)] rfl ?_
  refine O.mv rfl rfl rfl rfl rfl ?_
  refine O.mv rfl rfl rfl rfl rfl ?_
  refine O.nc rfl rfl rfl rfl rfl ?_
  refine O.faz rfl rfl rfl rfl ⟨_, _, _, Go.Proofs.Try.underlying140, rfl, rfl, Go.Proofs.Try.sizeOf133⟩ rfl ?_
  refine O.ld rfl rfl rfl (fun w => ⟨Go.Proofs.Try.isAgg133 w, Go.Proofs.Try.sizeOf133 w⟩) rfl ht ?_
  refine O.nc rfl rfl rfl rfl rfl ?_
  refine O.faz rfl rfl rfl rfl ⟨_, _, _, Go.Proofs.Try.underlying205, rfl, rfl, Go.Proofs.Try.sizeOf133⟩ rfl ?_
  refine O.st rfl rfl Go.Proofs.Try.sizeOf133 rfl rfl rfl rfl rfl (gw.at0 0 1 (by omega)) ?_
  intro H2 W2
  have hs2 := W2.size
  replace g0 := W2.at
  refine ⟨trivial, ?_⟩
  refine Pl.fin [(1, _), (4, _), (5, _)] ⟨rfl, rfl, rfl, trivial⟩ ?_
  refine Go'.seq ?_
  refine Go'.seq ?_
  replace g1 := W2.keep1 g1 (by omega)
  replace g2 := W2.keep1 g2 (by omega)
  replace g3 := W2.keep1 g3 (by omega)
  replace gw := W2.fr.wr gw
  have hf2 : Fr nowhere H H2 := hf1.trans' W2.fr (fun _ _ _ h => h) (fun b o hb h => by simp only [rng] at h; omega)
  -- region 3 (map.go:121)
  refine Go'.region [(0, 0), (1, 0)] rfl ?_
  refine O.mv rfl rfl rfl rfl rfl ?_
  refine O.not rfl rfl rfl rfl rfl ?_
  refine Pl.fin [(4, _), (5, _), (15, _)] ⟨rfl, rfl, rfl, trivial⟩ ?_
  refine Go'.condT rfl ?_
  -- region 4 (map.go:122)
  refine Go'.region [(0, 0), (1, 2), (2, 0), (3, 0), (4, 2)] rfl ?_
  refine O.mv rfl rfl rfl rfl rfl ?_
  refine O.alloc rfl rfl rfl Go.Proofs.Try.zeroValue206 ?_
  intro H3 M3
  refine ⟨trivial, ?_⟩
  have hs3 := M3.size
  have k0 : cl H3 H2.size 0 = some (.slice none 0 0) := (M3.cl 0).trans rfl
  have kw : Wr H3 H2.size 0 1 := M3.wr 1 (by decide)
  replace gw := (M3.fr nowhere).wr gw
  replace g0 := M3.keep g0
  replace g1 := M3.keep g1
  replace g2 := M3.keep g2
  replace g3 := M3.keep g3
  have e2 : H2.size = H.size + 1 := by omega
  rw [e2] at k0 kw
  have hf3 := hf2.trans (M3.fr nowhere)
  refine O.nc rfl rfl rfl rfl rfl ?_
  refine O.fa0 (off := 3) rfl rfl rfl rfl ⟨_, _, _, Go.Proofs.Try.underlying205, rfl, rfl, Go.Proofs.Try.sizeOf203⟩ rfl ?_
  refine O.st rfl rfl Go.Proofs.Try.sizeOf203 rfl rfl rfl rfl rfl (gw.at0 3 1 (by omega)) ?_
  intro H4 W4
  have hs4 := W4.size
  replace g3 := W4.at
  refine ⟨trivial, ?_⟩
  refine Pl.fin [(4, _), (5, _)] ⟨rfl, rfl, trivial⟩ ?_
  refine Go'.seq ?_
  replace g0 := W4.keep1 g0 (by omega)
  replace g1 := W4.keep1 g1 (by omega)
  replace g2 := W4.keep1 g2 (by omega)
  replace k0 := W4.keep1 k0 (by omega)
  replace gw := W4.fr.wr gw
  replace kw := W4.fr.wr kw
  have hf4 : Fr nowhere H H4 := hf3.trans' W4.fr (fun _ _ _ h => h) (fun b o hb h => by simp only [rng] at h; omega)
  rw [e2] at g3
  -- region 5 (map.go:124)
  refine Go'.region [(0, 0), (1, 0)] rfl ?_
  refine O.mv rfl rfl rfl rfl rfl ?_
  refine O.asg rfl rfl rfl rfl rfl ?_
  refine Pl.fin [(4, _)] ⟨rfl, trivial⟩ ?_
  refine Go'.ret (vs := [_]) Go.Proofs.Try.func160 Go.Proofs.Try.results160 ⟨rfl, trivial⟩ ?_
  exact ⟨rfl, by omega, hf4, g0, g1, g2, g3, gw, k0, kw⟩

end Go.Bt.FZ