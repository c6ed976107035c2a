/- Contracts of functions of the program, proved by walking through their code. Conditions: those that each theorem names. -/
import Derived.Test.YtknkmaigdgfhlaazA
namespace Go.Bt.FZ
open Go Go.Proofs
set_option maxRecDepth 20000
set_option maxHeartbeats 4000000

theorem updLeaf_spec {B : World} {H : Mem} {p m cp : Nat} {a : Option Addr} (hw : Wr H p 1 1) (h2 : cl H p 2 = some (.slice a m cp)) (h3 : cl H p 3 = some (.pointer none)) :
    Fn Try.prog B 163 [.pointer (some ⟨p, 0, none⟩)] H (fun _ H' => Wrote H H' p 1 [.int .i64 (m : Int)]) := by
  refine fn_of Go.Proofs.Try.func163 rfl Go.Proofs.Try.ntmps163 ?_
  refine (show Go' _ _ _ _ 44 [(0, _)] [.code _] _ from ?_)
  refine Go'.seq ?_
  -- region 0 (map.go:212)
  refine Go'.region [(0, 0), (1, 0), (2, 0), (3, 0), (4, 1), (5, 0), (6, 0), (7, 0), (8, 2)] rfl ?_
  refine O.mv rfl rfl rfl rfl rfl ?_
  refine O.mv rfl rfl rfl rfl rfl ?_
  refine O.nc rfl rfl rfl rfl rfl ?_
  refine O.fa0 (off := 2) rfl rfl rfl rfl ⟨_, _, _, Go.Proofs.Try.underlying205, rfl, rfl, Go.Proofs.Try.sizeOf202⟩ rfl ?_
  refine O.ld rfl rfl rfl (fun w => ⟨Go.Proofs.Try.isAgg202 w, Go.Proofs.Try.sizeOf202 w⟩) rfl h2 ?_
  refine O.len rfl rfl rfl rfl Go.Proofs.Try.underlying202 rfl ?_
  refine O.nc rfl rfl rfl rfl rfl ?_
  refine O.fa0 (off := 1) rfl rfl rfl rfl ⟨_, _, _, Go.Proofs.Try.underlying205, rfl, rfl, Go.Proofs.Try.sizeOf3⟩ rfl ?_
  refine O.st rfl rfl Go.Proofs.Try.sizeOf3 rfl rfl rfl rfl rfl hw ?_
  intro H1 W1
  refine ⟨trivial, ?_⟩
  refine Pl.fin [(0, _)] ⟨rfl, trivial⟩ ?_
  refine Go'.seq ?_
  -- region 1 (map.go:213)
  refine Go'.region [(0, 0), (1, 2), (2, 0)] rfl ?_
  refine O.mv rfl rfl rfl rfl rfl ?_
  refine O.callQ rfl rfl rfl Go.Proofs.Try.call152 rfl (leaf_spec (W1.keep1 h3 (by omega))) trivial ?_
  refine O.not rfl rfl rfl rfl rfl ?_
  refine Pl.fin [(0, _), (13, _)] ⟨rfl, rfl, trivial⟩ ?_
  refine Go'.condF rfl ?_
  refine Go'.skip ?_
  refine Go'.fall Go.Proofs.Try.func163 Go.Proofs.Try.results163 (vs := []) trivial ?_
  exact W1

theorem updInner_spec {B : World} {H : Mem} {p m cp cb kb ko kc : Nat} {a : Option Addr} {qs : List Nat} (cn : Nat → Nat) (hw : Wr H p 1 1) (h2 : cl H p 2 = some (.slice a m cp)) (h3 : cl H p 3 = some (.pointer (some ⟨cb, 0, none⟩)))
    (hc : cl H cb 0 = some (.slice (some ⟨kb, ko, none⟩) qs.length kc)) (hk : SlE EP H kb ko kc (qs.map some)) (hq : ∀ q ∈ qs, cl H q 1 = some (.int .i64 (cn q : Int)) ∧ q ≠ p) (n2 : kb ≠ p)
    (hb : m + (qs.map cn).sum < 9223372036854775808) (hl : qs.length < 1000) :
    Fn Try.prog B 163 [.pointer (some ⟨p, 0, none⟩)] H (fun _ H' => Fr (rng p 1 1) H H' ∧ H'.size = H.size ∧ cl H' p 1 = some (.int .i64 ((m + (qs.map cn).sum : Nat) : Int))) := by
  refine fn_of Go.Proofs.Try.func163 rfl Go.Proofs.Try.ntmps163 ?_
  refine (show Go' _ _ _ _ 44 [(0, _)] [.code _] _ from ?_)
  refine Go'.seq ?_
  -- region 0 (map.go:212)
  refine Go'.region [(0, 0), (1, 0), (2, 0), (3, 0), (4, 1), (5, 0), (6, 0), (7, 0), (8, 2)] rfl ?_
  refine O.mv rfl rfl rfl rfl rfl ?_
  refine O.mv rfl rfl rfl rfl rfl ?_
  refine O.nc rfl rfl rfl rfl rfl ?_
  refine O.fa0 (off := 2) rfl rfl rfl rfl ⟨_, _, _, Go.Proofs.Try.underlying205, rfl, rfl, Go.Proofs.Try.sizeOf202⟩ rfl ?_
  refine O.ld rfl rfl rfl (fun w => ⟨Go.Proofs.Try.isAgg202 w, Go.Proofs.Try.sizeOf202 w⟩) rfl h2 ?_
  refine O.len rfl rfl rfl rfl Go.Proofs.Try.underlying202 rfl ?_
  refine O.nc rfl rfl rfl rfl rfl ?_
  refine O.fa0 (off := 1) rfl rfl rfl rfl ⟨_, _, _, Go.Proofs.Try.underlying205, rfl, rfl, Go.Proofs.Try.sizeOf3⟩ rfl ?_
  refine O.st rfl rfl Go.Proofs.Try.sizeOf3 rfl rfl rfl rfl rfl hw ?_
  intro H1 W1
  have h3H := h3
  replace h3 := W1.keep1 h3 (by omega)
  refine ⟨trivial, ?_⟩
  refine Pl.fin [(0, _)] ⟨rfl, trivial⟩ ?_
  refine Go'.seq ?_
  -- region 1 (map.go:213)
  refine Go'.region [(0, 0), (1, 2), (2, 0)] rfl ?_
  refine O.mv rfl rfl rfl rfl rfl ?_
  refine O.callQ rfl rfl rfl Go.Proofs.Try.call152 rfl (leaf_spec h3) trivial ?_
  refine O.not rfl rfl rfl rfl rfl ?_
  refine Pl.fin [(0, _), (13, _)] ⟨rfl, rfl, trivial⟩ ?_
  refine Go'.condT rfl ?_
  refine Go'.seq ?_
  -- region 2 (map.go:214)
  refine Go'.region [(0, 0)] rfl ?_
  refine O.asg rfl rfl rfl rfl rfl ?_
  refine Pl.fin [(0, _), (2, _)] ⟨rfl, rfl, trivial⟩ ?_
  refine Go'.block ?_
  refine Go'.loop ?_
  refine Go'.keep [(0, _), (2, _)] ⟨rfl, rfl, trivial⟩ ?_
  refine Go'.ind (σ := Nat) (fun j => qs.length - j) (fun j H' => Fr (rng p 1 1) H H' ∧ H'.size = H.size ∧ j ≤ qs.length ∧ cl H' p 1 = some (.int .i64 ((m + ((qs.take j).map cn).sum : Nat) : Int)))
    (fun j => [(0, .pointer (some ⟨p, 0, none⟩)), (2, .int .i64 (j : Int))]) 0 ⟨W1.fr, W1.size, Nat.zero_le _, by simpa using W1.at⟩ rfl ?_
  rintro j H2 ⟨hF, hS, hj, h1⟩ ih
  replace h3 : cl H2 p 3 = some (.pointer (some ⟨cb, 0, none⟩)) := hF.keep h3H (nr (by omega))
  have hc2 := hF.keep hc (nr (by omega))
  have hk2 := hk.fr hF (fun i _ _ => nr (by omega))
  have hw2 := hF.wr hw
  refine Go'.seq ?_
  refine Go'.seq ?_
  by_cases hlt : j < qs.length
  · -- a round
    obtain ⟨q, hqj⟩ : ∃ q, qs[j]? = some q := ⟨qs[j], by simp [hlt]⟩
    have hqm : q ∈ qs := List.mem_of_getElem? hqj
    obtain ⟨hq1, hqp⟩ := hq q hqm
    replace hq1 := hF.keep hq1 (nr (by omega))
    have hsum : (((qs.take (j + 1)).map cn).sum) = ((qs.take j).map cn).sum + cn q := by
      rw [List.take_add_one, hqj]; simp
    have hle : ((qs.take (j + 1)).map cn).sum ≤ (qs.map cn).sum := by
      conv => rhs; rw [← List.take_append_drop (j + 1) qs]
      rw [List.map_append, List.sum_append]; omega
    have hptr : cl H2 kb (ko + j * 1) = some (.pointer (some ⟨q, 0, none⟩)) := hk2.cell (i := j) (x := some q) (by simp [hqj]) (j := 0) rfl
    -- region 3 (map.go:214)
    refine Go'.region [(0, 0), (1, 0), (2, 0), (3, 0), (4, 1), (5, 0), (6, 1), (7, 0), (8, 0)] rfl ?_
    refine O.mv rfl rfl rfl rfl rfl ?_
    refine O.mv rfl rfl rfl rfl rfl ?_
    refine O.nc rfl rfl rfl rfl rfl ?_
    refine O.fa0 (off := 3) rfl rfl rfl rfl ⟨_, _, _, Go.Proofs.Try.underlying205, rfl, rfl, Go.Proofs.Try.sizeOf203⟩ rfl ?_
    refine O.ld rfl rfl rfl (fun w => ⟨Go.Proofs.Try.isAgg203 w, Go.Proofs.Try.sizeOf203 w⟩) rfl h3 ?_
    refine O.nc rfl rfl rfl rfl rfl ?_
    refine O.ld rfl rfl rfl (fun w => ⟨Go.Proofs.Try.isAgg206 w, Go.Proofs.Try.sizeOf206 w⟩) rfl hc2 ?_
    refine O.len rfl rfl rfl rfl Go.Proofs.Try.underlying206 rfl ?_
    refine O.cmp rfl rfl rfl rfl rfl rfl (lssT (by omega)) ?_
    refine Pl.fin [(0, _), (2, _), (22, _)] ⟨rfl, rfl, rfl, trivial⟩ ?_
    refine Go'.condT rfl ?_
    refine Go'.skip ?_
    refine Go'.seq ?_
    refine Go'.block ?_
    -- region 5 (map.go:215)
    refine Go'.draw (fun _ => True) [(0, 0), (1, 0), (2, 0), (3, 1), (4, 0), (5, 0), (6, 0), (7, 1), (8, 0), (9, 1), (10, 0), (11, 0), (12, 1), (13, 0), (14, 0), (15, 1), (16, 0), (17, 0), (18, 0), (19, 3)] (by kernel_rfl) (by kernel_rfl) (trivial) ?_
    refine O.mv rfl rfl rfl rfl rfl ?_
    refine O.nc rfl rfl rfl rfl rfl ?_
    refine O.fa0 (off := 1) rfl rfl rfl rfl ⟨_, _, _, Go.Proofs.Try.underlying205, rfl, rfl, Go.Proofs.Try.sizeOf3⟩ rfl ?_
    refine O.ld rfl rfl rfl (fun w => ⟨Go.Proofs.Try.isAgg3 w, Go.Proofs.Try.sizeOf3 w⟩) rfl h1 ?_
    refine O.mv rfl rfl rfl rfl rfl ?_
    refine O.nc rfl rfl rfl rfl rfl ?_
    refine O.fa0 (off := 3) rfl rfl rfl rfl ⟨_, _, _, Go.Proofs.Try.underlying205, rfl, rfl, Go.Proofs.Try.sizeOf203⟩ rfl ?_
    refine O.ld rfl rfl rfl (fun w => ⟨Go.Proofs.Try.isAgg203 w, Go.Proofs.Try.sizeOf203 w⟩) rfl h3 ?_
    refine O.nc rfl rfl rfl rfl rfl ?_
    refine O.ld rfl rfl rfl (fun w => ⟨Go.Proofs.Try.isAgg206 w, Go.Proofs.Try.sizeOf206 w⟩) rfl hc2 ?_
    refine O.mv rfl rfl rfl rfl rfl ?_
    refine O.ix (j := j) rfl rfl rfl rfl Go.Proofs.Try.underlying206 Go.Proofs.Try.sizeOf135 rfl rfl (by omega) (by omega) ?_
    refine O.ld rfl rfl rfl (fun w => ⟨Go.Proofs.Try.isAgg135 w, Go.Proofs.Try.sizeOf135 w⟩) rfl hptr ?_
    refine O.nc rfl rfl rfl rfl rfl ?_
    refine O.fa0 (off := 1) rfl rfl rfl rfl ⟨_, _, _, Go.Proofs.Try.underlying205, rfl, rfl, Go.Proofs.Try.sizeOf3⟩ rfl ?_
    refine O.ld rfl rfl rfl (fun w => ⟨Go.Proofs.Try.isAgg3 w, Go.Proofs.Try.sizeOf3 w⟩) rfl hq1 ?_
    refine O.add (((m + ((qs.take (j + 1)).map cn).sum : Nat) : Int)) rfl rfl rfl rfl rfl rfl (by omega) (by omega) ?_
    refine O.nc rfl rfl rfl rfl rfl ?_
    refine O.fa0 (off := 1) rfl rfl rfl rfl ⟨_, _, _, Go.Proofs.Try.underlying205, rfl, rfl, Go.Proofs.Try.sizeOf3⟩ rfl ?_
    refine O.st3 rfl rfl Go.Proofs.Try.sizeOf3 rfl rfl rfl rfl rfl hw2 ?_
    intro H3 W3
    refine Pl.fin [(0, _), (2, _), (22, _)] ⟨rfl, rfl, rfl, trivial⟩ ?_
    refine Go'.inBlock ?_
    -- region 4 (map.go:214)
    refine Go'.region [(0, 0), (1, 0), (2, 0)] rfl ?_
    refine O.mv rfl rfl rfl rfl rfl ?_
    refine O.add (((j + 1 : Nat) : Int)) rfl rfl rfl rfl rfl rfl (by omega) (by omega) ?_
    refine O.asg rfl rfl rfl rfl rfl ?_
    refine Pl.fin [(0, _), (2, _), (22, _)] ⟨rfl, rfl, rfl, trivial⟩ ?_
    refine Go'.keep [(0, _), (2, _)] ⟨rfl, rfl, trivial⟩ ?_
    refine Go'.inLoop ?_
    exact ih (j + 1) H3 ⟨hF.trans W3.fr, W3.size.trans hS, hlt, W3.at⟩ (by omega)
  · -- the end
    obtain rfl : j = qs.length := by omega
    -- region 3 (map.go:214)
    refine Go'.region [(0, 0), (1, 0), (2, 0), (3, 0), (4, 1), (5, 0), (6, 1), (7, 0), (8, 0)] rfl ?_
    refine O.mv rfl rfl rfl rfl rfl ?_
    refine O.mv rfl rfl rfl rfl rfl ?_
    refine O.nc rfl rfl rfl rfl rfl ?_
    refine O.fa0 (off := 3) rfl rfl rfl rfl ⟨_, _, _, Go.Proofs.Try.underlying205, rfl, rfl, Go.Proofs.Try.sizeOf203⟩ rfl ?_
    refine O.ld rfl rfl rfl (fun w => ⟨Go.Proofs.Try.isAgg203 w, Go.Proofs.Try.sizeOf203 w⟩) rfl h3 ?_
    refine O.nc rfl rfl rfl rfl rfl ?_
    refine O.ld rfl rfl rfl (fun w => ⟨Go.Proofs.Try.isAgg206 w, Go.Proofs.Try.sizeOf206 w⟩) rfl hc2 ?_
    refine O.len rfl rfl rfl rfl Go.Proofs.Try.underlying206 rfl ?_
    refine O.cmp rfl rfl rfl rfl rfl rfl (lssF (by omega)) ?_
    refine Pl.fin [(0, _), (2, _), (22, _)] ⟨rfl, rfl, rfl, trivial⟩ ?_
    refine Go'.condF rfl ?_
    refine Go'.exit rfl ?_
    refine Go'.fall Go.Proofs.Try.func163 Go.Proofs.Try.results163 (vs := []) trivial ?_
    refine ⟨hF, hS, ?_⟩
    rw [List.take_length] at h1
    exact h1

end Go.Bt.FZ