/- Contracts of functions of the program, proved by walking through their code. Conditions: those that each theorem names. -/
import Derived.Test.YtmboghgpakhceaaTogV
namespace Go.Bt.FG
open Go Go.Proofs
set_option maxRecDepth 20000
set_option maxHeartbeats 4000000
set_option linter.unusedVariables false
set_option linter.unusedSectionVars false

theorem igsethint_spec {B : World} {H : Mem} {d : Nat} {nl : Bool} {v u : Value} {ord : List Int} {l : List (Int × Int)} (hd : d = 0 ∨ 2 ≤ d ∧ d ≤ 128) (ho : InS EN H v ord) (hol : ord.length ≤ 4294967296) (hi : InS EJ H u l) (hll : l.length ≤ 4294967296) :
    Fn Try.prog B 84 [.agg #[v, .int .i64 (d : Int), .bool nl], u] H (fun r H' => ∃ v1 v2, r = .tuple #[v1, v2] ∧ OutS EF H' v1 (Pl.gots (OO ord) l) ∧ OutS EJ H' v2 (Pl.puts (OO ord) l) ∧ Fr nowhere H H') := by
  obtain ⟨a, c, hu⟩ := hi.len
  subst hu
  obtain ⟨av, mv, cv, hv⟩ := InS.form ho
  subst hv
  have hF : Fr nowhere H H := Fr.refl _ _
  have hP := PD_ok hd
  refine fn_of Go.Proofs.Try.func84 rfl Go.Proofs.Try.ntmps84 ?_
  refine (show Go' _ _ _ _ 32 [(0, _), (1, _)] [.code _] _ from ?_)
  refine Go'.seq ?_
  -- region 0 (treeg.go:31)
  refine Go'.region [(0, 2), (1, 0), (2, 0)] rfl ?_
  refine O.box rfl rfl rfl rfl ?_
  intro B1 MB1
  refine ⟨trivial, ?_⟩
  have hsB1 := MB1.size
  replace hF := hF.trans (MB1.fr nowhere)
  have mm : Rd B1 H.size 0 [.slice av mv cv, .int .i64 (d : Int), .bool nl] := MB1.rd _ [] (by simp [Value.cells])
  have mm0 : cl B1 H.size 0 = some (.slice av mv cv) := mm 0 _ rfl
  have mm1 : cl B1 H.size (0 + 1) = some (.int .i64 (d : Int)) := mm 1 _ rfl
  refine O.asg rfl rfl rfl rfl rfl ?_
  refine O.asg rfl rfl rfl rfl rfl ?_
  refine Pl.fin [(1, _), (2, _), (4, _), (5, _)] ⟨rfl, rfl, rfl, rfl, trivial⟩ ?_
  refine Go'.seq ?_
  -- region 1 (treeg.go:32)
  refine Go'.region [(0, 1), (1, 2), (2, 0)] rfl ?_
  refine O.lds rfl rfl rfl (fun w => ⟨Go.Proofs.Try.isAgg24 w, Go.Proofs.Try.sizeOf24 w⟩) rfl rfl mm ?_
  refine O.call rfl rfl rfl Go.Proofs.Try.call68 rfl (grow_spec (l := []) hd (ho.fr hF) hol (InS.nil EJ _) (by decide)) ?_
  rintro _ H3 ⟨I, hIo, hIw, hIb, tr, S, rfl, hM, hF3, hS⟩
  have hs3 := hF3.size
  replace hF := hF.trans hF3
  replace mm := hF3.rd mm (fun _ _ => nw)
  replace mm0 := hF3.keep mm0 nw
  replace mm1 := hF3.keep mm1 nw
  have hSb : ∀ b, S b ∨ (b < cx.base ∧ cx.own b) → B1.size ≤ b := fun b hb => hb.elim (hS b) (fun h => hIw b h.2)
  have hOO : OO ord = OI := by rw [← hIo]; rfl
  have hpl := Pl.puts_length OI l
  have hSlt := hM.lt
  have hbs := hM.tc.hb
  unfold ptr
  refine ⟨trivial, ?_⟩
  refine O.asg rfl rfl rfl rfl rfl ?_
  refine Pl.fin [(1, _), (4, _), (5, _), (6, _)] ⟨rfl, rfl, rfl, rfl, trivial⟩ ?_
  refine Go'.seq ?_
  -- region 2 (treeg.go:33)
  refine Go'.region [(0, 2)] rfl ?_
  refine O.alloc rfl rfl rfl Go.Proofs.Try.zeroValue153 ?_
  intro H4 M4
  refine ⟨trivial, ?_⟩
  have hs4 := M4.size
  replace hF := hF.trans (M4.fr nowhere)
  replace mm := (M4.fr nowhere).rd mm (fun _ _ => nw)
  replace mm0 := (M4.fr nowhere).keep mm0 nw
  replace mm1 := (M4.fr nowhere).keep mm1 nw
  replace hM := hM.fr (M4.fr nowhere) (fun _ _ _ => nw)
  have hk : HintOk H4 (.pointer (some ⟨H3.size, 0, none⟩)) (fun b => b = H3.size) := .inr ⟨H3.size, rfl, fun _ => Iff.rfl, by omega, fun h => by have := h.1; omega, (HintM.new M4 (fun i hi => by have hi8 : i = 0 ∨ i = 1 ∨ i = 2 ∨ i = 3 ∨ i = 4 ∨ i = 5 ∨ i = 6 ∨ i = 7 := (by omega); rcases hi8 with rfl | rfl | rfl | rfl | rfl | rfl | rfl | rfl <;> rfl) (fun i hi => by have hi8 : i = 0 ∨ i = 1 ∨ i = 2 ∨ i = 3 ∨ i = 4 ∨ i = 5 ∨ i = 6 ∨ i = 7 := (by omega); rcases hi8 with rfl | rfl | rfl | rfl | rfl | rfl | rfl | rfl <;> rfl) (by decide))⟩
  refine Pl.fin [(1, _), (4, _), (5, _), (6, _), (7, _)] ⟨rfl, rfl, rfl, rfl, rfl, trivial⟩ ?_
  refine Go'.seq ?_
  -- region 3 (treeg.go:34)
  refine Go'.region [(0, 0)] rfl ?_
  refine O.asg rfl rfl rfl rfl rfl ?_
  refine Pl.fin [(1, _), (4, _), (5, _), (6, _), (7, _), (8, _)] ⟨rfl, rfl, rfl, rfl, rfl, rfl, trivial⟩ ?_
  refine Go'.seq ?_
  refine Go'.seq ?_
  -- region 4 (treeg.go:35)
  refine Go'.region [(0, 0), (1, 0), (2, 0)] rfl ?_
  refine O.mv rfl rfl rfl rfl rfl ?_
  refine O.len rfl rfl rfl rfl Go.Proofs.Try.underlying25 rfl ?_
  refine O.mv rfl rfl rfl rfl rfl ?_
  refine Pl.fin [(4, _), (5, _), (6, _), (7, _), (8, _), (13, _), (14, _), (15, _)] ⟨rfl, rfl, rfl, rfl, rfl, rfl, rfl, rfl, trivial⟩ ?_
  refine Go'.block ?_
  refine Go'.loop ?_
  refine Go'.keep [(4, _), (5, _), (6, _), (7, _), (8, _), (13, _), (14, _), (15, _)] ⟨rfl, rfl, rfl, rfl, rfl, rfl, rfl, rfl, trivial⟩ ?_
  refine Go'.ind (σ := Nat × Value) (fun s => l.length - s.1) (fun s H' => s.1 ≤ l.length ∧ Fr nowhere H H' ∧ H4.size ≤ H'.size ∧ HintOk H' (.pointer (some ⟨H3.size, 0, none⟩)) (fun b => b = H3.size) ∧ ∃ S Zo, MapM H' tr (PD d) S (Pl.puts OI (l.take s.1)) ∧ (∀ b, S b → H.size ≤ b ∧ b ≠ H3.size) ∧ Acc EF Zo H' s.2 (Pl.gots OI (l.take s.1)) ∧ ∀ b, Zo b → H4.size ≤ b ∧ b < H'.size ∧ ¬ S b)
    (fun s => [(4, .slice none 0 0), (5, .slice none 0 0), (6, .pointer (some ⟨tr, 0, none⟩)), (7, .pointer (some ⟨H3.size, 0, none⟩)), (8, s.2), (13, .slice a l.length c), (14, .int .i64 (l.length : Int)), (15, .int .i64 (s.1 : Int))]) (0, .slice none 0 0) ⟨Nat.zero_le _, hF, Nat.le_refl _, hk, S, fun _ => False, hM, fun b hb => ⟨by have := hS b hb; omega, by have := hSlt b hb; omega⟩, Acc.nil _ _ _, fun _ h => h.elim⟩ rfl ?_
  clear hM hF hk hS hSb hSlt S
  rintro ⟨j, sv⟩ H5 ⟨hjl, hF, hs45, hk, S, Zo, hM, hS, hA, hZ⟩ ih
  simp only at hjl hM hA
  have hi2 := hi.fr hF
  refine Go'.seq ?_
  by_cases hlt : j < l.length
  · skip
    obtain ⟨y, hy⟩ : ∃ y, l[j]? = some y := ⟨l[j], List.getElem?_eq_getElem hlt⟩
    obtain ⟨b, o, c', e, hr⟩ := hi2.at hy
    cases e
    have hpl2 := Pl.puts_length OI (l.take j)
    have hlout := Pl.gots_length OI (l.take j)
    have hSlt := hM.lt
    have hbs2 := hM.tc.hb
    have hsz := hF.size
    have eput : Pl.puts OI (l.take (j + 1)) = Pl.put OI y (Pl.puts OI (l.take j)) := by rw [List.take_add_one, hy]; exact Pl.puts_snoc _ _ _
    have egot : Pl.gots OI (l.take (j + 1)) = Pl.gots OI (l.take j) ++ [Pl.got OI y (Pl.puts OI (l.take j))] := by rw [List.take_add_one, hy]; exact Pl.gots_snoc _ _ _
    rw [List.length_take] at hpl2 hlout
    -- region 5 (treeg.go:35)
    refine Go'.region [(0, 0)] rfl ?_
    refine O.cmp rfl rfl rfl rfl rfl rfl (lssT (by omega)) ?_
    refine Pl.fin [(4, _), (5, _), (6, _), (7, _), (8, _), (13, _), (14, _), (15, _), (16, _)] ⟨rfl, rfl, rfl, rfl, rfl, rfl, rfl, rfl, rfl, trivial⟩ ?_
    refine Go'.seq ?_
    refine Go'.condT rfl ?_
    refine Go'.skip ?_
    refine Go'.seq ?_
    refine Go'.block ?_
    refine Go'.seq ?_
    -- region 6 (treeg.go:35)
    refine Go'.region [(0, 0), (1, 1), (2, 2), (3, 2)] rfl ?_
    refine O.ix (j := j) rfl rfl rfl rfl Go.Proofs.Try.underlying25 Go.Proofs.Try.sizeOf27 rfl rfl (by omega) hlt ?_
    refine O.lds rfl rfl rfl (fun w => ⟨Go.Proofs.Try.isAgg27 w, Go.Proofs.Try.sizeOf27 w⟩) rfl rfl hr ?_
    refine O.alloc rfl rfl rfl Go.Proofs.Try.zeroValue27 ?_
    intro H6 M6
    refine ⟨trivial, ?_⟩
    have hs6 := M6.size
    replace hM := hM.fr (M6.fr nowhere) (fun _ _ _ => nw)
    replace hA := hA.fr (M6.fr nowhere) (fun _ _ _ _ => nw)
    replace hk := hk.fr (M6.fr nowhere) (fun _ _ _ => nw)
    have m7 : Wr H6 H5.size 0 2 := M6.wr 2 (by decide)
    refine O.st rfl rfl Go.Proofs.Try.sizeOf27 rfl rfl rfl rfl rfl m7 ?_
    intro H7 W7
    have hs7 := W7.size
    replace hM := hM.fr W7.fr (fun b o hb => nr (.inl (hb.elim (fun hb => by have := hSlt b hb; omega) (fun hb => by omega))))
    replace hA := hA.fr W7.fr (fun b o hb hb2 => nr (.inl (by have := hZ b hb2; omega)))
    replace hk := hk.fr W7.fr (fun b o hb => nr (.inl (by omega)))
    replace hF : Fr nowhere H H7 := hF.trans' ((M6.fr nowhere).trans' W7.fr (Z := nowhere) (fun _ _ _ h => h) (fun b o hb hz => by have h1 := hz.1; omega)) (fun _ _ _ h => h) (fun _ _ _ h => h)
    have k0 : Rd H7 H5.size 0 (EJ.enc y) := W7.all
    refine ⟨trivial, ?_⟩
    refine Pl.fin [(4, _), (5, _), (6, _), (7, _), (8, _), (10, _), (13, _), (14, _), (15, _), (16, _)] ⟨rfl, rfl, rfl, rfl, rfl, rfl, rfl, rfl, rfl, rfl, trivial⟩ ?_
    -- region 7 (treeg.go:36)
    refine Go'.region [(0, 0), (1, 0), (2, 1), (3, 2), (4, 0), (5, 0), (6, 2), (7, 2), (8, 2), (9, 0)] rfl ?_
    refine O.mv rfl rfl rfl rfl rfl ?_
    refine O.mv rfl rfl rfl rfl rfl ?_
    refine O.lds rfl rfl rfl (fun w => ⟨Go.Proofs.Try.isAgg27 w, Go.Proofs.Try.sizeOf27 w⟩) rfl rfl k0 ?_
    refine O.call rfl rfl rfl Go.Proofs.Try.call138 rfl (setHint_spec hP (x := y) hM (by omega) hk (fun b hb hs => (hS b hs).2 hb)) ?_
    rintro _ H8 ⟨hk, rfl, S', hM', hF8, hS'⟩
    rw [← Pl.got_isSome OI]
    have hs8 := hF8.size
    replace hA := hA.fr hF8 (fun b o hb hb2 hz => hz.elim (hZ b hb2).2.2 (fun h => by have := (hZ b hb2).1; omega))
    replace hF := hF.trans' hF8 (fun _ _ _ h => h) (fun b o hb hz => hz.elim (fun h => by have := hS b h; omega) (fun h => by omega))
    refine ⟨trivial, ?_⟩
    refine O.ext rfl rfl rfl rfl rfl rfl ?_
    refine O.ext rfl rfl rfl rfl rfl rfl ?_
    refine O.call rfl rfl rfl Go.Proofs.Try.call104 rfl ifound_spec ?_
    rintro _ H9 ⟨rfl, hF9⟩
    have hs9 := hF9.size
    replace hM' := hM'.fr hF9 (fun _ _ _ => nw)
    replace hA := hA.fr hF9 (fun _ _ _ _ => nw)
    replace hk := hk.fr hF9 (fun _ _ _ => nw)
    replace hF := hF.trans hF9
    rw [FVe]
    refine ⟨trivial, ?_⟩
    refine O.bsl (cs := (fvs (Pl.got OI y (Pl.puts OI (l.take j))))) rfl rfl rfl ⟨Go.Proofs.Try.underlying64, Go.Proofs.Try.sizeOf68, Go.Proofs.Try.zeroValue68, ⟨_, Go.Proofs.Try.typeInfo68, rfl⟩, rfl, by decide, by decide⟩ rfl (by decide) (by generalize (Pl.got OI y (Pl.puts OI (l.take j))) = o; cases o <;> kernel_rfl) ?_
    intro H10 M10
    have hs10 := M10.size
    replace hM' := hM'.fr (M10.fr nowhere) (fun _ _ _ => nw)
    replace hA := hA.fr (M10.fr nowhere) (fun _ _ _ _ => nw)
    replace hk := hk.fr (M10.fr nowhere) (fun _ _ _ => nw)
    replace hF := hF.trans (M10.fr nowhere)
    have m5 : Rd H10 H9.size 0 (row EF [(Pl.got OI y (Pl.puts OI (l.take j)))]) := M10.rd _ [] (by simp [row, EF])
    refine ⟨trivial, ?_⟩
    refine O.appA (E := EF) (Y := [(Pl.got OI y (Pl.puts OI (l.take j)))]) rfl rfl rfl ⟨Go.Proofs.Try.underlying64, Go.Proofs.Try.sizeOf68, Go.Proofs.Try.zeroValue68, ⟨_, Go.Proofs.Try.typeInfo68, rfl⟩, rfl, by decide, by decide⟩ rfl hA rfl ⟨_, _, _, rfl, m5⟩ (Nat.succ_pos _) (by rw [hlout]; exact Nat.le_trans (Nat.mul_le_mul_left _ (Nat.le_of_ble_eq_true (n := _) (m := 4096) rfl)) (by simp only [List.length_cons, List.length_nil]; omega)) (by rw [hlout]; simp only [List.length_cons, List.length_nil]; omega) ?_
    intro v8 H11 hA11 hF11 hs11
    have hs111 := hF11.size
    rw [← egot] at hA11
    have hS2 : ∀ b, S' b → ¬ Zo b := fun b hb hz => (hS' b hb).elim (hZ b hz).2.2 (fun h => by have := (hZ b hz).2.1; omega)
    have hlt10 := hM'.lt
    have hM11 := hM'.fr hF11 (fun b _ hb hz => hb.elim (fun hb => hS2 b hb hz) (fun hb => by have := (hZ b hz).1; omega))
    replace hk := hk.fr hF11 (fun b o hb hz => by have := (hZ b hz).1; omega)
    replace hF := hF.trans' hF11 (fun _ _ _ h => h) (fun b o hb hz => by have := (hZ b hz).1; omega)
    refine ⟨trivial, ?_⟩
    refine O.asg rfl rfl rfl rfl rfl ?_
    refine Pl.fin [(4, _), (5, _), (6, _), (7, _), (8, _), (10, _), (13, _), (14, _), (15, _), (16, _)] ⟨rfl, rfl, rfl, rfl, rfl, rfl, rfl, rfl, rfl, rfl, trivial⟩ ?_
    refine Go'.inBlock ?_
    -- region 8 (treeg.go:35)
    refine Go'.region [(0, 0), (1, 0)] rfl ?_
    refine O.add (((j + 1 : Nat) : Int)) rfl rfl rfl rfl rfl rfl (by omega) (by omega) ?_
    refine O.mv rfl rfl rfl rfl rfl ?_
    refine Pl.fin [(4, _), (5, _), (6, _), (7, _), (8, _), (10, _), (13, _), (14, _), (15, _), (16, _)] ⟨rfl, rfl, rfl, rfl, rfl, rfl, rfl, rfl, rfl, rfl, trivial⟩ ?_
    refine Go'.keep [(4, _), (5, _), (6, _), (7, _), (8, _), (13, _), (14, _), (15, _)] ⟨rfl, rfl, rfl, rfl, rfl, rfl, rfl, rfl, trivial⟩ ?_
    refine Go'.inLoop ?_
    exact ih (j + 1, v8) H11 ⟨hlt, hF, by omega, hk, S', (fun b => Zo b ∨ (b = H10.size ∧ b < H11.size)), by
      simp only
      rw [eput]
      exact hM11, fun b hb => (hS' b hb).elim (hS b) (fun h => by omega), hA11, fun b hb => hb.elim (fun h => ⟨(hZ b h).1, by have := (hZ b h).2.1; omega, fun hs => hS2 b hs h⟩) (fun h => ⟨by omega, h.2, fun hs => by have := hlt10 b hs; omega⟩)⟩ (by simp only; omega)
  · skip
    have ejl : j = l.length := by omega
    rw [ejl, List.take_length] at hM hA
    have hpl2 := Pl.puts_length OI l
    -- region 5 (treeg.go:35)
    refine Go'.region [(0, 0)] rfl ?_
    refine O.cmp rfl rfl rfl rfl rfl rfl (lssF (by omega)) ?_
    refine Pl.fin [(4, _), (5, _), (6, _), (7, _), (8, _), (13, _), (14, _), (15, _), (16, _)] ⟨rfl, rfl, rfl, rfl, rfl, rfl, rfl, rfl, rfl, trivial⟩ ?_
    refine Go'.seq ?_
    refine Go'.condF rfl ?_
    refine Go'.exit rfl ?_
    refine Go'.seq ?_
    -- region 9 (treeg.go:38)
    refine Go'.region [(0, 0), (1, 0), (2, 2), (3, 0), (4, 0)] rfl ?_
    refine O.mv rfl rfl rfl rfl rfl ?_
    refine O.mv rfl rfl rfl rfl rfl ?_
    refine O.call rfl rfl rfl Go.Proofs.Try.call73 rfl (Items_spec hP hM (by omega)) ?_
    rintro v9 H6 ⟨hv9, hF6⟩
    refine ⟨trivial, ?_⟩
    refine O.asg rfl rfl rfl rfl rfl ?_
    refine O.asg rfl rfl rfl rfl rfl ?_
    refine Pl.fin [(4, _), (5, _)] ⟨rfl, rfl, trivial⟩ ?_
    refine Go'.ret (vs := [_, _]) Go.Proofs.Try.func84 Go.Proofs.Try.results84 ⟨rfl, rfl, trivial⟩ ?_
    rw [hOO]
    exact ⟨_, _, rfl, (hA.fr hF6 (fun _ _ _ _ => nw)).out, hv9, hF.trans hF6⟩

theorem gset_spec {B : World} {H : Mem} {v u dg nl : Value} {ord : List Int} {l : List (Int × Int)} (ho : InS EN H v ord) (hl : ord.length < 4611686018427387904) (hi : InS EJ H u l) (hll : l.length ≤ 4294967296) :
    Fn Try.prog B 85 [.agg #[v, dg, nl], u] H (fun r H' => ∃ v1 v2, r = .tuple #[v1, v2] ∧ OutS EF H' v1 (Pl.gots (OO ord) l) ∧ OutS EJ H' v2 (Pl.puts (OO ord) l) ∧ Fr nowhere H H') := by
  obtain ⟨a, c, hu⟩ := hi.len
  subst hu
  have hlv := ho.len
  refine fn_of Go.Proofs.Try.func85 rfl Go.Proofs.Try.ntmps85 ?_
  refine (show Go' _ _ _ _ 32 [(0, _), (1, _)] [.code _] _ from ?_)
  refine Go'.seq ?_
  -- region 0 (tree.go:6)
  refine Go'.region [(0, 2), (1, 0), (2, 0)] rfl ?_
  refine O.box rfl rfl rfl rfl ?_
  intro H1 M1
  refine ⟨trivial, ?_⟩
  have hs1 := M1.size
  have hF1 := M1.fr nowhere
  replace ho := ho.fr (M1.fr nowhere)
  replace hi := hi.fr (M1.fr nowhere)
  have mi : cl H1 H.size 0 = some v := (M1.cl 0).trans rfl
  refine O.asg rfl rfl rfl rfl rfl ?_
  refine O.asg rfl rfl rfl rfl rfl ?_
  refine Pl.fin [(1, _), (2, _), (4, _), (5, _)] ⟨rfl, rfl, rfl, rfl, trivial⟩ ?_
  refine Go'.seq ?_
  -- region 1 (tree.go:7)
  refine Go'.region [(0, 0)] rfl ?_
  refine O.asg rfl rfl rfl rfl rfl ?_
  refine Pl.fin [(1, _), (2, _), (4, _), (5, _), (6, _)] ⟨rfl, rfl, rfl, rfl, rfl, trivial⟩ ?_
  refine Go'.seq ?_
  -- region 2 (tree.go:8)
  refine Go'.region [(0, 0)] rfl ?_
  refine O.asg rfl rfl rfl rfl rfl ?_
  refine Pl.fin [(1, _), (2, _), (4, _), (5, _), (6, _), (7, _)] ⟨rfl, rfl, rfl, rfl, rfl, rfl, trivial⟩ ?_
  refine Go'.seq ?_
  refine Go'.seq ?_
  -- region 3 (tree.go:9)
  refine Go'.region [(0, 0), (1, 0), (2, 0)] rfl ?_
  refine O.mv rfl rfl rfl rfl rfl ?_
  refine O.len rfl rfl rfl rfl Go.Proofs.Try.underlying25 rfl ?_
  refine O.mv rfl rfl rfl rfl rfl ?_
  refine Pl.fin [(2, _), (4, _), (5, _), (6, _), (7, _), (11, _), (12, _), (13, _)] ⟨rfl, rfl, rfl, rfl, rfl, rfl, rfl, rfl, trivial⟩ ?_
  refine Go'.block ?_
  refine Go'.loop ?_
  refine Go'.keep [(2, _), (6, _), (7, _), (11, _), (12, _), (13, _)] ⟨rfl, rfl, rfl, rfl, rfl, rfl, trivial⟩ ?_
  refine Go'.ind (σ := Nat × Value × Value × (Nat → Prop)) (fun s => l.length - s.1) (fun s H' => Fr nowhere H1 H' ∧ s.1 ≤ l.length ∧ Acc EF s.2.2.2 H' s.2.1 (Pl.gots (OO ord) (l.take s.1)) ∧ Acc EJ (fun b => ¬ s.2.2.2 b) H' s.2.2.1 (Pl.puts (OO ord) (l.take s.1)) ∧ ∀ b, s.2.2.2 b → H1.size ≤ b ∧ b < H'.size)
    (fun s => [(2, .pointer (some ⟨H.size, 0, none⟩)), (6, s.2.1), (7, s.2.2.1), (11, .slice a l.length c), (12, .int .i64 (l.length : Int)), (13, .int .i64 (s.1 : Int))]) (0, .slice none 0 0, .slice none 0 0, fun _ => False) ⟨Fr.refl _ _, Nat.zero_le _, Acc.nil _ _ _, Acc.nil _ _ _, fun _ h => h.elim⟩ rfl ?_
  rintro ⟨j, sv, iv, Zo⟩ H2 ⟨hF, hjl, hA, hB, hZ⟩ ih
  simp only at hjl hA hB hZ
  have ho2 := ho.fr hF
  have hi2 := hi.fr hF
  have mi2 := hF.keep mi nw
  refine Go'.seq ?_
  by_cases hlt : j < l.length
  · skip
    obtain ⟨y, hy⟩ : ∃ y, l[j]? = some y := ⟨l[j], List.getElem?_eq_getElem hlt⟩
    obtain ⟨b, o, c', e, hr⟩ := hi2.at hy
    cases e
    have hpl := Pl.puts_length (OO ord) (l.take j)
    have hlout := Pl.gots_length (OO ord) (l.take j)
    have hsz := hF.size
    have eput : Pl.puts (OO ord) (l.take (j + 1)) = Pl.put (OO ord) y (Pl.puts (OO ord) (l.take j)) := by rw [List.take_add_one, hy]; exact Pl.puts_snoc _ _ _
    have egot : Pl.gots (OO ord) (l.take (j + 1)) = Pl.gots (OO ord) (l.take j) ++ [Pl.got (OO ord) y (Pl.puts (OO ord) (l.take j))] := by rw [List.take_add_one, hy]; exact Pl.gots_snoc _ _ _
    rw [List.length_take] at hpl hlout
    -- region 4 (tree.go:9)
    refine Go'.region [(0, 0)] rfl ?_
    refine O.cmp rfl rfl rfl rfl rfl rfl (lssT (by omega)) ?_
    refine Pl.fin [(2, _), (6, _), (7, _), (11, _), (12, _), (13, _), (14, _)] ⟨rfl, rfl, rfl, rfl, rfl, rfl, rfl, trivial⟩ ?_
    refine Go'.seq ?_
    refine Go'.condT rfl ?_
    refine Go'.skip ?_
    refine Go'.seq ?_
    refine Go'.block ?_
    refine Go'.seq ?_
    -- region 5 (tree.go:9)
    refine Go'.region [(0, 0), (1, 1), (2, 2), (3, 2)] rfl ?_
    refine O.ix (j := j) rfl rfl rfl rfl Go.Proofs.Try.underlying25 Go.Proofs.Try.sizeOf27 rfl rfl (by omega) hlt ?_
    refine O.lds rfl rfl rfl (fun w => ⟨Go.Proofs.Try.isAgg27 w, Go.Proofs.Try.sizeOf27 w⟩) rfl rfl hr ?_
    refine O.alloc rfl rfl rfl Go.Proofs.Try.zeroValue27 ?_
    intro H3 M3
    refine ⟨trivial, ?_⟩
    have hs3 := M3.size
    have m7 : Wr H3 H2.size 0 2 := M3.wr 2 (by decide)
    refine O.st rfl rfl Go.Proofs.Try.sizeOf27 rfl rfl rfl rfl rfl m7 ?_
    intro H4 W4
    have hs4 := W4.size
    have hf4 : Fr nowhere H2 H4 := (M3.fr nowhere).trans' W4.fr (fun _ _ _ h => h) (fun b o hb hz => by have h1 := hz.1; omega)
    have ho4 := ho2.fr hf4
    have mi4 := hf4.keep mi2 nw
    have hx4 : Rd H4 H2.size 0 (EJ.enc y) := W4.all
    refine ⟨trivial, ?_⟩
    refine Pl.fin [(2, _), (6, _), (7, _), (9, _), (11, _), (12, _), (13, _), (14, _)] ⟨rfl, rfl, rfl, rfl, rfl, rfl, rfl, rfl, trivial⟩ ?_
    refine Go'.seq ?_
    -- region 6 (tree.go:10)
    refine Go'.region [(0, 2)] rfl ?_
    refine O.alloc rfl rfl rfl Go.Proofs.Try.zeroValue68 ?_
    intro H5 M5
    refine ⟨trivial, ?_⟩
    have hs5 := M5.size
    replace ho4 := ho4.fr (M5.fr nowhere)
    replace mi4 := M5.keep mi4
    replace hx4 := (M5.fr nowhere).rd hx4 (fun _ _ => nw)
    have hf5 : Fr nowhere H2 H5 := hf4.trans (M5.fr nowhere)
    have hA5 := hA.fr hf5 (fun _ _ _ _ => nw)
    have hB5 := hB.fr hf5 (fun _ _ _ _ => nw)
    have m10 : Wr H5 H4.size 0 3 := M5.wr 3 (by decide)
    refine Pl.fin [(2, _), (6, _), (7, _), (9, _), (10, _), (11, _), (12, _), (13, _), (14, _)] ⟨rfl, rfl, rfl, rfl, rfl, rfl, rfl, rfl, rfl, trivial⟩ ?_
    refine Go'.seq ?_
    rcases hgo : Pl.got (OO ord) y (Pl.puts (OO ord) (l.take j)) with _ | z
    · skip
      -- region 7 (tree.go:11)
      refine Go'.region [(0, 0), (1, 1), (2, 0), (3, 1), (4, 2), (5, 0), (6, 0), (7, 0), (8, 0), (9, 2)] rfl ?_
      refine O.faz rfl rfl rfl rfl ⟨_, _, _, Go.Proofs.Try.underlying24, rfl, rfl, Go.Proofs.Try.sizeOf22⟩ rfl ?_
      refine O.ld rfl rfl rfl (fun w => ⟨Go.Proofs.Try.isAgg22 w, Go.Proofs.Try.sizeOf22 w⟩) rfl mi4 ?_
      refine O.mv rfl rfl rfl rfl rfl ?_
      refine O.lds rfl rfl rfl (fun w => ⟨Go.Proofs.Try.isAgg27 w, Go.Proofs.Try.sizeOf27 w⟩) rfl rfl hx4 ?_
      refine O.call rfl rfl rfl Go.Proofs.Try.call90 rfl (put_specA ho4 hl hB5.inS (Pl.puts_srt _ _) (by omega)) ?_
      rintro _ H6 ⟨iv2, rfl, hB6, hF6⟩
      rw [hgo]
      unfold FV
      have hs6 := hF6.size
      replace m10 := hF6.wr m10
      have hA6 := hA5.fr hF6 (fun _ _ _ _ => nw)
      refine ⟨trivial, ?_⟩
      refine O.mv rfl rfl rfl rfl rfl ?_
      refine O.ext rfl rfl rfl rfl rfl rfl ?_
      refine O.ext rfl rfl rfl rfl rfl rfl ?_
      refine O.asg rfl rfl rfl rfl rfl ?_
      refine O.st (vs := (fvs none)) rfl rfl Go.Proofs.Try.sizeOf68 rfl rfl rfl rfl rfl m10 ?_
      intro H7 W7
      have hs7 := W7.size
      have hA7 := hA6.fr W7.fr (fun b o hb hz hr => by have h1 := hr.1; have h2 := hZ b hz; omega)
      have hB7 := hB6.fr W7.fr (fun b o hb hz hr => by have h1 := hr.1; omega)
      have hx7 : Rd H7 H4.size 0 (fvs none) := W7.all
      have hf7 : Fr nowhere H2 H7 := (hf5.trans hF6).trans' W7.fr (fun _ _ _ h => h) (fun b o hb hz => by have h1 := hz.1; omega)
      refine ⟨trivial, ?_⟩
      refine Pl.fin [(2, _), (6, _), (7, _), (9, _), (10, _), (11, _), (12, _), (13, _), (14, _)] ⟨rfl, rfl, rfl, rfl, rfl, rfl, rfl, rfl, rfl, trivial⟩ ?_
      -- region 8 (tree.go:12)
      refine Go'.region [(0, 0), (1, 1), (2, 2), (3, 2), (4, 0)] rfl ?_
      refine O.mv rfl rfl rfl rfl rfl ?_
      refine O.lds rfl rfl rfl (fun w => ⟨Go.Proofs.Try.isAgg68 w, Go.Proofs.Try.sizeOf68 w⟩) rfl rfl hx7 ?_
      refine O.bsl (cs := (fvs none)) rfl rfl rfl ⟨Go.Proofs.Try.underlying64, Go.Proofs.Try.sizeOf68, Go.Proofs.Try.zeroValue68, ⟨_, Go.Proofs.Try.typeInfo68, rfl⟩, rfl, by decide, by decide⟩ rfl (by decide) (by kernel_rfl) ?_
      intro H8 M8
      have hs8 := M8.size
      have hA8 := hA7.fr (M8.fr nowhere) (fun _ _ _ _ => nw)
      have hB8 := hB7.fr (M8.fr nowhere) (fun _ _ _ _ => nw)
      have m5 : Rd H8 H7.size 0 (row EF [none]) := M8.rd _ [] (by simp [row, EF, fvs])
      refine ⟨trivial, ?_⟩
      refine O.appA (E := EF) (Y := [none]) rfl rfl rfl ⟨Go.Proofs.Try.underlying64, Go.Proofs.Try.sizeOf68, Go.Proofs.Try.zeroValue68, ⟨_, Go.Proofs.Try.typeInfo68, rfl⟩, rfl, by decide, by decide⟩ rfl hA8 rfl ⟨_, _, _, rfl, m5⟩ (Nat.succ_pos _) (by rw [hlout]; exact Nat.le_trans (Nat.mul_le_mul_left _ (Nat.le_of_ble_eq_true (n := _) (m := 4096) rfl)) (by simp only [List.length_cons, List.length_nil]; omega)) (by rw [hlout]; simp only [List.length_cons, List.length_nil]; omega) ?_
      intro v9 H9 hA9 hF9 hs9
      have hB9 := hB8.fr hF9 (fun b o hb hz hr => by have h1 := hZ b hr; omega)
      have hg9 := hF9.size
      rw [hgo] at egot
      refine ⟨trivial, ?_⟩
      refine O.asg rfl rfl rfl rfl rfl ?_
      refine Pl.fin [(2, _), (6, _), (7, _), (9, _), (10, _), (11, _), (12, _), (13, _), (14, _)] ⟨rfl, rfl, rfl, rfl, rfl, rfl, rfl, rfl, rfl, trivial⟩ ?_
      refine Go'.inBlock ?_
      -- region 9 (tree.go:9)
      refine Go'.region [(0, 0), (1, 0)] rfl ?_
      refine O.add (((j + 1 : Nat) : Int)) rfl rfl rfl rfl rfl rfl (by omega) (by omega) ?_
      refine O.mv rfl rfl rfl rfl rfl ?_
      refine Pl.fin [(2, _), (6, _), (7, _), (9, _), (10, _), (11, _), (12, _), (13, _), (14, _)] ⟨rfl, rfl, rfl, rfl, rfl, rfl, rfl, rfl, rfl, trivial⟩ ?_
      refine Go'.keep [(2, _), (6, _), (7, _), (11, _), (12, _), (13, _)] ⟨rfl, rfl, rfl, rfl, rfl, rfl, trivial⟩ ?_
      refine Go'.inLoop ?_
      refine ih (j + 1, v9, iv2, fun b => Zo b ∨ (b = H8.size ∧ b < H9.size)) H9 ⟨((hF.trans hf7).trans (M8.fr nowhere)).trans' hF9 (fun _ _ _ h => h) (fun b o hb hz => by have h1 := (hZ b hz).1; omega), hlt, ?_, ?_, fun b hb => hb.elim (fun h => ⟨(hZ b h).1, by have := (hZ b h).2; omega⟩) (fun h => ⟨by omega, h.2⟩)⟩ (by simp only; omega)
      · simp only
        rw [egot]
        exact hA9
      · simp only
        rw [eput]
        exact (hB8.mono (Y := fun b => ¬ Zo b ∧ b < H8.size) (fun b hb hz => ⟨fun h => by have := hZ b h; omega, hb⟩)).fr hF9 (fun b o hb hz hr => hz.1 hr) |>.mono (fun b hb hz h => h.elim hz.1 (fun h => by have := hz.2; omega))
    · skip
      -- region 7 (tree.go:11)
      refine Go'.region [(0, 0), (1, 1), (2, 0), (3, 1), (4, 2), (5, 0), (6, 0), (7, 0), (8, 0), (9, 2)] rfl ?_
      refine O.faz rfl rfl rfl rfl ⟨_, _, _, Go.Proofs.Try.underlying24, rfl, rfl, Go.Proofs.Try.sizeOf22⟩ rfl ?_
      refine O.ld rfl rfl rfl (fun w => ⟨Go.Proofs.Try.isAgg22 w, Go.Proofs.Try.sizeOf22 w⟩) rfl mi4 ?_
      refine O.mv rfl rfl rfl rfl rfl ?_
      refine O.lds rfl rfl rfl (fun w => ⟨Go.Proofs.Try.isAgg27 w, Go.Proofs.Try.sizeOf27 w⟩) rfl rfl hx4 ?_
      refine O.call rfl rfl rfl Go.Proofs.Try.call90 rfl (put_specA ho4 hl hB5.inS (Pl.puts_srt _ _) (by omega)) ?_
      rintro _ H6 ⟨iv2, rfl, hB6, hF6⟩
      rw [hgo]
      unfold FV
      have hs6 := hF6.size
      replace m10 := hF6.wr m10
      have hA6 := hA5.fr hF6 (fun _ _ _ _ => nw)
      refine ⟨trivial, ?_⟩
      refine O.mv rfl rfl rfl rfl rfl ?_
      refine O.ext rfl rfl rfl rfl rfl rfl ?_
      refine O.ext rfl rfl rfl rfl rfl rfl ?_
      refine O.asg rfl rfl rfl rfl rfl ?_
      refine O.st (vs := (fvs (some z))) rfl rfl Go.Proofs.Try.sizeOf68 rfl rfl rfl rfl rfl m10 ?_
      intro H7 W7
      have hs7 := W7.size
      have hA7 := hA6.fr W7.fr (fun b o hb hz hr => by have h1 := hr.1; have h2 := hZ b hz; omega)
      have hB7 := hB6.fr W7.fr (fun b o hb hz hr => by have h1 := hr.1; omega)
      have hx7 : Rd H7 H4.size 0 (fvs (some z)) := W7.all
      have hf7 : Fr nowhere H2 H7 := (hf5.trans hF6).trans' W7.fr (fun _ _ _ h => h) (fun b o hb hz => by have h1 := hz.1; omega)
      refine ⟨trivial, ?_⟩
      refine Pl.fin [(2, _), (6, _), (7, _), (9, _), (10, _), (11, _), (12, _), (13, _), (14, _)] ⟨rfl, rfl, rfl, rfl, rfl, rfl, rfl, rfl, rfl, trivial⟩ ?_
      -- region 8 (tree.go:12)
      refine Go'.region [(0, 0), (1, 1), (2, 2), (3, 2), (4, 0)] rfl ?_
      refine O.mv rfl rfl rfl rfl rfl ?_
      refine O.lds rfl rfl rfl (fun w => ⟨Go.Proofs.Try.isAgg68 w, Go.Proofs.Try.sizeOf68 w⟩) rfl rfl hx7 ?_
      refine O.bsl (cs := (fvs (some z))) rfl rfl rfl ⟨Go.Proofs.Try.underlying64, Go.Proofs.Try.sizeOf68, Go.Proofs.Try.zeroValue68, ⟨_, Go.Proofs.Try.typeInfo68, rfl⟩, rfl, by decide, by decide⟩ rfl (by decide) (by kernel_rfl) ?_
      intro H8 M8
      have hs8 := M8.size
      have hA8 := hA7.fr (M8.fr nowhere) (fun _ _ _ _ => nw)
      have hB8 := hB7.fr (M8.fr nowhere) (fun _ _ _ _ => nw)
      have m5 : Rd H8 H7.size 0 (row EF [(some z)]) := M8.rd _ [] (by simp [row, EF, fvs])
      refine ⟨trivial, ?_⟩
      refine O.appA (E := EF) (Y := [(some z)]) rfl rfl rfl ⟨Go.Proofs.Try.underlying64, Go.Proofs.Try.sizeOf68, Go.Proofs.Try.zeroValue68, ⟨_, Go.Proofs.Try.typeInfo68, rfl⟩, rfl, by decide, by decide⟩ rfl hA8 rfl ⟨_, _, _, rfl, m5⟩ (Nat.succ_pos _) (by rw [hlout]; exact Nat.le_trans (Nat.mul_le_mul_left _ (Nat.le_of_ble_eq_true (n := _) (m := 4096) rfl)) (by simp only [List.length_cons, List.length_nil]; omega)) (by rw [hlout]; simp only [List.length_cons, List.length_nil]; omega) ?_
      intro v9 H9 hA9 hF9 hs9
      have hB9 := hB8.fr hF9 (fun b o hb hz hr => by have h1 := hZ b hr; omega)
      have hg9 := hF9.size
      rw [hgo] at egot
      refine ⟨trivial, ?_⟩
      refine O.asg rfl rfl rfl rfl rfl ?_
      refine Pl.fin [(2, _), (6, _), (7, _), (9, _), (10, _), (11, _), (12, _), (13, _), (14, _)] ⟨rfl, rfl, rfl, rfl, rfl, rfl, rfl, rfl, rfl, trivial⟩ ?_
      refine Go'.inBlock ?_
      -- region 9 (tree.go:9)
      refine Go'.region [(0, 0), (1, 0)] rfl ?_
      refine O.add (((j + 1 : Nat) : Int)) rfl rfl rfl rfl rfl rfl (by omega) (by omega) ?_
      refine O.mv rfl rfl rfl rfl rfl ?_
      refine Pl.fin [(2, _), (6, _), (7, _), (9, _), (10, _), (11, _), (12, _), (13, _), (14, _)] ⟨rfl, rfl, rfl, rfl, rfl, rfl, rfl, rfl, rfl, trivial⟩ ?_
      refine Go'.keep [(2, _), (6, _), (7, _), (11, _), (12, _), (13, _)] ⟨rfl, rfl, rfl, rfl, rfl, rfl, trivial⟩ ?_
      refine Go'.inLoop ?_
      refine ih (j + 1, v9, iv2, fun b => Zo b ∨ (b = H8.size ∧ b < H9.size)) H9 ⟨((hF.trans hf7).trans (M8.fr nowhere)).trans' hF9 (fun _ _ _ h => h) (fun b o hb hz => by have h1 := (hZ b hz).1; omega), hlt, ?_, ?_, fun b hb => hb.elim (fun h => ⟨(hZ b h).1, by have := (hZ b h).2; omega⟩) (fun h => ⟨by omega, h.2⟩)⟩ (by simp only; omega)
      · simp only
        rw [egot]
        exact hA9
      · simp only
        rw [eput]
        exact (hB8.mono (Y := fun b => ¬ Zo b ∧ b < H8.size) (fun b hb hz => ⟨fun h => by have := hZ b h; omega, hb⟩)).fr hF9 (fun b o hb hz hr => hz.1 hr) |>.mono (fun b hb hz h => h.elim hz.1 (fun h => by have := hz.2; omega))
  · skip
    obtain rfl : j = l.length := by omega
    rw [List.take_length] at hA hB
    -- region 4 (tree.go:9)
    refine Go'.region [(0, 0)] rfl ?_
    refine O.cmp rfl rfl rfl rfl rfl rfl (lssF (by omega)) ?_
    refine Pl.fin [(2, _), (6, _), (7, _), (11, _), (12, _), (13, _), (14, _)] ⟨rfl, rfl, rfl, rfl, rfl, rfl, rfl, trivial⟩ ?_
    refine Go'.seq ?_
    refine Go'.condF rfl ?_
    refine Go'.exit rfl ?_
    refine Go'.seq ?_
    -- region 10 (tree.go:14)
    refine Go'.region [(0, 0), (1, 0), (2, 0), (3, 0)] rfl ?_
    refine O.mv rfl rfl rfl rfl rfl ?_
    refine O.mv rfl rfl rfl rfl rfl ?_
    refine O.asg rfl rfl rfl rfl rfl ?_
    refine O.asg rfl rfl rfl rfl rfl ?_
    refine Pl.fin [(4, _), (5, _)] ⟨rfl, rfl, trivial⟩ ?_
    refine Go'.ret (vs := [_, _]) Go.Proofs.Try.func85 Go.Proofs.Try.results85 ⟨rfl, rfl, trivial⟩ ?_
    exact ⟨_, _, rfl, hA.out, hB.out, hF1.trans hF⟩

theorem lawGSetHint_spec {B : World} {H : Mem} {d : Nat} {nl : Bool} {v u : Value} {ord : List Int} {l : List (Int × Int)} (hd : d = 0 ∨ 2 ≤ d ∧ d ≤ 128) (ho : InS EN H v ord) (hol : ord.length ≤ 4294967296) (hi : InS EJ H u l) (hll : l.length ≤ 4294967296) :
    Fn Try.prog B 37 [.agg #[v, .int .i64 (d : Int), .bool nl], u] H (fun r H' => r = .bool true ∧ Fr nowhere H H') := by
  obtain ⟨a, c, hu⟩ := hi.len
  subst hu
  obtain ⟨av, mv, cv, hv⟩ := InS.form ho
  subst hv
  have hF : Fr nowhere H H := Fr.refl _ _
  have hP := PD_ok hd
  refine fn_of Go.Proofs.Try.func37 rfl Go.Proofs.Try.ntmps37 ?_
  refine (show Go' _ _ _ _ 29 [(0, _), (1, _)] [.code _] _ from ?_)
  refine Go'.seq ?_
  -- region 0 (exact.go:34)
  refine Go'.region [(0, 2), (1, 0)] rfl ?_
  refine O.box rfl rfl rfl rfl ?_
  intro B1 MB1
  refine ⟨trivial, ?_⟩
  have hsB1 := MB1.size
  replace hF := hF.trans (MB1.fr nowhere)
  have mm : Rd B1 H.size 0 [.slice av mv cv, .int .i64 (d : Int), .bool nl] := MB1.rd _ [] (by simp [Value.cells])
  have mm0 : cl B1 H.size 0 = some (.slice av mv cv) := mm 0 _ rfl
  have mm1 : cl B1 H.size (0 + 1) = some (.int .i64 (d : Int)) := mm 1 _ rfl
  refine O.asg rfl rfl rfl rfl rfl ?_
  refine Pl.fin [(1, _), (2, _), (4, _)] ⟨rfl, rfl, rfl, trivial⟩ ?_
  refine Go'.seq ?_
  have hpl := Pl.puts_length (OO ord) l
  have hgl := Pl.gots_length (OO ord) l
  -- region 1 (exact.go:35)
  refine Go'.region [(0, 1), (1, 0), (2, 2), (3, 0), (4, 0), (5, 0), (6, 0), (7, 0)] rfl ?_
  refine O.lds rfl rfl rfl (fun w => ⟨Go.Proofs.Try.isAgg24 w, Go.Proofs.Try.sizeOf24 w⟩) rfl rfl mm ?_
  refine O.mv rfl rfl rfl rfl rfl ?_
  refine O.call rfl rfl rfl Go.Proofs.Try.call84 rfl (igsethint_spec hd (ho.fr hF) hol (hi.fr hF) hll) ?_
  rintro _ H3 ⟨v1, v2, rfl, h1, h2, hF3⟩
  replace hF := hF.trans hF3
  replace mm := hF3.rd mm (fun _ _ => nw)
  replace mm0 := hF3.keep mm0 nw
  replace mm1 := hF3.keep mm1 nw
  refine ⟨trivial, ?_⟩
  refine O.mv rfl rfl rfl rfl rfl ?_
  refine O.ext rfl rfl rfl rfl rfl rfl ?_
  refine O.ext rfl rfl rfl rfl rfl rfl ?_
  refine O.asg rfl rfl rfl rfl rfl ?_
  refine O.asg rfl rfl rfl rfl rfl ?_
  refine Pl.fin [(1, _), (2, _), (4, _), (5, _), (6, _)] ⟨rfl, rfl, rfl, rfl, rfl, trivial⟩ ?_
  refine Go'.seq ?_
  -- region 2 (exact.go:36)
  refine Go'.region [(0, 1), (1, 0), (2, 2), (3, 0), (4, 0), (5, 0), (6, 0), (7, 0)] rfl ?_
  refine O.lds rfl rfl rfl (fun w => ⟨Go.Proofs.Try.isAgg24 w, Go.Proofs.Try.sizeOf24 w⟩) rfl rfl mm ?_
  refine O.mv rfl rfl rfl rfl rfl ?_
  refine O.call rfl rfl rfl Go.Proofs.Try.call85 rfl (gset_spec (ho.fr hF) (by omega) (hi.fr hF) hll) ?_
  rintro _ H4 ⟨v3, v4, rfl, h3, h4, hF4⟩
  replace hF := hF.trans hF4
  replace mm := hF4.rd mm (fun _ _ => nw)
  replace mm0 := hF4.keep mm0 nw
  replace mm1 := hF4.keep mm1 nw
  refine ⟨trivial, ?_⟩
  refine O.mv rfl rfl rfl rfl rfl ?_
  refine O.ext rfl rfl rfl rfl rfl rfl ?_
  refine O.ext rfl rfl rfl rfl rfl rfl ?_
  refine O.asg rfl rfl rfl rfl rfl ?_
  refine O.asg rfl rfl rfl rfl rfl ?_
  refine Pl.fin [(4, _), (5, _), (6, _), (7, _), (8, _)] ⟨rfl, rfl, rfl, rfl, rfl, trivial⟩ ?_
  refine Go'.seq ?_
  -- region 3 (exact.go:37)
  refine Go'.region [(0, 0), (1, 0), (2, 2), (3, 0), (4, 0), (5, 0), (6, 2), (7, 0), (8, 0)] rfl ?_
  refine O.mv rfl rfl rfl rfl rfl ?_
  refine O.mv rfl rfl rfl rfl rfl ?_
  refine O.callQ rfl rfl rfl Go.Proofs.Try.call83 rfl (eqFounds_spec (h1.inS.fr hF4) h3.inS (by omega)) trivial ?_
  refine O.mv rfl rfl rfl rfl rfl ?_
  refine O.mv rfl rfl rfl rfl rfl ?_
  refine O.mv rfl rfl rfl rfl rfl ?_
  refine O.callQ rfl rfl rfl Go.Proofs.Try.call28 rfl (eqItems_spec (h2.inS.fr hF4) h4.inS (by omega)) trivial ?_
  refine O.pick rfl rfl rfl rfl rfl rfl ?_
  refine O.asg rfl rfl rfl rfl rfl ?_
  refine Pl.fin [(4, _)] ⟨rfl, trivial⟩ ?_
  refine Go'.ret (vs := [_]) Go.Proofs.Try.func37 Go.Proofs.Try.results37 ⟨rfl, trivial⟩ ?_
  exact ⟨rfl, hF⟩

theorem fnExactGSetHint {B : World} {H : Mem} {z : Int} {nl : Bool} {v u : Value} {ord : List Int} {l : List (Int × Int)} (ho : InS EN H v ord) (hi : InS EJ H u l) :
    Fn Try.prog B 8 [.agg #[v, .int .i64 z, .bool nl], u] H (fun r H' => r = .bool true ∧ Fr nowhere H H') := by
  obtain ⟨a, c, hu⟩ := hi.len
  subst hu
  obtain ⟨av, mv, cv, hv⟩ := InS.form ho
  subst hv
  have hF : Fr nowhere H H := Fr.refl _ _
  refine fn_of Go.Proofs.Try.func8 rfl Go.Proofs.Try.ntmps8 ?_
  refine (show Go' _ _ _ _ 27 [(0, _), (1, _)] [.code _] _ from ?_)
  refine Go'.seq ?_
  -- region 0 (exact.go:27)
  refine Go'.region [(0, 2), (1, 0)] rfl ?_
  refine O.box rfl rfl rfl rfl ?_
  intro B1 MB1
  refine ⟨trivial, ?_⟩
  have hsB1 := MB1.size
  replace hF := hF.trans (MB1.fr nowhere)
  have mm : Rd B1 H.size 0 [.slice av mv cv, .int .i64 z, .bool nl] := MB1.rd _ [] (by simp [Value.cells])
  have mm0 : cl B1 H.size 0 = some (.slice av mv cv) := mm 0 _ rfl
  have mm1 : cl B1 H.size (0 + 1) = some (.int .i64 z) := mm 1 _ rfl
  refine O.asg rfl rfl rfl rfl rfl ?_
  refine Pl.fin [(1, _), (2, _), (4, _)] ⟨rfl, rfl, rfl, trivial⟩ ?_
  refine Go'.seq ?_
  refine Go'.seq ?_
  cases hoz : decide (ord.length ≤ 2147483647)
  · skip
    -- region 1 (exact.go:28)
    refine Go'.region [(0, 1), (1, 2), (2, 0), (3, 0), (4, 0), (5, 0), (6, 0), (7, 0)] rfl ?_
    refine O.lds rfl rfl rfl (fun w => ⟨Go.Proofs.Try.isAgg24 w, Go.Proofs.Try.sizeOf24 w⟩) rfl rfl mm ?_
    refine O.call rfl rfl rfl Go.Proofs.Try.call23 rfl (zzFits1_spec (ho.fr hF) hoz) ?_
    rintro _ H1 ⟨rfl, hF1⟩
    replace hF := hF.trans hF1
    replace mm := hF1.rd mm (fun _ _ => nw)
    replace mm0 := hF1.keep mm0 nw
    replace mm1 := hF1.keep mm1 nw
    refine ⟨trivial, ?_⟩
    refine O.not rfl rfl rfl rfl rfl ?_
    refine O.mv rfl rfl rfl rfl rfl ?_
    refine Pl.pass rfl rfl rfl rfl ?_
    refine Pl.pass rfl rfl rfl rfl ?_
    refine Pl.pass rfl rfl rfl rfl ?_
    refine O.pick rfl rfl rfl rfl rfl rfl ?_
    refine Pl.fin [(1, _), (2, _), (4, _), (12, _)] ⟨rfl, rfl, rfl, rfl, trivial⟩ ?_
    refine Go'.condT rfl ?_
    refine Go'.seq ?_
    -- region 2 (exact.go:29)
    refine Go'.region [(0, 0)] rfl ?_
    refine O.asg rfl rfl rfl rfl rfl ?_
    refine Pl.fin [(1, _), (2, _), (4, _)] ⟨rfl, rfl, rfl, trivial⟩ ?_
    refine Go'.ret (vs := [_]) Go.Proofs.Try.func8 Go.Proofs.Try.results8 ⟨rfl, trivial⟩ ?_
    exact ⟨rfl, hF⟩
  · skip
    have hoz2 := of_decide_eq_true hoz
    by_cases hb_lenl : (2147483647 : Int) < (l.length : Int)
    · skip
      -- region 1 (exact.go:28)
      refine Go'.region [(0, 1), (1, 2), (2, 0), (3, 0), (4, 0), (5, 0), (6, 0), (7, 0)] rfl ?_
      refine O.lds rfl rfl rfl (fun w => ⟨Go.Proofs.Try.isAgg24 w, Go.Proofs.Try.sizeOf24 w⟩) rfl rfl mm ?_
      refine O.call rfl rfl rfl Go.Proofs.Try.call23 rfl (zzFits1_spec (ho.fr hF) hoz) ?_
      rintro _ H1 ⟨rfl, hF1⟩
      replace hF := hF.trans hF1
      replace mm := hF1.rd mm (fun _ _ => nw)
      replace mm0 := hF1.keep mm0 nw
      replace mm1 := hF1.keep mm1 nw
      refine ⟨trivial, ?_⟩
      refine O.not rfl rfl rfl rfl rfl ?_
      refine O.mv rfl rfl rfl rfl rfl ?_
      refine O.mv rfl rfl rfl rfl rfl ?_
      refine O.len rfl rfl rfl rfl Go.Proofs.Try.underlying25 rfl ?_
      refine O.cmp rfl rfl rfl rfl rfl rfl (gtrT (by omega)) ?_
      refine O.pick rfl rfl rfl rfl rfl rfl ?_
      refine Pl.fin [(1, _), (2, _), (4, _), (12, _)] ⟨rfl, rfl, rfl, rfl, trivial⟩ ?_
      refine Go'.condT rfl ?_
      refine Go'.seq ?_
      -- region 2 (exact.go:29)
      refine Go'.region [(0, 0)] rfl ?_
      refine O.asg rfl rfl rfl rfl rfl ?_
      refine Pl.fin [(1, _), (2, _), (4, _)] ⟨rfl, rfl, rfl, trivial⟩ ?_
      refine Go'.ret (vs := [_]) Go.Proofs.Try.func8 Go.Proofs.Try.results8 ⟨rfl, trivial⟩ ?_
      exact ⟨rfl, hF⟩
    · skip
      -- region 1 (exact.go:28)
      refine Go'.region [(0, 1), (1, 2), (2, 0), (3, 0), (4, 0), (5, 0), (6, 0), (7, 0)] rfl ?_
      refine O.lds rfl rfl rfl (fun w => ⟨Go.Proofs.Try.isAgg24 w, Go.Proofs.Try.sizeOf24 w⟩) rfl rfl mm ?_
      refine O.call rfl rfl rfl Go.Proofs.Try.call23 rfl (zzFits1_spec (ho.fr hF) hoz) ?_
      rintro _ H1 ⟨rfl, hF1⟩
      replace hF := hF.trans hF1
      replace mm := hF1.rd mm (fun _ _ => nw)
      replace mm0 := hF1.keep mm0 nw
      replace mm1 := hF1.keep mm1 nw
      refine ⟨trivial, ?_⟩
      refine O.not rfl rfl rfl rfl rfl ?_
      refine O.mv rfl rfl rfl rfl rfl ?_
      refine O.mv rfl rfl rfl rfl rfl ?_
      refine O.len rfl rfl rfl rfl Go.Proofs.Try.underlying25 rfl ?_
      refine O.cmp rfl rfl rfl rfl rfl rfl (gtrF (by omega)) ?_
      refine O.pick rfl rfl rfl rfl rfl rfl ?_
      refine Pl.fin [(1, _), (2, _), (4, _), (12, _)] ⟨rfl, rfl, rfl, rfl, trivial⟩ ?_
      refine Go'.condF rfl ?_
      refine Go'.skip ?_
      refine Go'.seq ?_
      cases hfz : fitsb z
      · skip
        -- region 3 (exact.go:31)
        refine Go'.region [(0, 2), (1, 2), (2, 2), (3, 0), (4, 0), (5, 1), (6, 2), (7, 0), (8, 0), (9, 1), (10, 0), (11, 2), (12, 0), (13, 0), (14, 0)] rfl ?_
        refine O.call rfl rfl rfl Go.Proofs.Try.call30 rfl exMake_spec ?_
        rintro _ H2 ⟨rfl, hF2⟩
        replace hF := hF.trans hF2
        replace mm := hF2.rd mm (fun _ _ => nw)
        replace mm0 := hF2.keep mm0 nw
        replace mm1 := hF2.keep mm1 nw
        refine ⟨trivial, ?_⟩
        refine O.call rfl rfl rfl Go.Proofs.Try.call32 rfl exItems_spec ?_
        rintro ev H3 ⟨hev, hF3⟩
        replace hF := hF.trans hF3
        replace mm := hF3.rd mm (fun _ _ => nw)
        replace mm0 := hF3.keep mm0 nw
        replace mm1 := hF3.keep mm1 nw
        refine ⟨trivial, ?_⟩
        refine O.call rfl rfl rfl Go.Proofs.Try.call37 rfl (lawGSetHint_spec (d := 2) (by decide) (InS.nil EN _) (by decide) hev (by decide)) ?_
        rintro _ H4 ⟨rfl, hF4⟩
        replace hF := hF.trans hF4
        replace mm := hF4.rd mm (fun _ _ => nw)
        replace mm0 := hF4.keep mm0 nw
        replace mm1 := hF4.keep mm1 nw
        refine ⟨trivial, ?_⟩
        refine O.mv rfl rfl rfl rfl rfl ?_
        refine O.fa0 (off := 1) rfl rfl rfl rfl ⟨_, _, _, Go.Proofs.Try.underlying24, rfl, rfl, Go.Proofs.Try.sizeOf3⟩ rfl ?_
        refine O.ld rfl rfl rfl (fun w => ⟨Go.Proofs.Try.isAgg3 w, Go.Proofs.Try.sizeOf3 w⟩) rfl mm1 ?_
        refine O.callQ rfl rfl rfl Go.Proofs.Try.call33 rfl (fits_spec' hfz) trivial ?_
        refine O.not rfl rfl rfl rfl rfl ?_
        refine O.mv rfl rfl rfl rfl rfl ?_
        refine Pl.pass rfl rfl rfl rfl ?_
        refine Pl.pass rfl rfl rfl rfl ?_
        refine Pl.pass2 rfl rfl rfl rfl trivial ?_
        refine O.pick rfl rfl rfl rfl rfl rfl ?_
        refine O.pick rfl rfl rfl rfl rfl rfl ?_
        refine O.asg rfl rfl rfl rfl rfl ?_
        refine Pl.fin [(4, _)] ⟨rfl, trivial⟩ ?_
        refine Go'.ret (vs := [_]) Go.Proofs.Try.func8 Go.Proofs.Try.results8 ⟨rfl, trivial⟩ ?_
        exact ⟨rfl, hF⟩
      · skip
        obtain ⟨d, rfl, hd⟩ := fitsb_nat hfz
        -- region 3 (exact.go:31)
        refine Go'.region [(0, 2), (1, 2), (2, 2), (3, 0), (4, 0), (5, 1), (6, 2), (7, 0), (8, 0), (9, 1), (10, 0), (11, 2), (12, 0), (13, 0), (14, 0)] rfl ?_
        refine O.call rfl rfl rfl Go.Proofs.Try.call30 rfl exMake_spec ?_
        rintro _ H2 ⟨rfl, hF2⟩
        replace hF := hF.trans hF2
        replace mm := hF2.rd mm (fun _ _ => nw)
        replace mm0 := hF2.keep mm0 nw
        replace mm1 := hF2.keep mm1 nw
        refine ⟨trivial, ?_⟩
        refine O.call rfl rfl rfl Go.Proofs.Try.call32 rfl exItems_spec ?_
        rintro ev H3 ⟨hev, hF3⟩
        replace hF := hF.trans hF3
        replace mm := hF3.rd mm (fun _ _ => nw)
        replace mm0 := hF3.keep mm0 nw
        replace mm1 := hF3.keep mm1 nw
        refine ⟨trivial, ?_⟩
        refine O.call rfl rfl rfl Go.Proofs.Try.call37 rfl (lawGSetHint_spec (d := 2) (by decide) (InS.nil EN _) (by decide) hev (by decide)) ?_
        rintro _ H4 ⟨rfl, hF4⟩
        replace hF := hF.trans hF4
        replace mm := hF4.rd mm (fun _ _ => nw)
        replace mm0 := hF4.keep mm0 nw
        replace mm1 := hF4.keep mm1 nw
        refine ⟨trivial, ?_⟩
        refine O.mv rfl rfl rfl rfl rfl ?_
        refine O.fa0 (off := 1) rfl rfl rfl rfl ⟨_, _, _, Go.Proofs.Try.underlying24, rfl, rfl, Go.Proofs.Try.sizeOf3⟩ rfl ?_
        refine O.ld rfl rfl rfl (fun w => ⟨Go.Proofs.Try.isAgg3 w, Go.Proofs.Try.sizeOf3 w⟩) rfl mm1 ?_
        refine O.callQ rfl rfl rfl Go.Proofs.Try.call33 rfl (fits_spec' hfz) trivial ?_
        refine O.not rfl rfl rfl rfl rfl ?_
        refine O.mv rfl rfl rfl rfl rfl ?_
        refine O.lds rfl rfl rfl (fun w => ⟨Go.Proofs.Try.isAgg24 w, Go.Proofs.Try.sizeOf24 w⟩) rfl rfl mm ?_
        refine O.mv rfl rfl rfl rfl rfl ?_
        refine O.call rfl rfl rfl Go.Proofs.Try.call37 rfl (lawGSetHint_spec hd (ho.fr hF) (by omega) (hi.fr hF) (by omega)) ?_
        rintro _ H5 ⟨rfl, hF5⟩
        replace hF := hF.trans hF5
        replace mm := hF5.rd mm (fun _ _ => nw)
        replace mm0 := hF5.keep mm0 nw
        replace mm1 := hF5.keep mm1 nw
        refine ⟨trivial, ?_⟩
        refine O.pick rfl rfl rfl rfl rfl rfl ?_
        refine O.pick rfl rfl rfl rfl rfl rfl ?_
        refine O.asg rfl rfl rfl rfl rfl ?_
        refine Pl.fin [(4, _)] ⟨rfl, trivial⟩ ?_
        refine Go'.ret (vs := [_]) Go.Proofs.Try.func8 Go.Proofs.Try.results8 ⟨rfl, trivial⟩ ?_
        exact ⟨rfl, hF⟩

end Go.Bt.FG
