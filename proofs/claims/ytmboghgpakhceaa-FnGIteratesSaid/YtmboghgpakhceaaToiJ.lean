/- Contracts of functions of the program, proved by walking through their code. Conditions: those that each theorem names. -/
import Derived.Test.YtmboghgpakhceaaToiI
import Derived.Test.YtmboghgpakhceaaToiE
namespace Go.Bt.FG
open Go Go.Proofs
set_option maxRecDepth 20000
set_option maxHeartbeats 4000000
set_option linter.unusedVariables false
set_option linter.unusedSectionVars false

theorem igascend_spec {B : World} {H : Mem} {d : Nat} {nl : Bool} {v u : Value} {ord : List Int} {l : List (Int × Int)} (hd : d = 0 ∨ 2 ≤ d ∧ d ≤ 128) (ho : InS EN H v ord) (hol : ord.length ≤ 4294967296) (hi : InS EJ H u l) (hll : l.length ≤ 4294967296) (x : Int × Int) {n : Int} :
    Fn Try.prog B 59 [.agg #[v, .int .i64 (d : Int), .bool nl], u, .agg (EJ.enc x).toArray, .int .i64 n] H (fun r H' => OutS EJ H' r (firstN (Pl.up (OO ord) x (Pl.puts (OO ord) l)) n) ∧ Fr nowhere H H') := by
  obtain ⟨a, c, hu⟩ := hi.len
  subst hu
  obtain ⟨av, mv, cv, hv⟩ := InS.form ho
  subst hv
  have hF : Fr nowhere H H := Fr.refl _ _
  have hP := PD_ok hd
  refine fn_of Try.func59 rfl Try.ntmps59 ?_
  refine (show Go' _ _ _ _ 18 [(0, _), (1, _), (2, _), (3, _)] [.code _] _ from ?_)
  refine Go'.seq ?_
  -- region 0 (treeg.go:227)
  refine Go'.region [(0, 2), (1, 2), (2, 0)] rfl ?_
  refine O.box rfl rfl rfl rfl ?_
  intro B1 MB1
  refine ⟨trivial, ?_⟩
  have hsB1 := MB1.size
  replace hF := hF.trans (MB1.fr nowhere)
  have mm : Rd B1 H.size 0 [.slice av mv cv, .int .i64 (d : Int), .bool nl] := MB1.rd _ [] (by simp [Value.cells])
  have mm0 : cl B1 H.size 0 = some (.slice av mv cv) := mm 0 _ rfl
  have mm1 : cl B1 H.size (0 + 1) = some (.int .i64 (d : Int)) := mm 1 _ rfl
  refine O.box rfl rfl rfl rfl ?_
  intro B2 MB2
  refine ⟨trivial, ?_⟩
  have hsB2 := MB2.size
  replace hF := hF.trans (MB2.fr nowhere)
  replace mm := (MB2.fr nowhere).rd mm (fun _ _ => nw)
  replace mm0 := (MB2.fr nowhere).keep mm0 nw
  replace mm1 := (MB2.fr nowhere).keep mm1 nw
  have mpivot : Rd B2 B1.size 0 (EJ.enc x) := MB2.rd _ [] (by simp [Value.cells])
  refine O.asg rfl rfl rfl rfl rfl ?_
  refine Pl.fin [(1, _), (3, _), (4, _), (6, _), (8, _)] ⟨rfl, rfl, rfl, rfl, rfl, trivial⟩ ?_
  refine Go'.seq ?_
  -- region 1 (treeg.go:228)
  refine Go'.region [(0, 2)] rfl ?_
  refine O.alloc rfl rfl rfl Try.zeroValue25 ?_
  intro H2 M2
  refine ⟨trivial, ?_⟩
  have hs2 := M2.size
  replace hF := hF.trans (M2.fr nowhere)
  replace mm := (M2.fr nowhere).rd mm (fun _ _ => nw)
  replace mm0 := (M2.fr nowhere).keep mm0 nw
  replace mm1 := (M2.fr nowhere).keep mm1 nw
  replace mpivot := (M2.fr nowhere).rd mpivot (fun _ _ => nw)
  have hD : cl H2 B2.size 0 = some (.slice none 0 0) := (M2.cl 0).trans rfl
  have hw : Wr H2 B2.size 0 1 := M2.wr 1 (by decide)
  refine Pl.fin [(1, _), (3, _), (4, _), (6, _), (8, _), (9, _)] ⟨rfl, rfl, rfl, rfl, rfl, rfl, trivial⟩ ?_
  refine Go'.seq ?_
  -- region 2 (treeg.go:229)
  refine Go'.draw (fun H' => Rd H' B1.size 0 (EJ.enc x)) [(0, 1), (1, 0), (3, 0), (4, 0), (2, 2), (5, 2), (6, 2)] (by kernel_rfl) (by kernel_rfl) (mpivot) ?_
  refine O.lds rfl rfl rfl (fun w => ⟨Try.isAgg24 w, Try.sizeOf24 w⟩) rfl rfl mm ?_
  refine O.mv rfl rfl rfl rfl rfl ?_
  refine O.ldsC rfl rfl rfl (fun w => ⟨Try.isAgg27 w, Try.sizeOf27 w⟩) rfl rfl (fun _ h => h) ?_
  refine O.mv rfl rfl rfl rfl rfl ?_
  refine O.call rfl rfl rfl Try.call68 rfl (grow_spec hd (ho.fr hF) hol (hi.fr hF) hll) ?_
  rintro _ H3 ⟨I, hIo, hIw, hIb, tr, S, rfl, hM, hF3, hS⟩
  have hs3 := hF3.size
  replace hF := hF.trans hF3
  replace mm := hF3.rd mm (fun _ _ => nw)
  replace mm0 := hF3.keep mm0 nw
  replace mm1 := hF3.keep mm1 nw
  replace mpivot := hF3.rd mpivot (fun _ _ => nw)
  replace hD := hF3.keep hD nw
  replace hw := hF3.wr hw
  have hSb : ∀ b, S b ∨ (b < cx.base ∧ cx.own b) → H2.size ≤ b := fun b hb => hb.elim (hS b) (fun h => hIw b h.2)
  have hOO : OO ord = OI := by rw [← hIo]; rfl
  have hpl := Pl.puts_length OI l
  have hSlt := hM.lt
  have hbs := hM.tc.hb
  unfold ptr
  refine ⟨mpivot, ?_⟩
  refine O.call rfl rfl rfl Try.call107 rfl (taker_spec (n := n) hD hw) ?_
  rintro _ H4 ⟨b2, b3, rfl, hT, hF4⟩
  have hs4 := hF4.size
  replace hF := hF.trans hF4
  replace hM := hM.fr hF4 (fun _ _ _ => nw)
  replace mm := hF4.rd mm (fun _ _ => nw)
  replace mm0 := hF4.keep mm0 nw
  replace mm1 := hF4.keep mm1 nw
  replace mpivot := hF4.rd mpivot (fun _ _ => nw)
  refine ⟨mpivot, ?_⟩
  refine O.call rfl rfl rfl Try.call109 rfl (Ascend_spec (cbTk B b2 b3 B2.size n) Try.call152 hP x hM hT (fun b hb hz => hz.elim (fun h => by have := hSb b (.inl hb); omega) (fun h => by have := hSlt b hb; omega)) (fun b hz hb => hz.elim (fun h => by have := hSb b (.inr hb); omega) (fun h => by omega)) (by omega) (Nat.le_refl _)) ?_
  rintro _ H5 ⟨Z5, hT5, hF5, hZ5⟩
  have hmk : ∀ {b o v}, cl H4 b o = some v → b ≠ B2.size → b < B2.size → cl H5 b o = some v := fun {b o v} h h1 h2 => hF5.keep h (fun hz => hz.elim h1 (fun h => by omega))
  replace mm := hF5.rd mm (fun _ _ hz => hz.elim (fun h => by omega) (fun h => by omega))
  replace mpivot := hF5.rd mpivot (fun _ _ hz => hz.elim (fun h => by omega) (fun h => by omega))
  obtain ⟨ov, hv, hov⟩ := TkT.out hT5
  rw [takes_first] at hov
  replace hF := hF.trans' hF5 (fun _ _ _ h => h) (fun b o hb hz => hz.elim (fun h => by omega) (fun h => by omega))
  refine ⟨mpivot, ?_⟩
  refine Pl.fin [(8, _), (9, _)] ⟨rfl, rfl, trivial⟩ ?_
  refine Go'.seq ?_
  -- region 3 (treeg.go:230)
  refine Go'.region [(0, 1), (1, 0)] rfl ?_
  refine O.ld rfl rfl rfl (fun w => ⟨Try.isAgg25 w, Try.sizeOf25 w⟩) rfl hv ?_
  refine O.asg rfl rfl rfl rfl rfl ?_
  refine Pl.fin [(8, _)] ⟨rfl, trivial⟩ ?_
  refine Go'.ret (vs := [_]) Try.func59 Try.results59 ⟨rfl, trivial⟩ ?_
  rw [hOO]; exact ⟨hov, hF⟩

end Go.Bt.FG
