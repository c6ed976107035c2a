/- Contracts of functions of the program, proved by walking through their code. Conditions: those that each theorem names. -/
import Derived.Test.YtnlempnbagoipaaTokA
import Derived.Test.YtnlempnbagoipaaTocI
namespace Go.Bt.FB
open Go Go.Proofs Go.Proofs.Try
set_option maxRecDepth 20000
set_option maxHeartbeats 4000000
set_option linter.unusedVariables false
set_option linter.unusedSectionVars false

section
variable [Inhabited Cx]
theorem bSeek_spec {B : World} {H : Mem} {tr bt : Nat} {P : Ps} (hP : PsOk P) {S : Nat → Prop} {l : List (Int × Int)} {x : Int × Int} (hM : MapM H tr P S l) (hb : cl H bt 0 = some (ptr tr)) (hll : l.length ≤ 4294967296) (hsrt : Pl.Srt OI l) :
    Fn Try.prog B 55 [ptr bt,iv x] H (fun r H' => r = .tuple #[PV (l[Pl.pos OI x l]?),.bool (decide (Pl.pos OI x l < l.length))] ∧ Fr nowhere H H') := by
  unfold ptr at hb ⊢
  have hF : Fr nowhere H H := Fr.refl _ _
  have hSlt := hM.lt
  have hbs := hM.tc.hb
  refine fn_of func55 rfl ntmps55 ?_
  refine (show Go' _ _ _ _ 15 [(0,_),(1,_)] [.code _] _ from ?_)
  refine Go'.seq ?_
  refine Go'.region [(0,0),(1,0)] rfl ?_
  refine O.asg rfl rfl rfl rfl rfl ?_
  refine O.asg rfl rfl rfl rfl rfl ?_
  refine Pl.fin [(0,_),(1,_),(4,_),(5,_)] ⟨rfl,rfl,rfl,rfl,trivial⟩ ?_
  refine Go'.seq ?_
  refine Go'.region [(0,0),(1,2),(2,2),(3,2)] rfl ?_
  refine O.mv rfl rfl rfl rfl rfl ?_
  refine O.call rfl rfl rfl call70 rfl (bIter_spec hb) ?_
  rintro _ H4 ⟨kb,rfl,hF4,hwk,hkl,hkg⟩
  have hs4 := hF4.size
  replace hM := hM.fr hF4 (fun _ _ _ => nw)
  refine ⟨trivial,?_⟩
  refine O.alloc rfl rfl rfl zeroValue104 ?_
  intro H5 M5
  refine ⟨trivial,?_⟩
  have hs5 := M5.size
  replace hM := hM.fr (M5.fr nowhere) (fun _ _ _ => nw)
  replace hwk := (M5.fr nowhere).wr hwk
  have m7 : Wr H5 H4.size 0 16 := M5.wr 16 (by decide)
  refine O.st (vs := (itv tr false kb)) rfl rfl sizeOf104 rfl rfl rfl rfl rfl m7 ?_
  intro H6 W6
  have hs6 := W6.size
  replace hM := hM.fr W6.fr (fun b o hb => nr (.inl (hb.elim (fun hb => by have := hSlt b hb; omega) (fun hb => by have := hb.1; omega))))
  have hF6 : Fr nowhere H H6 := ((hF4.trans (M5.fr nowhere)).trans' W6.fr (fun _ _ _ h => h) (fun b o hb h => by have h' := h.1; omega))
  have hI := itr_new W6 m7 hwk (by omega) (by omega)
  obtain ⟨r,hT⟩ := hM.treeR hP (by omega)
  refine ⟨trivial,?_⟩
  refine Pl.fin [(1,_),(4,_),(5,_),(6,_)] ⟨rfl,rfl,rfl,rfl,trivial⟩ ?_
  refine Go'.seq ?_
  refine Go'.seq ?_
  refine Go'.region [(0,0),(1,2),(2,0)] rfl ?_
  refine O.mv rfl rfl rfl rfl rfl ?_
  refine O.call rfl rfl rfl call81 rfl (wSeek_spec hP hI hT (fun h => h.elim (fun h => by have := hSlt _ h; omega) (fun h => by have := h.1; omega)) (fun b h e => h.elim (fun h => by have := hSlt _ h; have e' : b = kb := e; omega) (fun h => by have := h.1; have e' : b = kb := e; omega)) hsrt x) ?_
  rintro _ H7 ⟨rfl,hp⟩
  obtain ⟨_,sk,ast,ae,Z7,fr,kv,hI7,hst,_⟩ := hp
  have hs7 := hI7.f.size
  replace hF6 : Fr nowhere H H7 := hF6.trans' hI7.f (fun _ _ _ h => h) (fun b o hb h => h.elim (fun e => by omega) (fun h => h.elim (fun e => by have e' : b = kb := e; omega) False.elim))
  replace hI7 := hI7.re
  refine ⟨trivial,?_⟩
  refine O.not rfl rfl rfl rfl rfl ?_
  refine Pl.fin [(4,_),(5,_),(6,_),(11,_)] ⟨rfl,rfl,rfl,rfl,trivial⟩ ?_
  by_cases hlt : Pl.pos OI x l < l.length
  rotate_left
  · skip
    rw [decide_eq_false hlt,List.getElem?_eq_none (by omega)]
    refine Go'.condT rfl ?_
    refine Go'.seq ?_
    refine Go'.region [(0,2)] rfl ?_
    refine O.call rfl rfl rfl call72 rfl (wRelease_spec hI7) ?_
    rintro _ H8 ⟨rfl,hF8⟩
    refine ⟨trivial,?_⟩
    refine Pl.fin [(4,_),(5,_),(6,_)] ⟨rfl,rfl,rfl,trivial⟩ ?_
    refine Go'.ret (vs := [_,_]) func55 results55 ⟨rfl,rfl,trivial⟩ ?_
    exact ⟨rfl,hF6.trans' hF8 (fun _ _ _ h => h) (fun b o hb h => by have h' : b = H4.size := h; omega)⟩
  · skip
    rw [if_pos hlt] at hst
    obtain ⟨_,hkv,_⟩ := hst
    cases kv with
    | none => exact hkv.elim
    | some y => ?_
    replace hkv : l[Pl.pos OI x l]? = some y := hkv
    rw [decide_eq_true hlt,hkv]
    refine Go'.condF rfl ?_
    refine Go'.skip ?_
    refine Go'.seq ?_
    refine Go'.region [(0,2),(1,0)] rfl ?_
    refine O.callQ rfl rfl rfl call82 rfl (wItem_spec hI7.kv) trivial ?_
    refine O.asg rfl rfl rfl rfl rfl ?_
    refine Pl.fin [(4,_),(5,_),(6,_)] ⟨rfl,rfl,rfl,trivial⟩ ?_
    refine Go'.seq ?_
    refine Go'.region [(0,0)] rfl ?_
    refine O.asg rfl rfl rfl rfl rfl ?_
    refine Pl.fin [(4,_),(5,_),(6,_)] ⟨rfl,rfl,rfl,trivial⟩ ?_
    refine Go'.seq ?_
    refine Go'.region [(0,2)] rfl ?_
    refine O.call rfl rfl rfl call72 rfl (wRelease_spec hI7) ?_
    rintro _ H8 ⟨rfl,hF8⟩
    refine ⟨trivial,?_⟩
    refine Pl.fin [(4,_),(5,_)] ⟨rfl,rfl,trivial⟩ ?_
    refine Go'.ret (vs := [_,_]) func55 results55 ⟨rfl,rfl,trivial⟩ ?_
    exact ⟨rfl,hF6.trans' hF8 (fun _ _ _ h => h) (fun b o hb h => by have h' : b = H4.size := h; omega)⟩
end
theorem ibseek_spec {B : World} {H : Mem} {d : Nat} {nl : Bool} {v u : Value} {ord : List Int} {l : List (Int × Int)} {x : Int × Int} (hd : d = 0 ∨ 2 ≤ d ∧ d ≤ 128) (ho : InS EN H v ord) (hol : ord.length ≤ 4294967296) (hi : InS EJ H u l) (hll : l.length ≤ 4294967296) :
    Fn Try.prog B 30 [.agg #[v,.int .i64 (d : Int),.bool nl],u,.agg (EJ.enc x).toArray] H (fun r H' => r = FV ((Pl.puts (OO ord) l)[Pl.pos (OO ord) x (Pl.puts (OO ord) l)]?) ∧ Fr nowhere H H') := by
  obtain ⟨a,c,hu⟩ := hi.len
  subst hu
  obtain ⟨av,mv,cv,hv⟩ := InS.form ho
  subst hv
  have hF : Fr nowhere H H := Fr.refl _ _
  have hP := PD_ok hd
  refine fn_of func30 rfl ntmps30 ?_
  refine (show Go' _ _ _ _ 23 [(0,_),(1,_),(2,_)] [.code _] _ from ?_)
  refine Go'.seq ?_
  refine Go'.region [(0,2),(1,2),(2,2)] rfl ?_
  refine O.box rfl rfl rfl rfl ?_
  intro B1 MB1
  refine ⟨trivial,?_⟩
  have hsB1 := MB1.size
  replace hF := hF.trans (MB1.fr nowhere)
  have mm : Rd B1 H.size 0 [.slice av mv cv,.int .i64 (d : Int),.bool nl] := MB1.rd _ [] (by simp [Value.cells])
  have mm0 : cl B1 H.size 0 = some (.slice av mv cv) := mm 0 _ rfl
  have mm1 : cl B1 H.size (0 + 1) = some (.int .i64 (d : Int)) := mm 1 _ rfl
  refine O.box rfl rfl rfl rfl ?_
  intro B2 MB2
  refine ⟨trivial,?_⟩
  have hsB2 := MB2.size
  replace hF := hF.trans (MB2.fr nowhere)
  replace mm := (MB2.fr nowhere).rd mm (fun _ _ => nw)
  replace mm0 := (MB2.fr nowhere).keep mm0 nw
  replace mm1 := (MB2.fr nowhere).keep mm1 nw
  have mkey : Rd B2 B1.size 0 (EJ.enc x) := MB2.rd _ [] (by simp [Value.cells])
  refine O.alloc rfl rfl rfl zeroValue44 ?_
  intro B3 MB3
  refine ⟨trivial,?_⟩
  have hsB3 := MB3.size
  replace hF := hF.trans (MB3.fr nowhere)
  replace mm := (MB3.fr nowhere).rd mm (fun _ _ => nw)
  replace mm0 := (MB3.fr nowhere).keep mm0 nw
  replace mm1 := (MB3.fr nowhere).keep mm1 nw
  replace mkey := (MB3.fr nowhere).rd mkey (fun _ _ => nw)
  have mw0 : Wr B3 B2.size 0 3 := MB3.wr 3 (by decide)
  refine Pl.fin [(1,_),(3,_),(5,_),(6,_)] ⟨rfl,rfl,rfl,rfl,trivial⟩ ?_
  refine Go'.seq ?_
  refine Go'.draw (fun H' => Rd H' B1.size 0 (EJ.enc x)) [(0,1),(1,0),(3,0),(4,0),(2,2),(5,2),(6,0),(7,0),(8,0),(9,0),(10,0)] (by kernel_rfl) (by kernel_rfl) (mkey) ?_
  refine O.lds rfl rfl rfl (fun w => ⟨isAgg24 w,sizeOf24 w⟩) rfl rfl mm ?_
  refine O.mv rfl rfl rfl rfl rfl ?_
  refine O.ldsC rfl rfl rfl (fun w => ⟨isAgg35 w,sizeOf35 w⟩) rfl rfl (fun _ h => h) ?_
  refine O.mki rfl rfl rfl rfl underlying35 rfl rfl ?_
  refine O.call rfl rfl rfl call51 rfl (grow_spec hd (ho.fr hF) hol (hi.fr hF) hll) ?_
  rintro _ H3 ⟨I,hIo,hIw,hIb,tr,S,bt,rfl,hM,hbt,hbl,hbu,hbS,hF3,hS⟩
  have hs3 := hF3.size
  replace hF := hF.trans hF3
  replace mm := hF3.rd mm (fun _ _ => nw)
  replace mm0 := hF3.keep mm0 nw
  replace mm1 := hF3.keep mm1 nw
  replace mkey := hF3.rd mkey (fun _ _ => nw)
  replace mw0 := hF3.wr mw0
  have hSb : ∀ b,S b ∨ (b < cx.base ∧ cx.own b) → B3.size ≤ b := fun b hb => hb.elim (hS b) (fun h => hIw b h.2)
  have hbg := hbl
  have hOO : OO ord = OI := by rw [← hIo]; rfl
  have hpl := Pl.puts_length OI l
  have hSlt := hM.lt
  have hbs := hM.tc.hb
  unfold ptr
  refine ⟨mkey,?_⟩
  refine O.call rfl rfl rfl call55 rfl (bSeek_spec hP (x := x) hM hbt (by omega) (Pl.puts_srt OI l)) ?_
  rintro _ H4 ⟨rfl,hF4⟩
  have hs4 := hF4.size
  replace hF := hF.trans hF4
  replace mm := hF4.rd mm (fun _ _ => nw)
  replace mm0 := hF4.keep mm0 nw
  replace mm1 := hF4.keep mm1 nw
  replace mkey := hF4.rd mkey (fun _ _ => nw)
  replace mw0 := hF4.wr mw0
  refine ⟨mkey,?_⟩
  refine O.mv rfl rfl rfl rfl rfl ?_
  refine O.ext rfl rfl rfl rfl rfl rfl ?_
  refine O.ext rfl rfl rfl rfl rfl rfl ?_
  refine O.asg rfl rfl rfl rfl rfl ?_
  refine O.asg rfl rfl rfl rfl rfl ?_
  refine Pl.fin [(6,_),(7,_),(8,_)] ⟨rfl,rfl,rfl,trivial⟩ ?_
  refine Go'.seq ?_
  refine Go'.seq ?_
  rw [hOO]
  by_cases hlt : Pl.pos OI x (Pl.puts OI l) < (Pl.puts OI l).length
  rotate_left
  · skip
    rw [List.getElem?_eq_none (by omega)]
    refine Go'.region [(0,0),(1,0)] rfl ?_
    refine O.mv rfl rfl rfl rfl rfl ?_
    refine O.not rfl rfl rfl rfl rfl ?_
    refine Pl.fin [(6,_),(7,_),(19,_)] ⟨rfl,rfl,rfl,trivial⟩ ?_
    rw [decide_eq_false hlt]
    refine Go'.condT rfl ?_
    refine Go'.seq ?_
    refine Go'.region [(0,0),(1,2)] rfl ?_
    refine O.bld (cs := (fvs none)) rfl rfl rfl rfl (st44) rfl (by kernel_rfl) ?_
    refine O.st (vs := (fvs none)) rfl rfl sizeOf44 rfl rfl rfl rfl rfl mw0 ?_
    intro H5 W5
    replace hF := hF.trans' W5.fr (fun _ _ _ h => h) (fun b o hb h => by have h' := h.1; omega)
    replace mm := W5.fr.rd mm (fun _ _ => nr (.inl (by omega)))
    replace mm0 := W5.fr.keep mm0 (nr (.inl (by omega)))
    replace mm1 := W5.fr.keep mm1 (nr (.inl (by omega)))
    replace mkey := W5.fr.rd mkey (fun _ _ => nr (.inl (by omega)))
    replace mw0 := W5.fr.wr mw0
    refine ⟨trivial,?_⟩
    refine Pl.fin [(6,_),(7,_)] ⟨rfl,rfl,trivial⟩ ?_
    refine Go'.ret (vs := [_]) func30 results30 ⟨⟨_,_,rfl,fun _ _ => run_loadVar_agg (fun w => ⟨isAgg44 w,sizeOf44 w⟩) rfl W5.all⟩,trivial⟩ ?_
    exact ⟨rfl,hF⟩
  · skip
    obtain ⟨y,hy⟩ : ∃ y,(Pl.puts OI l)[Pl.pos OI x (Pl.puts OI l)]? = some y := ⟨_,List.getElem?_eq_getElem hlt⟩
    rw [hy]
    refine Go'.region [(0,0),(1,0)] rfl ?_
    refine O.mv rfl rfl rfl rfl rfl ?_
    refine O.not rfl rfl rfl rfl rfl ?_
    refine Pl.fin [(6,_),(7,_),(19,_)] ⟨rfl,rfl,rfl,trivial⟩ ?_
    rw [decide_eq_true hlt]
    refine Go'.condF rfl ?_
    refine Go'.skip ?_
    refine Go'.seq ?_
    refine Go'.region [(0,0),(1,2),(2,2)] rfl ?_
    refine O.mv rfl rfl rfl rfl rfl ?_
    refine O.call rfl rfl rfl call56 rfl (foundAny_spec (some y)) ?_
    rintro _ H5 ⟨rfl,hF5⟩
    have hs5 := hF5.size
    replace hF := hF.trans hF5
    replace mm := hF5.rd mm (fun _ _ => nw)
    replace mm0 := hF5.keep mm0 nw
    replace mm1 := hF5.keep mm1 nw
    replace mkey := hF5.rd mkey (fun _ _ => nw)
    replace mw0 := hF5.wr mw0
    rw [FVe]
    refine ⟨trivial,?_⟩
    refine O.st (vs := (fvs (some y))) rfl rfl sizeOf44 rfl rfl rfl rfl rfl mw0 ?_
    intro H6 W6
    replace hF := hF.trans' W6.fr (fun _ _ _ h => h) (fun b o hb h => by have h' := h.1; omega)
    replace mm := W6.fr.rd mm (fun _ _ => nr (.inl (by omega)))
    replace mm0 := W6.fr.keep mm0 (nr (.inl (by omega)))
    replace mm1 := W6.fr.keep mm1 (nr (.inl (by omega)))
    replace mkey := W6.fr.rd mkey (fun _ _ => nr (.inl (by omega)))
    replace mw0 := W6.fr.wr mw0
    refine ⟨trivial,?_⟩
    refine Pl.fin [(6,_)] ⟨rfl,trivial⟩ ?_
    refine Go'.ret (vs := [_]) func30 results30 ⟨⟨_,_,rfl,fun _ _ => run_loadVar_agg (fun w => ⟨isAgg44 w,sizeOf44 w⟩) rfl W6.all⟩,trivial⟩ ?_
    exact ⟨rfl,hF⟩

theorem ibset_spec {B : World} {H : Mem} {d : Nat} {nl : Bool} {v u : Value} {ord : List Int} {l : List (Int × Int)} (hd : d = 0 ∨ 2 ≤ d ∧ d ≤ 128) (ho : InS EN H v ord) (hol : ord.length ≤ 4294967296) (hi : InS EJ H u l) (hll : l.length ≤ 4294967296) :
    Fn Try.prog B 50 [.agg #[v,.int .i64 (d : Int),.bool nl],u] H (fun r H' => ∃ v1 v2,r = .tuple #[v1,v2] ∧ OutS EF H' v1 (Pl.gots (OO ord) l) ∧ OutS EJ H' v2 (Pl.puts (OO ord) l) ∧ Fr nowhere H H') := by
  obtain ⟨a,c,hu⟩ := hi.len
  subst hu
  obtain ⟨av,mv,cv,hv⟩ := InS.form ho
  subst hv
  have hF : Fr nowhere H H := Fr.refl _ _
  have hP := PD_ok hd
  refine fn_of func50 rfl ntmps50 ?_
  refine (show Go' _ _ _ _ 30 [(0,_),(1,_)] [.code _] _ from ?_)
  refine Go'.seq ?_
  refine Go'.region [(0,2),(1,0),(2,0)] rfl ?_
  refine O.box rfl rfl rfl rfl ?_
  intro B1 MB1
  refine ⟨trivial,?_⟩
  have hsB1 := MB1.size
  replace hF := hF.trans (MB1.fr nowhere)
  have mm : Rd B1 H.size 0 [.slice av mv cv,.int .i64 (d : Int),.bool nl] := MB1.rd _ [] (by simp [Value.cells])
  have mm0 : cl B1 H.size 0 = some (.slice av mv cv) := mm 0 _ rfl
  have mm1 : cl B1 H.size (0 + 1) = some (.int .i64 (d : Int)) := mm 1 _ rfl
  refine O.asg rfl rfl rfl rfl rfl ?_
  refine O.asg rfl rfl rfl rfl rfl ?_
  refine Pl.fin [(1,_),(2,_),(4,_),(5,_)] ⟨rfl,rfl,rfl,rfl,trivial⟩ ?_
  refine Go'.seq ?_
  refine Go'.region [(0,1),(1,2),(2,0)] rfl ?_
  refine O.lds rfl rfl rfl (fun w => ⟨isAgg24 w,sizeOf24 w⟩) rfl rfl mm ?_
  refine O.call rfl rfl rfl call51 rfl (grow_spec (l := []) hd (ho.fr hF) hol (InS.nil EJ _) (by decide)) ?_
  rintro _ H3 ⟨I,hIo,hIw,hIb,tr,S,bt,rfl,hM,hbt,hbl,hbu,hbS,hF3,hS⟩
  have hs3 := hF3.size
  replace hF := hF.trans hF3
  replace mm := hF3.rd mm (fun _ _ => nw)
  replace mm0 := hF3.keep mm0 nw
  replace mm1 := hF3.keep mm1 nw
  have hSb : ∀ b,S b ∨ (b < cx.base ∧ cx.own b) → B1.size ≤ b := fun b hb => hb.elim (hS b) (fun h => hIw b h.2)
  have hbg := hbl
  have hOO : OO ord = OI := by rw [← hIo]; rfl
  have hpl := Pl.puts_length OI l
  have hSlt := hM.lt
  have hbs := hM.tc.hb
  unfold ptr
  refine ⟨trivial,?_⟩
  refine O.asg rfl rfl rfl rfl rfl ?_
  refine Pl.fin [(1,_),(4,_),(5,_),(6,_)] ⟨rfl,rfl,rfl,rfl,trivial⟩ ?_
  refine Go'.seq ?_
  refine Go'.region [(0,0)] rfl ?_
  refine O.asg rfl rfl rfl rfl rfl ?_
  refine Pl.fin [(1,_),(4,_),(5,_),(6,_),(7,_)] ⟨rfl,rfl,rfl,rfl,rfl,trivial⟩ ?_
  refine Go'.seq ?_
  refine Go'.seq ?_
  refine Go'.region [(0,0),(1,0),(2,0)] rfl ?_
  refine O.mv rfl rfl rfl rfl rfl ?_
  refine O.len rfl rfl rfl rfl underlying25 rfl ?_
  refine O.mv rfl rfl rfl rfl rfl ?_
  refine Pl.fin [(4,_),(5,_),(6,_),(7,_),(12,_),(13,_),(14,_)] ⟨rfl,rfl,rfl,rfl,rfl,rfl,rfl,trivial⟩ ?_
  refine Go'.block ?_
  refine Go'.loop ?_
  refine Go'.keep [(4,_),(5,_),(6,_),(7,_),(12,_),(13,_),(14,_)] ⟨rfl,rfl,rfl,rfl,rfl,rfl,rfl,trivial⟩ ?_
  refine Go'.ind (σ := Nat × Value) (fun s => l.length - s.1) (fun s H' => s.1 ≤ l.length ∧ Fr nowhere H H' ∧ H3.size ≤ H'.size ∧ cl H' bt 0 = some (ptr tr) ∧ ∃ S Zo,MapM H' tr (PD d) S (Pl.puts OI (l.take s.1)) ∧ (∀ b,S b → H.size ≤ b ∧ b ≠ bt) ∧ Acc EF Zo H' s.2 (Pl.gots OI (l.take s.1)) ∧ ∀ b,Zo b → H3.size ≤ b ∧ b < H'.size ∧ ¬ S b)
    (fun s => [(4,.slice none 0 0),(5,.slice none 0 0),(6,.pointer (some ⟨bt,0,none⟩)),(7,s.2),(12,.slice a l.length c),(13,.int .i64 (l.length : Int)),(14,.int .i64 (s.1 : Int))]) (0,.slice none 0 0) ⟨Nat.zero_le _,hF,Nat.le_refl _,hbt,S,fun _ => False,hM,fun b hb => ⟨by have := hS b hb; omega,fun e => hbS (e ▸ hb)⟩,Acc.nil _ _ _,fun _ h => h.elim⟩ rfl ?_
  clear hM hF hS hSb hSlt hbS hbt S
  rintro ⟨j,sv⟩ H5 ⟨hjl,hF,hs45,hbt,S,Zo,hM,hS,hA,hZ⟩ ih
  simp only at hjl hM hA
  have hi2 := hi.fr hF
  refine Go'.seq ?_
  by_cases hlt : j < l.length
  · skip
    obtain ⟨y,hy⟩ : ∃ y,l[j]? = some y := ⟨l[j],List.getElem?_eq_getElem hlt⟩
    obtain ⟨b,o,c',e,hr⟩ := hi2.at hy
    cases e
    have hpl2 := Pl.puts_length OI (l.take j)
    have hlout := Pl.gots_length OI (l.take j)
    have hSlt := hM.lt
    have hbs2 := hM.tc.hb
    have hsz := hF.size
    have eput : Pl.puts OI (l.take (j + 1)) = Pl.put OI y (Pl.puts OI (l.take j)) := by rw [List.take_add_one,hy]; exact Pl.puts_snoc _ _ _
    have egot : Pl.gots OI (l.take (j + 1)) = Pl.gots OI (l.take j) ++ [Pl.got OI y (Pl.puts OI (l.take j))] := by rw [List.take_add_one,hy]; exact Pl.gots_snoc _ _ _
    rw [List.length_take] at hpl2 hlout
    refine Go'.region [(0,0)] rfl ?_
    refine O.cmp rfl rfl rfl rfl rfl rfl (lssT (by omega)) ?_
    refine Pl.fin [(4,_),(5,_),(6,_),(7,_),(12,_),(13,_),(14,_),(15,_)] ⟨rfl,rfl,rfl,rfl,rfl,rfl,rfl,rfl,trivial⟩ ?_
    refine Go'.seq ?_
    refine Go'.condT rfl ?_
    refine Go'.skip ?_
    refine Go'.seq ?_
    refine Go'.block ?_
    refine Go'.seq ?_
    refine Go'.region [(0,0),(1,1),(2,2),(3,2)] rfl ?_
    refine O.ix (j := j) rfl rfl rfl rfl underlying25 sizeOf35 rfl rfl (by omega) hlt ?_
    refine O.lds rfl rfl rfl (fun w => ⟨isAgg35 w,sizeOf35 w⟩) rfl rfl hr ?_
    refine O.alloc rfl rfl rfl zeroValue35 ?_
    intro H6 M6
    refine ⟨trivial,?_⟩
    have hs6 := M6.size
    replace hM := hM.fr (M6.fr nowhere) (fun _ _ _ => nw)
    replace hbt := M6.keep hbt
    replace hA := hA.fr (M6.fr nowhere) (fun _ _ _ _ => nw)
    have m7 : Wr H6 H5.size 0 2 := M6.wr 2 (by decide)
    refine O.st rfl rfl sizeOf35 rfl rfl rfl rfl rfl m7 ?_
    intro H7 W7
    have hs7 := W7.size
    replace hM := hM.fr W7.fr (fun b o hb => nr (.inl (hb.elim (fun hb => by have := hSlt b hb; omega) (fun hb => by omega))))
    replace hbt := W7.fr.keep hbt (nr (.inl (by omega)))
    replace hA := hA.fr W7.fr (fun b o hb hb2 => nr (.inl (by have := hZ b hb2; omega)))
    replace hF : Fr nowhere H H7 := hF.trans' ((M6.fr nowhere).trans' W7.fr (Z := nowhere) (fun _ _ _ h => h) (fun b o hb hz => by have h1 := hz.1; omega)) (fun _ _ _ h => h) (fun _ _ _ h => h)
    have k0 : Rd H7 H5.size 0 (EJ.enc y) := W7.all
    refine ⟨trivial,?_⟩
    refine Pl.fin [(4,_),(5,_),(6,_),(7,_),(9,_),(12,_),(13,_),(14,_),(15,_)] ⟨rfl,rfl,rfl,rfl,rfl,rfl,rfl,rfl,rfl,trivial⟩ ?_
    refine Go'.region [(0,0),(1,0),(2,1),(3,0),(4,2),(5,2),(6,2),(7,2),(8,0)] rfl ?_
    refine O.mv rfl rfl rfl rfl rfl ?_
    refine O.mv rfl rfl rfl rfl rfl ?_
    refine O.lds rfl rfl rfl (fun w => ⟨isAgg35 w,sizeOf35 w⟩) rfl rfl k0 ?_
    refine O.mki rfl rfl rfl rfl underlying35 rfl rfl ?_
    refine O.call rfl rfl rfl call73 rfl (bset_spec hP (x := y) hM hbt (by omega)) ?_
    rintro _ H8 ⟨rfl,S',hM',hF8,hS'⟩
    have hs8 := hF8.size
    replace hbt := hF8.keep hbt (fun hz => (hS bt hz).2 rfl)
    replace hA := hA.fr hF8 (fun b o hb hb2 hz => (hZ b hb2).2.2 hz)
    replace hF := hF.trans' hF8 (fun _ _ _ h => h) (fun b o hb hz => by have := hS b hz; omega)
    refine ⟨trivial,?_⟩
    refine O.call rfl rfl rfl call56 rfl (foundAny_spec _) ?_
    rintro _ H9 ⟨rfl,hF9⟩
    have hs9 := hF9.size
    replace hM' := hM'.fr hF9 (fun _ _ _ => nw)
    replace hbt := hF9.keep hbt nw
    replace hA := hA.fr hF9 (fun _ _ _ _ => nw)
    replace hF := hF.trans hF9
    rw [FVe]
    refine ⟨trivial,?_⟩
    refine O.bsl (cs := (fvs (Pl.got OI y (Pl.puts OI (l.take j))))) rfl rfl rfl ⟨underlying48,sizeOf44,zeroValue44,⟨_,typeInfo44,rfl⟩,rfl,by decide,by decide⟩ rfl (by decide) (by generalize (Pl.got OI y (Pl.puts OI (l.take j))) = o; cases o <;> kernel_rfl) ?_
    intro H10 M10
    have hs10 := M10.size
    replace hM' := hM'.fr (M10.fr nowhere) (fun _ _ _ => nw)
    replace hbt := M10.keep hbt
    replace hA := hA.fr (M10.fr nowhere) (fun _ _ _ _ => nw)
    replace hF := hF.trans (M10.fr nowhere)
    have m5 : Rd H10 H9.size 0 (row EF [(Pl.got OI y (Pl.puts OI (l.take j)))]) := M10.rd _ [] (by simp [row,EF])
    refine ⟨trivial,?_⟩
    refine O.appA (E := EF) (Y := [(Pl.got OI y (Pl.puts OI (l.take j)))]) rfl rfl rfl ⟨underlying48,sizeOf44,zeroValue44,⟨_,typeInfo44,rfl⟩,rfl,by decide,by decide⟩ rfl hA rfl ⟨_,_,_,rfl,m5⟩ (Nat.succ_pos _) (by rw [hlout]; exact Nat.le_trans (Nat.mul_le_mul_left _ (Nat.le_of_ble_eq_true (n := _) (m := 4096) rfl)) (by simp only [List.length_cons,List.length_nil]; omega)) (by rw [hlout]; simp only [List.length_cons,List.length_nil]; omega) ?_
    intro v8 H11 hA11 hF11 hs11
    have hs111 := hF11.size
    rw [← egot] at hA11
    have hS2 : ∀ b,S' b → ¬ Zo b := fun b hb hz => (hS' b hb).elim (hZ b hz).2.2 (fun h => by have := (hZ b hz).2.1; omega)
    have hlt10 := hM'.lt
    have hM11 := hM'.fr hF11 (fun b _ hb hz => hb.elim (fun hb => hS2 b hb hz) (fun hb => by have := (hZ b hz).1; omega))
    replace hbt := hF11.keep hbt (fun hz => by have := (hZ bt hz).1; omega)
    replace hF := hF.trans' hF11 (fun _ _ _ h => h) (fun b o hb hz => by have := (hZ b hz).1; omega)
    refine ⟨trivial,?_⟩
    refine O.asg rfl rfl rfl rfl rfl ?_
    refine Pl.fin [(4,_),(5,_),(6,_),(7,_),(9,_),(12,_),(13,_),(14,_),(15,_)] ⟨rfl,rfl,rfl,rfl,rfl,rfl,rfl,rfl,rfl,trivial⟩ ?_
    refine Go'.inBlock ?_
    refine Go'.region [(0,0),(1,0)] rfl ?_
    refine O.add (((j + 1 : Nat) : Int)) rfl rfl rfl rfl rfl rfl (by omega) (by omega) ?_
    refine O.mv rfl rfl rfl rfl rfl ?_
    refine Pl.fin [(4,_),(5,_),(6,_),(7,_),(9,_),(12,_),(13,_),(14,_),(15,_)] ⟨rfl,rfl,rfl,rfl,rfl,rfl,rfl,rfl,rfl,trivial⟩ ?_
    refine Go'.keep [(4,_),(5,_),(6,_),(7,_),(12,_),(13,_),(14,_)] ⟨rfl,rfl,rfl,rfl,rfl,rfl,rfl,trivial⟩ ?_
    refine Go'.inLoop ?_
    exact ih (j + 1,v8) H11 ⟨hlt,hF,by omega,hbt,S',(fun b => Zo b ∨ (b = H10.size ∧ b < H11.size)),by
      simp only
      rw [eput]
      exact hM11,fun b hb => (hS' b hb).elim (hS b) (fun h => ⟨by omega,by omega⟩),hA11,fun b hb => hb.elim (fun h => ⟨(hZ b h).1,by have := (hZ b h).2.1; omega,fun hs => hS2 b hs h⟩) (fun h => ⟨by omega,h.2,fun hs => by have := hlt10 b hs; omega⟩)⟩ (by simp only; omega)
  · skip
    have ejl : j = l.length := by omega
    rw [ejl,List.take_length] at hM hA
    have hpl2 := Pl.puts_length OI l
    refine Go'.region [(0,0)] rfl ?_
    refine O.cmp rfl rfl rfl rfl rfl rfl (lssF (by omega)) ?_
    refine Pl.fin [(4,_),(5,_),(6,_),(7,_),(12,_),(13,_),(14,_),(15,_)] ⟨rfl,rfl,rfl,rfl,rfl,rfl,rfl,rfl,trivial⟩ ?_
    refine Go'.seq ?_
    refine Go'.condF rfl ?_
    refine Go'.exit rfl ?_
    refine Go'.seq ?_
    refine Go'.region [(0,0),(1,0),(2,2),(3,0),(4,0)] rfl ?_
    refine O.mv rfl rfl rfl rfl rfl ?_
    refine O.mv rfl rfl rfl rfl rfl ?_
    refine O.call rfl rfl rfl call67 rfl (allOf_spec hP hM hbt (by omega)) ?_
    rintro v9 H6 ⟨hv9,hF6⟩
    refine ⟨trivial,?_⟩
    refine O.asg rfl rfl rfl rfl rfl ?_
    refine O.asg rfl rfl rfl rfl rfl ?_
    refine Pl.fin [(4,_),(5,_)] ⟨rfl,rfl,trivial⟩ ?_
    refine Go'.ret (vs := [_,_]) func50 results50 ⟨rfl,rfl,trivial⟩ ?_
    rw [hOO]
    exact ⟨_,_,rfl,(hA.fr hF6 (fun _ _ _ _ => nw)).out,hv9,hF.trans hF6⟩

theorem aliveB_spec {B : World} {H : Mem} : Fn Try.prog B 28 [] H (fun r H' => r = .bool true ∧ Fr nowhere H H') := by
  have hal : (Pl.puts (OO []) ((exl.drop 0).take (3 - 0))).length = 3 := by decide
  refine fn_of func28 rfl ntmps28 ?_
  refine (show Go' _ _ _ _ 13 [] [.code _] _ from ?_)
  refine Go'.seq ?_
  refine Go'.region [(0,0)] rfl ?_
  refine O.asg rfl rfl rfl rfl rfl ?_
  refine Pl.fin [(0,_)] ⟨rfl,trivial⟩ ?_
  refine Go'.seq ?_
  refine Go'.region [(0,2),(1,2),(2,0),(3,2),(4,0),(5,0),(6,0),(7,0),(8,0)] rfl ?_
  refine O.call rfl rfl rfl call13 rfl exMake_spec ?_
  rintro _ H1 ⟨rfl,hF1⟩
  refine ⟨trivial,?_⟩
  refine O.call rfl rfl rfl call14 rfl exItems_spec ?_
  rintro ev H2 ⟨hev,hF2⟩
  obtain ⟨ea,ec,hee⟩ := hev.len
  subst hee
  refine ⟨trivial,?_⟩
  refine O.slcIn (E := EJ) (jh := 3) rfl rfl rfl rfl underlying25 sizeOf35 rfl hev ⟨_,by rfl⟩ rfl (by decide) (by decide) ?_
  intro sv hsv
  refine O.call rfl rfl rfl call50 rfl (ibset_spec (d := 2) (by decide) (InS.nil EN _) (by decide) hsv (by decide)) ?_
  rintro _ H3 ⟨v1,gv,rfl,_,hg,hF3⟩
  obtain ⟨ga,gc,hge⟩ := hg.inS.len
  subst hge
  refine ⟨trivial,?_⟩
  refine O.mv rfl rfl rfl rfl rfl ?_
  refine O.ext rfl rfl rfl rfl rfl rfl ?_
  refine O.ext rfl rfl rfl rfl rfl rfl ?_
  refine O.asg rfl rfl rfl rfl rfl ?_
  refine O.asg rfl rfl rfl rfl rfl ?_
  refine Pl.fin [(0,_),(2,_)] ⟨rfl,rfl,trivial⟩ ?_
  refine Go'.seq ?_
  refine Go'.region [(0,0),(1,0),(2,0),(3,0)] rfl ?_
  refine O.mv rfl rfl rfl rfl rfl ?_
  refine O.len rfl rfl rfl rfl underlying25 rfl ?_
  refine O.cmp rfl rfl rfl rfl rfl rfl (eqlT (by rw [hal]; rfl)) ?_
  refine O.asg rfl rfl rfl rfl rfl ?_
  refine Pl.fin [(0,_)] ⟨rfl,trivial⟩ ?_
  refine Go'.ret (vs := [_]) func28 results28 ⟨rfl,trivial⟩ ?_
  exact ⟨rfl,(hF1.trans hF2).trans hF3⟩

theorem ibascend_spec {B : World} {H : Mem} {d : Nat} {nl : Bool} {v u : Value} {ord : List Int} {l : List (Int × Int)} (hd : d = 0 ∨ 2 ≤ d ∧ d ≤ 128) (ho : InS EN H v ord) (hol : ord.length ≤ 4294967296) (hi : InS EJ H u l) (hll : l.length ≤ 4294967296) {al : Bool} (x : Int × Int) {n : Int} :
    Fn Try.prog B 29 [.agg #[v,.int .i64 (d : Int),.bool nl],u,.bool al,.agg (EJ.enc x).toArray,.int .i64 n] H (fun r H' => OutS EJ H' r (firstN (cond al (Pl.puts (OO ord) l) (Pl.up (OO ord) x (Pl.puts (OO ord) l))) n) ∧ Fr nowhere H H') := by
  obtain ⟨a,c,hu⟩ := hi.len
  subst hu
  obtain ⟨av,mv,cv,hv⟩ := InS.form ho
  subst hv
  have hF : Fr nowhere H H := Fr.refl _ _
  have hP := PD_ok hd
  refine fn_of func29 rfl ntmps29 ?_
  refine (show Go' _ _ _ _ 22 [(0,_),(1,_),(2,_),(3,_),(4,_)] [.code _] _ from ?_)
  refine Go'.seq ?_
  refine Go'.region [(0,2),(1,2),(2,0)] rfl ?_
  refine O.box rfl rfl rfl rfl ?_
  intro B1 MB1
  refine ⟨trivial,?_⟩
  have hsB1 := MB1.size
  replace hF := hF.trans (MB1.fr nowhere)
  have mm : Rd B1 H.size 0 [.slice av mv cv,.int .i64 (d : Int),.bool nl] := MB1.rd _ [] (by simp [Value.cells])
  have mm0 : cl B1 H.size 0 = some (.slice av mv cv) := mm 0 _ rfl
  have mm1 : cl B1 H.size (0 + 1) = some (.int .i64 (d : Int)) := mm 1 _ rfl
  refine O.box rfl rfl rfl rfl ?_
  intro B2 MB2
  refine ⟨trivial,?_⟩
  have hsB2 := MB2.size
  replace hF := hF.trans (MB2.fr nowhere)
  replace mm := (MB2.fr nowhere).rd mm (fun _ _ => nw)
  replace mm0 := (MB2.fr nowhere).keep mm0 nw
  replace mm1 := (MB2.fr nowhere).keep mm1 nw
  have mpivot : Rd B2 B1.size 0 (EJ.enc x) := MB2.rd _ [] (by simp [Value.cells])
  refine O.asg rfl rfl rfl rfl rfl ?_
  refine Pl.fin [(1,_),(2,_),(4,_),(5,_),(8,_),(10,_)] ⟨rfl,rfl,rfl,rfl,rfl,rfl,trivial⟩ ?_
  refine Go'.seq ?_
  refine Go'.region [(0,2)] rfl ?_
  refine O.alloc rfl rfl rfl zeroValue25 ?_
  intro H2 M2
  refine ⟨trivial,?_⟩
  have hs2 := M2.size
  replace hF := hF.trans (M2.fr nowhere)
  replace mm := (M2.fr nowhere).rd mm (fun _ _ => nw)
  replace mm0 := (M2.fr nowhere).keep mm0 nw
  replace mm1 := (M2.fr nowhere).keep mm1 nw
  replace mpivot := (M2.fr nowhere).rd mpivot (fun _ _ => nw)
  have hD : cl H2 B2.size 0 = some (.slice none 0 0) := (M2.cl 0).trans rfl
  have hw : Wr H2 B2.size 0 1 := M2.wr 1 (by decide)
  refine Pl.fin [(1,_),(2,_),(4,_),(5,_),(8,_),(10,_),(11,_)] ⟨rfl,rfl,rfl,rfl,rfl,rfl,rfl,trivial⟩ ?_
  refine Go'.seq ?_
  refine Go'.draw (fun H' => Rd H' B1.size 0 (EJ.enc x)) [(0,1),(1,0),(3,0),(4,0),(6,0),(2,2),(5,2),(7,2),(8,2)] (by kernel_rfl) (by kernel_rfl) (mpivot) ?_
  refine O.lds rfl rfl rfl (fun w => ⟨isAgg24 w,sizeOf24 w⟩) rfl rfl mm ?_
  refine O.mv rfl rfl rfl rfl rfl ?_
  refine O.mv rfl rfl rfl rfl rfl ?_
  refine O.ldsC rfl rfl rfl (fun w => ⟨isAgg35 w,sizeOf35 w⟩) rfl rfl (fun _ h => h) ?_
  refine O.mv rfl rfl rfl rfl rfl ?_
  refine O.call rfl rfl rfl call51 rfl (grow_spec hd (ho.fr hF) hol (hi.fr hF) hll) ?_
  rintro _ H3 ⟨I,hIo,hIw,hIb,tr,S,bt,rfl,hM,hbt,hbl,hbu,hbS,hF3,hS⟩
  have hs3 := hF3.size
  replace hF := hF.trans hF3
  replace mm := hF3.rd mm (fun _ _ => nw)
  replace mm0 := hF3.keep mm0 nw
  replace mm1 := hF3.keep mm1 nw
  replace mpivot := hF3.rd mpivot (fun _ _ => nw)
  replace hD := hF3.keep hD nw
  replace hw := hF3.wr hw
  have hSb : ∀ b,S b ∨ (b < cx.base ∧ cx.own b) → H2.size ≤ b := fun b hb => hb.elim (hS b) (fun h => hIw b h.2)
  have hbg := hbl
  have hOO : OO ord = OI := by rw [← hIo]; rfl
  have hpl := Pl.puts_length OI l
  have hSlt := hM.lt
  have hbs := hM.tc.hb
  unfold ptr
  refine ⟨mpivot,?_⟩
  refine O.call rfl rfl rfl call53 rfl (ifrom_spec (al := al) (x := x)) ?_
  rintro _ H4 ⟨rfl,hF4⟩
  have hs4 := hF4.size
  replace hM := hM.fr hF4 (fun _ _ _ => nw)
  replace hbt := hF4.keep hbt nw
  replace hF := hF.trans hF4
  replace mm := hF4.rd mm (fun _ _ => nw)
  replace mm0 := hF4.keep mm0 nw
  replace mm1 := hF4.keep mm1 nw
  replace mpivot := hF4.rd mpivot (fun _ _ => nw)
  replace hD := hF4.keep hD nw
  replace hw := hF4.wr hw
  refine ⟨mpivot,?_⟩
  refine O.call rfl rfl rfl call54 rfl (takerAny_spec (n := n) hD hw) ?_
  rintro _ H5 ⟨pb,b2,b3,rfl,hT,hF5⟩
  have hs5 := hF5.size
  replace hF := hF.trans hF5
  replace hM := hM.fr hF5 (fun _ _ _ => nw)
  replace hbt := hF5.keep hbt nw
  replace mm := hF5.rd mm (fun _ _ => nw)
  replace mm0 := hF5.keep mm0 nw
  replace mm1 := hF5.keep mm1 nw
  replace mpivot := hF5.rd mpivot (fun _ _ => nw)
  refine ⟨mpivot,?_⟩
  refine O.call rfl rfl rfl call52 rfl (bAscend_spec (cbAny B pb b2 b3 B2.size n) call80 hP x hM hbt hT (fun b hb hz => hz.elim (fun h => by have := hSb b (.inl hb); omega) (fun h => by have := hSlt b hb; omega)) (fun b hz hb => hz.elim (fun h => by have := hSb b (.inr hb); omega) (fun h => by omega)) (by omega) (Nat.le_refl _)) ?_
  rintro _ H6 ⟨Z6,hT6,hF6,hZ6⟩
  replace mm := hF6.rd mm (fun _ _ hz => hz.elim (fun h => by omega) (fun h => by omega))
  replace mpivot := hF6.rd mpivot (fun _ _ hz => hz.elim (fun h => by omega) (fun h => by omega))
  obtain ⟨ov,hv,hov⟩ := PrT.out hT6
  rw [takes_first] at hov
  replace hF := hF.trans' hF6 (fun _ _ _ h => h) (fun b o hb hz => hz.elim (fun h => by omega) (fun h => by omega))
  refine ⟨mpivot,?_⟩
  refine Pl.fin [(10,_),(11,_)] ⟨rfl,rfl,trivial⟩ ?_
  refine Go'.seq ?_
  refine Go'.region [(0,1),(1,0)] rfl ?_
  refine O.ld rfl rfl rfl (fun w => ⟨isAgg25 w,sizeOf25 w⟩) rfl hv ?_
  refine O.asg rfl rfl rfl rfl rfl ?_
  refine Pl.fin [(10,_)] ⟨rfl,trivial⟩ ?_
  refine Go'.ret (vs := [_]) func29 results29 ⟨rfl,trivial⟩ ?_
  rw [hOO]; exact ⟨hov,hF⟩

end Go.Bt.FB
namespace Go.Bt.FB
open Go Go.Proofs Go.Proofs.Try
set_option maxRecDepth 20000
set_option maxHeartbeats 4000000
set_option linter.unusedVariables false
set_option linter.unusedSectionVars false

theorem firstN_1 {α : Type} (m : List α) : firstN m 1 = m.take 1 := by
  unfold firstN
  split
  · rename_i h
    have h0 : m.length = 0 := by omega
    rw [List.length_eq_zero_iff.1 h0]; rfl
  · rfl
theorem fnBSeeks {B : World} {H : Mem} {z : Int} {nl : Bool} {v u : Value} {ord : List Int} {l : List (Int × Int)} {key : Int × Int} (ho : InS EN H v ord) (hi : InS EJ H u l) :
    Fn Try.prog B 10 [.agg #[v,.int .i64 z,.bool nl],u,.agg (EJ.enc key).toArray] H (fun r H' => r = .bool true ∧ Fr nowhere H H') := by
  obtain ⟨a,c,hu⟩ := hi.len
  subst hu
  obtain ⟨av,mv,cv,hv⟩ := InS.form ho
  subst hv
  have hF : Fr nowhere H H := Fr.refl _ _
  refine fn_of func10 rfl ntmps10 ?_
  refine (show Go' _ _ _ _ 47 [(0,_),(1,_),(2,_)] [.code _] _ from ?_)
  refine Go'.seq ?_
  refine Go'.region [(0,2),(1,2),(2,0)] rfl ?_
  refine O.box rfl rfl rfl rfl ?_
  intro B1 MB1
  refine ⟨trivial,?_⟩
  have hsB1 := MB1.size
  replace hF := hF.trans (MB1.fr nowhere)
  have mm : Rd B1 H.size 0 [.slice av mv cv,.int .i64 z,.bool nl] := MB1.rd _ [] (by simp [Value.cells])
  have mm0 : cl B1 H.size 0 = some (.slice av mv cv) := mm 0 _ rfl
  have mm1 : cl B1 H.size (0 + 1) = some (.int .i64 z) := mm 1 _ rfl
  refine O.box rfl rfl rfl rfl ?_
  intro B2 MB2
  refine ⟨trivial,?_⟩
  have hsB2 := MB2.size
  replace hF := hF.trans (MB2.fr nowhere)
  replace mm := (MB2.fr nowhere).rd mm (fun _ _ => nw)
  replace mm0 := (MB2.fr nowhere).keep mm0 nw
  replace mm1 := (MB2.fr nowhere).keep mm1 nw
  have mkey : Rd B2 B1.size 0 (EJ.enc key) := MB2.rd _ [] (by simp [Value.cells])
  refine O.asg rfl rfl rfl rfl rfl ?_
  refine Pl.fin [(1,_),(3,_),(5,_),(6,_)] ⟨rfl,rfl,rfl,rfl,trivial⟩ ?_
  refine Go'.seq ?_
  refine Go'.seq ?_
  cases hoz : decide (ord.length ≤ 2147483647)
  · skip
    refine Go'.region [(0,1),(1,2),(2,0),(3,0),(4,0),(5,0),(6,0),(7,0)] rfl ?_
    refine O.lds rfl rfl rfl (fun w => ⟨isAgg24 w,sizeOf24 w⟩) rfl rfl mm ?_
    refine O.call rfl rfl rfl call11 rfl (zzFits1_spec (ho.fr hF) hoz) ?_
    rintro _ Hz ⟨rfl,hFz⟩
    replace hF := hF.trans hFz
    replace mm := hFz.rd mm (fun _ _ => nw)
    replace mm0 := hFz.keep mm0 nw
    replace mm1 := hFz.keep mm1 nw
    replace mkey := hFz.rd mkey (fun _ _ => nw)
    refine ⟨trivial,?_⟩
    refine O.not rfl rfl rfl rfl rfl ?_
    refine O.mv rfl rfl rfl rfl rfl ?_
    refine Pl.pass rfl rfl rfl rfl ?_
    refine Pl.pass rfl rfl rfl rfl ?_
    refine Pl.pass rfl rfl rfl rfl ?_
    refine O.pick rfl rfl rfl rfl rfl rfl ?_
    refine Pl.fin [(1,_),(3,_),(5,_),(6,_),(16,_)] ⟨rfl,rfl,rfl,rfl,rfl,trivial⟩ ?_
    refine Go'.condT rfl ?_
    refine Go'.seq ?_
    refine Go'.region [(0,0)] rfl ?_
    refine O.asg rfl rfl rfl rfl rfl ?_
    refine Pl.fin [(1,_),(3,_),(5,_),(6,_)] ⟨rfl,rfl,rfl,rfl,trivial⟩ ?_
    refine Go'.ret (vs := [_]) func10 results10 ⟨rfl,trivial⟩ ?_
    exact ⟨rfl,hF⟩
  · skip
    have hoz2 := of_decide_eq_true hoz
    by_cases hb_lenl : (2147483647 : Int) < (l.length : Int)
    · skip
      refine Go'.region [(0,1),(1,2),(2,0),(3,0),(4,0),(5,0),(6,0),(7,0)] rfl ?_
      refine O.lds rfl rfl rfl (fun w => ⟨isAgg24 w,sizeOf24 w⟩) rfl rfl mm ?_
      refine O.call rfl rfl rfl call11 rfl (zzFits1_spec (ho.fr hF) hoz) ?_
      rintro _ Hz ⟨rfl,hFz⟩
      replace hF := hF.trans hFz
      replace mm := hFz.rd mm (fun _ _ => nw)
      replace mm0 := hFz.keep mm0 nw
      replace mm1 := hFz.keep mm1 nw
      replace mkey := hFz.rd mkey (fun _ _ => nw)
      refine ⟨trivial,?_⟩
      refine O.not rfl rfl rfl rfl rfl ?_
      refine O.mv rfl rfl rfl rfl rfl ?_
      refine O.mv rfl rfl rfl rfl rfl ?_
      refine O.len rfl rfl rfl rfl underlying25 rfl ?_
      refine O.cmp rfl rfl rfl rfl rfl rfl (gtrT (by omega)) ?_
      refine O.pick rfl rfl rfl rfl rfl rfl ?_
      refine Pl.fin [(1,_),(3,_),(5,_),(6,_),(16,_)] ⟨rfl,rfl,rfl,rfl,rfl,trivial⟩ ?_
      refine Go'.condT rfl ?_
      refine Go'.seq ?_
      refine Go'.region [(0,0)] rfl ?_
      refine O.asg rfl rfl rfl rfl rfl ?_
      refine Pl.fin [(1,_),(3,_),(5,_),(6,_)] ⟨rfl,rfl,rfl,rfl,trivial⟩ ?_
      refine Go'.ret (vs := [_]) func10 results10 ⟨rfl,trivial⟩ ?_
      exact ⟨rfl,hF⟩
    · skip
      refine Go'.region [(0,1),(1,2),(2,0),(3,0),(4,0),(5,0),(6,0),(7,0)] rfl ?_
      refine O.lds rfl rfl rfl (fun w => ⟨isAgg24 w,sizeOf24 w⟩) rfl rfl mm ?_
      refine O.call rfl rfl rfl call11 rfl (zzFits1_spec (ho.fr hF) hoz) ?_
      rintro _ Hz ⟨rfl,hFz⟩
      replace hF := hF.trans hFz
      replace mm := hFz.rd mm (fun _ _ => nw)
      replace mm0 := hFz.keep mm0 nw
      replace mm1 := hFz.keep mm1 nw
      replace mkey := hFz.rd mkey (fun _ _ => nw)
      refine ⟨trivial,?_⟩
      refine O.not rfl rfl rfl rfl rfl ?_
      refine O.mv rfl rfl rfl rfl rfl ?_
      refine O.mv rfl rfl rfl rfl rfl ?_
      refine O.len rfl rfl rfl rfl underlying25 rfl ?_
      refine O.cmp rfl rfl rfl rfl rfl rfl (gtrF (by omega)) ?_
      refine O.pick rfl rfl rfl rfl rfl rfl ?_
      refine Pl.fin [(1,_),(3,_),(5,_),(6,_),(16,_)] ⟨rfl,rfl,rfl,rfl,rfl,trivial⟩ ?_
      refine Go'.condF rfl ?_
      refine Go'.skip ?_
      refine Go'.seq ?_
      refine Go'.seq ?_
      have hpl := Pl.puts_length (OO ord) l
      have hul := Pl.up_le (OO ord) key (Pl.puts (OO ord) l)
      have hup : firstN (Pl.up (OO ord) key (Pl.puts (OO ord) l)) 1 = ((Pl.puts (OO ord) l).drop (Pl.pos (OO ord) key (Pl.puts (OO ord) l))).take 1 := firstN_1 _
      cases hfz : fitsb z
      · skip
        refine Go'.region [(0,1),(1,2),(2,0)] rfl ?_
        refine O.lds rfl rfl rfl (fun w => ⟨isAgg24 w,sizeOf24 w⟩) rfl rfl mm ?_
        refine O.call rfl rfl rfl call27 rfl (lfits_spec ⟨_,_,_,rfl⟩ hfz) ?_
        rintro _ H6 ⟨rfl,hF6⟩
        replace hF := hF.trans hF6
        replace mm := hF6.rd mm (fun _ _ => nw)
        replace mm0 := hF6.keep mm0 nw
        replace mm1 := hF6.keep mm1 nw
        replace mkey := hF6.rd mkey (fun _ _ => nw)
        refine ⟨trivial,?_⟩
        refine O.not rfl rfl rfl rfl rfl ?_
        refine Pl.fin [(1,_),(3,_),(5,_),(6,_),(19,_)] ⟨rfl,rfl,rfl,rfl,rfl,trivial⟩ ?_
        refine Go'.condT rfl ?_
        refine Go'.seq ?_
        refine Go'.region [(0,2),(1,0)] rfl ?_
        refine O.call rfl rfl rfl call28 rfl aliveB_spec ?_
        rintro _ Hv ⟨rfl,hFv⟩
        replace hF := hF.trans hFv
        replace mm := hFv.rd mm (fun _ _ => nw)
        replace mm0 := hFv.keep mm0 nw
        replace mm1 := hFv.keep mm1 nw
        replace mkey := hFv.rd mkey (fun _ _ => nw)
        refine ⟨trivial,?_⟩
        refine O.asg rfl rfl rfl rfl rfl ?_
        refine Pl.fin [(1,_),(3,_),(5,_),(6,_)] ⟨rfl,rfl,rfl,rfl,trivial⟩ ?_
        refine Go'.ret (vs := [_]) func10 results10 ⟨rfl,trivial⟩ ?_
        exact ⟨rfl,hF⟩
      · skip
        obtain ⟨d,rfl,hd⟩ := fitsb_nat hfz
        refine Go'.region [(0,1),(1,2),(2,0)] rfl ?_
        refine O.lds rfl rfl rfl (fun w => ⟨isAgg24 w,sizeOf24 w⟩) rfl rfl mm ?_
        refine O.call rfl rfl rfl call27 rfl (lfits_spec ⟨_,_,_,rfl⟩ hfz) ?_
        rintro _ H6 ⟨rfl,hF6⟩
        replace hF := hF.trans hF6
        replace mm := hF6.rd mm (fun _ _ => nw)
        replace mm0 := hF6.keep mm0 nw
        replace mm1 := hF6.keep mm1 nw
        replace mkey := hF6.rd mkey (fun _ _ => nw)
        refine ⟨trivial,?_⟩
        refine O.not rfl rfl rfl rfl rfl ?_
        refine Pl.fin [(1,_),(3,_),(5,_),(6,_),(19,_)] ⟨rfl,rfl,rfl,rfl,rfl,trivial⟩ ?_
        refine Go'.condF rfl ?_
        refine Go'.skip ?_
        refine Go'.seq ?_
        refine Go'.region [(0,1),(1,0),(2,1),(3,2),(4,0)] rfl ?_
        refine O.lds rfl rfl rfl (fun w => ⟨isAgg24 w,sizeOf24 w⟩) rfl rfl mm ?_
        refine O.mv rfl rfl rfl rfl rfl ?_
        refine O.lds rfl rfl rfl (fun w => ⟨isAgg35 w,sizeOf35 w⟩) rfl rfl mkey ?_
        refine O.call rfl rfl rfl call29 rfl (ibascend_spec (al := false) hd (ho.fr hF) (by omega) (hi.fr hF) (by omega) key (n := 1)) ?_
        rintro v1 H7 ⟨h1,hF7⟩
        simp only [cond_false] at h1
        replace hF := hF.trans hF7
        replace mm := hF7.rd mm (fun _ _ => nw)
        replace mm0 := hF7.keep mm0 nw
        replace mm1 := hF7.keep mm1 nw
        replace mkey := hF7.rd mkey (fun _ _ => nw)
        rw [hup] at h1
        have hU := h1.inS
        obtain ⟨ua,uc,hue⟩ := hU.len
        subst hue
        refine ⟨trivial,?_⟩
        refine O.asg rfl rfl rfl rfl rfl ?_
        refine Pl.fin [(1,_),(3,_),(5,_),(6,_),(7,_)] ⟨rfl,rfl,rfl,rfl,rfl,trivial⟩ ?_
        refine Go'.seq ?_
        refine Go'.region [(0,1),(1,0),(2,1),(3,2),(4,2),(5,2)] rfl ?_
        refine O.lds rfl rfl rfl (fun w => ⟨isAgg24 w,sizeOf24 w⟩) rfl rfl mm ?_
        refine O.mv rfl rfl rfl rfl rfl ?_
        refine O.lds rfl rfl rfl (fun w => ⟨isAgg35 w,sizeOf35 w⟩) rfl rfl mkey ?_
        refine O.call rfl rfl rfl call30 rfl (ibseek_spec (x := key) hd (ho.fr hF) (by omega) (hi.fr hF) (by omega)) ?_
        rintro _ H8 ⟨rfl,hF8⟩
        have hs8 := hF8.size
        replace hF := hF.trans hF8
        replace mm := hF8.rd mm (fun _ _ => nw)
        replace mm0 := hF8.keep mm0 nw
        replace mm1 := hF8.keep mm1 nw
        replace mkey := hF8.rd mkey (fun _ _ => nw)
        replace hU := hU.fr hF8
        rw [FVe]
        refine ⟨trivial,?_⟩
        refine O.alloc rfl rfl rfl zeroValue44 ?_
        intro H9 M9
        refine ⟨trivial,?_⟩
        have hs9 := M9.size
        have mw : Wr H9 H8.size 0 3 := M9.wr 3 (by decide)
        refine O.st (vs := (fvs ((Pl.puts (OO ord) l)[Pl.pos (OO ord) key (Pl.puts (OO ord) l)]?))) rfl rfl sizeOf44 rfl rfl rfl (fvs_len _) (fvs_ones _) mw ?_
        intro Ha Wa
        have hsa := Wa.size
        have hf8a : Fr nowhere H8 Ha := (M9.fr nowhere).trans' Wa.fr (fun _ _ _ h => h) (fun b o hb h => by have h' := h.1; omega)
        have mf : Rd Ha H8.size 0 (fvs ((Pl.puts (OO ord) l)[Pl.pos (OO ord) key (Pl.puts (OO ord) l)]?)) := Wa.all
        replace hU := hU.fr hf8a
        replace hF := hF.trans hf8a
        replace mm := hf8a.rd mm (fun _ _ => nw)
        replace mm0 := hf8a.keep mm0 nw
        replace mm1 := hf8a.keep mm1 nw
        replace mkey := hf8a.rd mkey (fun _ _ => nw)
        refine ⟨trivial,?_⟩
        refine Pl.fin [(6,_),(7,_),(8,_)] ⟨rfl,rfl,rfl,trivial⟩ ?_
        refine Go'.seq ?_
        refine Go'.seq ?_
        by_cases hlt : Pl.pos (OO ord) key (Pl.puts (OO ord) l) < (Pl.puts (OO ord) l).length
        rotate_left
        · skip
          have hul0 : (((Pl.puts (OO ord) l).drop (Pl.pos (OO ord) key (Pl.puts (OO ord) l))).take 1).length = 0 := by rw [List.length_take,List.length_drop]; omega
          rw [List.getElem?_eq_none (by omega)] at mf
          refine Go'.region [(0,0),(1,0),(2,0)] rfl ?_
          refine O.mv rfl rfl rfl rfl rfl ?_
          refine O.len rfl rfl rfl rfl underlying25 rfl ?_
          refine O.cmp rfl rfl rfl rfl rfl rfl (eqlT (by rw [hul0]; rfl)) ?_
          refine Pl.fin [(6,_),(7,_),(8,_),(31,_)] ⟨rfl,rfl,rfl,rfl,trivial⟩ ?_
          refine Go'.condT rfl ?_
          refine Go'.seq ?_
          refine Go'.region [(0,1),(1,0),(2,0),(3,0),(4,2),(5,0),(6,0)] rfl ?_
          refine O.lds rfl rfl rfl (fun w => ⟨isAgg44 w,sizeOf44 w⟩) rfl rfl mf ?_
          refine O.bld (cs := (fvs none)) rfl rfl rfl rfl (st44) rfl (by kernel_rfl) ?_
          refine O.bin rfl rfl rfl rfl rfl rfl (found_eq none _ _) ?_
          refine O.mv rfl rfl rfl rfl rfl ?_
          refine O.call rfl rfl rfl call28 rfl aliveB_spec ?_
          rintro _ Hv ⟨rfl,hFv⟩
          replace hF := hF.trans hFv
          replace mm := hFv.rd mm (fun _ _ => nw)
          replace mm0 := hFv.keep mm0 nw
          replace mm1 := hFv.keep mm1 nw
          replace mkey := hFv.rd mkey (fun _ _ => nw)
          refine ⟨trivial,?_⟩
          refine O.pick rfl rfl rfl rfl rfl rfl ?_
          refine O.asg rfl rfl rfl rfl rfl ?_
          refine Pl.fin [(6,_),(7,_),(8,_)] ⟨rfl,rfl,rfl,trivial⟩ ?_
          refine Go'.ret (vs := [_]) func10 results10 ⟨rfl,trivial⟩ ?_
          exact ⟨rfl,hF⟩
        · skip
          have hul1 : (((Pl.puts (OO ord) l).drop (Pl.pos (OO ord) key (Pl.puts (OO ord) l))).take 1).length = 1 := by rw [List.length_take,List.length_drop]; omega
          obtain ⟨y,hy⟩ : ∃ y,(Pl.puts (OO ord) l)[Pl.pos (OO ord) key (Pl.puts (OO ord) l)]? = some y := ⟨_,List.getElem?_eq_getElem hlt⟩
          rw [hy] at mf
          obtain ⟨b,o,c',e,hr⟩ := hU.at (i := 0) (x := y) (by rw [List.getElem?_take,if_pos (by decide),List.getElem?_drop]; exact hy)
          cases e
          refine Go'.region [(0,0),(1,0),(2,0)] rfl ?_
          refine O.mv rfl rfl rfl rfl rfl ?_
          refine O.len rfl rfl rfl rfl underlying25 rfl ?_
          refine O.cmp rfl rfl rfl rfl rfl rfl (eqlF (by rw [hul1]; decide)) ?_
          refine Pl.fin [(6,_),(7,_),(8,_),(31,_)] ⟨rfl,rfl,rfl,rfl,trivial⟩ ?_
          refine Go'.condF rfl ?_
          refine Go'.skip ?_
          refine Go'.seq ?_
          refine Go'.draw (fun _ => True) [(0,1),(1,0),(2,0),(3,1),(4,0),(5,0),(6,0),(7,2),(8,0),(9,0)] (by kernel_rfl) (by kernel_rfl) (trivial) ?_
          refine O.lds rfl rfl rfl (fun w => ⟨isAgg44 w,sizeOf44 w⟩) rfl rfl mf ?_
          refine O.mv rfl rfl rfl rfl rfl ?_
          refine O.ix (j := 0) rfl rfl rfl rfl underlying25 sizeOf35 rfl rfl rfl (by rw [hul1]; decide) ?_
          refine O.lds rfl rfl rfl (fun w => ⟨isAgg35 w,sizeOf35 w⟩) rfl rfl hr ?_
          refine O.bld (cs := (fvs (some y))) rfl rfl rfl rfl (st44) rfl (by kernel_rfl) ?_
          refine O.bin rfl rfl rfl rfl rfl rfl (found_eq (some y) _ _) ?_
          refine O.mv rfl rfl rfl rfl rfl ?_
          refine O.call rfl rfl rfl call28 rfl aliveB_spec ?_
          rintro _ Hv ⟨rfl,hFv⟩
          replace hF := hF.trans hFv
          replace mm := hFv.rd mm (fun _ _ => nw)
          replace mm0 := hFv.keep mm0 nw
          replace mm1 := hFv.keep mm1 nw
          replace mkey := hFv.rd mkey (fun _ _ => nw)
          refine ⟨trivial,?_⟩
          refine O.pick rfl rfl rfl rfl rfl rfl ?_
          refine O.asg rfl rfl rfl rfl rfl ?_
          refine Pl.fin [(6,_)] ⟨rfl,trivial⟩ ?_
          refine Go'.ret (vs := [_]) func10 results10 ⟨rfl,trivial⟩ ?_
          exact ⟨rfl,hF⟩

end Go.Bt.FB
