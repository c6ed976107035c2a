/- Contracts of functions of the program, proved by walking through their code. Conditions: those that each theorem names. -/
import Derived.Test.YtnlempnbagoipaaTocG
import Derived.Test.YtnlempnbagoipaaTocL
namespace Go.Bt.FB
open Go Go.Proofs Go.Proofs.Try
set_option maxRecDepth 20000
set_option maxHeartbeats 4000000
set_option linter.unusedVariables false
set_option linter.unusedSectionVars false


section
variable [Inhabited Cx]
theorem bAscend_spec {B : World} {g : FuncId} {us cs : List Value} {go : List (Int × Int) → Bool} {M : Nat} (cb : Cb Try.prog B encIt g us cs go M) (hcall : ∀ (args : Array Value) (w : World),(callFunc g args).run Try.prog w = .ok (.enter g args) w) {tr : Nat} {P : Ps} (hP : PsOk P) {al : Bool} (x : Int × Int) {H : Mem} {bt : Nat} {S : Nat → Prop} {l : List (Int × Int)} {Z : Nat → Prop} (hM : MapM H tr P S l) (hb : cl H bt 0 = some (ptr tr)) (hT : cb.T [] Z H) (hd : ∀ b,S b → ¬ Z b) (hnb : ∀ b,Z b → ¬ (b < cx.base ∧ cx.own b)) (hl : l.length ≤ M) (hM6 : M ≤ 4294967296) :
    Fn Try.prog B 52 [ptr bt,cond al .nilIface (iv x),.func (.func g) us.toArray cs.toArray] H (fun _ H' => ∃ Z',cb.T (takes go [] (cond al l (Pl.up OI x l))).1 Z' H' ∧ Fr (fun b _ => Z b) H H' ∧ ∀ b,Z' b → Z b ∨ H.size ≤ b) := by
  unfold ptr at hb ⊢
  cases al
  · skip
    show Fn _ _ _ [_,iv x,_] _ _
    refine fn_of func52 rfl ntmps52 ?_
    refine (show Go' _ _ _ _ 21 [(0,_),(1,_),(2,_)] [.code _] _ from ?_)
    refine Go'.seq ?_
    refine Go'.region [(0,0),(1,0)] rfl ?_
    refine O.mv rfl rfl rfl rfl rfl ?_
    refine O.bin rfl rfl rfl rfl rfl rfl (run_eqNil_iface underlying20) ?_
    refine Pl.fin [(0,_),(1,_),(2,_),(7,_)] ⟨rfl,rfl,rfl,rfl,trivial⟩ ?_
    refine Go'.condF rfl ?_
    refine Go'.region [(0,0),(1,0),(2,0),(3,1),(4,0),(5,0),(6,2)] rfl ?_
    refine O.mv rfl rfl rfl rfl rfl ?_
    refine O.nc rfl rfl rfl rfl rfl ?_
    refine O.faz rfl rfl rfl rfl ⟨_,_,_,underlying115,rfl,rfl,sizeOf95⟩ rfl ?_
    refine O.ld rfl rfl rfl (fun w => ⟨isAgg95 w,sizeOf95 w⟩) rfl hb ?_
    refine O.mv rfl rfl rfl rfl rfl ?_
    refine O.mv rfl rfl rfl rfl rfl ?_
    refine O.call rfl rfl rfl call78 rfl (Ascend_spec cb hcall hP x hM hT hd hnb hl hM6) ?_
    rintro _ H2 hq
    refine ⟨trivial,?_⟩
    refine Pl.fin [] trivial ?_
    refine Go'.fall func52 results52 (vs := []) trivial ?_
    exact hq
  · skip
    show Fn _ _ _ [_,.nilIface,_] _ _
    refine fn_of func52 rfl ntmps52 ?_
    refine (show Go' _ _ _ _ 21 [(0,_),(1,_),(2,_)] [.code _] _ from ?_)
    refine Go'.seq ?_
    refine Go'.region [(0,0),(1,0)] rfl ?_
    refine O.mv rfl rfl rfl rfl rfl ?_
    refine O.bin rfl rfl rfl rfl rfl rfl (run_eqNil_nil underlying20) ?_
    refine Pl.fin [(0,_),(1,_),(2,_),(7,_)] ⟨rfl,rfl,rfl,rfl,trivial⟩ ?_
    refine Go'.condT rfl ?_
    refine Go'.region [(0,0),(1,0),(2,0),(3,1),(4,0),(5,2)] rfl ?_
    refine O.mv rfl rfl rfl rfl rfl ?_
    refine O.nc rfl rfl rfl rfl rfl ?_
    refine O.faz rfl rfl rfl rfl ⟨_,_,_,underlying115,rfl,rfl,sizeOf95⟩ rfl ?_
    refine O.ld rfl rfl rfl (fun w => ⟨isAgg95 w,sizeOf95 w⟩) rfl hb ?_
    refine O.mv rfl rfl rfl rfl rfl ?_
    refine O.call rfl rfl rfl call77 rfl (Scan_spec cb hcall hP hM hT hd hnb hl) ?_
    rintro _ H2 ⟨Z2,hT2,hF2,hZ2⟩
    refine ⟨trivial,?_⟩
    refine Pl.fin [] trivial ?_
    refine Go'.fall func52 results52 (vs := []) trivial ?_
    exact ⟨Z2,hT2,hF2,hZ2⟩
end
end Go.Bt.FB
namespace Go.Bt.FB
open Go Go.Proofs Go.Proofs.Try
set_option maxRecDepth 20000
set_option maxHeartbeats 4000000
set_option linter.unusedVariables false
set_option linter.unusedSectionVars false

section
variable [Inhabited Cx]
theorem bLoad_spec {B : World} {H : Mem} {tr bt : Nat} {P : Ps} (hP : PsOk P) {S : Nat → Prop} {l : List (Int × Int)} {x : Int × Int} (hM : MapM H tr P S l) (hb : cl H bt 0 = some (ptr tr)) (hlen : l.length < 2305843009213693952) :
    Fn Try.prog B 66 [ptr bt,iv x] H (fun r H' => r = PV (Pl.got OI x l) ∧ MapTo H H' tr P S (Pl.put OI x l)) := by
  unfold ptr at hb ⊢
  refine fn_of func66 rfl ntmps66 ?_
  refine (show Go' _ _ _ _ 22 [(0,_),(1,_)] [.code _] _ from ?_)
  refine Go'.seq ?_
  refine Go'.region [(0,0)] rfl ?_
  refine O.asg rfl rfl rfl rfl rfl ?_
  refine Pl.fin [(0,_),(1,_),(4,_)] ⟨rfl,rfl,rfl,trivial⟩ ?_
  refine Go'.seq ?_
  refine Go'.seq ?_
  refine Go'.region [(0,0),(1,0)] rfl ?_
  refine O.mv rfl rfl rfl rfl rfl ?_
  refine O.bin rfl rfl rfl rfl rfl rfl (run_eqNil_iface underlying20) ?_
  refine Pl.fin [(0,_),(1,_),(4,_),(8,_)] ⟨rfl,rfl,rfl,rfl,trivial⟩ ?_
  refine Go'.condF rfl ?_
  refine Go'.skip ?_
  refine Go'.seq ?_
  refine Go'.region [(0,0),(1,0),(2,0),(3,1),(4,0),(5,2),(6,0),(7,0),(8,0),(9,0),(10,0)] rfl ?_
  refine O.mv rfl rfl rfl rfl rfl ?_
  refine O.nc rfl rfl rfl rfl rfl ?_
  refine O.faz rfl rfl rfl rfl ⟨_,_,_,underlying115,rfl,rfl,sizeOf95⟩ rfl ?_
  refine O.ld rfl rfl rfl (fun w => ⟨isAgg95 w,sizeOf95 w⟩) rfl hb ?_
  refine O.mv rfl rfl rfl rfl rfl ?_
  refine O.call rfl rfl rfl call90 rfl (load_spec hP (x := x) hM hlen) ?_
  rintro _ H2 ⟨rfl,hq⟩
  refine ⟨trivial,?_⟩
  refine O.mv rfl rfl rfl rfl rfl ?_
  refine O.ext rfl rfl rfl rfl rfl rfl ?_
  refine O.ext rfl rfl rfl rfl rfl rfl ?_
  refine O.asg rfl rfl rfl rfl rfl ?_
  refine O.asg rfl rfl rfl rfl rfl ?_
  refine Pl.fin [(4,_),(5,_),(6,_)] ⟨rfl,rfl,rfl,trivial⟩ ?_
  refine Go'.seq ?_
  refine Go'.seq ?_
  rw [← Pl.got_isSome OI]
  cases hg : Pl.got OI x l with
  | none =>
    refine Go'.region [(0,0),(1,0)] rfl ?_
    refine O.mv rfl rfl rfl rfl rfl ?_
    refine O.not rfl rfl rfl rfl rfl ?_
    refine Pl.fin [(4,_),(5,_),(20,_)] ⟨rfl,rfl,rfl,trivial⟩ ?_
    refine Go'.condT rfl ?_
    refine Go'.seq ?_
    refine Go'.region [(0,0)] rfl ?_
    refine O.asg rfl rfl rfl rfl rfl ?_
    refine Pl.fin [(4,_),(5,_)] ⟨rfl,rfl,trivial⟩ ?_
    refine Go'.ret (vs := [_]) func66 results66 ⟨rfl,trivial⟩ ?_
    exact ⟨rfl,hq⟩
  | some y =>
    refine Go'.region [(0,0),(1,0)] rfl ?_
    refine O.mv rfl rfl rfl rfl rfl ?_
    refine O.not rfl rfl rfl rfl rfl ?_
    refine Pl.fin [(4,_),(5,_),(20,_)] ⟨rfl,rfl,rfl,trivial⟩ ?_
    refine Go'.condF rfl ?_
    refine Go'.skip ?_
    refine Go'.seq ?_
    refine Go'.region [(0,0),(1,0)] rfl ?_
    refine O.mv rfl rfl rfl rfl rfl ?_
    refine O.asg rfl rfl rfl rfl rfl ?_
    refine Pl.fin [(4,_)] ⟨rfl,trivial⟩ ?_
    refine Go'.ret (vs := [_]) func66 results66 ⟨rfl,trivial⟩ ?_
    exact ⟨rfl,hq⟩

theorem firstN_0 {α : Type} (m : List α) : firstN m 0 = m := by unfold firstN; simp
theorem allOf_spec {B : World} {H : Mem} {tr bt : Nat} {P : Ps} (hP : PsOk P) {S : Nat → Prop} {l : List (Int × Int)} (hM : MapM H tr P S l) (hb : cl H bt 0 = some (ptr tr)) (hll : l.length ≤ 4294967296) :
    Fn Try.prog B 67 [ptr bt] H (fun r H' => OutS EJ H' r l ∧ Fr nowhere H H') := by
  have hSlt := hM.lt
  have hb0 := hM.tc.hb
  have hbl := cl_lt hb
  refine fn_of func67 rfl ntmps67 ?_
  refine (show Go' _ _ _ _ 8 [(0,_)] [.code _] _ from ?_)
  refine Go'.seq ?_
  refine Go'.region [(0,0)] rfl ?_
  refine O.asg rfl rfl rfl rfl rfl ?_
  refine Pl.fin [(0,_),(2,_)] ⟨rfl,rfl,trivial⟩ ?_
  refine Go'.seq ?_
  refine Go'.region [(0,2)] rfl ?_
  refine O.alloc rfl rfl rfl zeroValue25 ?_
  intro H1 M1
  refine ⟨trivial,?_⟩
  have hs1 := M1.size
  have hD : cl H1 H.size 0 = some (.slice none 0 0) := (M1.cl 0).trans rfl
  have hw : Wr H1 H.size 0 1 := M1.wr 1 (by decide)
  replace hM := hM.fr (M1.fr nowhere) (fun _ _ _ => nw)
  replace hb := M1.keep hb
  refine Pl.fin [(0,_),(2,_),(3,_)] ⟨rfl,rfl,rfl,trivial⟩ ?_
  refine Go'.seq ?_
  refine Go'.region [(0,0),(1,2),(2,2)] rfl ?_
  refine O.mv rfl rfl rfl rfl rfl ?_
  refine O.call rfl rfl rfl call54 rfl (takerAny_spec (n := 0) hD hw) ?_
  rintro _ H2 ⟨pb,b2,b3,rfl,hT,hF2⟩
  have hs2 := hF2.size
  replace hM := hM.fr hF2 (fun _ _ _ => nw)
  replace hb := hF2.keep hb nw
  refine ⟨trivial,?_⟩
  refine O.call rfl rfl rfl call52 rfl (bAscend_spec (al := true) (cbAny B pb b2 b3 H.size 0) call80 hP (0,0) hM hb hT (fun b hb hz => hz.elim (fun h => by have := hSlt b hb; omega) (fun h => by have := hSlt b hb; omega)) (fun b hz hb => by have h1 := hb.1; exact hz.elim (fun h => by omega) (fun h => by omega)) hll (Nat.le_refl _)) ?_
  rintro _ H3 ⟨Z3,hT3,hF3,hZ3⟩
  obtain ⟨ov,hv,hov⟩ := PrT.out hT3
  rw [takes_first,firstN_0] at hov
  refine ⟨trivial,?_⟩
  refine Pl.fin [(2,_),(3,_)] ⟨rfl,rfl,trivial⟩ ?_
  refine Go'.seq ?_
  refine Go'.region [(0,1),(1,0)] rfl ?_
  refine O.ld rfl rfl rfl (fun w => ⟨isAgg25 w,sizeOf25 w⟩) rfl hv ?_
  refine O.asg rfl rfl rfl rfl rfl ?_
  refine Pl.fin [(2,_)] ⟨rfl,trivial⟩ ?_
  refine Go'.ret (vs := [_]) func67 results67 ⟨rfl,trivial⟩ ?_
  exact ⟨hov,((M1.fr nowhere).trans hF2).trans' hF3 (fun _ _ _ h => h) (fun b o hb hz => hz.elim (fun h => by omega) (fun h => by omega))⟩
end
end Go.Bt.FB
namespace Go.Bt.FB
open Go Go.Proofs Go.Proofs.Try
set_option maxRecDepth 20000
set_option maxHeartbeats 4000000
set_option linter.unusedVariables false
set_option linter.unusedSectionVars false

theorem ibload_spec {B : World} {H : Mem} {d : Nat} {nl : Bool} {v u : Value} {ord : List Int} {l : List (Int × Int)} (hd : d = 0 ∨ 2 ≤ d ∧ d ≤ 128) (ho : InS EN H v ord) (hol : ord.length ≤ 4294967296) (hi : InS EJ H u l) (hll : l.length ≤ 4294967296) :
    Fn Try.prog B 43 [.agg #[v,.int .i64 (d : Int),.bool nl],u] H (fun r H' => ∃ v1 v2,r = .tuple #[v1,v2] ∧ OutS EF H' v1 (Pl.gots (OO ord) l) ∧ OutS EJ H' v2 (Pl.puts (OO ord) l) ∧ Fr nowhere H H') := by
  obtain ⟨a,c,hu⟩ := hi.len
  subst hu
  obtain ⟨av,mv,cv,hv⟩ := InS.form ho
  subst hv
  have hF : Fr nowhere H H := Fr.refl _ _
  have hP := PD_ok hd
  refine fn_of func43 rfl ntmps43 ?_
  refine (show Go' _ _ _ _ 30 [(0,_),(1,_)] [.code _] _ from ?_)
  refine Go'.seq ?_
  refine Go'.region [(0,2),(1,0),(2,0)] rfl ?_
  refine O.box rfl rfl rfl rfl ?_
  intro B1 MB1
  refine ⟨trivial,?_⟩
  have hsB1 := MB1.size
  replace hF := hF.trans (MB1.fr nowhere)
  have mm : Rd B1 H.size 0 [.slice av mv cv,.int .i64 (d : Int),.bool nl] := MB1.rd _ [] (by simp [Value.cells])
  have mm0 : cl B1 H.size 0 = some (.slice av mv cv) := mm 0 _ rfl
  have mm1 : cl B1 H.size (0 + 1) = some (.int .i64 (d : Int)) := mm 1 _ rfl
  refine O.asg rfl rfl rfl rfl rfl ?_
  refine O.asg rfl rfl rfl rfl rfl ?_
  refine Pl.fin [(1,_),(2,_),(4,_),(5,_)] ⟨rfl,rfl,rfl,rfl,trivial⟩ ?_
  refine Go'.seq ?_
  refine Go'.region [(0,1),(1,2),(2,0)] rfl ?_
  refine O.lds rfl rfl rfl (fun w => ⟨isAgg24 w,sizeOf24 w⟩) rfl rfl mm ?_
  refine O.call rfl rfl rfl call51 rfl (grow_spec (l := []) hd (ho.fr hF) hol (InS.nil EJ _) (by decide)) ?_
  rintro _ H3 ⟨I,hIo,hIw,hIb,tr,S,bt,rfl,hM,hbt,hbl,hbu,hbS,hF3,hS⟩
  have hs3 := hF3.size
  replace hF := hF.trans hF3
  replace mm := hF3.rd mm (fun _ _ => nw)
  replace mm0 := hF3.keep mm0 nw
  replace mm1 := hF3.keep mm1 nw
  have hSb : ∀ b,S b ∨ (b < cx.base ∧ cx.own b) → B1.size ≤ b := fun b hb => hb.elim (hS b) (fun h => hIw b h.2)
  have hbg := hbl
  have hOO : OO ord = OI := by rw [← hIo]; rfl
  have hpl := Pl.puts_length OI l
  have hSlt := hM.lt
  have hbs := hM.tc.hb
  unfold ptr
  refine ⟨trivial,?_⟩
  refine O.asg rfl rfl rfl rfl rfl ?_
  refine Pl.fin [(1,_),(4,_),(5,_),(6,_)] ⟨rfl,rfl,rfl,rfl,trivial⟩ ?_
  refine Go'.seq ?_
  refine Go'.region [(0,0)] rfl ?_
  refine O.asg rfl rfl rfl rfl rfl ?_
  refine Pl.fin [(1,_),(4,_),(5,_),(6,_),(7,_)] ⟨rfl,rfl,rfl,rfl,rfl,trivial⟩ ?_
  refine Go'.seq ?_
  refine Go'.seq ?_
  refine Go'.region [(0,0),(1,0),(2,0)] rfl ?_
  refine O.mv rfl rfl rfl rfl rfl ?_
  refine O.len rfl rfl rfl rfl underlying25 rfl ?_
  refine O.mv rfl rfl rfl rfl rfl ?_
  refine Pl.fin [(4,_),(5,_),(6,_),(7,_),(12,_),(13,_),(14,_)] ⟨rfl,rfl,rfl,rfl,rfl,rfl,rfl,trivial⟩ ?_
  refine Go'.block ?_
  refine Go'.loop ?_
  refine Go'.keep [(4,_),(5,_),(6,_),(7,_),(12,_),(13,_),(14,_)] ⟨rfl,rfl,rfl,rfl,rfl,rfl,rfl,trivial⟩ ?_
  refine Go'.ind (σ := Nat × Value) (fun s => l.length - s.1) (fun s H' => s.1 ≤ l.length ∧ Fr nowhere H H' ∧ H3.size ≤ H'.size ∧ cl H' bt 0 = some (ptr tr) ∧ ∃ S Zo,MapM H' tr (PD d) S (Pl.puts OI (l.take s.1)) ∧ (∀ b,S b → H.size ≤ b ∧ b ≠ bt) ∧ Acc EF Zo H' s.2 (Pl.gots OI (l.take s.1)) ∧ ∀ b,Zo b → H3.size ≤ b ∧ b < H'.size ∧ ¬ S b)
    (fun s => [(4,.slice none 0 0),(5,.slice none 0 0),(6,.pointer (some ⟨bt,0,none⟩)),(7,s.2),(12,.slice a l.length c),(13,.int .i64 (l.length : Int)),(14,.int .i64 (s.1 : Int))]) (0,.slice none 0 0) ⟨Nat.zero_le _,hF,Nat.le_refl _,hbt,S,fun _ => False,hM,fun b hb => ⟨by have := hS b hb; omega,fun e => hbS (e ▸ hb)⟩,Acc.nil _ _ _,fun _ h => h.elim⟩ rfl ?_
  clear hM hF hS hSb hSlt hbS hbt S
  rintro ⟨j,sv⟩ H5 ⟨hjl,hF,hs45,hbt,S,Zo,hM,hS,hA,hZ⟩ ih
  simp only at hjl hM hA
  have hi2 := hi.fr hF
  refine Go'.seq ?_
  by_cases hlt : j < l.length
  · skip
    obtain ⟨y,hy⟩ : ∃ y,l[j]? = some y := ⟨l[j],List.getElem?_eq_getElem hlt⟩
    obtain ⟨b,o,c',e,hr⟩ := hi2.at hy
    cases e
    have hpl2 := Pl.puts_length OI (l.take j)
    have hlout := Pl.gots_length OI (l.take j)
    have hSlt := hM.lt
    have hbs2 := hM.tc.hb
    have hsz := hF.size
    have eput : Pl.puts OI (l.take (j + 1)) = Pl.put OI y (Pl.puts OI (l.take j)) := by rw [List.take_add_one,hy]; exact Pl.puts_snoc _ _ _
    have egot : Pl.gots OI (l.take (j + 1)) = Pl.gots OI (l.take j) ++ [Pl.got OI y (Pl.puts OI (l.take j))] := by rw [List.take_add_one,hy]; exact Pl.gots_snoc _ _ _
    rw [List.length_take] at hpl2 hlout
    refine Go'.region [(0,0)] rfl ?_
    refine O.cmp rfl rfl rfl rfl rfl rfl (lssT (by omega)) ?_
    refine Pl.fin [(4,_),(5,_),(6,_),(7,_),(12,_),(13,_),(14,_),(15,_)] ⟨rfl,rfl,rfl,rfl,rfl,rfl,rfl,rfl,trivial⟩ ?_
    refine Go'.seq ?_
    refine Go'.condT rfl ?_
    refine Go'.skip ?_
    refine Go'.seq ?_
    refine Go'.block ?_
    refine Go'.seq ?_
    refine Go'.region [(0,0),(1,1),(2,2),(3,2)] rfl ?_
    refine O.ix (j := j) rfl rfl rfl rfl underlying25 sizeOf35 rfl rfl (by omega) hlt ?_
    refine O.lds rfl rfl rfl (fun w => ⟨isAgg35 w,sizeOf35 w⟩) rfl rfl hr ?_
    refine O.alloc rfl rfl rfl zeroValue35 ?_
    intro H6 M6
    refine ⟨trivial,?_⟩
    have hs6 := M6.size
    replace hM := hM.fr (M6.fr nowhere) (fun _ _ _ => nw)
    replace hbt := M6.keep hbt
    replace hA := hA.fr (M6.fr nowhere) (fun _ _ _ _ => nw)
    have m7 : Wr H6 H5.size 0 2 := M6.wr 2 (by decide)
    refine O.st rfl rfl sizeOf35 rfl rfl rfl rfl rfl m7 ?_
    intro H7 W7
    have hs7 := W7.size
    replace hM := hM.fr W7.fr (fun b o hb => nr (.inl (hb.elim (fun hb => by have := hSlt b hb; omega) (fun hb => by omega))))
    replace hbt := W7.fr.keep hbt (nr (.inl (by omega)))
    replace hA := hA.fr W7.fr (fun b o hb hb2 => nr (.inl (by have := hZ b hb2; omega)))
    replace hF : Fr nowhere H H7 := hF.trans' ((M6.fr nowhere).trans' W7.fr (Z := nowhere) (fun _ _ _ h => h) (fun b o hb hz => by have h1 := hz.1; omega)) (fun _ _ _ h => h) (fun _ _ _ h => h)
    have k0 : Rd H7 H5.size 0 (EJ.enc y) := W7.all
    refine ⟨trivial,?_⟩
    refine Pl.fin [(4,_),(5,_),(6,_),(7,_),(9,_),(12,_),(13,_),(14,_),(15,_)] ⟨rfl,rfl,rfl,rfl,rfl,rfl,rfl,rfl,rfl,trivial⟩ ?_
    refine Go'.region [(0,0),(1,0),(2,1),(3,0),(4,2),(5,2),(6,2),(7,2),(8,0)] rfl ?_
    refine O.mv rfl rfl rfl rfl rfl ?_
    refine O.mv rfl rfl rfl rfl rfl ?_
    refine O.lds rfl rfl rfl (fun w => ⟨isAgg35 w,sizeOf35 w⟩) rfl rfl k0 ?_
    refine O.mki rfl rfl rfl rfl underlying35 rfl rfl ?_
    refine O.call rfl rfl rfl call66 rfl (bLoad_spec hP (x := y) hM hbt (by omega)) ?_
    rintro _ H8 ⟨rfl,S',hM',hF8,hS'⟩
    have hs8 := hF8.size
    replace hbt := hF8.keep hbt (fun hz => (hS bt hz).2 rfl)
    replace hA := hA.fr hF8 (fun b o hb hb2 hz => (hZ b hb2).2.2 hz)
    replace hF := hF.trans' hF8 (fun _ _ _ h => h) (fun b o hb hz => by have := hS b hz; omega)
    refine ⟨trivial,?_⟩
    refine O.call rfl rfl rfl call56 rfl (foundAny_spec _) ?_
    rintro _ H9 ⟨rfl,hF9⟩
    have hs9 := hF9.size
    replace hM' := hM'.fr hF9 (fun _ _ _ => nw)
    replace hbt := hF9.keep hbt nw
    replace hA := hA.fr hF9 (fun _ _ _ _ => nw)
    replace hF := hF.trans hF9
    rw [FVe]
    refine ⟨trivial,?_⟩
    refine O.bsl (cs := (fvs (Pl.got OI y (Pl.puts OI (l.take j))))) rfl rfl rfl ⟨underlying48,sizeOf44,zeroValue44,⟨_,typeInfo44,rfl⟩,rfl,by decide,by decide⟩ rfl (by decide) (by generalize (Pl.got OI y (Pl.puts OI (l.take j))) = o; cases o <;> kernel_rfl) ?_
    intro H10 M10
    have hs10 := M10.size
    replace hM' := hM'.fr (M10.fr nowhere) (fun _ _ _ => nw)
    replace hbt := M10.keep hbt
    replace hA := hA.fr (M10.fr nowhere) (fun _ _ _ _ => nw)
    replace hF := hF.trans (M10.fr nowhere)
    have m5 : Rd H10 H9.size 0 (row EF [(Pl.got OI y (Pl.puts OI (l.take j)))]) := M10.rd _ [] (by simp [row,EF])
    refine ⟨trivial,?_⟩
    refine O.appA (E := EF) (Y := [(Pl.got OI y (Pl.puts OI (l.take j)))]) rfl rfl rfl ⟨underlying48,sizeOf44,zeroValue44,⟨_,typeInfo44,rfl⟩,rfl,by decide,by decide⟩ rfl hA rfl ⟨_,_,_,rfl,m5⟩ (Nat.succ_pos _) (by rw [hlout]; exact Nat.le_trans (Nat.mul_le_mul_left _ (Nat.le_of_ble_eq_true (n := _) (m := 4096) rfl)) (by simp only [List.length_cons,List.length_nil]; omega)) (by rw [hlout]; simp only [List.length_cons,List.length_nil]; omega) ?_
    intro v8 H11 hA11 hF11 hs11
    have hs111 := hF11.size
    rw [← egot] at hA11
    have hS2 : ∀ b,S' b → ¬ Zo b := fun b hb hz => (hS' b hb).elim (hZ b hz).2.2 (fun h => by have := (hZ b hz).2.1; omega)
    have hlt10 := hM'.lt
    have hM11 := hM'.fr hF11 (fun b _ hb hz => hb.elim (fun hb => hS2 b hb hz) (fun hb => by have := (hZ b hz).1; omega))
    replace hbt := hF11.keep hbt (fun hz => by have := (hZ bt hz).1; omega)
    replace hF := hF.trans' hF11 (fun _ _ _ h => h) (fun b o hb hz => by have := (hZ b hz).1; omega)
    refine ⟨trivial,?_⟩
    refine O.asg rfl rfl rfl rfl rfl ?_
    refine Pl.fin [(4,_),(5,_),(6,_),(7,_),(9,_),(12,_),(13,_),(14,_),(15,_)] ⟨rfl,rfl,rfl,rfl,rfl,rfl,rfl,rfl,rfl,trivial⟩ ?_
    refine Go'.inBlock ?_
    refine Go'.region [(0,0),(1,0)] rfl ?_
    refine O.add (((j + 1 : Nat) : Int)) rfl rfl rfl rfl rfl rfl (by omega) (by omega) ?_
    refine O.mv rfl rfl rfl rfl rfl ?_
    refine Pl.fin [(4,_),(5,_),(6,_),(7,_),(9,_),(12,_),(13,_),(14,_),(15,_)] ⟨rfl,rfl,rfl,rfl,rfl,rfl,rfl,rfl,rfl,trivial⟩ ?_
    refine Go'.keep [(4,_),(5,_),(6,_),(7,_),(12,_),(13,_),(14,_)] ⟨rfl,rfl,rfl,rfl,rfl,rfl,rfl,trivial⟩ ?_
    refine Go'.inLoop ?_
    exact ih (j + 1,v8) H11 ⟨hlt,hF,by omega,hbt,S',(fun b => Zo b ∨ (b = H10.size ∧ b < H11.size)),by
      simp only
      rw [eput]
      exact hM11,fun b hb => (hS' b hb).elim (hS b) (fun h => ⟨by omega,by omega⟩),hA11,fun b hb => hb.elim (fun h => ⟨(hZ b h).1,by have := (hZ b h).2.1; omega,fun hs => hS2 b hs h⟩) (fun h => ⟨by omega,h.2,fun hs => by have := hlt10 b hs; omega⟩)⟩ (by simp only; omega)
  · skip
    have ejl : j = l.length := by omega
    rw [ejl,List.take_length] at hM hA
    have hpl2 := Pl.puts_length OI l
    refine Go'.region [(0,0)] rfl ?_
    refine O.cmp rfl rfl rfl rfl rfl rfl (lssF (by omega)) ?_
    refine Pl.fin [(4,_),(5,_),(6,_),(7,_),(12,_),(13,_),(14,_),(15,_)] ⟨rfl,rfl,rfl,rfl,rfl,rfl,rfl,rfl,trivial⟩ ?_
    refine Go'.seq ?_
    refine Go'.condF rfl ?_
    refine Go'.exit rfl ?_
    refine Go'.seq ?_
    refine Go'.region [(0,0),(1,0),(2,2),(3,0),(4,0)] rfl ?_
    refine O.mv rfl rfl rfl rfl rfl ?_
    refine O.mv rfl rfl rfl rfl rfl ?_
    refine O.call rfl rfl rfl call67 rfl (allOf_spec hP hM hbt (by omega)) ?_
    rintro v9 H6 ⟨hv9,hF6⟩
    refine ⟨trivial,?_⟩
    refine O.asg rfl rfl rfl rfl rfl ?_
    refine O.asg rfl rfl rfl rfl rfl ?_
    refine Pl.fin [(4,_),(5,_)] ⟨rfl,rfl,trivial⟩ ?_
    refine Go'.ret (vs := [_,_]) func43 results43 ⟨rfl,rfl,trivial⟩ ?_
    rw [hOO]
    exact ⟨_,_,rfl,(hA.fr hF6 (fun _ _ _ _ => nw)).out,hv9,hF.trans hF6⟩

theorem gset_spec {B : World} {H : Mem} {v u dg nl : Value} {ord : List Int} {l : List (Int × Int)} (ho : InS EN H v ord) (hl : ord.length < 4611686018427387904) (hi : InS EJ H u l) (hll : l.length ≤ 4294967296) :
    Fn Try.prog B 44 [.agg #[v,dg,nl],u] H (fun r H' => ∃ v1 v2,r = .tuple #[v1,v2] ∧ OutS EF H' v1 (Pl.gots (OO ord) l) ∧ OutS EJ H' v2 (Pl.puts (OO ord) l) ∧ Fr nowhere H H') := by
  obtain ⟨a,c,hu⟩ := hi.len
  subst hu
  have hlv := ho.len
  refine fn_of func44 rfl ntmps44 ?_
  refine (show Go' _ _ _ _ 32 [(0,_),(1,_)] [.code _] _ from ?_)
  refine Go'.seq ?_
  refine Go'.region [(0,2),(1,0),(2,0)] rfl ?_
  refine O.box rfl rfl rfl rfl ?_
  intro H1 M1
  refine ⟨trivial,?_⟩
  have hs1 := M1.size
  have hF1 := M1.fr nowhere
  replace ho := ho.fr (M1.fr nowhere)
  replace hi := hi.fr (M1.fr nowhere)
  have mi : cl H1 H.size 0 = some v := (M1.cl 0).trans rfl
  refine O.asg rfl rfl rfl rfl rfl ?_
  refine O.asg rfl rfl rfl rfl rfl ?_
  refine Pl.fin [(1,_),(2,_),(4,_),(5,_)] ⟨rfl,rfl,rfl,rfl,trivial⟩ ?_
  refine Go'.seq ?_
  refine Go'.region [(0,0)] rfl ?_
  refine O.asg rfl rfl rfl rfl rfl ?_
  refine Pl.fin [(1,_),(2,_),(4,_),(5,_),(6,_)] ⟨rfl,rfl,rfl,rfl,rfl,trivial⟩ ?_
  refine Go'.seq ?_
  refine Go'.region [(0,0)] rfl ?_
  refine O.asg rfl rfl rfl rfl rfl ?_
  refine Pl.fin [(1,_),(2,_),(4,_),(5,_),(6,_),(7,_)] ⟨rfl,rfl,rfl,rfl,rfl,rfl,trivial⟩ ?_
  refine Go'.seq ?_
  refine Go'.seq ?_
  refine Go'.region [(0,0),(1,0),(2,0)] rfl ?_
  refine O.mv rfl rfl rfl rfl rfl ?_
  refine O.len rfl rfl rfl rfl underlying25 rfl ?_
  refine O.mv rfl rfl rfl rfl rfl ?_
  refine Pl.fin [(2,_),(4,_),(5,_),(6,_),(7,_),(11,_),(12,_),(13,_)] ⟨rfl,rfl,rfl,rfl,rfl,rfl,rfl,rfl,trivial⟩ ?_
  refine Go'.block ?_
  refine Go'.loop ?_
  refine Go'.keep [(2,_),(6,_),(7,_),(11,_),(12,_),(13,_)] ⟨rfl,rfl,rfl,rfl,rfl,rfl,trivial⟩ ?_
  refine Go'.ind (σ := Nat × Value × Value × (Nat → Prop)) (fun s => l.length - s.1) (fun s H' => Fr nowhere H1 H' ∧ s.1 ≤ l.length ∧ Acc EF s.2.2.2 H' s.2.1 (Pl.gots (OO ord) (l.take s.1)) ∧ Acc EJ (fun b => ¬ s.2.2.2 b) H' s.2.2.1 (Pl.puts (OO ord) (l.take s.1)) ∧ ∀ b,s.2.2.2 b → H1.size ≤ b ∧ b < H'.size)
    (fun s => [(2,.pointer (some ⟨H.size,0,none⟩)),(6,s.2.1),(7,s.2.2.1),(11,.slice a l.length c),(12,.int .i64 (l.length : Int)),(13,.int .i64 (s.1 : Int))]) (0,.slice none 0 0,.slice none 0 0,fun _ => False) ⟨Fr.refl _ _,Nat.zero_le _,Acc.nil _ _ _,Acc.nil _ _ _,fun _ h => h.elim⟩ rfl ?_
  rintro ⟨j,sv,iv,Zo⟩ H2 ⟨hF,hjl,hA,hB,hZ⟩ ih
  simp only at hjl hA hB hZ
  have ho2 := ho.fr hF
  have hi2 := hi.fr hF
  have mi2 := hF.keep mi nw
  refine Go'.seq ?_
  by_cases hlt : j < l.length
  · skip
    obtain ⟨y,hy⟩ : ∃ y,l[j]? = some y := ⟨l[j],List.getElem?_eq_getElem hlt⟩
    obtain ⟨b,o,c',e,hr⟩ := hi2.at hy
    cases e
    have hpl := Pl.puts_length (OO ord) (l.take j)
    have hlout := Pl.gots_length (OO ord) (l.take j)
    have hsz := hF.size
    have eput : Pl.puts (OO ord) (l.take (j + 1)) = Pl.put (OO ord) y (Pl.puts (OO ord) (l.take j)) := by rw [List.take_add_one,hy]; exact Pl.puts_snoc _ _ _
    have egot : Pl.gots (OO ord) (l.take (j + 1)) = Pl.gots (OO ord) (l.take j) ++ [Pl.got (OO ord) y (Pl.puts (OO ord) (l.take j))] := by rw [List.take_add_one,hy]; exact Pl.gots_snoc _ _ _
    rw [List.length_take] at hpl hlout
    refine Go'.region [(0,0)] rfl ?_
    refine O.cmp rfl rfl rfl rfl rfl rfl (lssT (by omega)) ?_
    refine Pl.fin [(2,_),(6,_),(7,_),(11,_),(12,_),(13,_),(14,_)] ⟨rfl,rfl,rfl,rfl,rfl,rfl,rfl,trivial⟩ ?_
    refine Go'.seq ?_
    refine Go'.condT rfl ?_
    refine Go'.skip ?_
    refine Go'.seq ?_
    refine Go'.block ?_
    refine Go'.seq ?_
    refine Go'.region [(0,0),(1,1),(2,2),(3,2)] rfl ?_
    refine O.ix (j := j) rfl rfl rfl rfl underlying25 sizeOf35 rfl rfl (by omega) hlt ?_
    refine O.lds rfl rfl rfl (fun w => ⟨isAgg35 w,sizeOf35 w⟩) rfl rfl hr ?_
    refine O.alloc rfl rfl rfl zeroValue35 ?_
    intro H3 M3
    refine ⟨trivial,?_⟩
    have hs3 := M3.size
    have m7 : Wr H3 H2.size 0 2 := M3.wr 2 (by decide)
    refine O.st rfl rfl sizeOf35 rfl rfl rfl rfl rfl m7 ?_
    intro H4 W4
    have hs4 := W4.size
    have hf4 : Fr nowhere H2 H4 := (M3.fr nowhere).trans' W4.fr (fun _ _ _ h => h) (fun b o hb hz => by have h1 := hz.1; omega)
    have ho4 := ho2.fr hf4
    have mi4 := hf4.keep mi2 nw
    have hx4 : Rd H4 H2.size 0 (EJ.enc y) := W4.all
    refine ⟨trivial,?_⟩
    refine Pl.fin [(2,_),(6,_),(7,_),(9,_),(11,_),(12,_),(13,_),(14,_)] ⟨rfl,rfl,rfl,rfl,rfl,rfl,rfl,rfl,trivial⟩ ?_
    refine Go'.seq ?_
    refine Go'.region [(0,2)] rfl ?_
    refine O.alloc rfl rfl rfl zeroValue44 ?_
    intro H5 M5
    refine ⟨trivial,?_⟩
    have hs5 := M5.size
    replace ho4 := ho4.fr (M5.fr nowhere)
    replace mi4 := M5.keep mi4
    replace hx4 := (M5.fr nowhere).rd hx4 (fun _ _ => nw)
    have hf5 : Fr nowhere H2 H5 := hf4.trans (M5.fr nowhere)
    have hA5 := hA.fr hf5 (fun _ _ _ _ => nw)
    have hB5 := hB.fr hf5 (fun _ _ _ _ => nw)
    have m10 : Wr H5 H4.size 0 3 := M5.wr 3 (by decide)
    refine Pl.fin [(2,_),(6,_),(7,_),(9,_),(10,_),(11,_),(12,_),(13,_),(14,_)] ⟨rfl,rfl,rfl,rfl,rfl,rfl,rfl,rfl,rfl,trivial⟩ ?_
    refine Go'.seq ?_
    rcases hgo : Pl.got (OO ord) y (Pl.puts (OO ord) (l.take j)) with _ | z
    · skip
      refine Go'.region [(0,0),(1,1),(2,0),(3,1),(4,2),(5,0),(6,0),(7,0),(8,0),(9,2)] rfl ?_
      refine O.faz rfl rfl rfl rfl ⟨_,_,_,underlying24,rfl,rfl,sizeOf22⟩ rfl ?_
      refine O.ld rfl rfl rfl (fun w => ⟨isAgg22 w,sizeOf22 w⟩) rfl mi4 ?_
      refine O.mv rfl rfl rfl rfl rfl ?_
      refine O.lds rfl rfl rfl (fun w => ⟨isAgg35 w,sizeOf35 w⟩) rfl rfl hx4 ?_
      refine O.call rfl rfl rfl call68 rfl (put_specA ho4 hl hB5.inS (Pl.puts_srt _ _) (by omega)) ?_
      rintro _ H6 ⟨iv2,rfl,hB6,hF6⟩
      rw [hgo]
      unfold FV
      have hs6 := hF6.size
      replace m10 := hF6.wr m10
      have hA6 := hA5.fr hF6 (fun _ _ _ _ => nw)
      refine ⟨trivial,?_⟩
      refine O.mv rfl rfl rfl rfl rfl ?_
      refine O.ext rfl rfl rfl rfl rfl rfl ?_
      refine O.ext rfl rfl rfl rfl rfl rfl ?_
      refine O.asg rfl rfl rfl rfl rfl ?_
      refine O.st (vs := (fvs none)) rfl rfl sizeOf44 rfl rfl rfl rfl rfl m10 ?_
      intro H7 W7
      have hs7 := W7.size
      have hA7 := hA6.fr W7.fr (fun b o hb hz hr => by have h1 := hr.1; have h2 := hZ b hz; omega)
      have hB7 := hB6.fr W7.fr (fun b o hb hz hr => by have h1 := hr.1; omega)
      have hx7 : Rd H7 H4.size 0 (fvs none) := W7.all
      have hf7 : Fr nowhere H2 H7 := (hf5.trans hF6).trans' W7.fr (fun _ _ _ h => h) (fun b o hb hz => by have h1 := hz.1; omega)
      refine ⟨trivial,?_⟩
      refine Pl.fin [(2,_),(6,_),(7,_),(9,_),(10,_),(11,_),(12,_),(13,_),(14,_)] ⟨rfl,rfl,rfl,rfl,rfl,rfl,rfl,rfl,rfl,trivial⟩ ?_
      refine Go'.region [(0,0),(1,1),(2,2),(3,2),(4,0)] rfl ?_
      refine O.mv rfl rfl rfl rfl rfl ?_
      refine O.lds rfl rfl rfl (fun w => ⟨isAgg44 w,sizeOf44 w⟩) rfl rfl hx7 ?_
      refine O.bsl (cs := (fvs none)) rfl rfl rfl ⟨underlying48,sizeOf44,zeroValue44,⟨_,typeInfo44,rfl⟩,rfl,by decide,by decide⟩ rfl (by decide) (by kernel_rfl) ?_
      intro H8 M8
      have hs8 := M8.size
      have hA8 := hA7.fr (M8.fr nowhere) (fun _ _ _ _ => nw)
      have hB8 := hB7.fr (M8.fr nowhere) (fun _ _ _ _ => nw)
      have m5 : Rd H8 H7.size 0 (row EF [none]) := M8.rd _ [] (by simp [row,EF,fvs])
      refine ⟨trivial,?_⟩
      refine O.appA (E := EF) (Y := [none]) rfl rfl rfl ⟨underlying48,sizeOf44,zeroValue44,⟨_,typeInfo44,rfl⟩,rfl,by decide,by decide⟩ rfl hA8 rfl ⟨_,_,_,rfl,m5⟩ (Nat.succ_pos _) (by rw [hlout]; exact Nat.le_trans (Nat.mul_le_mul_left _ (Nat.le_of_ble_eq_true (n := _) (m := 4096) rfl)) (by simp only [List.length_cons,List.length_nil]; omega)) (by rw [hlout]; simp only [List.length_cons,List.length_nil]; omega) ?_
      intro v9 H9 hA9 hF9 hs9
      have hB9 := hB8.fr hF9 (fun b o hb hz hr => by have h1 := hZ b hr; omega)
      have hg9 := hF9.size
      rw [hgo] at egot
      refine ⟨trivial,?_⟩
      refine O.asg rfl rfl rfl rfl rfl ?_
      refine Pl.fin [(2,_),(6,_),(7,_),(9,_),(10,_),(11,_),(12,_),(13,_),(14,_)] ⟨rfl,rfl,rfl,rfl,rfl,rfl,rfl,rfl,rfl,trivial⟩ ?_
      refine Go'.inBlock ?_
      refine Go'.region [(0,0),(1,0)] rfl ?_
      refine O.add (((j + 1 : Nat) : Int)) rfl rfl rfl rfl rfl rfl (by omega) (by omega) ?_
      refine O.mv rfl rfl rfl rfl rfl ?_
      refine Pl.fin [(2,_),(6,_),(7,_),(9,_),(10,_),(11,_),(12,_),(13,_),(14,_)] ⟨rfl,rfl,rfl,rfl,rfl,rfl,rfl,rfl,rfl,trivial⟩ ?_
      refine Go'.keep [(2,_),(6,_),(7,_),(11,_),(12,_),(13,_)] ⟨rfl,rfl,rfl,rfl,rfl,rfl,trivial⟩ ?_
      refine Go'.inLoop ?_
      refine ih (j + 1,v9,iv2,fun b => Zo b ∨ (b = H8.size ∧ b < H9.size)) H9 ⟨((hF.trans hf7).trans (M8.fr nowhere)).trans' hF9 (fun _ _ _ h => h) (fun b o hb hz => by have h1 := (hZ b hz).1; omega),hlt,?_,?_,fun b hb => hb.elim (fun h => ⟨(hZ b h).1,by have := (hZ b h).2; omega⟩) (fun h => ⟨by omega,h.2⟩)⟩ (by simp only; omega)
      · simp only
        rw [egot]
        exact hA9
      · simp only
        rw [eput]
        exact (hB8.mono (Y := fun b => ¬ Zo b ∧ b < H8.size) (fun b hb hz => ⟨fun h => by have := hZ b h; omega,hb⟩)).fr hF9 (fun b o hb hz hr => hz.1 hr) |>.mono (fun b hb hz h => h.elim hz.1 (fun h => by have := hz.2; omega))
    · skip
      refine Go'.region [(0,0),(1,1),(2,0),(3,1),(4,2),(5,0),(6,0),(7,0),(8,0),(9,2)] rfl ?_
      refine O.faz rfl rfl rfl rfl ⟨_,_,_,underlying24,rfl,rfl,sizeOf22⟩ rfl ?_
      refine O.ld rfl rfl rfl (fun w => ⟨isAgg22 w,sizeOf22 w⟩) rfl mi4 ?_
      refine O.mv rfl rfl rfl rfl rfl ?_
      refine O.lds rfl rfl rfl (fun w => ⟨isAgg35 w,sizeOf35 w⟩) rfl rfl hx4 ?_
      refine O.call rfl rfl rfl call68 rfl (put_specA ho4 hl hB5.inS (Pl.puts_srt _ _) (by omega)) ?_
      rintro _ H6 ⟨iv2,rfl,hB6,hF6⟩
      rw [hgo]
      unfold FV
      have hs6 := hF6.size
      replace m10 := hF6.wr m10
      have hA6 := hA5.fr hF6 (fun _ _ _ _ => nw)
      refine ⟨trivial,?_⟩
      refine O.mv rfl rfl rfl rfl rfl ?_
      refine O.ext rfl rfl rfl rfl rfl rfl ?_
      refine O.ext rfl rfl rfl rfl rfl rfl ?_
      refine O.asg rfl rfl rfl rfl rfl ?_
      refine O.st (vs := (fvs (some z))) rfl rfl sizeOf44 rfl rfl rfl rfl rfl m10 ?_
      intro H7 W7
      have hs7 := W7.size
      have hA7 := hA6.fr W7.fr (fun b o hb hz hr => by have h1 := hr.1; have h2 := hZ b hz; omega)
      have hB7 := hB6.fr W7.fr (fun b o hb hz hr => by have h1 := hr.1; omega)
      have hx7 : Rd H7 H4.size 0 (fvs (some z)) := W7.all
      have hf7 : Fr nowhere H2 H7 := (hf5.trans hF6).trans' W7.fr (fun _ _ _ h => h) (fun b o hb hz => by have h1 := hz.1; omega)
      refine ⟨trivial,?_⟩
      refine Pl.fin [(2,_),(6,_),(7,_),(9,_),(10,_),(11,_),(12,_),(13,_),(14,_)] ⟨rfl,rfl,rfl,rfl,rfl,rfl,rfl,rfl,rfl,trivial⟩ ?_
      refine Go'.region [(0,0),(1,1),(2,2),(3,2),(4,0)] rfl ?_
      refine O.mv rfl rfl rfl rfl rfl ?_
      refine O.lds rfl rfl rfl (fun w => ⟨isAgg44 w,sizeOf44 w⟩) rfl rfl hx7 ?_
      refine O.bsl (cs := (fvs (some z))) rfl rfl rfl ⟨underlying48,sizeOf44,zeroValue44,⟨_,typeInfo44,rfl⟩,rfl,by decide,by decide⟩ rfl (by decide) (by kernel_rfl) ?_
      intro H8 M8
      have hs8 := M8.size
      have hA8 := hA7.fr (M8.fr nowhere) (fun _ _ _ _ => nw)
      have hB8 := hB7.fr (M8.fr nowhere) (fun _ _ _ _ => nw)
      have m5 : Rd H8 H7.size 0 (row EF [(some z)]) := M8.rd _ [] (by simp [row,EF,fvs])
      refine ⟨trivial,?_⟩
      refine O.appA (E := EF) (Y := [(some z)]) rfl rfl rfl ⟨underlying48,sizeOf44,zeroValue44,⟨_,typeInfo44,rfl⟩,rfl,by decide,by decide⟩ rfl hA8 rfl ⟨_,_,_,rfl,m5⟩ (Nat.succ_pos _) (by rw [hlout]; exact Nat.le_trans (Nat.mul_le_mul_left _ (Nat.le_of_ble_eq_true (n := _) (m := 4096) rfl)) (by simp only [List.length_cons,List.length_nil]; omega)) (by rw [hlout]; simp only [List.length_cons,List.length_nil]; omega) ?_
      intro v9 H9 hA9 hF9 hs9
      have hB9 := hB8.fr hF9 (fun b o hb hz hr => by have h1 := hZ b hr; omega)
      have hg9 := hF9.size
      rw [hgo] at egot
      refine ⟨trivial,?_⟩
      refine O.asg rfl rfl rfl rfl rfl ?_
      refine Pl.fin [(2,_),(6,_),(7,_),(9,_),(10,_),(11,_),(12,_),(13,_),(14,_)] ⟨rfl,rfl,rfl,rfl,rfl,rfl,rfl,rfl,rfl,trivial⟩ ?_
      refine Go'.inBlock ?_
      refine Go'.region [(0,0),(1,0)] rfl ?_
      refine O.add (((j + 1 : Nat) : Int)) rfl rfl rfl rfl rfl rfl (by omega) (by omega) ?_
      refine O.mv rfl rfl rfl rfl rfl ?_
      refine Pl.fin [(2,_),(6,_),(7,_),(9,_),(10,_),(11,_),(12,_),(13,_),(14,_)] ⟨rfl,rfl,rfl,rfl,rfl,rfl,rfl,rfl,rfl,trivial⟩ ?_
      refine Go'.keep [(2,_),(6,_),(7,_),(11,_),(12,_),(13,_)] ⟨rfl,rfl,rfl,rfl,rfl,rfl,trivial⟩ ?_
      refine Go'.inLoop ?_
      refine ih (j + 1,v9,iv2,fun b => Zo b ∨ (b = H8.size ∧ b < H9.size)) H9 ⟨((hF.trans hf7).trans (M8.fr nowhere)).trans' hF9 (fun _ _ _ h => h) (fun b o hb hz => by have h1 := (hZ b hz).1; omega),hlt,?_,?_,fun b hb => hb.elim (fun h => ⟨(hZ b h).1,by have := (hZ b h).2; omega⟩) (fun h => ⟨by omega,h.2⟩)⟩ (by simp only; omega)
      · simp only
        rw [egot]
        exact hA9
      · simp only
        rw [eput]
        exact (hB8.mono (Y := fun b => ¬ Zo b ∧ b < H8.size) (fun b hb hz => ⟨fun h => by have := hZ b h; omega,hb⟩)).fr hF9 (fun b o hb hz hr => hz.1 hr) |>.mono (fun b hb hz h => h.elim hz.1 (fun h => by have := hz.2; omega))
  · skip
    obtain rfl : j = l.length := by omega
    rw [List.take_length] at hA hB
    refine Go'.region [(0,0)] rfl ?_
    refine O.cmp rfl rfl rfl rfl rfl rfl (lssF (by omega)) ?_
    refine Pl.fin [(2,_),(6,_),(7,_),(11,_),(12,_),(13,_),(14,_)] ⟨rfl,rfl,rfl,rfl,rfl,rfl,rfl,trivial⟩ ?_
    refine Go'.seq ?_
    refine Go'.condF rfl ?_
    refine Go'.exit rfl ?_
    refine Go'.seq ?_
    refine Go'.region [(0,0),(1,0),(2,0),(3,0)] rfl ?_
    refine O.mv rfl rfl rfl rfl rfl ?_
    refine O.mv rfl rfl rfl rfl rfl ?_
    refine O.asg rfl rfl rfl rfl rfl ?_
    refine O.asg rfl rfl rfl rfl rfl ?_
    refine Pl.fin [(4,_),(5,_)] ⟨rfl,rfl,trivial⟩ ?_
    refine Go'.ret (vs := [_,_]) func44 results44 ⟨rfl,rfl,trivial⟩ ?_
    exact ⟨_,_,rfl,hA.out,hB.out,hF1.trans hF⟩

theorem lawBLoad_spec {B : World} {H : Mem} {d : Nat} {nl : Bool} {v u : Value} {ord : List Int} {l : List (Int × Int)} (hd : d = 0 ∨ 2 ≤ d ∧ d ≤ 128) (ho : InS EN H v ord) (hol : ord.length ≤ 4294967296) (hi : InS EJ H u l) (hll : l.length ≤ 4294967296) :
    Fn Try.prog B 22 [.agg #[v,.int .i64 (d : Int),.bool nl],u] H (fun r H' => r = .bool true ∧ Fr nowhere H H') := by
  obtain ⟨a,c,hu⟩ := hi.len
  subst hu
  obtain ⟨av,mv,cv,hv⟩ := InS.form ho
  subst hv
  have hF : Fr nowhere H H := Fr.refl _ _
  have hP := PD_ok hd
  refine fn_of func22 rfl ntmps22 ?_
  refine (show Go' _ _ _ _ 29 [(0,_),(1,_)] [.code _] _ from ?_)
  refine Go'.seq ?_
  refine Go'.region [(0,2),(1,0)] rfl ?_
  refine O.box rfl rfl rfl rfl ?_
  intro B1 MB1
  refine ⟨trivial,?_⟩
  have hsB1 := MB1.size
  replace hF := hF.trans (MB1.fr nowhere)
  have mm : Rd B1 H.size 0 [.slice av mv cv,.int .i64 (d : Int),.bool nl] := MB1.rd _ [] (by simp [Value.cells])
  have mm0 : cl B1 H.size 0 = some (.slice av mv cv) := mm 0 _ rfl
  have mm1 : cl B1 H.size (0 + 1) = some (.int .i64 (d : Int)) := mm 1 _ rfl
  refine O.asg rfl rfl rfl rfl rfl ?_
  refine Pl.fin [(1,_),(2,_),(4,_)] ⟨rfl,rfl,rfl,trivial⟩ ?_
  refine Go'.seq ?_
  have hpl := Pl.puts_length (OO ord) l
  have hgl := Pl.gots_length (OO ord) l
  refine Go'.region [(0,1),(1,0),(2,2),(3,0),(4,0),(5,0),(6,0),(7,0)] rfl ?_
  refine O.lds rfl rfl rfl (fun w => ⟨isAgg24 w,sizeOf24 w⟩) rfl rfl mm ?_
  refine O.mv rfl rfl rfl rfl rfl ?_
  refine O.call rfl rfl rfl call43 rfl (ibload_spec hd (ho.fr hF) hol (hi.fr hF) hll) ?_
  rintro _ H3 ⟨v1,v2,rfl,h1,h2,hF3⟩
  replace hF := hF.trans hF3
  replace mm := hF3.rd mm (fun _ _ => nw)
  replace mm0 := hF3.keep mm0 nw
  replace mm1 := hF3.keep mm1 nw
  refine ⟨trivial,?_⟩
  refine O.mv rfl rfl rfl rfl rfl ?_
  refine O.ext rfl rfl rfl rfl rfl rfl ?_
  refine O.ext rfl rfl rfl rfl rfl rfl ?_
  refine O.asg rfl rfl rfl rfl rfl ?_
  refine O.asg rfl rfl rfl rfl rfl ?_
  refine Pl.fin [(1,_),(2,_),(4,_),(5,_),(6,_)] ⟨rfl,rfl,rfl,rfl,rfl,trivial⟩ ?_
  refine Go'.seq ?_
  refine Go'.region [(0,1),(1,0),(2,2),(3,0),(4,0),(5,0),(6,0),(7,0)] rfl ?_
  refine O.lds rfl rfl rfl (fun w => ⟨isAgg24 w,sizeOf24 w⟩) rfl rfl mm ?_
  refine O.mv rfl rfl rfl rfl rfl ?_
  refine O.call rfl rfl rfl call44 rfl (gset_spec (ho.fr hF) (by omega) (hi.fr hF) hll) ?_
  rintro _ H4 ⟨v3,v4,rfl,h3,h4,hF4⟩
  replace hF := hF.trans hF4
  replace mm := hF4.rd mm (fun _ _ => nw)
  replace mm0 := hF4.keep mm0 nw
  replace mm1 := hF4.keep mm1 nw
  refine ⟨trivial,?_⟩
  refine O.mv rfl rfl rfl rfl rfl ?_
  refine O.ext rfl rfl rfl rfl rfl rfl ?_
  refine O.ext rfl rfl rfl rfl rfl rfl ?_
  refine O.asg rfl rfl rfl rfl rfl ?_
  refine O.asg rfl rfl rfl rfl rfl ?_
  refine Pl.fin [(4,_),(5,_),(6,_),(7,_),(8,_)] ⟨rfl,rfl,rfl,rfl,rfl,trivial⟩ ?_
  refine Go'.seq ?_
  refine Go'.region [(0,0),(1,0),(2,2),(3,0),(4,0),(5,0),(6,2),(7,0),(8,0)] rfl ?_
  refine O.mv rfl rfl rfl rfl rfl ?_
  refine O.mv rfl rfl rfl rfl rfl ?_
  refine O.callQ rfl rfl rfl call35 rfl (eqFounds_spec (h1.inS.fr hF4) h3.inS (by omega)) trivial ?_
  refine O.mv rfl rfl rfl rfl rfl ?_
  refine O.mv rfl rfl rfl rfl rfl ?_
  refine O.mv rfl rfl rfl rfl rfl ?_
  refine O.callQ rfl rfl rfl call39 rfl (eqItems_spec (h2.inS.fr hF4) h4.inS (by omega)) trivial ?_
  refine O.pick rfl rfl rfl rfl rfl rfl ?_
  refine O.asg rfl rfl rfl rfl rfl ?_
  refine Pl.fin [(4,_)] ⟨rfl,trivial⟩ ?_
  refine Go'.ret (vs := [_]) func22 results22 ⟨rfl,trivial⟩ ?_
  exact ⟨rfl,hF⟩

end Go.Bt.FB
namespace Go.Bt.FB
open Go Go.Proofs Go.Proofs.Try
set_option maxRecDepth 20000
set_option maxHeartbeats 4000000
set_option linter.unusedVariables false
set_option linter.unusedSectionVars false

/-- No item comes before the one ahead of it. -/
noncomputable def ascb (ord : List Int) (l : List (Int × Int)) : Bool := @decide (∀ i : Nat,1 ≤ i → ∀ y z,l[i]? = some y → l[i - 1]? = some z → (OO ord).lt y z = false) (Classical.propDecidable _)
theorem ascends_spec {B : World} {H : Mem} {v u : Value} {ord : List Int} {l : List (Int × Int)} {b : Bool} (hb : ascb ord l = b) (ho : InS EN H v ord) (hl : ord.length < 4611686018427387904) (hi : InS EJ H u l) (hll : l.length ≤ 4294967296) :
    Fn Try.prog B 24 [v,u] H (fun r H' => r = .bool b ∧ Fr nowhere H H') := by
  obtain ⟨a,c,hu⟩ := hi.len
  subst hu
  subst hb
  refine fn_of func24 rfl ntmps24 ?_
  refine (show Go' _ _ _ _ 23 [(0,_),(1,_)] [.code _] _ from ?_)
  refine Go'.seq ?_
  refine Go'.region [(0,0)] rfl ?_
  refine O.asg rfl rfl rfl rfl rfl ?_
  refine Pl.fin [(0,_),(1,_),(4,_)] ⟨rfl,rfl,rfl,trivial⟩ ?_
  refine Go'.seq ?_
  refine Go'.seq ?_
  refine Go'.region [(0,0)] rfl ?_
  refine O.asg rfl rfl rfl rfl rfl ?_
  refine Pl.fin [(0,_),(1,_),(4,_),(5,_)] ⟨rfl,rfl,rfl,rfl,trivial⟩ ?_
  refine Go'.block ?_
  refine Go'.loop ?_
  refine Go'.keep [(0,_),(1,_),(4,_),(5,_)] ⟨rfl,rfl,rfl,rfl,trivial⟩ ?_
  refine Go'.ind (σ := Nat) (fun j => l.length - j) (fun j H' => 1 ≤ j ∧ Fr nowhere H H' ∧ ∀ i : Nat,1 ≤ i → i < j → ∀ y z,l[i]? = some y → l[i - 1]? = some z → (OO ord).lt y z = false)
    (fun j => [(0,v),(1,.slice a l.length c),(4,.bool false),(5,.int .i64 ((j : Nat) : Int))]) 1 ⟨Nat.le_refl _,Fr.refl _ _,fun i h1 h2 => by omega⟩ rfl ?_
  rintro j H2 ⟨hj1,hF,hin⟩ ih
  have ho2 := ho.fr hF
  have hi2 := hi.fr hF
  refine Go'.seq ?_
  refine Go'.seq ?_
  by_cases hlt : j < l.length
  · skip
    obtain ⟨y,hy⟩ : ∃ y,l[j]? = some y := ⟨l[j],List.getElem?_eq_getElem hlt⟩
    obtain ⟨z,hz⟩ : ∃ z,l[j - 1]? = some z := ⟨l[j - 1]'(by omega),List.getElem?_eq_getElem (by omega)⟩
    have hr : ∃ b o c',(Value.slice a l.length c) = .slice (some ⟨b,o,none⟩) l.length c' ∧ Rd H2 b (o + j * 2) (EJ.enc y) ∧ Rd H2 b (o + (j - 1) * 2) (EJ.enc z) := by
      obtain ⟨b,o,c',e,hr⟩ := hi2.at hy
      obtain ⟨b2,o2,c2,e2,hr2⟩ := hi2.at hz
      rw [e] at e2
      cases e2
      exact ⟨b,o,c',e,hr,hr2⟩
    obtain ⟨b,o,c',e,hr,hr2⟩ := hr
    cases e
    refine Go'.region [(0,0),(1,0),(2,0),(3,0)] rfl ?_
    refine O.mv rfl rfl rfl rfl rfl ?_
    refine O.mv rfl rfl rfl rfl rfl ?_
    refine O.len rfl rfl rfl rfl underlying25 rfl ?_
    refine O.cmp rfl rfl rfl rfl rfl rfl (lssT (by omega)) ?_
    refine Pl.fin [(0,_),(1,_),(4,_),(5,_),(9,_)] ⟨rfl,rfl,rfl,rfl,rfl,trivial⟩ ?_
    refine Go'.condT rfl ?_
    refine Go'.skip ?_
    refine Go'.seq ?_
    refine Go'.block ?_
    refine Go'.seq ?_
    refine Go'.draw (fun _ => True) [(0,0),(1,0),(2,0),(3,0),(4,1),(5,0),(6,0),(7,0),(8,0),(9,1),(10,2)] (by kernel_rfl) (by kernel_rfl) (trivial) ?_
    refine O.mv rfl rfl rfl rfl rfl ?_
    refine O.mv rfl rfl rfl rfl rfl ?_
    refine O.mv rfl rfl rfl rfl rfl ?_
    refine O.ix (j := j) rfl rfl rfl rfl underlying25 sizeOf35 rfl rfl (by omega) hlt ?_
    refine O.lds rfl rfl rfl (fun w => ⟨isAgg35 w,sizeOf35 w⟩) rfl rfl hr ?_
    refine O.mv rfl rfl rfl rfl rfl ?_
    refine O.mv rfl rfl rfl rfl rfl ?_
    refine O.sub (((j - 1 : Nat) : Int)) rfl rfl rfl rfl rfl rfl (by omega) (by omega) ?_
    refine O.ix (j := (j - 1)) rfl rfl rfl rfl underlying25 sizeOf35 rfl rfl (by omega) (by omega) ?_
    refine O.lds rfl rfl rfl (fun w => ⟨isAgg35 w,sizeOf35 w⟩) rfl rfl hr2 ?_
    refine O.call rfl rfl rfl call45 rfl (before_spec ho2 hl) ?_
    rintro _ H3 ⟨rfl,hF3⟩
    refine ⟨trivial,?_⟩
    refine Pl.fin [(0,_),(1,_),(4,_),(5,_),(9,_),(22,_)] ⟨rfl,rfl,rfl,rfl,rfl,rfl,trivial⟩ ?_
    cases hyz : (OO ord).lt y z
    · skip
      refine Go'.condF rfl ?_
      refine Go'.skip ?_
      refine Go'.inBlock ?_
      refine Go'.region [(0,0),(1,0),(2,0)] rfl ?_
      refine O.mv rfl rfl rfl rfl rfl ?_
      refine O.add (((j + 1 : Nat) : Int)) rfl rfl rfl rfl rfl rfl (by omega) (by omega) ?_
      refine O.asg rfl rfl rfl rfl rfl ?_
      refine Pl.fin [(0,_),(1,_),(4,_),(5,_),(9,_),(22,_)] ⟨rfl,rfl,rfl,rfl,rfl,rfl,trivial⟩ ?_
      refine Go'.keep [(0,_),(1,_),(4,_),(5,_)] ⟨rfl,rfl,rfl,rfl,trivial⟩ ?_
      refine Go'.inLoop ?_
      exact ih (j + 1) H3 ⟨by omega,hF.trans hF3,fun i h1 h2 y2 z2 h3 h4 => by
        rcases Nat.lt_or_ge i j with h | h
        · exact hin i h1 h y2 z2 h3 h4
        · obtain rfl : i = j := by omega
          rw [hy] at h3; rw [hz] at h4
          cases h3; cases h4
          exact hyz⟩ (by omega)
    · skip
      refine Go'.condT rfl ?_
      refine Go'.seq ?_
      refine Go'.region [(0,0)] rfl ?_
      refine O.asg rfl rfl rfl rfl rfl ?_
      refine Pl.fin [(0,_),(1,_),(4,_),(5,_),(9,_),(22,_)] ⟨rfl,rfl,rfl,rfl,rfl,rfl,trivial⟩ ?_
      refine Go'.ret (vs := [_]) func24 results24 ⟨rfl,trivial⟩ ?_
      refine ⟨?_,hF.trans hF3⟩
      have : ascb ord l = false := @decide_eq_false _ (Classical.propDecidable _) (fun h => by rw [h j hj1 y z hy hz] at hyz; cases hyz)
      rw [this]; rfl
  · skip
    refine Go'.region [(0,0),(1,0),(2,0),(3,0)] rfl ?_
    refine O.mv rfl rfl rfl rfl rfl ?_
    refine O.mv rfl rfl rfl rfl rfl ?_
    refine O.len rfl rfl rfl rfl underlying25 rfl ?_
    refine O.cmp rfl rfl rfl rfl rfl rfl (lssF (by omega)) ?_
    refine Pl.fin [(0,_),(1,_),(4,_),(5,_),(9,_)] ⟨rfl,rfl,rfl,rfl,rfl,trivial⟩ ?_
    refine Go'.condF rfl ?_
    refine Go'.exit rfl ?_
    refine Go'.seq ?_
    refine Go'.region [(0,0)] rfl ?_
    refine O.asg rfl rfl rfl rfl rfl ?_
    refine Pl.fin [(4,_)] ⟨rfl,trivial⟩ ?_
    refine Go'.ret (vs := [_]) func24 results24 ⟨rfl,trivial⟩ ?_
    refine ⟨?_,hF⟩
    have : ascb ord l = true := @decide_eq_true _ (Classical.propDecidable _) (fun i h1 y z h2 h3 => hin i h1 (by have := (List.getElem?_eq_some_iff.1 h2).1; omega) y z h2 h3)
    rw [this]; rfl

def exsl : List (Int × Int) := [(1,5),(3,2),(3,4),(5,1),(7,6)]
theorem exSorted_spec {B : World} {H : Mem} : Fn Try.prog B 23 [] H (fun r H' => InS EJ H' r exsl ∧ Fr nowhere H H') := by
  refine fn_of func23 rfl ntmps23 ?_
  refine (show Go' _ _ _ _ 7 [] [.code _] _ from ?_)
  refine Go'.seq ?_
  refine Go'.region [(0,0)] rfl ?_
  refine O.asg rfl rfl rfl rfl rfl ?_
  refine Pl.fin [(0,_)] ⟨rfl,trivial⟩ ?_
  refine Go'.seq ?_
  refine Go'.region [(0,0),(1,0),(2,0),(3,0),(4,0),(5,2),(6,0)] rfl ?_
  refine O.bld (cs := [.int .i64 1,.int .i64 5]) rfl rfl rfl rfl (st35) rfl (by kernel_rfl) ?_
  refine O.bld (cs := [.int .i64 3,.int .i64 2]) rfl rfl rfl rfl (st35) rfl (by kernel_rfl) ?_
  refine O.bld (cs := [.int .i64 3,.int .i64 4]) rfl rfl rfl rfl (st35) rfl (by kernel_rfl) ?_
  refine O.bld (cs := [.int .i64 5,.int .i64 1]) rfl rfl rfl rfl (st35) rfl (by kernel_rfl) ?_
  refine O.bld (cs := [.int .i64 7,.int .i64 6]) rfl rfl rfl rfl (st35) rfl (by kernel_rfl) ?_
  refine O.bsl (cs := (row EJ exsl)) rfl rfl rfl ⟨underlying25,sizeOf35,zeroValue35,⟨_,typeInfo35,rfl⟩,rfl,by decide,by decide⟩ rfl (by decide) (by kernel_rfl) ?_
  intro H1 M1
  refine ⟨trivial,?_⟩
  refine O.asg rfl rfl rfl rfl rfl ?_
  refine Pl.fin [(0,_)] ⟨rfl,trivial⟩ ?_
  refine Go'.ret (vs := [_]) func23 results23 ⟨rfl,trivial⟩ ?_
  exact ⟨.inl ⟨H.size,0,5,rfl,by decide,M1.rd _ [] (by simp)⟩,M1.fr nowhere⟩

theorem fnExactBLoad {B : World} {H : Mem} {z : Int} {nl : Bool} {v u : Value} {ord : List Int} {l : List (Int × Int)} (ho : InS EN H v ord) (hi : InS EJ H u l) :
    Fn Try.prog B 8 [.agg #[v,.int .i64 z,.bool nl],u] H (fun r H' => r = .bool true ∧ Fr nowhere H H') := by
  obtain ⟨a,c,hu⟩ := hi.len
  subst hu
  obtain ⟨av,mv,cv,hv⟩ := InS.form ho
  subst hv
  have hF : Fr nowhere H H := Fr.refl _ _
  refine fn_of func8 rfl ntmps8 ?_
  refine (show Go' _ _ _ _ 33 [(0,_),(1,_)] [.code _] _ from ?_)
  refine Go'.seq ?_
  refine Go'.region [(0,2),(1,0)] rfl ?_
  refine O.box rfl rfl rfl rfl ?_
  intro B1 MB1
  refine ⟨trivial,?_⟩
  have hsB1 := MB1.size
  replace hF := hF.trans (MB1.fr nowhere)
  have mm : Rd B1 H.size 0 [.slice av mv cv,.int .i64 z,.bool nl] := MB1.rd _ [] (by simp [Value.cells])
  have mm0 : cl B1 H.size 0 = some (.slice av mv cv) := mm 0 _ rfl
  have mm1 : cl B1 H.size (0 + 1) = some (.int .i64 z) := mm 1 _ rfl
  refine O.asg rfl rfl rfl rfl rfl ?_
  refine Pl.fin [(1,_),(2,_),(4,_)] ⟨rfl,rfl,rfl,trivial⟩ ?_
  refine Go'.seq ?_
  refine Go'.seq ?_
  cases hoz : decide (ord.length ≤ 2147483647)
  · skip
    refine Go'.region [(0,1),(1,2),(2,0),(3,0),(4,0),(5,0),(6,0),(7,0)] rfl ?_
    refine O.lds rfl rfl rfl (fun w => ⟨isAgg24 w,sizeOf24 w⟩) rfl rfl mm ?_
    refine O.call rfl rfl rfl call11 rfl (zzFits1_spec (ho.fr hF) hoz) ?_
    rintro _ H1 ⟨rfl,hF1⟩
    replace hF := hF.trans hF1
    replace mm := hF1.rd mm (fun _ _ => nw)
    replace mm0 := hF1.keep mm0 nw
    replace mm1 := hF1.keep mm1 nw
    refine ⟨trivial,?_⟩
    refine O.not rfl rfl rfl rfl rfl ?_
    refine O.mv rfl rfl rfl rfl rfl ?_
    refine Pl.pass rfl rfl rfl rfl ?_
    refine Pl.pass rfl rfl rfl rfl ?_
    refine Pl.pass rfl rfl rfl rfl ?_
    refine O.pick rfl rfl rfl rfl rfl rfl ?_
    refine Pl.fin [(1,_),(2,_),(4,_),(12,_)] ⟨rfl,rfl,rfl,rfl,trivial⟩ ?_
    refine Go'.condT rfl ?_
    refine Go'.seq ?_
    refine Go'.region [(0,0)] rfl ?_
    refine O.asg rfl rfl rfl rfl rfl ?_
    refine Pl.fin [(1,_),(2,_),(4,_)] ⟨rfl,rfl,rfl,trivial⟩ ?_
    refine Go'.ret (vs := [_]) func8 results8 ⟨rfl,trivial⟩ ?_
    exact ⟨rfl,hF⟩
  · skip
    have hoz2 := of_decide_eq_true hoz
    by_cases hb_lenl : (2147483647 : Int) < (l.length : Int)
    · skip
      refine Go'.region [(0,1),(1,2),(2,0),(3,0),(4,0),(5,0),(6,0),(7,0)] rfl ?_
      refine O.lds rfl rfl rfl (fun w => ⟨isAgg24 w,sizeOf24 w⟩) rfl rfl mm ?_
      refine O.call rfl rfl rfl call11 rfl (zzFits1_spec (ho.fr hF) hoz) ?_
      rintro _ H1 ⟨rfl,hF1⟩
      replace hF := hF.trans hF1
      replace mm := hF1.rd mm (fun _ _ => nw)
      replace mm0 := hF1.keep mm0 nw
      replace mm1 := hF1.keep mm1 nw
      refine ⟨trivial,?_⟩
      refine O.not rfl rfl rfl rfl rfl ?_
      refine O.mv rfl rfl rfl rfl rfl ?_
      refine O.mv rfl rfl rfl rfl rfl ?_
      refine O.len rfl rfl rfl rfl underlying25 rfl ?_
      refine O.cmp rfl rfl rfl rfl rfl rfl (gtrT (by omega)) ?_
      refine O.pick rfl rfl rfl rfl rfl rfl ?_
      refine Pl.fin [(1,_),(2,_),(4,_),(12,_)] ⟨rfl,rfl,rfl,rfl,trivial⟩ ?_
      refine Go'.condT rfl ?_
      refine Go'.seq ?_
      refine Go'.region [(0,0)] rfl ?_
      refine O.asg rfl rfl rfl rfl rfl ?_
      refine Pl.fin [(1,_),(2,_),(4,_)] ⟨rfl,rfl,rfl,trivial⟩ ?_
      refine Go'.ret (vs := [_]) func8 results8 ⟨rfl,trivial⟩ ?_
      exact ⟨rfl,hF⟩
    · skip
      refine Go'.region [(0,1),(1,2),(2,0),(3,0),(4,0),(5,0),(6,0),(7,0)] rfl ?_
      refine O.lds rfl rfl rfl (fun w => ⟨isAgg24 w,sizeOf24 w⟩) rfl rfl mm ?_
      refine O.call rfl rfl rfl call11 rfl (zzFits1_spec (ho.fr hF) hoz) ?_
      rintro _ H1 ⟨rfl,hF1⟩
      replace hF := hF.trans hF1
      replace mm := hF1.rd mm (fun _ _ => nw)
      replace mm0 := hF1.keep mm0 nw
      replace mm1 := hF1.keep mm1 nw
      refine ⟨trivial,?_⟩
      refine O.not rfl rfl rfl rfl rfl ?_
      refine O.mv rfl rfl rfl rfl rfl ?_
      refine O.mv rfl rfl rfl rfl rfl ?_
      refine O.len rfl rfl rfl rfl underlying25 rfl ?_
      refine O.cmp rfl rfl rfl rfl rfl rfl (gtrF (by omega)) ?_
      refine O.pick rfl rfl rfl rfl rfl rfl ?_
      refine Pl.fin [(1,_),(2,_),(4,_),(12,_)] ⟨rfl,rfl,rfl,rfl,trivial⟩ ?_
      refine Go'.condF rfl ?_
      refine Go'.skip ?_
      refine Go'.seq ?_
      cases hfz : fitsb z
      · skip
        refine Go'.region [(0,2),(1,2),(2,2),(3,0),(4,0),(5,1),(6,2),(7,0),(8,0),(9,1),(10,0),(11,2),(12,0),(13,0),(14,0),(15,1),(16,0),(17,2),(18,0),(19,0),(20,0)] rfl ?_
        refine O.call rfl rfl rfl call13 rfl exMake_spec ?_
        rintro _ H2 ⟨rfl,hF2⟩
        replace hF := hF.trans hF2
        replace mm := hF2.rd mm (fun _ _ => nw)
        replace mm0 := hF2.keep mm0 nw
        replace mm1 := hF2.keep mm1 nw
        refine ⟨trivial,?_⟩
        refine O.call rfl rfl rfl call23 rfl exSorted_spec ?_
        rintro ev H3 ⟨hev,hF3⟩
        replace hF := hF.trans hF3
        replace mm := hF3.rd mm (fun _ _ => nw)
        replace mm0 := hF3.keep mm0 nw
        replace mm1 := hF3.keep mm1 nw
        refine ⟨trivial,?_⟩
        refine O.call rfl rfl rfl call22 rfl (lawBLoad_spec (d := 2) (by decide) (InS.nil EN _) (by decide) hev (by decide)) ?_
        rintro _ H4 ⟨rfl,hF4⟩
        replace hF := hF.trans hF4
        replace mm := hF4.rd mm (fun _ _ => nw)
        replace mm0 := hF4.keep mm0 nw
        replace mm1 := hF4.keep mm1 nw
        refine ⟨trivial,?_⟩
        refine O.mv rfl rfl rfl rfl rfl ?_
        refine O.fa0 (off := 1) rfl rfl rfl rfl ⟨_,_,_,underlying24,rfl,rfl,sizeOf3⟩ rfl ?_
        refine O.ld rfl rfl rfl (fun w => ⟨isAgg3 w,sizeOf3 w⟩) rfl mm1 ?_
        refine O.callQ rfl rfl rfl call15 rfl (fits_spec' hfz) trivial ?_
        refine O.mv rfl rfl rfl rfl rfl ?_
        refine Pl.pass rfl rfl rfl rfl ?_
        refine Pl.pass rfl rfl rfl rfl ?_
        refine Pl.pass rfl rfl rfl rfl ?_
        refine Pl.pass2 rfl rfl rfl rfl trivial ?_
        refine O.pick rfl rfl rfl rfl rfl rfl ?_
        refine O.not rfl rfl rfl rfl rfl ?_
        refine O.mv rfl rfl rfl rfl rfl ?_
        refine Pl.pass rfl rfl rfl rfl ?_
        refine Pl.pass rfl rfl rfl rfl ?_
        refine Pl.pass2 rfl rfl rfl rfl trivial ?_
        refine O.pick rfl rfl rfl rfl rfl rfl ?_
        refine O.pick rfl rfl rfl rfl rfl rfl ?_
        refine O.asg rfl rfl rfl rfl rfl ?_
        refine Pl.fin [(4,_)] ⟨rfl,trivial⟩ ?_
        refine Go'.ret (vs := [_]) func8 results8 ⟨rfl,trivial⟩ ?_
        exact ⟨rfl,hF⟩
      · skip
        cases has : ascb ord l
        · skip
          refine Go'.region [(0,2),(1,2),(2,2),(3,0),(4,0),(5,1),(6,2),(7,0),(8,0),(9,1),(10,0),(11,2),(12,0),(13,0),(14,0),(15,1),(16,0),(17,2),(18,0),(19,0),(20,0)] rfl ?_
          refine O.call rfl rfl rfl call13 rfl exMake_spec ?_
          rintro _ H2 ⟨rfl,hF2⟩
          replace hF := hF.trans hF2
          replace mm := hF2.rd mm (fun _ _ => nw)
          replace mm0 := hF2.keep mm0 nw
          replace mm1 := hF2.keep mm1 nw
          refine ⟨trivial,?_⟩
          refine O.call rfl rfl rfl call23 rfl exSorted_spec ?_
          rintro ev H3 ⟨hev,hF3⟩
          replace hF := hF.trans hF3
          replace mm := hF3.rd mm (fun _ _ => nw)
          replace mm0 := hF3.keep mm0 nw
          replace mm1 := hF3.keep mm1 nw
          refine ⟨trivial,?_⟩
          refine O.call rfl rfl rfl call22 rfl (lawBLoad_spec (d := 2) (by decide) (InS.nil EN _) (by decide) hev (by decide)) ?_
          rintro _ H4 ⟨rfl,hF4⟩
          replace hF := hF.trans hF4
          replace mm := hF4.rd mm (fun _ _ => nw)
          replace mm0 := hF4.keep mm0 nw
          replace mm1 := hF4.keep mm1 nw
          refine ⟨trivial,?_⟩
          refine O.mv rfl rfl rfl rfl rfl ?_
          refine O.fa0 (off := 1) rfl rfl rfl rfl ⟨_,_,_,underlying24,rfl,rfl,sizeOf3⟩ rfl ?_
          refine O.ld rfl rfl rfl (fun w => ⟨isAgg3 w,sizeOf3 w⟩) rfl mm1 ?_
          refine O.callQ rfl rfl rfl call15 rfl (fits_spec' hfz) trivial ?_
          refine O.mv rfl rfl rfl rfl rfl ?_
          refine O.faz rfl rfl rfl rfl ⟨_,_,_,underlying24,rfl,rfl,sizeOf22⟩ rfl ?_
          refine O.ld rfl rfl rfl (fun w => ⟨isAgg22 w,sizeOf22 w⟩) rfl mm0 ?_
          refine O.mv rfl rfl rfl rfl rfl ?_
          refine O.call rfl rfl rfl call24 rfl (ascends_spec has (ho.fr hF) (by omega) (hi.fr hF) (by omega)) ?_
          rintro _ H5 ⟨rfl,hF5⟩
          replace hF := hF.trans hF5
          replace mm := hF5.rd mm (fun _ _ => nw)
          replace mm0 := hF5.keep mm0 nw
          replace mm1 := hF5.keep mm1 nw
          refine ⟨trivial,?_⟩
          refine O.pick rfl rfl rfl rfl rfl rfl ?_
          refine O.not rfl rfl rfl rfl rfl ?_
          refine O.mv rfl rfl rfl rfl rfl ?_
          refine Pl.pass rfl rfl rfl rfl ?_
          refine Pl.pass rfl rfl rfl rfl ?_
          refine Pl.pass2 rfl rfl rfl rfl trivial ?_
          refine O.pick rfl rfl rfl rfl rfl rfl ?_
          refine O.pick rfl rfl rfl rfl rfl rfl ?_
          refine O.asg rfl rfl rfl rfl rfl ?_
          refine Pl.fin [(4,_)] ⟨rfl,trivial⟩ ?_
          refine Go'.ret (vs := [_]) func8 results8 ⟨rfl,trivial⟩ ?_
          exact ⟨rfl,hF⟩
        · skip
          obtain ⟨d,rfl,hd⟩ := fitsb_nat hfz
          refine Go'.region [(0,2),(1,2),(2,2),(3,0),(4,0),(5,1),(6,2),(7,0),(8,0),(9,1),(10,0),(11,2),(12,0),(13,0),(14,0),(15,1),(16,0),(17,2),(18,0),(19,0),(20,0)] rfl ?_
          refine O.call rfl rfl rfl call13 rfl exMake_spec ?_
          rintro _ H2 ⟨rfl,hF2⟩
          replace hF := hF.trans hF2
          replace mm := hF2.rd mm (fun _ _ => nw)
          replace mm0 := hF2.keep mm0 nw
          replace mm1 := hF2.keep mm1 nw
          refine ⟨trivial,?_⟩
          refine O.call rfl rfl rfl call23 rfl exSorted_spec ?_
          rintro ev H3 ⟨hev,hF3⟩
          replace hF := hF.trans hF3
          replace mm := hF3.rd mm (fun _ _ => nw)
          replace mm0 := hF3.keep mm0 nw
          replace mm1 := hF3.keep mm1 nw
          refine ⟨trivial,?_⟩
          refine O.call rfl rfl rfl call22 rfl (lawBLoad_spec (d := 2) (by decide) (InS.nil EN _) (by decide) hev (by decide)) ?_
          rintro _ H4 ⟨rfl,hF4⟩
          replace hF := hF.trans hF4
          replace mm := hF4.rd mm (fun _ _ => nw)
          replace mm0 := hF4.keep mm0 nw
          replace mm1 := hF4.keep mm1 nw
          refine ⟨trivial,?_⟩
          refine O.mv rfl rfl rfl rfl rfl ?_
          refine O.fa0 (off := 1) rfl rfl rfl rfl ⟨_,_,_,underlying24,rfl,rfl,sizeOf3⟩ rfl ?_
          refine O.ld rfl rfl rfl (fun w => ⟨isAgg3 w,sizeOf3 w⟩) rfl mm1 ?_
          refine O.callQ rfl rfl rfl call15 rfl (fits_spec' hfz) trivial ?_
          refine O.mv rfl rfl rfl rfl rfl ?_
          refine O.faz rfl rfl rfl rfl ⟨_,_,_,underlying24,rfl,rfl,sizeOf22⟩ rfl ?_
          refine O.ld rfl rfl rfl (fun w => ⟨isAgg22 w,sizeOf22 w⟩) rfl mm0 ?_
          refine O.mv rfl rfl rfl rfl rfl ?_
          refine O.call rfl rfl rfl call24 rfl (ascends_spec has (ho.fr hF) (by omega) (hi.fr hF) (by omega)) ?_
          rintro _ H5 ⟨rfl,hF5⟩
          replace hF := hF.trans hF5
          replace mm := hF5.rd mm (fun _ _ => nw)
          replace mm0 := hF5.keep mm0 nw
          replace mm1 := hF5.keep mm1 nw
          refine ⟨trivial,?_⟩
          refine O.pick rfl rfl rfl rfl rfl rfl ?_
          refine O.not rfl rfl rfl rfl rfl ?_
          refine O.mv rfl rfl rfl rfl rfl ?_
          refine O.lds rfl rfl rfl (fun w => ⟨isAgg24 w,sizeOf24 w⟩) rfl rfl mm ?_
          refine O.mv rfl rfl rfl rfl rfl ?_
          refine O.call rfl rfl rfl call22 rfl (lawBLoad_spec hd (ho.fr hF) (by omega) (hi.fr hF) (by omega)) ?_
          rintro _ H6 ⟨rfl,hF6⟩
          replace hF := hF.trans hF6
          replace mm := hF6.rd mm (fun _ _ => nw)
          replace mm0 := hF6.keep mm0 nw
          replace mm1 := hF6.keep mm1 nw
          refine ⟨trivial,?_⟩
          refine O.pick rfl rfl rfl rfl rfl rfl ?_
          refine O.pick rfl rfl rfl rfl rfl rfl ?_
          refine O.asg rfl rfl rfl rfl rfl ?_
          refine Pl.fin [(4,_)] ⟨rfl,trivial⟩ ?_
          refine Go'.ret (vs := [_]) func8 results8 ⟨rfl,trivial⟩ ?_
          exact ⟨rfl,hF⟩

end Go.Bt.FB
