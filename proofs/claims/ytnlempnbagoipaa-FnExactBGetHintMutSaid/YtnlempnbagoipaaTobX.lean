/- Contracts of functions of the program, proved by walking through their code. Conditions: those that each theorem names. -/
import Derived.Test.YtnlempnbagoipaaTobR
import Derived.Test.YtnlempnbagoipaaTobT
namespace Go.Bt.FB
open Go Go.Proofs Go.Proofs.Try
set_option maxRecDepth 20000
set_option maxHeartbeats 4000000
set_option linter.unusedVariables false
set_option linter.unusedSectionVars false

section
variable [Inhabited Cx]
theorem HintM.new {H H' : Mem} {c : Array Value} {e : TypeId} (M : Made H H' c e) (hu : ∀ i,i < 8 → c[i]? = some (.bool false)) (hp : ∀ i,i < 8 → c[8 + i]? = some (.int .u8 0)) (hs : 16 ≤ c.size) (he : e < 1000 := by decide) : HintM H' H.size :=
  ⟨fun i hi => ⟨false,(M.cl i).trans (hu i hi)⟩,fun i hi => ⟨0,by decide,(M.cl (8 + i)).trans (hp i hi)⟩,M.wr 16 hs he⟩
theorem getHint_spec {B : World} {H : Mem} {tr : Nat} {P : Ps} (hP : PsOk P) {S : Nat → Prop} {l : List (Int × Int)} (hM : MapM H tr P S l) (x : Int × Int) {hv : Value} {hz : Nat → Prop} (hk : HintOk H hv hz) (hzS : ∀ b,hz b → ¬ S b) (hll : l.length < 4611686018427387904) (mt : Bool) :
    Fn Try.prog B 132 [.pointer (some ⟨tr,0,none⟩),iv x,hv,.bool mt] H (fun r H' => r = .tuple #[PV (Pl.got OI x l),.bool (Pl.got OI x l).isSome] ∧ Fr (fun b _ => hz b) H H' ∧ HintOk H' hv hz) := by
  have hh1 := hP.h1
  have hx255 := hP.hx
  have lt0 := hM.lt
  have hzb := hk.base
  have hb0 := hM.tc.hb
  refine fn_of func132 rfl ntmps132 ?_
  refine (show Go' _ _ _ _ 73 [(0,_),(1,_),(2,_),(3,_)] [.code _] _ from ?_)
  refine Go'.seq ?_
  have M0 := Mk0.mk' H
  have hs0 := M0.size
  have M1 := Mk0.mk' H
  have hF : Fr (fun b _ => hz b) H H := ((M0.fr nowhere).trans (M1.fr nowhere)).mono fun _ _ _ h => h.elim
  refine Go'.region [(0,0),(1,0)] rfl ?_
  refine O.asg rfl rfl rfl rfl rfl ?_
  refine O.asg rfl rfl rfl rfl rfl ?_
  refine Pl.fin [(0,_),(1,_),(2,_),(3,_),(8,_),(9,_)] ⟨rfl,rfl,rfl,rfl,rfl,rfl,trivial⟩ ?_
  refine Go'.seq ?_
  refine Go'.seq ?_
  refine Go'.region [(0,0),(1,0),(2,2)] rfl ?_
  refine O.mv rfl rfl rfl rfl rfl ?_
  refine O.mv rfl rfl rfl rfl rfl ?_
  refine O.callQ rfl rfl rfl call111 rfl lock_spec trivial ?_
  refine Pl.fin [(0,_),(1,_),(2,_),(3,_),(8,_),(9,_),(16,_)] ⟨rfl,rfl,rfl,rfl,rfl,rfl,rfl,trivial⟩ ?_
  refine Go'.condF rfl ?_
  refine Go'.skip ?_
  refine Go'.seq ?_
  refine Go'.seq ?_
  obtain ⟨tc,srt,cnt,own,lt,bs,hr⟩ := hM
  rcases hr with ⟨rfl,hptr⟩ | ⟨h,t,hg,hx1,e,hc,hnt,hown⟩
  · skip
    refine Go'.region [(0,0),(1,0),(2,0),(3,1),(4,0)] rfl ?_
    refine O.mv rfl rfl rfl rfl rfl ?_
    refine O.nc rfl rfl rfl rfl rfl ?_
    refine O.fa0 (off := 2) rfl rfl rfl rfl ⟨_,_,_,underlying138,rfl,rfl,sizeOf96⟩ rfl ?_
    refine O.ld rfl rfl rfl (fun w => ⟨isAgg96 w,sizeOf96 w⟩) rfl hptr ?_
    refine O.isNil rfl rfl rfl rfl underlying96 rfl rfl ?_
    refine Pl.fin [(0,_),(1,_),(2,_),(3,_),(8,_),(9,_),(23,_)] ⟨rfl,rfl,rfl,rfl,rfl,rfl,rfl,trivial⟩ ?_
    refine Go'.condT rfl ?_
    refine Go'.seq ?_
    have W3 := Wrote.nil H H.size 0
    replace hk := hk.fr W3.fr (fun b o hb => nr (.inl (by have := (hzb b hb).2; omega)))
    refine Go'.region [(0,0),(1,0),(2,0),(3,1),(4,0),(5,0)] rfl ?_
    refine O.mv rfl rfl rfl rfl rfl ?_
    refine O.nc rfl rfl rfl rfl rfl ?_
    refine O.fa0 (off := 7) rfl rfl rfl rfl ⟨_,_,_,underlying138,rfl,rfl,sizeOf20⟩ rfl ?_
    refine O.ld rfl rfl rfl (fun w => ⟨isAgg20 w,sizeOf20 w⟩) rfl ((tc.emp) 0 _ rfl) ?_
    refine O.asg rfl rfl rfl rfl rfl ?_
    refine O.asg rfl rfl rfl rfl rfl ?_
    refine Pl.fin [(0,_),(1,_),(2,_),(3,_),(8,_),(9,_)] ⟨rfl,rfl,rfl,rfl,rfl,rfl,trivial⟩ ?_
    refine Go'.ret (vs := [_,_]) func132 results132 ⟨rfl,rfl,trivial⟩ ?_
    exact ⟨rfl,hF,hk⟩
  · skip
    obtain ⟨kp,hN⟩ := hg.node
    have hc0 := hN.c0
    rw [hg.isoe] at hc0
    have hptr : cl H tr 2 = some (.pointer (some ⟨Gt.p h t,0,none⟩)) := hc
    have hht := Gt.Good.tall hP hg hx1
    refine Go'.region [(0,0),(1,0),(2,0),(3,1),(4,0)] rfl ?_
    refine O.mv rfl rfl rfl rfl rfl ?_
    refine O.nc rfl rfl rfl rfl rfl ?_
    refine O.fa0 (off := 2) rfl rfl rfl rfl ⟨_,_,_,underlying138,rfl,rfl,sizeOf96⟩ rfl ?_
    refine O.ld rfl rfl rfl (fun w => ⟨isAgg96 w,sizeOf96 w⟩) rfl hptr ?_
    refine O.isNil rfl rfl rfl rfl underlying96 rfl rfl ?_
    refine Pl.fin [(0,_),(1,_),(2,_),(3,_),(8,_),(9,_),(23,_)] ⟨rfl,rfl,rfl,rfl,rfl,rfl,rfl,trivial⟩ ?_
    refine Go'.condF rfl ?_
    refine Go'.skip ?_
    refine Go'.seq ?_
    refine Go'.region [(0,0),(1,0),(2,0),(3,0),(4,0),(5,2),(6,0)] rfl ?_
    refine O.mv rfl rfl rfl rfl rfl ?_
    refine O.mv rfl rfl rfl rfl rfl ?_
    refine O.nc rfl rfl rfl rfl rfl ?_
    refine O.fa0 (off := 2) rfl rfl rfl rfl ⟨_,_,_,underlying138,rfl,rfl,sizeOf96⟩ rfl ?_
    refine O.mv rfl rfl rfl rfl rfl ?_
    refine O.callQ rfl rfl rfl call114 rfl (isoLoad_spec mt hc hc0 tc.iso) trivial ?_
    refine O.asg rfl rfl rfl rfl rfl ?_
    refine Pl.fin [(0,_),(1,_),(2,_),(3,_),(8,_),(9,_),(10,_)] ⟨rfl,rfl,rfl,rfl,rfl,rfl,rfl,trivial⟩ ?_
    refine Go'.seq ?_
    refine Go'.region [(0,0)] rfl ?_
    refine O.asg rfl rfl rfl rfl rfl ?_
    refine Pl.fin [(0,_),(1,_),(2,_),(3,_),(8,_),(9,_),(10,_),(11,_)] ⟨rfl,rfl,rfl,rfl,rfl,rfl,rfl,rfl,trivial⟩ ?_
    refine Go'.block ?_
    refine Go'.loop ?_
    refine Go'.keep [(0,_),(1,_),(2,_),(3,_),(8,_),(9,_),(10,_),(11,_)] ⟨rfl,rfl,rfl,rfl,rfl,rfl,rfl,rfl,trivial⟩ ?_
    refine Go'.ind (σ := (h : Nat) × Gt EA h × Nat) (fun s => s.1) (fun s H' => Fr (fun b _ => hz b) H H' ∧ HintOk H' hv hz ∧ TrC H' tr P.iso P.mx P.mn ∧ Gt.Good H' P s.1 s.2.1 ∧ 1 ≤ (Gt.X s.1 s.2.1).length ∧ Pl.Srt OI (Gt.L s.1 s.2.1) ∧ Pl.got OI x (Gt.L s.1 s.2.1) = Pl.got OI x l ∧ (∀ b o,Gt.af s.1 s.2.1 b o → ¬ hz b) ∧ s.2.2 + s.1 < 4611686018427387904 ∧ H.size ≤ H'.size)
      (fun s => [(0,.pointer (some ⟨tr,0,none⟩)),(1,iv x),(2,hv),(3,.bool mt),(8,.nilIface),(9,.bool false),(10,.pointer (some ⟨Gt.p s.1 s.2.1,0,none⟩)),(11,.int .i64 (s.2.2 : Int))]) ⟨h,t,0⟩ ⟨hF,hk,tc,hg,hx1,by rw [e]; exact srt,by rw [e],fun b o hb hzz => hzS b hzz (hown b o hb),by simp only; rw [e] at hht; omega,Nat.le_refl _⟩ rfl ?_
    clear hF hk tc hg hx1 e hc hnt hown hN hc0 hptr hht t h kp cnt
    rintro ⟨h,t,dp⟩ H2 ⟨hF,hk,tc,hg,hx1,hs,hL,hoff,hdp,hsz⟩ ih
    simp only at hg hx1 hs hL hoff hdp ⊢
    refine Go'.block ?_
    refine Go'.seq ?_
    rcases h with _ | h
    · -- a leaf
      obtain ⟨g,X⟩ := t
      have hN : NodeM EA H2 g X (.pointer none) := hg.1
      replace hx1 : 1 ≤ X.length := hx1
      have hxm : X.length ≤ P.mx := hg.2.2.2
      replace hs : Pl.Srt OI X := hs
      replace hL : Pl.got OI x X = Pl.got OI x l := hL
      replace hoff : ∀ b o,ncl EA g b o → ¬ hz b := hoff
      rw [← hL]
      refine Go'.region [(0,0),(1,0),(2,0),(3,0),(4,0),(5,2),(6,0),(7,0),(8,0),(9,0),(10,0)] rfl ?_
      refine O.mv rfl rfl rfl rfl rfl ?_
      refine O.mv rfl rfl rfl rfl rfl ?_
      refine O.mv rfl rfl rfl rfl rfl ?_
      refine O.mv rfl rfl rfl rfl rfl ?_
      refine O.mv rfl rfl rfl rfl rfl ?_
      refine O.call rfl rfl rfl call140 rfl (find_spec tc x hN hs (by omega) hx1 hk (fun b o hb hn => hoff b o hn hb) (by omega)) ?_
      rintro _ H3 ⟨rfl,hF3,hk⟩
      have hs3 := hF3.size
      replace hF := hF.trans hF3
      replace tc := tc.fr hF3 (fun b o hb _ hz => (hzb b hz).1 hb)
      replace hN := NodeM.fr EA hN hF3 (fun b o hb hz => hoff b o hb hz)
      generalize hi : Pl.pos OI x X = i
      generalize hfb : Pl.fnd OI x X = fb
      refine ⟨trivial,?_⟩
      refine O.mv rfl rfl rfl rfl rfl ?_
      refine O.ext rfl rfl rfl rfl rfl rfl ?_
      refine O.ext rfl rfl rfl rfl rfl rfl ?_
      refine O.asg rfl rfl rfl rfl rfl ?_
      refine O.asg rfl rfl rfl rfl rfl ?_
      refine Pl.fin [(0,_),(1,_),(2,_),(3,_),(8,_),(9,_),(10,_),(11,_),(12,_),(13,_)] ⟨rfl,rfl,rfl,rfl,rfl,rfl,rfl,rfl,rfl,rfl,trivial⟩ ?_
      refine Go'.seq ?_
      refine Go'.seq ?_
      refine Go'.region [(0,0)] rfl ?_
      refine O.mv rfl rfl rfl rfl rfl ?_
      refine Pl.fin [(0,_),(1,_),(2,_),(3,_),(8,_),(9,_),(10,_),(11,_),(12,_),(13,_),(43,_)] ⟨rfl,rfl,rfl,rfl,rfl,rfl,rfl,rfl,rfl,rfl,rfl,trivial⟩ ?_
      cases fb
      · skip
        refine Go'.condF rfl ?_
        refine Go'.skip ?_
        refine Go'.seq ?_
        refine Go'.seq ?_
        refine Go'.region [(0,0),(1,0),(2,0),(3,1),(4,0)] rfl ?_
        refine O.mv rfl rfl rfl rfl rfl ?_
        refine O.nc rfl rfl rfl rfl rfl ?_
        refine O.fa0 (off := 3) rfl rfl rfl rfl ⟨_,_,_,underlying144,rfl,rfl,sizeOf142⟩ rfl ?_
        refine O.ld rfl rfl rfl (fun w => ⟨isAgg142 w,sizeOf142 w⟩) rfl hN.c3 ?_
        refine O.isNil rfl rfl rfl rfl underlying142 rfl rfl ?_
        refine Pl.fin [(0,_),(1,_),(2,_),(3,_),(8,_),(9,_),(10,_),(11,_),(12,_),(13,_),(43,_),(55,_)] ⟨rfl,rfl,rfl,rfl,rfl,rfl,rfl,rfl,rfl,rfl,rfl,rfl,trivial⟩ ?_
        refine Go'.condT rfl ?_
        refine Go'.seq ?_
        have W4 := Wrote.nil H3 H3.size 0
        replace hk := hk.fr W4.fr (fun b o hb => nr (.inl (by have := (hzb b hb).2; omega)))
        refine Go'.region [(0,0),(1,0),(2,0),(3,1),(4,0),(5,0)] rfl ?_
        refine O.mv rfl rfl rfl rfl rfl ?_
        refine O.nc rfl rfl rfl rfl rfl ?_
        refine O.fa0 (off := 7) rfl rfl rfl rfl ⟨_,_,_,underlying138,rfl,rfl,sizeOf20⟩ rfl ?_
        refine O.ld rfl rfl rfl (fun w => ⟨isAgg20 w,sizeOf20 w⟩) rfl ((tc.emp) 0 _ rfl) ?_
        refine O.asg rfl rfl rfl rfl rfl ?_
        refine O.asg rfl rfl rfl rfl rfl ?_
        refine Pl.fin [(0,_),(1,_),(2,_),(3,_),(8,_),(9,_),(10,_),(11,_),(12,_),(13,_),(43,_),(55,_)] ⟨rfl,rfl,rfl,rfl,rfl,rfl,rfl,rfl,rfl,rfl,rfl,rfl,trivial⟩ ?_
        refine Go'.ret (vs := [_,_]) func132 results132 ⟨rfl,rfl,trivial⟩ ?_
        exact ⟨by rw [Pl.got_none OI hfb]; rfl,hF,hk⟩
      · skip
        obtain ⟨y,hy,_,_⟩ := Pl.fnd_at OI hs hfb
        rw [hi] at hy
        have hlt' : i < X.length := (List.getElem?_eq_some_iff.1 hy).1
        refine Go'.condT rfl ?_
        refine Go'.seq ?_
        have W4 := Wrote.nil H3 H3.size 0
        replace hk := hk.fr W4.fr (fun b o hb => nr (.inl (by have := (hzb b hb).2; omega)))
        refine Go'.region [(0,0),(1,0),(2,0),(3,1),(4,0),(5,0),(6,1),(7,0),(8,0)] rfl ?_
        refine O.mv rfl rfl rfl rfl rfl ?_
        refine O.nc rfl rfl rfl rfl rfl ?_
        refine O.fa0 (off := 2) rfl rfl rfl rfl ⟨_,_,_,underlying144,rfl,rfl,sizeOf141⟩ rfl ?_
        refine O.ld rfl rfl rfl (fun w => ⟨isAgg141 w,sizeOf141 w⟩) rfl hN.c2 ?_
        refine O.mv rfl rfl rfl rfl rfl ?_
        refine O.ix (j := i) rfl rfl rfl rfl underlying141 sizeOf20 rfl rfl (by omega) hlt' ?_
        refine O.ld rfl rfl rfl (fun w => ⟨isAgg20 w,sizeOf20 w⟩) rfl (((hN.sl.item hy)) 0 _ rfl) ?_
        refine O.asg rfl rfl rfl rfl rfl ?_
        refine O.asg rfl rfl rfl rfl rfl ?_
        refine Pl.fin [(0,_),(1,_),(2,_),(3,_),(8,_),(9,_),(10,_),(11,_),(12,_),(13,_),(43,_)] ⟨rfl,rfl,rfl,rfl,rfl,rfl,rfl,rfl,rfl,rfl,rfl,trivial⟩ ?_
        refine Go'.ret (vs := [_,_]) func132 results132 ⟨rfl,rfl,trivial⟩ ?_
        exact ⟨by rw [Pl.got_some OI hfb,hi,hy]; rfl,hF,hk⟩
    · -- an inner node
      obtain ⟨g,X,K⟩ := t
      have hI : Inn H2 P h g X ((Gt.ps h K).map some) K := hg.inn
      have hKl : K.length = X.length + 1 := hg.2.2.2.2.2.1
      have hxm : X.length ≤ P.mx := hg.2.2.2.2.1
      replace hx1 : 1 ≤ X.length := hx1
      have hKL : (K.map (Gt.L h)).length = X.length + 1 := by rw [List.length_map]; exact hKl
      replace hs : Pl.Srt OI (Pl.inter X (K.map (Gt.L h))) := hs
      replace hL : Pl.got OI x (Pl.inter X (K.map (Gt.L h))) = Pl.got OI x l := hL
      replace hoff : ∀ b o,innc h g K b o → ¬ hz b := hoff
      have hsX : Pl.Srt OI X := hs.sublist (Pl.sublist_inter X _ (by omega))
      rw [← hL]
      refine Go'.region [(0,0),(1,0),(2,0),(3,0),(4,0),(5,2),(6,0),(7,0),(8,0),(9,0),(10,0)] rfl ?_
      refine O.mv rfl rfl rfl rfl rfl ?_
      refine O.mv rfl rfl rfl rfl rfl ?_
      refine O.mv rfl rfl rfl rfl rfl ?_
      refine O.mv rfl rfl rfl rfl rfl ?_
      refine O.mv rfl rfl rfl rfl rfl ?_
      refine O.call rfl rfl rfl call140 rfl (find_spec tc x hI.n hsX (by omega) hx1 hk (fun b o hb hn => hoff b o (.inl hn) hb) (by omega)) ?_
      rintro _ H3 ⟨rfl,hF3,hk⟩
      have hs3 := hF3.size
      replace hF := hF.trans hF3
      replace tc := tc.fr hF3 (fun b o hb _ hz => (hzb b hz).1 hb)
      replace hI := hI.fr hF3 (fun b o hb hz => hoff b o hb hz)
      generalize hi : Pl.pos OI x X = i
      generalize hfb : Pl.fnd OI x X = fb
      refine ⟨trivial,?_⟩
      refine O.mv rfl rfl rfl rfl rfl ?_
      refine O.ext rfl rfl rfl rfl rfl rfl ?_
      refine O.ext rfl rfl rfl rfl rfl rfl ?_
      refine O.asg rfl rfl rfl rfl rfl ?_
      refine O.asg rfl rfl rfl rfl rfl ?_
      refine Pl.fin [(0,_),(1,_),(2,_),(3,_),(8,_),(9,_),(10,_),(11,_),(12,_),(13,_)] ⟨rfl,rfl,rfl,rfl,rfl,rfl,rfl,rfl,rfl,rfl,trivial⟩ ?_
      refine Go'.seq ?_
      refine Go'.seq ?_
      refine Go'.region [(0,0)] rfl ?_
      refine O.mv rfl rfl rfl rfl rfl ?_
      refine Pl.fin [(0,_),(1,_),(2,_),(3,_),(8,_),(9,_),(10,_),(11,_),(12,_),(13,_),(43,_)] ⟨rfl,rfl,rfl,rfl,rfl,rfl,rfl,rfl,rfl,rfl,rfl,trivial⟩ ?_
      cases fb
      rotate_left
      · -- found
        obtain ⟨y,hy,_,_,_,q1,q2,_⟩ := Pl.inter_found OI hs hKL hfb
        rw [hi] at hy
        have hlt' : i < X.length := (List.getElem?_eq_some_iff.1 hy).1
        refine Go'.condT rfl ?_
        refine Go'.seq ?_
        have W4 := Wrote.nil H3 H3.size 0
        replace hk := hk.fr W4.fr (fun b o hb => nr (.inl (by have := (hzb b hb).2; omega)))
        refine Go'.region [(0,0),(1,0),(2,0),(3,1),(4,0),(5,0),(6,1),(7,0),(8,0)] rfl ?_
        refine O.mv rfl rfl rfl rfl rfl ?_
        refine O.nc rfl rfl rfl rfl rfl ?_
        refine O.fa0 (off := 2) rfl rfl rfl rfl ⟨_,_,_,underlying144,rfl,rfl,sizeOf141⟩ rfl ?_
        refine O.ld rfl rfl rfl (fun w => ⟨isAgg141 w,sizeOf141 w⟩) rfl hI.n.c2 ?_
        refine O.mv rfl rfl rfl rfl rfl ?_
        refine O.ix (j := i) rfl rfl rfl rfl underlying141 sizeOf20 rfl rfl (by omega) hlt' ?_
        refine O.ld rfl rfl rfl (fun w => ⟨isAgg20 w,sizeOf20 w⟩) rfl (((hI.n.sl.item hy)) 0 _ rfl) ?_
        refine O.asg rfl rfl rfl rfl rfl ?_
        refine O.asg rfl rfl rfl rfl rfl ?_
        refine Pl.fin [(0,_),(1,_),(2,_),(3,_),(8,_),(9,_),(10,_),(11,_),(12,_),(13,_),(43,_)] ⟨rfl,rfl,rfl,rfl,rfl,rfl,rfl,rfl,rfl,rfl,rfl,trivial⟩ ?_
        refine Go'.ret (vs := [_,_]) func132 results132 ⟨rfl,rfl,trivial⟩ ?_
        exact ⟨by rw [q2]; rfl,hF,hk⟩
      · -- below
        have hle : i ≤ X.length := by rw [← hi]; exact Pl.pos_le OI x X
        obtain ⟨k,hkk⟩ : ∃ k,K[i]? = some k := ⟨K[i],List.getElem?_eq_getElem (by omega)⟩
        have hkK : k ∈ K := List.mem_of_getElem? hkk
        obtain ⟨hgk,hmk,hdk⟩ := hI.c.1 k hkK
        have hkL : (K.map (Gt.L h))[i]? = some (Gt.L h k) := by rw [List.getElem?_map,hkk]; rfl
        obtain ⟨e1,e2,e3,e4⟩ := Pl.inter_child OI hs hKL hfb (by rw [hi]; exact hkL)
        have hsk : Pl.Srt OI (Gt.L h k) := by
          rw [e1,Pl.Srt.append,Pl.Srt.append] at hs
          exact hs.1.2.1
        have hok : ((Gt.ps h K).map some)[i]? = some (some (Gt.p h k)) := by rw [Gt.ps,List.map_map,List.getElem?_map,hkk]; rfl
        have hol : ((Gt.ps h K).map some).length = X.length + 1 := by rw [List.length_map,Gt.ps,List.length_map]; exact hKl
        have hf2 := Pl.got_mid OI e2 e3 (m := Gt.L h k)
        rw [← e1] at hf2
        obtain ⟨kp,hNk⟩ := hgk.node
        have hk0 := hNk.c0
        rw [hgk.isoe] at hk0
        have hck := hI.k.at hok
        refine Go'.condF rfl ?_
        refine Go'.skip ?_
        refine Go'.seq ?_
        refine Go'.seq ?_
        refine Go'.region [(0,0),(1,0),(2,0),(3,1),(4,0)] rfl ?_
        refine O.mv rfl rfl rfl rfl rfl ?_
        refine O.nc rfl rfl rfl rfl rfl ?_
        refine O.fa0 (off := 3) rfl rfl rfl rfl ⟨_,_,_,underlying144,rfl,rfl,sizeOf142⟩ rfl ?_
        refine O.ld rfl rfl rfl (fun w => ⟨isAgg142 w,sizeOf142 w⟩) rfl hI.n.c3 ?_
        refine O.isNil rfl rfl rfl rfl underlying142 rfl rfl ?_
        refine Pl.fin [(0,_),(1,_),(2,_),(3,_),(8,_),(9,_),(10,_),(11,_),(12,_),(13,_),(43,_),(55,_)] ⟨rfl,rfl,rfl,rfl,rfl,rfl,rfl,rfl,rfl,rfl,rfl,rfl,trivial⟩ ?_
        refine Go'.condF rfl ?_
        refine Go'.skip ?_
        refine Go'.seq ?_
        refine Go'.region [(0,0),(1,0),(2,0),(3,0),(4,1),(5,0),(6,1),(7,0),(8,0),(9,0),(10,2),(11,0)] rfl ?_
        refine O.mv rfl rfl rfl rfl rfl ?_
        refine O.mv rfl rfl rfl rfl rfl ?_
        refine O.nc rfl rfl rfl rfl rfl ?_
        refine O.fa0 (off := 3) rfl rfl rfl rfl ⟨_,_,_,underlying144,rfl,rfl,sizeOf142⟩ rfl ?_
        refine O.ld rfl rfl rfl (fun w => ⟨isAgg142 w,sizeOf142 w⟩) rfl hI.n.c3 ?_
        refine O.nc rfl rfl rfl rfl rfl ?_
        refine O.ld rfl rfl rfl (fun w => ⟨isAgg145 w,sizeOf145 w⟩) rfl hI.k.c ?_
        refine O.mv rfl rfl rfl rfl rfl ?_
        refine O.ix (j := i) rfl rfl rfl rfl underlying145 sizeOf96 rfl rfl (by omega) (by omega) ?_
        refine O.mv rfl rfl rfl rfl rfl ?_
        refine O.callQ rfl rfl rfl call114 rfl (isoLoad_spec mt hck hk0 tc.iso) trivial ?_
        refine O.asg rfl rfl rfl rfl rfl ?_
        refine Pl.fin [(0,_),(1,_),(2,_),(3,_),(8,_),(9,_),(10,_),(11,_),(12,_),(13,_),(43,_),(55,_)] ⟨rfl,rfl,rfl,rfl,rfl,rfl,rfl,rfl,rfl,rfl,rfl,rfl,trivial⟩ ?_
        refine Go'.region [(0,0),(1,0),(2,0)] rfl ?_
        refine O.mv rfl rfl rfl rfl rfl ?_
        refine O.add (((dp + 1 : Nat) : Int)) rfl rfl rfl rfl rfl rfl (by omega) (by omega) ?_
        refine O.asg rfl rfl rfl rfl rfl ?_
        refine Pl.fin [(0,_),(1,_),(2,_),(3,_),(8,_),(9,_),(10,_),(11,_),(12,_),(13,_),(43,_),(55,_)] ⟨rfl,rfl,rfl,rfl,rfl,rfl,rfl,rfl,rfl,rfl,rfl,rfl,trivial⟩ ?_
        refine Go'.inBlock ?_
        refine Go'.keep [(0,_),(1,_),(2,_),(3,_),(8,_),(9,_),(10,_),(11,_)] ⟨rfl,rfl,rfl,rfl,rfl,rfl,rfl,rfl,trivial⟩ ?_
        refine Go'.inLoop ?_
        rw [hL]
        exact ih ⟨h,k,dp + 1⟩ H3 ⟨hF,hk,tc,hgk,Nat.le_trans hh1 hmk,hsk,by simp only; rw [← hf2]; exact hL,fun b o hb => hoff b o (.inr (.inr ⟨k,hkK,hb⟩)),by simp only; omega,by omega⟩ (Nat.lt_succ_self h)

theorem GetHintMut_spec {B : World} {H : Mem} {tr : Nat} {P : Ps} (hP : PsOk P) {S : Nat → Prop} {l : List (Int × Int)} (hM : MapM H tr P S l) (x : Int × Int) {hv : Value} {hz : Nat → Prop} (hk : HintOk H hv hz) (hzS : ∀ b,hz b → ¬ S b) (hll : l.length < 4611686018427387904) :
    Fn Try.prog B 109 [.pointer (some ⟨tr,0,none⟩),iv x,hv] H (fun r H' => r = .tuple #[PV (Pl.got OI x l),.bool (Pl.got OI x l).isSome] ∧ Fr (fun b _ => hz b) H H' ∧ HintOk H' hv hz) := by
  refine fn_of func109 rfl ntmps109 ?_
  refine (show Go' _ _ _ _ 14 [(0,_),(1,_),(2,_)] [.code _] _ from ?_)
  refine Go'.seq ?_
  refine Go'.region [(0,0),(1,0)] rfl ?_
  refine O.asg rfl rfl rfl rfl rfl ?_
  refine O.asg rfl rfl rfl rfl rfl ?_
  refine Pl.fin [(0,_),(1,_),(2,_),(6,_),(7,_)] ⟨rfl,rfl,rfl,rfl,rfl,trivial⟩ ?_
  refine Go'.seq ?_
  refine Go'.region [(0,0),(1,0),(2,0),(3,2),(4,0),(5,0),(6,0),(7,0)] rfl ?_
  refine O.mv rfl rfl rfl rfl rfl ?_
  refine O.mv rfl rfl rfl rfl rfl ?_
  refine O.mv rfl rfl rfl rfl rfl ?_
  refine O.call rfl rfl rfl call132 rfl (getHint_spec hP hM x hk hzS hll true) ?_
  rintro _ H2 ⟨rfl,hF2,hk2⟩
  refine ⟨trivial,?_⟩
  refine O.ext rfl rfl rfl rfl rfl rfl ?_
  refine O.ext rfl rfl rfl rfl rfl rfl ?_
  refine O.asg rfl rfl rfl rfl rfl ?_
  refine O.asg rfl rfl rfl rfl rfl ?_
  refine Pl.fin [(6,_),(7,_)] ⟨rfl,rfl,trivial⟩ ?_
  refine Go'.ret (vs := [_,_]) func109 results109 ⟨rfl,rfl,trivial⟩ ?_
  exact ⟨rfl,hF2,hk2⟩

theorem bgetHintMut_spec {B : World} {H : Mem} {tr bt : Nat} {P : Ps} (hP : PsOk P) {S : Nat → Prop} {l : List (Int × Int)} (hM : MapM H tr P S l) (hb : cl H bt 0 = some (ptr tr)) (x : Int × Int) {hv : Value} {hz : Nat → Prop} (hk : HintOk H hv hz) (hzS : ∀ b,hz b → ¬ S b) (hll : l.length < 4611686018427387904) :
    Fn Try.prog B 86 [ptr bt,iv x,hv,.bool true] H (fun r H' => r = PV (Pl.got OI x l) ∧ Fr (fun b _ => hz b) H H' ∧ HintOk H' hv hz) := by
  unfold ptr at hb ⊢
  refine fn_of func86 rfl ntmps86 ?_
  refine (show Go' _ _ _ _ 37 [(0,_),(1,_),(2,_),(3,_)] [.code _] _ from ?_)
  refine Go'.seq ?_
  refine Go'.region [(0,0)] rfl ?_
  refine O.asg rfl rfl rfl rfl rfl ?_
  refine Pl.fin [(0,_),(1,_),(2,_),(3,_),(8,_)] ⟨rfl,rfl,rfl,rfl,rfl,trivial⟩ ?_
  refine Go'.seq ?_
  refine Go'.seq ?_
  refine Go'.region [(0,0),(1,0)] rfl ?_
  refine O.mv rfl rfl rfl rfl rfl ?_
  refine O.bin rfl rfl rfl rfl rfl rfl (run_eqNil_iface underlying20) ?_
  refine Pl.fin [(0,_),(1,_),(2,_),(3,_),(8,_),(12,_)] ⟨rfl,rfl,rfl,rfl,rfl,rfl,trivial⟩ ?_
  refine Go'.condF rfl ?_
  refine Go'.skip ?_
  refine Go'.seq ?_
  refine Go'.region [(0,0)] rfl ?_
  refine O.asg rfl rfl rfl rfl rfl ?_
  refine Pl.fin [(0,_),(1,_),(2,_),(3,_),(8,_),(9,_)] ⟨rfl,rfl,rfl,rfl,rfl,rfl,trivial⟩ ?_
  refine Go'.seq ?_
  refine Go'.region [(0,0)] rfl ?_
  refine O.asg rfl rfl rfl rfl rfl ?_
  refine Pl.fin [(0,_),(1,_),(2,_),(3,_),(8,_),(9,_),(10,_)] ⟨rfl,rfl,rfl,rfl,rfl,rfl,rfl,trivial⟩ ?_
  refine Go'.seq ?_
  refine Go'.seq ?_
  refine Go'.region [(0,0)] rfl ?_
  refine O.mv rfl rfl rfl rfl rfl ?_
  refine Pl.fin [(0,_),(1,_),(2,_),(8,_),(9,_),(10,_),(13,_)] ⟨rfl,rfl,rfl,rfl,rfl,rfl,rfl,trivial⟩ ?_
  refine Go'.condT rfl ?_
  refine Go'.region [(0,0),(1,0),(2,0),(3,1),(4,0),(5,0),(6,2),(7,0),(8,0),(9,0),(10,0),(11,0)] rfl ?_
  refine O.mv rfl rfl rfl rfl rfl ?_
  refine O.nc rfl rfl rfl rfl rfl ?_
  refine O.faz rfl rfl rfl rfl ⟨_,_,_,underlying115,rfl,rfl,sizeOf95⟩ rfl ?_
  refine O.ld rfl rfl rfl (fun w => ⟨isAgg95 w,sizeOf95 w⟩) rfl hb ?_
  refine O.mv rfl rfl rfl rfl rfl ?_
  refine O.mv rfl rfl rfl rfl rfl ?_
  refine O.call rfl rfl rfl call109 rfl (GetHintMut_spec hP hM x hk hzS hll) ?_
  rintro _ H2 ⟨rfl,hF2,hk2⟩
  refine ⟨trivial,?_⟩
  refine O.mv rfl rfl rfl rfl rfl ?_
  refine O.ext rfl rfl rfl rfl rfl rfl ?_
  refine O.ext rfl rfl rfl rfl rfl rfl ?_
  refine O.asg rfl rfl rfl rfl rfl ?_
  refine O.asg rfl rfl rfl rfl rfl ?_
  refine Pl.fin [(8,_),(9,_),(10,_)] ⟨rfl,rfl,rfl,trivial⟩ ?_
  refine Go'.seq ?_
  refine Go'.seq ?_
  cases hg : Pl.got OI x l with
  | none =>
    refine Go'.region [(0,0),(1,0)] rfl ?_
    refine O.mv rfl rfl rfl rfl rfl ?_
    refine O.not rfl rfl rfl rfl rfl ?_
    refine Pl.fin [(8,_),(9,_),(35,_)] ⟨rfl,rfl,rfl,trivial⟩ ?_
    refine Go'.condT rfl ?_
    refine Go'.seq ?_
    refine Go'.region [(0,0)] rfl ?_
    refine O.asg rfl rfl rfl rfl rfl ?_
    refine Pl.fin [(8,_),(9,_)] ⟨rfl,rfl,trivial⟩ ?_
    refine Go'.ret (vs := [_]) func86 results86 ⟨rfl,trivial⟩ ?_
    exact ⟨rfl,hF2,hk2⟩
  | some y =>
    refine Go'.region [(0,0),(1,0)] rfl ?_
    refine O.mv rfl rfl rfl rfl rfl ?_
    refine O.not rfl rfl rfl rfl rfl ?_
    refine Pl.fin [(8,_),(9,_),(35,_)] ⟨rfl,rfl,rfl,trivial⟩ ?_
    refine Go'.condF rfl ?_
    refine Go'.skip ?_
    refine Go'.seq ?_
    refine Go'.region [(0,0),(1,0)] rfl ?_
    refine O.mv rfl rfl rfl rfl rfl ?_
    refine O.asg rfl rfl rfl rfl rfl ?_
    refine Pl.fin [(8,_)] ⟨rfl,trivial⟩ ?_
    refine Go'.ret (vs := [_]) func86 results86 ⟨rfl,trivial⟩ ?_
    exact ⟨rfl,hF2,hk2⟩

theorem bGetHintMut_spec {B : World} {H : Mem} {tr bt : Nat} {P : Ps} (hP : PsOk P) {S : Nat → Prop} {l : List (Int × Int)} (hM : MapM H tr P S l) (hb : cl H bt 0 = some (ptr tr)) (x : Int × Int) {hv : Value} {hz : Nat → Prop} (hk : HintOk H hv hz) (hzS : ∀ b,hz b → ¬ S b) (hll : l.length < 4611686018427387904) :
    Fn Try.prog B 60 [ptr bt,iv x,hv] H (fun r H' => r = PV (Pl.got OI x l) ∧ Fr (fun b _ => hz b) H H' ∧ HintOk H' hv hz) := by
  refine fn_of func60 rfl ntmps60 ?_
  refine (show Go' _ _ _ _ 11 [(0,_),(1,_),(2,_)] [.code _] _ from ?_)
  refine Go'.seq ?_
  refine Go'.region [(0,0)] rfl ?_
  refine O.asg rfl rfl rfl rfl rfl ?_
  refine Pl.fin [(0,_),(1,_),(2,_),(6,_)] ⟨rfl,rfl,rfl,rfl,trivial⟩ ?_
  refine Go'.seq ?_
  refine Go'.region [(0,0),(1,0),(2,0),(3,2),(4,0)] rfl ?_
  refine O.mv rfl rfl rfl rfl rfl ?_
  refine O.mv rfl rfl rfl rfl rfl ?_
  refine O.mv rfl rfl rfl rfl rfl ?_
  refine O.call rfl rfl rfl call86 rfl (bgetHintMut_spec hP hM hb x hk hzS hll) ?_
  rintro _ H2 hq
  refine ⟨trivial,?_⟩
  refine O.asg rfl rfl rfl rfl rfl ?_
  refine Pl.fin [(6,_)] ⟨rfl,trivial⟩ ?_
  refine Go'.ret (vs := [_]) func60 results60 ⟨rfl,trivial⟩ ?_
  exact hq
end
end Go.Bt.FB
namespace Go.Bt.FB
open Go Go.Proofs Go.Proofs.Try
set_option maxRecDepth 20000
set_option maxHeartbeats 4000000
set_option linter.unusedVariables false
set_option linter.unusedSectionVars false

def exkl : List (Int × Int) := [(3,0),(4,0),(9,1)]
theorem exKeys_spec {B : World} {H : Mem} : Fn Try.prog B 19 [] H (fun r H' => InS EJ H' r exkl ∧ Fr nowhere H H') := by
  refine fn_of func19 rfl ntmps19 ?_
  refine (show Go' _ _ _ _ 5 [] [.code _] _ from ?_)
  refine Go'.seq ?_
  refine Go'.region [(0,0)] rfl ?_
  refine O.asg rfl rfl rfl rfl rfl ?_
  refine Pl.fin [(0,_)] ⟨rfl,trivial⟩ ?_
  refine Go'.seq ?_
  refine Go'.region [(0,0),(1,0),(2,0),(3,2),(4,0)] rfl ?_
  refine O.bld (cs := [.int .i64 3,.int .i64 0]) rfl rfl rfl rfl (st35) rfl (by kernel_rfl) ?_
  refine O.bld (cs := [.int .i64 4,.int .i64 0]) rfl rfl rfl rfl (st35) rfl (by kernel_rfl) ?_
  refine O.bld (cs := [.int .i64 9,.int .i64 1]) rfl rfl rfl rfl (st35) rfl (by kernel_rfl) ?_
  refine O.bsl (cs := (row EJ exkl)) rfl rfl rfl ⟨underlying25,sizeOf35,zeroValue35,⟨_,typeInfo35,rfl⟩,rfl,by decide,by decide⟩ rfl (by decide) (by kernel_rfl) ?_
  intro H1 M1
  refine ⟨trivial,?_⟩
  refine O.asg rfl rfl rfl rfl rfl ?_
  refine Pl.fin [(0,_)] ⟨rfl,trivial⟩ ?_
  refine Go'.ret (vs := [_]) func19 results19 ⟨rfl,trivial⟩ ?_
  exact ⟨.inl ⟨H.size,0,3,rfl,by decide,M1.rd _ [] (by simp)⟩,M1.fr nowhere⟩

theorem ibgethintmut_spec {B : World} {H : Mem} {d : Nat} {nl : Bool} {v u : Value} {ord : List Int} {l : List (Int × Int)} {va : Value} {ks : List (Int × Int)} (hd : d = 0 ∨ 2 ≤ d ∧ d ≤ 128) (ho : InS EN H v ord) (hol : ord.length ≤ 4294967296) (hi : InS EJ H u l) (hll : l.length ≤ 4294967296) (ha : InS EJ H va ks) (hal : ks.length ≤ 4294967296) :
    Fn Try.prog B 36 [.agg #[v,.int .i64 (d : Int),.bool nl],u,va] H (fun r H' => OutS EF H' r (ks.map (fun k => Pl.got (OO ord) k (Pl.puts (OO ord) l))) ∧ Fr nowhere H H') := by
  obtain ⟨a,c,hu⟩ := hi.len
  subst hu
  obtain ⟨av,mv,cv,hv⟩ := InS.form ho
  subst hv
  have hF : Fr nowhere H H := Fr.refl _ _
  have hP := PD_ok hd
  obtain ⟨aa,ca,ha0⟩ := ha.len
  subst ha0
  refine fn_of func36 rfl ntmps36 ?_
  refine (show Go' _ _ _ _ 31 [(0,_),(1,_),(2,_)] [.code _] _ from ?_)
  refine Go'.seq ?_
  refine Go'.region [(0,2),(1,0)] rfl ?_
  refine O.box rfl rfl rfl rfl ?_
  intro B1 MB1
  refine ⟨trivial,?_⟩
  have hsB1 := MB1.size
  replace hF := hF.trans (MB1.fr nowhere)
  have mm : Rd B1 H.size 0 [.slice av mv cv,.int .i64 (d : Int),.bool nl] := MB1.rd _ [] (by simp [Value.cells])
  have mm0 : cl B1 H.size 0 = some (.slice av mv cv) := mm 0 _ rfl
  have mm1 : cl B1 H.size (0 + 1) = some (.int .i64 (d : Int)) := mm 1 _ rfl
  refine O.asg rfl rfl rfl rfl rfl ?_
  refine Pl.fin [(1,_),(2,_),(3,_),(6,_)] ⟨rfl,rfl,rfl,rfl,trivial⟩ ?_
  refine Go'.seq ?_
  refine Go'.region [(0,1),(1,0),(2,2),(3,0)] rfl ?_
  refine O.lds rfl rfl rfl (fun w => ⟨isAgg24 w,sizeOf24 w⟩) rfl rfl mm ?_
  refine O.mv rfl rfl rfl rfl rfl ?_
  refine O.call rfl rfl rfl call51 rfl (grow_spec hd (ho.fr hF) hol (hi.fr hF) hll) ?_
  rintro _ H3 ⟨I,hIo,hIw,hIb,tr,S,bt,rfl,hM,hbt,hbl,hbu,hbS,hF3,hS⟩
  have hs3 := hF3.size
  replace hF := hF.trans hF3
  replace mm := hF3.rd mm (fun _ _ => nw)
  replace mm0 := hF3.keep mm0 nw
  replace mm1 := hF3.keep mm1 nw
  have hSb : ∀ b,S b ∨ (b < cx.base ∧ cx.own b) → B1.size ≤ b := fun b hb => hb.elim (hS b) (fun h => hIw b h.2)
  have hbg := hbl
  have hOO : OO ord = OI := by rw [← hIo]; rfl
  have hpl := Pl.puts_length OI l
  have hSlt := hM.lt
  have hbs := hM.tc.hb
  unfold ptr
  refine ⟨trivial,?_⟩
  refine O.asg rfl rfl rfl rfl rfl ?_
  refine Pl.fin [(2,_),(6,_),(7,_)] ⟨rfl,rfl,rfl,trivial⟩ ?_
  refine Go'.seq ?_
  refine Go'.region [(0,2)] rfl ?_
  refine O.alloc rfl rfl rfl zeroValue82 ?_
  intro H4 M4
  refine ⟨trivial,?_⟩
  have hs4 := M4.size
  have hF4 := M4.fr nowhere
  have hk : HintOk H4 (.pointer (some ⟨H3.size,0,none⟩)) (fun b => b = H3.size) := .inr ⟨H3.size,rfl,fun _ => Iff.rfl,by omega,fun h => by have := h.1; omega,(HintM.new M4 (fun i hi => by have hi8 : i = 0 ∨ i = 1 ∨ i = 2 ∨ i = 3 ∨ i = 4 ∨ i = 5 ∨ i = 6 ∨ i = 7 := (by omega); rcases hi8 with rfl | rfl | rfl | rfl | rfl | rfl | rfl | rfl <;> rfl) (fun i hi => by have hi8 : i = 0 ∨ i = 1 ∨ i = 2 ∨ i = 3 ∨ i = 4 ∨ i = 5 ∨ i = 6 ∨ i = 7 := (by omega); rcases hi8 with rfl | rfl | rfl | rfl | rfl | rfl | rfl | rfl <;> rfl) (by decide))⟩
  refine Pl.fin [(2,_),(6,_),(7,_),(8,_)] ⟨rfl,rfl,rfl,rfl,trivial⟩ ?_
  refine Go'.seq ?_
  refine Go'.region [(0,0)] rfl ?_
  refine O.asg rfl rfl rfl rfl rfl ?_
  refine Pl.fin [(2,_),(6,_),(7,_),(8,_),(9,_)] ⟨rfl,rfl,rfl,rfl,rfl,trivial⟩ ?_
  refine Go'.seq ?_
  refine Go'.seq ?_
  refine Go'.region [(0,0),(1,0),(2,0)] rfl ?_
  refine O.mv rfl rfl rfl rfl rfl ?_
  refine O.len rfl rfl rfl rfl underlying25 rfl ?_
  refine O.mv rfl rfl rfl rfl rfl ?_
  refine Pl.fin [(6,_),(7,_),(8,_),(9,_),(15,_),(16,_),(17,_)] ⟨rfl,rfl,rfl,rfl,rfl,rfl,rfl,trivial⟩ ?_
  refine Go'.block ?_
  refine Go'.loop ?_
  refine Go'.keep [(6,_),(7,_),(8,_),(9,_),(15,_),(16,_),(17,_)] ⟨rfl,rfl,rfl,rfl,rfl,rfl,rfl,trivial⟩ ?_
  refine Go'.ind (σ := Nat × Value) (fun s => ks.length - s.1) (fun s H' => s.1 ≤ ks.length ∧ Fr nowhere H3 H' ∧ H4.size ≤ H'.size ∧ HintOk H' (.pointer (some ⟨H3.size,0,none⟩)) (fun b => b = H3.size) ∧ ∃ Zo,Acc EF Zo H' s.2 ((ks.map (fun k => Pl.got (OO ord) k (Pl.puts (OO ord) l))).take s.1) ∧ ∀ b,Zo b → H4.size ≤ b ∧ b < H'.size)
    (fun s => [(6,.slice none 0 0),(7,.pointer (some ⟨bt,0,none⟩)),(8,.pointer (some ⟨H3.size,0,none⟩)),(9,s.2),(15,.slice aa ks.length ca),(16,.int .i64 (ks.length : Int)),(17,.int .i64 (s.1 : Int))]) (0,.slice none 0 0) ⟨Nat.zero_le _,hF4,Nat.le_refl _,hk,fun _ => False,Acc.nil _ _ _,fun _ h => h.elim⟩ rfl ?_
  clear hk
  rintro ⟨j,sv⟩ H5 ⟨hjl,hF35,hs45,hk,Zo,hA,hZ⟩ ih
  simp only at hjl hA
  have hF2 := hF.trans hF35
  have hM5 := hM.fr hF35 (fun _ _ _ => nw)
  have hb5 := hF35.keep hbt nw
  refine Go'.seq ?_
  by_cases hlt : j < ks.length
  · skip
    obtain ⟨y,hy⟩ : ∃ y,ks[j]? = some y := ⟨ks[j],List.getElem?_eq_getElem hlt⟩
    obtain ⟨b,o,c',e,hr⟩ := (ha.fr hF2).at hy
    cases e
    have eout : (ks.map (fun k => Pl.got (OO ord) k (Pl.puts (OO ord) l))).take (j + 1) = (ks.map (fun k => Pl.got (OO ord) k (Pl.puts (OO ord) l))).take j ++ [Pl.got OI y (Pl.puts OI l)] := by rw [List.take_add_one,List.getElem?_map,hy,hOO]; rfl
    have hlo : ((ks.map (fun k => Pl.got (OO ord) k (Pl.puts (OO ord) l))).take j).length = j := by rw [List.length_take,List.length_map]; omega
    refine Go'.region [(0,0)] rfl ?_
    refine O.cmp rfl rfl rfl rfl rfl rfl (lssT (by omega)) ?_
    refine Pl.fin [(6,_),(7,_),(8,_),(9,_),(15,_),(16,_),(17,_),(18,_)] ⟨rfl,rfl,rfl,rfl,rfl,rfl,rfl,rfl,trivial⟩ ?_
    refine Go'.seq ?_
    refine Go'.condT rfl ?_
    refine Go'.skip ?_
    refine Go'.seq ?_
    refine Go'.block ?_
    refine Go'.seq ?_
    refine Go'.region [(0,0),(1,1),(2,2),(3,2)] rfl ?_
    refine O.ix (j := j) rfl rfl rfl rfl underlying25 sizeOf35 rfl rfl (by omega) hlt ?_
    refine O.lds rfl rfl rfl (fun w => ⟨isAgg35 w,sizeOf35 w⟩) rfl rfl hr ?_
    refine O.alloc rfl rfl rfl zeroValue35 ?_
    intro H6 M6
    refine ⟨trivial,?_⟩
    have hs6 := M6.size
    replace hM5 := hM5.fr (M6.fr nowhere) (fun _ _ _ => nw)
    replace hA := hA.fr (M6.fr nowhere) (fun _ _ _ _ => nw)
    replace hk := hk.fr (M6.fr nowhere) (fun _ _ _ => nw)
    replace hF35 := hF35.trans (M6.fr nowhere)
    replace hb5 := Fr.keep (M6.fr nowhere) hb5 nw
    have m7 : Wr H6 H5.size 0 2 := M6.wr 2 (by decide)
    refine O.st rfl rfl sizeOf35 rfl rfl rfl rfl rfl m7 ?_
    intro H7 W7
    have hs7 := W7.size
    replace hM5 := hM5.fr W7.fr (fun b o hb => nr (.inl (hb.elim (fun hb => by have := hSlt b hb; omega) (fun hb => by omega))))
    replace hA := hA.fr W7.fr (fun b o hb hb2 => nr (.inl (by have := hZ b hb2; omega)))
    replace hk := hk.fr W7.fr (fun b o hb => nr (.inl (by omega)))
    replace hF35 := hF35.trans' W7.fr (fun _ _ _ h => h) (fun b o hb hz => by have h1 := hz.1; omega)
    replace hb5 := W7.fr.keep hb5 (nr (.inl (by omega)))
    have k0 : Rd H7 H5.size 0 (EJ.enc y) := W7.all
    refine ⟨trivial,?_⟩
    refine Pl.fin [(6,_),(7,_),(8,_),(9,_),(11,_),(15,_),(16,_),(17,_),(18,_)] ⟨rfl,rfl,rfl,rfl,rfl,rfl,rfl,rfl,rfl,trivial⟩ ?_
    refine Go'.region [(0,0),(1,0),(2,1),(3,0),(4,2),(5,2),(6,2),(7,2),(8,0)] rfl ?_
    refine O.mv rfl rfl rfl rfl rfl ?_
    refine O.mv rfl rfl rfl rfl rfl ?_
    refine O.lds rfl rfl rfl (fun w => ⟨isAgg35 w,sizeOf35 w⟩) rfl rfl k0 ?_
    refine O.mki rfl rfl rfl rfl underlying35 rfl rfl ?_
    refine O.call rfl rfl rfl call60 rfl (bGetHintMut_spec hP hM5 hb5 y hk (fun b hb hs => by have := hSlt b hs; omega) (by omega)) ?_
    rintro _ H8 ⟨rfl,hF8,hk⟩
    have hs8 := hF8.size
    replace hb5 := hF8.keep hb5 (fun hz => by have hz' : bt = H3.size := hz; omega)
    replace hM5 := hM5.fr hF8 (fun b o hb hz => hb.elim (fun hb => by have := hSlt b hb; omega) (fun hb => by omega))
    replace hA := hA.fr hF8 (fun b o hb hb2 hz => by have := hZ b hb2; omega)
    replace hF35 := hF35.trans' hF8 (fun _ _ _ h => h) (fun b o hb hz => by omega)
    refine ⟨trivial,?_⟩
    refine O.call rfl rfl rfl call56 rfl (foundAny_spec _) ?_
    rintro _ H9 ⟨rfl,hF9⟩
    have hs9 := hF9.size
    replace hM5 := hM5.fr hF9 (fun _ _ _ => nw)
    replace hA := hA.fr hF9 (fun _ _ _ _ => nw)
    replace hk := hk.fr hF9 (fun _ _ _ => nw)
    replace hF35 := hF35.trans hF9
    replace hb5 := Fr.keep hF9 hb5 nw
    rw [FVe]
    refine ⟨trivial,?_⟩
    refine O.bsl (cs := (fvs (Pl.got OI y (Pl.puts OI l)))) rfl rfl rfl ⟨underlying48,sizeOf44,zeroValue44,⟨_,typeInfo44,rfl⟩,rfl,by decide,by decide⟩ rfl (by decide) (by generalize (Pl.got OI y (Pl.puts OI l)) = o; cases o <;> kernel_rfl) ?_
    intro H10 M10
    have hs10 := M10.size
    replace hM5 := hM5.fr (M10.fr nowhere) (fun _ _ _ => nw)
    replace hA := hA.fr (M10.fr nowhere) (fun _ _ _ _ => nw)
    replace hk := hk.fr (M10.fr nowhere) (fun _ _ _ => nw)
    replace hF35 := hF35.trans (M10.fr nowhere)
    replace hb5 := Fr.keep (M10.fr nowhere) hb5 nw
    have m5 : Rd H10 H9.size 0 (row EF [(Pl.got OI y (Pl.puts OI l))]) := M10.rd _ [] (by simp [row,EF])
    refine ⟨trivial,?_⟩
    refine O.appA (E := EF) (Y := [(Pl.got OI y (Pl.puts OI l))]) rfl rfl rfl ⟨underlying48,sizeOf44,zeroValue44,⟨_,typeInfo44,rfl⟩,rfl,by decide,by decide⟩ rfl hA rfl ⟨_,_,_,rfl,m5⟩ (Nat.succ_pos _) (by rw [hlo]; exact Nat.le_trans (Nat.mul_le_mul_left _ (Nat.le_of_ble_eq_true (n := _) (m := 4096) rfl)) (by simp only [List.length_cons,List.length_nil]; omega)) (by rw [hlo]; simp only [List.length_cons,List.length_nil]; omega) ?_
    intro v8 H11 hA11 hF11 hs11
    have hss11 := hF11.size
    rw [← eout] at hA11
    refine ⟨trivial,?_⟩
    refine O.asg rfl rfl rfl rfl rfl ?_
    refine Pl.fin [(6,_),(7,_),(8,_),(9,_),(11,_),(15,_),(16,_),(17,_),(18,_)] ⟨rfl,rfl,rfl,rfl,rfl,rfl,rfl,rfl,rfl,trivial⟩ ?_
    refine Go'.inBlock ?_
    refine Go'.region [(0,0),(1,0)] rfl ?_
    refine O.add (((j + 1 : Nat) : Int)) rfl rfl rfl rfl rfl rfl (by omega) (by omega) ?_
    refine O.mv rfl rfl rfl rfl rfl ?_
    refine Pl.fin [(6,_),(7,_),(8,_),(9,_),(11,_),(15,_),(16,_),(17,_),(18,_)] ⟨rfl,rfl,rfl,rfl,rfl,rfl,rfl,rfl,rfl,trivial⟩ ?_
    refine Go'.keep [(6,_),(7,_),(8,_),(9,_),(15,_),(16,_),(17,_)] ⟨rfl,rfl,rfl,rfl,rfl,rfl,rfl,trivial⟩ ?_
    refine Go'.inLoop ?_
    exact ih (j + 1,v8) H11 ⟨hlt,hF35.trans' hF11 (fun _ _ _ h => h) (fun b o hb hz => by have h1 := (hZ b hz).1; omega),by omega,hk.fr hF11 (fun b o hb hz => by have := (hZ b hz).1; omega),fun b => Zo b ∨ (b = H10.size ∧ b < H11.size),hA11,fun b hb => hb.elim (fun h => ⟨(hZ b h).1,by have := (hZ b h).2; omega⟩) (fun h => ⟨by omega,h.2⟩)⟩ (by simp only; omega)
  · skip
    have ejl : j = ks.length := by omega
    have eall : (ks.map (fun k => Pl.got (OO ord) k (Pl.puts (OO ord) l))).take j = (ks.map (fun k => Pl.got (OO ord) k (Pl.puts (OO ord) l))) := by rw [ejl]; exact List.take_of_length_le (by rw [List.length_map]; exact Nat.le_refl _)
    rw [eall] at hA
    refine Go'.region [(0,0)] rfl ?_
    refine O.cmp rfl rfl rfl rfl rfl rfl (lssF (by omega)) ?_
    refine Pl.fin [(6,_),(7,_),(8,_),(9,_),(15,_),(16,_),(17,_),(18,_)] ⟨rfl,rfl,rfl,rfl,rfl,rfl,rfl,rfl,trivial⟩ ?_
    refine Go'.seq ?_
    refine Go'.condF rfl ?_
    refine Go'.exit rfl ?_
    refine Go'.seq ?_
    refine Go'.region [(0,0),(1,0)] rfl ?_
    refine O.mv rfl rfl rfl rfl rfl ?_
    refine O.asg rfl rfl rfl rfl rfl ?_
    refine Pl.fin [(6,_)] ⟨rfl,trivial⟩ ?_
    refine Go'.ret (vs := [_]) func36 results36 ⟨rfl,trivial⟩ ?_
    exact ⟨hA.out,hF2⟩

theorem sgget_spec {B : World} {H : Mem} {zz : Int} {nl : Bool} {v u : Value} {ord : List Int} {l : List (Int × Int)} {va : Value} {ks : List (Int × Int)} (ho : InS EN H v ord) (hol : ord.length ≤ 4294967296) (hi : InS EJ H u l) (hll : l.length ≤ 4294967296) (ha : InS EJ H va ks) (hal : ks.length ≤ 4294967296) :
    Fn Try.prog B 37 [.agg #[v,.int .i64 zz,.bool nl],u,va] H (fun r H' => OutS EF H' r (ks.map (fun k => Pl.got (OO ord) k (Pl.puts (OO ord) l))) ∧ Fr nowhere H H') := by
  obtain ⟨a,c,hu⟩ := hi.len
  subst hu
  obtain ⟨av,mv,cv,hv⟩ := InS.form ho
  subst hv
  have hF : Fr nowhere H H := Fr.refl _ _
  obtain ⟨aa,ca,ha0⟩ := ha.len
  subst ha0
  refine fn_of func37 rfl ntmps37 ?_
  refine (show Go' _ _ _ _ 43 [(0,_),(1,_),(2,_)] [.code _] _ from ?_)
  refine Go'.seq ?_
  refine Go'.region [(0,2),(1,0)] rfl ?_
  refine O.box rfl rfl rfl rfl ?_
  intro B1 MB1
  refine ⟨trivial,?_⟩
  have hsB1 := MB1.size
  replace hF := hF.trans (MB1.fr nowhere)
  have mm : Rd B1 H.size 0 [.slice av mv cv,.int .i64 zz,.bool nl] := MB1.rd _ [] (by simp [Value.cells])
  have mm0 : cl B1 H.size 0 = some (.slice av mv cv) := mm 0 _ rfl
  have mm1 : cl B1 H.size (0 + 1) = some (.int .i64 zz) := mm 1 _ rfl
  refine O.asg rfl rfl rfl rfl rfl ?_
  refine Pl.fin [(1,_),(2,_),(3,_),(6,_)] ⟨rfl,rfl,rfl,rfl,trivial⟩ ?_
  refine Go'.seq ?_
  refine Go'.region [(0,0),(1,1),(2,0),(3,2),(4,0)] rfl ?_
  refine O.faz rfl rfl rfl rfl ⟨_,_,_,underlying24,rfl,rfl,sizeOf22⟩ rfl ?_
  refine O.ld rfl rfl rfl (fun w => ⟨isAgg22 w,sizeOf22 w⟩) rfl mm0 ?_
  refine O.mv rfl rfl rfl rfl rfl ?_
  refine O.call rfl rfl rfl call48 rfl (tree_spec (ho.fr hF) (by omega) (hi.fr hF) hll) ?_
  rintro tv H3 ⟨hA4,hF3⟩
  have hs3 := hF3.size
  replace hF := hF.trans hF3
  replace mm := hF3.rd mm (fun _ _ => nw)
  replace mm0 := hF3.keep mm0 nw
  replace mm1 := hF3.keep mm1 nw
  have hM := hA4.inS
  have hpl := Pl.puts_length (OO ord) l
  have hsrt := Pl.puts_srt (OO ord) l
  obtain ⟨ta,tc,htv⟩ := hM.len
  subst htv
  refine ⟨trivial,?_⟩
  refine O.asg rfl rfl rfl rfl rfl ?_
  refine Pl.fin [(2,_),(3,_),(6,_),(7,_)] ⟨rfl,rfl,rfl,rfl,trivial⟩ ?_
  refine Go'.seq ?_
  refine Go'.region [(0,0)] rfl ?_
  refine O.asg rfl rfl rfl rfl rfl ?_
  refine Pl.fin [(2,_),(3,_),(6,_),(7,_),(8,_)] ⟨rfl,rfl,rfl,rfl,rfl,trivial⟩ ?_
  refine Go'.seq ?_
  refine Go'.seq ?_
  refine Go'.region [(0,0),(1,0),(2,0)] rfl ?_
  refine O.mv rfl rfl rfl rfl rfl ?_
  refine O.len rfl rfl rfl rfl underlying25 rfl ?_
  refine O.mv rfl rfl rfl rfl rfl ?_
  refine Pl.fin [(3,_),(6,_),(7,_),(8,_),(18,_),(19,_),(20,_)] ⟨rfl,rfl,rfl,rfl,rfl,rfl,rfl,trivial⟩ ?_
  refine Go'.block ?_
  refine Go'.loop ?_
  refine Go'.keep [(3,_),(6,_),(7,_),(8,_),(18,_),(19,_),(20,_)] ⟨rfl,rfl,rfl,rfl,rfl,rfl,rfl,trivial⟩ ?_
  refine Go'.ind (σ := Nat × Value) (fun s => ks.length - s.1) (fun s H' => s.1 ≤ ks.length ∧ Fr nowhere H3 H' ∧ ∃ Zo,Acc EF Zo H' s.2 ((ks.map (fun k => Pl.got (OO ord) k (Pl.puts (OO ord) l))).take s.1) ∧ ∀ b,Zo b → H3.size ≤ b ∧ b < H'.size)
    (fun s => [(3,.pointer (some ⟨H.size,0,none⟩)),(6,.slice none 0 0),(7,.slice ta (Pl.puts (OO ord) l).length tc),(8,s.2),(18,.slice aa ks.length ca),(19,.int .i64 (ks.length : Int)),(20,.int .i64 (s.1 : Int))]) (0,.slice none 0 0) ⟨Nat.zero_le _,Fr.refl _ _,fun _ => False,Acc.nil _ _ _,fun _ h => h.elim⟩ rfl ?_
  rintro ⟨j,sv⟩ H5 ⟨hjl,hF35,Zo,hA,hZ⟩ ih
  simp only at hjl hA
  have hsz := hF35.size
  have hF2 := hF.trans hF35
  replace mm0 := hF35.keep mm0 nw
  refine Go'.seq ?_
  by_cases hlt : j < ks.length
  · skip
    obtain ⟨y,hy⟩ : ∃ y,ks[j]? = some y := ⟨ks[j],List.getElem?_eq_getElem hlt⟩
    obtain ⟨b,o,c',e,hr⟩ := (ha.fr hF2).at hy
    cases e
    have eout : (ks.map (fun k => Pl.got (OO ord) k (Pl.puts (OO ord) l))).take (j + 1) = (ks.map (fun k => Pl.got (OO ord) k (Pl.puts (OO ord) l))).take j ++ [Pl.got (OO ord) y (Pl.puts (OO ord) l)] := by rw [List.take_add_one,List.getElem?_map,hy]; rfl
    have hlo : ((ks.map (fun k => Pl.got (OO ord) k (Pl.puts (OO ord) l))).take j).length = j := by rw [List.length_take,List.length_map]; omega
    refine Go'.region [(0,0)] rfl ?_
    refine O.cmp rfl rfl rfl rfl rfl rfl (lssT (by omega)) ?_
    refine Pl.fin [(3,_),(6,_),(7,_),(8,_),(18,_),(19,_),(20,_),(21,_)] ⟨rfl,rfl,rfl,rfl,rfl,rfl,rfl,rfl,trivial⟩ ?_
    refine Go'.seq ?_
    refine Go'.condT rfl ?_
    refine Go'.skip ?_
    refine Go'.seq ?_
    refine Go'.block ?_
    refine Go'.seq ?_
    have hbm : H.size < H3.size := by omega
    refine Go'.region [(0,0),(1,1),(2,2),(3,2)] rfl ?_
    refine O.ix (j := j) rfl rfl rfl rfl underlying25 sizeOf35 rfl rfl (by omega) hlt ?_
    refine O.lds rfl rfl rfl (fun w => ⟨isAgg35 w,sizeOf35 w⟩) rfl rfl hr ?_
    refine O.alloc rfl rfl rfl zeroValue35 ?_
    intro H6 M6
    refine ⟨trivial,?_⟩
    have hs6 := M6.size
    replace hA := hA.fr (M6.fr nowhere) (fun _ _ _ _ => nw)
    replace mm0 := (M6.fr nowhere).keep mm0 nw
    replace hF35 := hF35.trans (M6.fr nowhere)
    have m7 : Wr H6 H5.size 0 2 := M6.wr 2 (by decide)
    refine O.st rfl rfl sizeOf35 rfl rfl rfl rfl rfl m7 ?_
    intro H7 W7
    have hs7 := W7.size
    replace hA := hA.fr W7.fr (fun b o hb hb2 => nr (.inl (by have := hZ b hb2; omega)))
    replace mm0 := W7.fr.keep mm0 (nr (.inl (by omega)))
    replace hF35 := hF35.trans' W7.fr (fun _ _ _ h => h) (fun b o hb hz => by have h1 := hz.1; omega)
    have k0 : Rd H7 H5.size 0 (EJ.enc y) := W7.all
    refine ⟨trivial,?_⟩
    refine Pl.fin [(3,_),(6,_),(7,_),(8,_),(10,_),(18,_),(19,_),(20,_),(21,_)] ⟨rfl,rfl,rfl,rfl,rfl,rfl,rfl,rfl,rfl,trivial⟩ ?_
    refine Go'.seq ?_
    refine Go'.region [(0,0),(1,2),(2,2)] rfl ?_
    refine O.bld (cs := [.int .i64 0,.int .i64 0,.bool false]) rfl rfl rfl rfl (st44) rfl (by kernel_rfl) ?_
    refine O.alloc rfl rfl rfl zeroValue44 ?_
    intro H8 M8
    refine ⟨trivial,?_⟩
    have hs8 := M8.size
    replace hA := hA.fr (M8.fr nowhere) (fun _ _ _ _ => nw)
    replace mm0 := (M8.fr nowhere).keep mm0 nw
    replace hF35 := hF35.trans (M8.fr nowhere)
    replace k0 := (M8.fr nowhere).rd k0 (fun _ _ => nw)
    have m9 : Wr H8 H7.size 0 3 := M8.wr 3 (by decide)
    refine O.st (vs := (fvs none)) rfl rfl sizeOf44 rfl rfl rfl rfl rfl m9 ?_
    intro Hq Wq
    have hsq := Wq.size
    replace hA := hA.fr Wq.fr (fun b o hb hb2 => nr (.inl (by have := hZ b hb2; omega)))
    replace mm0 := Wq.fr.keep mm0 (nr (.inl (by omega)))
    replace hF35 := hF35.trans' Wq.fr (fun _ _ _ h => h) (fun b o hb hz => by have h1 := hz.1; omega)
    replace k0 := Wq.fr.rd k0 (fun _ _ => nr (.inl (by omega)))
    replace m9 := Wq.fr.wr m9
    have r9 : Rd Hq H7.size 0 (fvs none) := Wq.all
    refine ⟨trivial,?_⟩
    refine Pl.fin [(3,_),(6,_),(7,_),(8,_),(10,_),(11,_),(18,_),(19,_),(20,_),(21,_)] ⟨rfl,rfl,rfl,rfl,rfl,rfl,rfl,rfl,rfl,rfl,trivial⟩ ?_
    refine Go'.seq ?_
    refine Go'.seq ?_
    refine Go'.region [(0,0),(1,1),(2,0),(3,1),(4,2),(5,0),(6,0),(7,0),(8,0),(9,0)] rfl ?_
    refine O.faz rfl rfl rfl rfl ⟨_,_,_,underlying24,rfl,rfl,sizeOf22⟩ rfl ?_
    refine O.ld rfl rfl rfl (fun w => ⟨isAgg22 w,sizeOf22 w⟩) rfl mm0 ?_
    refine O.mv rfl rfl rfl rfl rfl ?_
    refine O.lds rfl rfl rfl (fun w => ⟨isAgg35 w,sizeOf35 w⟩) rfl rfl k0 ?_
    refine O.call rfl rfl rfl call61 rfl (place_spec (x := y) ((ho.fr hF).fr hF35) (by omega) (hM.fr hF35) hsrt (by omega)) ?_
    rintro _ H9 ⟨rfl,hF9⟩
    have hs9 := hF9.size
    replace hA := hA.fr hF9 (fun _ _ _ _ => nw)
    replace mm0 := hF9.keep mm0 nw
    replace hF35 := hF35.trans hF9
    replace r9 := hF9.rd r9 (fun _ _ => nw)
    replace m9 := hF9.wr m9
    refine ⟨trivial,?_⟩
    refine O.mv rfl rfl rfl rfl rfl ?_
    refine O.ext rfl rfl rfl rfl rfl rfl ?_
    refine O.ext rfl rfl rfl rfl rfl rfl ?_
    refine O.asg rfl rfl rfl rfl rfl ?_
    refine O.asg rfl rfl rfl rfl rfl ?_
    refine Pl.fin [(3,_),(6,_),(7,_),(8,_),(10,_),(11,_),(12,_),(13,_),(18,_),(19,_),(20,_),(21,_)] ⟨rfl,rfl,rfl,rfl,rfl,rfl,rfl,rfl,rfl,rfl,rfl,rfl,trivial⟩ ?_
    refine Go'.seq ?_
    refine Go'.region [(0,0)] rfl ?_
    refine O.mv rfl rfl rfl rfl rfl ?_
    refine Pl.fin [(3,_),(6,_),(7,_),(8,_),(10,_),(11,_),(12,_),(13,_),(18,_),(19,_),(20,_),(21,_),(33,_)] ⟨rfl,rfl,rfl,rfl,rfl,rfl,rfl,rfl,rfl,rfl,rfl,rfl,rfl,trivial⟩ ?_
    cases hfd : Pl.fnd (OO ord) y (Pl.puts (OO ord) l)
    · skip
      refine Go'.condF rfl ?_
      refine Go'.skip ?_
      have hg : (Pl.got (OO ord) y (Pl.puts (OO ord) l)) = none := Pl.got_none _ hfd
      rw [← hg] at r9
      refine Go'.region [(0,0),(1,1),(2,2),(3,2),(4,0)] rfl ?_
      refine O.mv rfl rfl rfl rfl rfl ?_
      refine O.lds rfl rfl rfl (fun w => ⟨isAgg44 w,sizeOf44 w⟩) rfl (fvs_len _) r9 ?_
      refine O.bsl (cs := (fvs (Pl.got (OO ord) y (Pl.puts (OO ord) l)))) rfl rfl rfl ⟨underlying48,sizeOf44,zeroValue44,⟨_,typeInfo44,rfl⟩,rfl,by decide,by decide⟩ rfl (by decide) (by generalize (Pl.got (OO ord) y (Pl.puts (OO ord) l)) = o; cases o <;> kernel_rfl) ?_
      intro H12 M12
      have hs12 := M12.size
      replace hA := hA.fr (M12.fr nowhere) (fun _ _ _ _ => nw)
      replace mm0 := (M12.fr nowhere).keep mm0 nw
      replace hF35 := hF35.trans (M12.fr nowhere)
      have m5 : Rd H12 H9.size 0 (row EF [(Pl.got (OO ord) y (Pl.puts (OO ord) l))]) := M12.rd _ [] (by simp [row,EF])
      refine ⟨trivial,?_⟩
      refine O.appA (E := EF) (Y := [(Pl.got (OO ord) y (Pl.puts (OO ord) l))]) rfl rfl rfl ⟨underlying48,sizeOf44,zeroValue44,⟨_,typeInfo44,rfl⟩,rfl,by decide,by decide⟩ rfl hA rfl ⟨_,_,_,rfl,m5⟩ (Nat.succ_pos _) (by rw [hlo]; exact Nat.le_trans (Nat.mul_le_mul_left _ (Nat.le_of_ble_eq_true (n := _) (m := 4096) rfl)) (by simp only [List.length_cons,List.length_nil]; omega)) (by rw [hlo]; simp only [List.length_cons,List.length_nil]; omega) ?_
      intro v8 H13 hA13 hF13 hs13
      have hss13 := hF13.size
      rw [← eout] at hA13
      refine ⟨trivial,?_⟩
      refine O.asg rfl rfl rfl rfl rfl ?_
      refine Pl.fin [(3,_),(6,_),(7,_),(8,_),(10,_),(11,_),(12,_),(13,_),(18,_),(19,_),(20,_),(21,_),(33,_)] ⟨rfl,rfl,rfl,rfl,rfl,rfl,rfl,rfl,rfl,rfl,rfl,rfl,rfl,trivial⟩ ?_
      refine Go'.inBlock ?_
      refine Go'.region [(0,0),(1,0)] rfl ?_
      refine O.add (((j + 1 : Nat) : Int)) rfl rfl rfl rfl rfl rfl (by omega) (by omega) ?_
      refine O.mv rfl rfl rfl rfl rfl ?_
      refine Pl.fin [(3,_),(6,_),(7,_),(8,_),(10,_),(11,_),(12,_),(13,_),(18,_),(19,_),(20,_),(21,_),(33,_)] ⟨rfl,rfl,rfl,rfl,rfl,rfl,rfl,rfl,rfl,rfl,rfl,rfl,rfl,trivial⟩ ?_
      refine Go'.keep [(3,_),(6,_),(7,_),(8,_),(18,_),(19,_),(20,_)] ⟨rfl,rfl,rfl,rfl,rfl,rfl,rfl,trivial⟩ ?_
      refine Go'.inLoop ?_
      exact ih (j + 1,v8) H13 ⟨hlt,hF35.trans' hF13 (fun _ _ _ h => h) (fun b o hb hz => by have h1 := (hZ b hz).1; omega),fun b => Zo b ∨ (b = H12.size ∧ b < H13.size),hA13,fun b hb => hb.elim (fun h => ⟨(hZ b h).1,by have := (hZ b h).2; omega⟩) (fun h => ⟨by omega,h.2⟩)⟩ (by simp only; omega)
    · skip
      refine Go'.condT rfl ?_
      have hg : (Pl.got (OO ord) y (Pl.puts (OO ord) l)) = ath (Pl.puts (OO ord) l) ((Pl.pos (OO ord) y (Pl.puts (OO ord) l) : Nat) : Int) := by rw [Pl.got_some _ hfd,ath_nat]
      refine Go'.region [(0,0),(1,0),(2,2),(3,2)] rfl ?_
      refine O.mv rfl rfl rfl rfl rfl ?_
      refine O.mv rfl rfl rfl rfl rfl ?_
      refine O.call rfl rfl rfl call58 rfl (at_spec ((Pl.pos (OO ord) y (Pl.puts (OO ord) l) : Nat) : Int) (hM.fr hF35) (by omega)) ?_
      rintro _ H10 ⟨rfl,hF10⟩
      have hs10 := hF10.size
      replace hA := hA.fr hF10 (fun _ _ _ _ => nw)
      replace mm0 := hF10.keep mm0 nw
      replace hF35 := hF35.trans hF10
      replace m9 := hF10.wr m9
      rw [← hg,FVe]
      refine ⟨trivial,?_⟩
      refine O.st (vs := (fvs (Pl.got (OO ord) y (Pl.puts (OO ord) l)))) rfl rfl sizeOf44 rfl rfl rfl (fvs_len _) (fvs_ones _) m9 ?_
      intro H11 W11
      have hs11 := W11.size
      replace hA := hA.fr W11.fr (fun b o hb hb2 => nr (.inl (by have := hZ b hb2; omega)))
      replace mm0 := W11.fr.keep mm0 (nr (.inl (by omega)))
      replace hF35 := hF35.trans' W11.fr (fun _ _ _ h => h) (fun b o hb hz => by have h1 := hz.1; omega)
      have r11 : Rd H11 H7.size 0 (fvs (Pl.got (OO ord) y (Pl.puts (OO ord) l))) := W11.all
      refine ⟨trivial,?_⟩
      refine Pl.fin [(3,_),(6,_),(7,_),(8,_),(10,_),(11,_),(12,_),(13,_),(18,_),(19,_),(20,_),(21,_),(33,_)] ⟨rfl,rfl,rfl,rfl,rfl,rfl,rfl,rfl,rfl,rfl,rfl,rfl,rfl,trivial⟩ ?_
      refine Go'.region [(0,0),(1,1),(2,2),(3,2),(4,0)] rfl ?_
      refine O.mv rfl rfl rfl rfl rfl ?_
      refine O.lds rfl rfl rfl (fun w => ⟨isAgg44 w,sizeOf44 w⟩) rfl (fvs_len _) r11 ?_
      refine O.bsl (cs := (fvs (Pl.got (OO ord) y (Pl.puts (OO ord) l)))) rfl rfl rfl ⟨underlying48,sizeOf44,zeroValue44,⟨_,typeInfo44,rfl⟩,rfl,by decide,by decide⟩ rfl (by decide) (by generalize (Pl.got (OO ord) y (Pl.puts (OO ord) l)) = o; cases o <;> kernel_rfl) ?_
      intro H12 M12
      have hs12 := M12.size
      replace hA := hA.fr (M12.fr nowhere) (fun _ _ _ _ => nw)
      replace mm0 := (M12.fr nowhere).keep mm0 nw
      replace hF35 := hF35.trans (M12.fr nowhere)
      have m5 : Rd H12 H11.size 0 (row EF [(Pl.got (OO ord) y (Pl.puts (OO ord) l))]) := M12.rd _ [] (by simp [row,EF])
      refine ⟨trivial,?_⟩
      refine O.appA (E := EF) (Y := [(Pl.got (OO ord) y (Pl.puts (OO ord) l))]) rfl rfl rfl ⟨underlying48,sizeOf44,zeroValue44,⟨_,typeInfo44,rfl⟩,rfl,by decide,by decide⟩ rfl hA rfl ⟨_,_,_,rfl,m5⟩ (Nat.succ_pos _) (by rw [hlo]; exact Nat.le_trans (Nat.mul_le_mul_left _ (Nat.le_of_ble_eq_true (n := _) (m := 4096) rfl)) (by simp only [List.length_cons,List.length_nil]; omega)) (by rw [hlo]; simp only [List.length_cons,List.length_nil]; omega) ?_
      intro v8 H13 hA13 hF13 hs13
      have hss13 := hF13.size
      rw [← eout] at hA13
      refine ⟨trivial,?_⟩
      refine O.asg rfl rfl rfl rfl rfl ?_
      refine Pl.fin [(3,_),(6,_),(7,_),(8,_),(10,_),(11,_),(12,_),(13,_),(18,_),(19,_),(20,_),(21,_),(33,_)] ⟨rfl,rfl,rfl,rfl,rfl,rfl,rfl,rfl,rfl,rfl,rfl,rfl,rfl,trivial⟩ ?_
      refine Go'.inBlock ?_
      refine Go'.region [(0,0),(1,0)] rfl ?_
      refine O.add (((j + 1 : Nat) : Int)) rfl rfl rfl rfl rfl rfl (by omega) (by omega) ?_
      refine O.mv rfl rfl rfl rfl rfl ?_
      refine Pl.fin [(3,_),(6,_),(7,_),(8,_),(10,_),(11,_),(12,_),(13,_),(18,_),(19,_),(20,_),(21,_),(33,_)] ⟨rfl,rfl,rfl,rfl,rfl,rfl,rfl,rfl,rfl,rfl,rfl,rfl,rfl,trivial⟩ ?_
      refine Go'.keep [(3,_),(6,_),(7,_),(8,_),(18,_),(19,_),(20,_)] ⟨rfl,rfl,rfl,rfl,rfl,rfl,rfl,trivial⟩ ?_
      refine Go'.inLoop ?_
      exact ih (j + 1,v8) H13 ⟨hlt,hF35.trans' hF13 (fun _ _ _ h => h) (fun b o hb hz => by have h1 := (hZ b hz).1; omega),fun b => Zo b ∨ (b = H12.size ∧ b < H13.size),hA13,fun b hb => hb.elim (fun h => ⟨(hZ b h).1,by have := (hZ b h).2; omega⟩) (fun h => ⟨by omega,h.2⟩)⟩ (by simp only; omega)
  · skip
    have ejl : j = ks.length := by omega
    have eall : (ks.map (fun k => Pl.got (OO ord) k (Pl.puts (OO ord) l))).take j = (ks.map (fun k => Pl.got (OO ord) k (Pl.puts (OO ord) l))) := by rw [ejl]; exact List.take_of_length_le (by rw [List.length_map]; exact Nat.le_refl _)
    rw [eall] at hA
    refine Go'.region [(0,0)] rfl ?_
    refine O.cmp rfl rfl rfl rfl rfl rfl (lssF (by omega)) ?_
    refine Pl.fin [(3,_),(6,_),(7,_),(8,_),(18,_),(19,_),(20,_),(21,_)] ⟨rfl,rfl,rfl,rfl,rfl,rfl,rfl,rfl,trivial⟩ ?_
    refine Go'.seq ?_
    refine Go'.condF rfl ?_
    refine Go'.exit rfl ?_
    refine Go'.seq ?_
    refine Go'.region [(0,0),(1,0)] rfl ?_
    refine O.mv rfl rfl rfl rfl rfl ?_
    refine O.asg rfl rfl rfl rfl rfl ?_
    refine Pl.fin [(6,_)] ⟨rfl,trivial⟩ ?_
    refine Go'.ret (vs := [_]) func37 results37 ⟨rfl,trivial⟩ ?_
    exact ⟨hA.out,hF2⟩

theorem lawBGetHintMut_spec {B : World} {H : Mem} {d : Nat} {nl : Bool} {v u : Value} {ord : List Int} {l : List (Int × Int)} {va : Value} {ks : List (Int × Int)} (hd : d = 0 ∨ 2 ≤ d ∧ d ≤ 128) (ho : InS EN H v ord) (hol : ord.length ≤ 4294967296) (hi : InS EJ H u l) (hll : l.length ≤ 4294967296) (ha : InS EJ H va ks) (hal : ks.length ≤ 4294967296) :
    Fn Try.prog B 18 [.agg #[v,.int .i64 (d : Int),.bool nl],u,va] H (fun r H' => r = .bool true ∧ Fr nowhere H H') := by
  obtain ⟨a,c,hu⟩ := hi.len
  subst hu
  obtain ⟨av,mv,cv,hv⟩ := InS.form ho
  subst hv
  have hF : Fr nowhere H H := Fr.refl _ _
  have hP := PD_ok hd
  refine fn_of func18 rfl ntmps18 ?_
  refine (show Go' _ _ _ _ 20 [(0,_),(1,_),(2,_)] [.code _] _ from ?_)
  refine Go'.seq ?_
  refine Go'.region [(0,2),(1,0)] rfl ?_
  refine O.box rfl rfl rfl rfl ?_
  intro B1 MB1
  refine ⟨trivial,?_⟩
  have hsB1 := MB1.size
  replace hF := hF.trans (MB1.fr nowhere)
  have mm : Rd B1 H.size 0 [.slice av mv cv,.int .i64 (d : Int),.bool nl] := MB1.rd _ [] (by simp [Value.cells])
  have mm0 : cl B1 H.size 0 = some (.slice av mv cv) := mm 0 _ rfl
  have mm1 : cl B1 H.size (0 + 1) = some (.int .i64 (d : Int)) := mm 1 _ rfl
  refine O.asg rfl rfl rfl rfl rfl ?_
  refine Pl.fin [(1,_),(2,_),(3,_),(6,_)] ⟨rfl,rfl,rfl,rfl,trivial⟩ ?_
  refine Go'.seq ?_
  refine Go'.region [(0,1),(1,0),(2,0),(3,2),(4,0)] rfl ?_
  refine O.lds rfl rfl rfl (fun w => ⟨isAgg24 w,sizeOf24 w⟩) rfl rfl mm ?_
  refine O.mv rfl rfl rfl rfl rfl ?_
  refine O.mv rfl rfl rfl rfl rfl ?_
  refine O.call rfl rfl rfl call36 rfl (ibgethintmut_spec hd (ho.fr hF) hol (hi.fr hF) hll (ha.fr hF) hal) ?_
  rintro v1 H3 ⟨h1,hF3⟩
  replace hF := hF.trans hF3
  replace mm := hF3.rd mm (fun _ _ => nw)
  replace mm0 := hF3.keep mm0 nw
  replace mm1 := hF3.keep mm1 nw
  refine ⟨trivial,?_⟩
  refine O.asg rfl rfl rfl rfl rfl ?_
  refine Pl.fin [(1,_),(2,_),(3,_),(6,_),(7,_)] ⟨rfl,rfl,rfl,rfl,rfl,trivial⟩ ?_
  refine Go'.seq ?_
  refine Go'.region [(0,1),(1,0),(2,0),(3,2),(4,0)] rfl ?_
  refine O.lds rfl rfl rfl (fun w => ⟨isAgg24 w,sizeOf24 w⟩) rfl rfl mm ?_
  refine O.mv rfl rfl rfl rfl rfl ?_
  refine O.mv rfl rfl rfl rfl rfl ?_
  refine O.call rfl rfl rfl call37 rfl (sgget_spec (ho.fr hF) hol (hi.fr hF) hll (ha.fr hF) hal) ?_
  rintro v2 H4 ⟨h2,hF4⟩
  replace hF := hF.trans hF4
  replace mm := hF4.rd mm (fun _ _ => nw)
  replace mm0 := hF4.keep mm0 nw
  replace mm1 := hF4.keep mm1 nw
  refine ⟨trivial,?_⟩
  refine O.asg rfl rfl rfl rfl rfl ?_
  refine Pl.fin [(6,_),(7,_),(8,_)] ⟨rfl,rfl,rfl,trivial⟩ ?_
  refine Go'.seq ?_
  refine Go'.region [(0,0),(1,0),(2,2),(3,0)] rfl ?_
  refine O.mv rfl rfl rfl rfl rfl ?_
  refine O.mv rfl rfl rfl rfl rfl ?_
  refine O.callQ rfl rfl rfl call35 rfl (eqFounds_spec (h1.inS.fr hF4) h2.inS (by rw [List.length_map]; exact hal)) trivial ?_
  refine O.asg rfl rfl rfl rfl rfl ?_
  refine Pl.fin [(6,_)] ⟨rfl,trivial⟩ ?_
  refine Go'.ret (vs := [_]) func18 results18 ⟨rfl,trivial⟩ ?_
  exact ⟨rfl,hF⟩

theorem fnExactBGetHintMut {B : World} {H : Mem} {z : Int} {nl : Bool} {v u : Value} {ord : List Int} {l : List (Int × Int)} {va : Value} {ks : List (Int × Int)} (ho : InS EN H v ord) (hi : InS EJ H u l) (ha : InS EJ H va ks) :
    Fn Try.prog B 5 [.agg #[v,.int .i64 z,.bool nl],u,va] H (fun r H' => r = .bool true ∧ Fr nowhere H H') := by
  obtain ⟨a,c,hu⟩ := hi.len
  subst hu
  obtain ⟨av,mv,cv,hv⟩ := InS.form ho
  subst hv
  obtain ⟨aa,ca,ha0⟩ := ha.len
  subst ha0
  have hF : Fr nowhere H H := Fr.refl _ _
  refine fn_of func5 rfl ntmps5 ?_
  refine (show Go' _ _ _ _ 36 [(0,_),(1,_),(2,_)] [.code _] _ from ?_)
  refine Go'.seq ?_
  refine Go'.region [(0,2),(1,0)] rfl ?_
  refine O.box rfl rfl rfl rfl ?_
  intro B1 MB1
  refine ⟨trivial,?_⟩
  have hsB1 := MB1.size
  replace hF := hF.trans (MB1.fr nowhere)
  have mm : Rd B1 H.size 0 [.slice av mv cv,.int .i64 z,.bool nl] := MB1.rd _ [] (by simp [Value.cells])
  have mm0 : cl B1 H.size 0 = some (.slice av mv cv) := mm 0 _ rfl
  have mm1 : cl B1 H.size (0 + 1) = some (.int .i64 z) := mm 1 _ rfl
  refine O.asg rfl rfl rfl rfl rfl ?_
  refine Pl.fin [(1,_),(2,_),(3,_),(6,_)] ⟨rfl,rfl,rfl,rfl,trivial⟩ ?_
  refine Go'.seq ?_
  refine Go'.seq ?_
  cases hoz : decide (ord.length ≤ 2147483647)
  · skip
    refine Go'.region [(0,1),(1,2),(2,0),(3,0),(4,0),(5,0),(6,0),(7,0),(8,0),(9,0),(10,0),(11,0),(12,0)] rfl ?_
    refine O.lds rfl rfl rfl (fun w => ⟨isAgg24 w,sizeOf24 w⟩) rfl rfl mm ?_
    refine O.call rfl rfl rfl call11 rfl (zzFits1_spec (ho.fr hF) hoz) ?_
    rintro _ H1 ⟨rfl,hF1⟩
    replace hF := hF.trans hF1
    replace mm := hF1.rd mm (fun _ _ => nw)
    replace mm0 := hF1.keep mm0 nw
    replace mm1 := hF1.keep mm1 nw
    refine ⟨trivial,?_⟩
    refine O.not rfl rfl rfl rfl rfl ?_
    refine O.mv rfl rfl rfl rfl rfl ?_
    refine Pl.pass rfl rfl rfl rfl ?_
    refine Pl.pass rfl rfl rfl rfl ?_
    refine Pl.pass rfl rfl rfl rfl ?_
    refine O.pick rfl rfl rfl rfl rfl rfl ?_
    refine O.mv rfl rfl rfl rfl rfl ?_
    refine Pl.pass rfl rfl rfl rfl ?_
    refine Pl.pass rfl rfl rfl rfl ?_
    refine Pl.pass rfl rfl rfl rfl ?_
    refine O.pick rfl rfl rfl rfl rfl rfl ?_
    refine Pl.fin [(1,_),(2,_),(3,_),(6,_),(19,_)] ⟨rfl,rfl,rfl,rfl,rfl,trivial⟩ ?_
    refine Go'.condT rfl ?_
    refine Go'.seq ?_
    refine Go'.region [(0,0)] rfl ?_
    refine O.asg rfl rfl rfl rfl rfl ?_
    refine Pl.fin [(1,_),(2,_),(3,_),(6,_)] ⟨rfl,rfl,rfl,rfl,trivial⟩ ?_
    refine Go'.ret (vs := [_]) func5 results5 ⟨rfl,trivial⟩ ?_
    exact ⟨rfl,hF⟩
  · skip
    have hoz2 := of_decide_eq_true hoz
    by_cases hb_lenl : (2147483647 : Int) < (l.length : Int)
    · skip
      refine Go'.region [(0,1),(1,2),(2,0),(3,0),(4,0),(5,0),(6,0),(7,0),(8,0),(9,0),(10,0),(11,0),(12,0)] rfl ?_
      refine O.lds rfl rfl rfl (fun w => ⟨isAgg24 w,sizeOf24 w⟩) rfl rfl mm ?_
      refine O.call rfl rfl rfl call11 rfl (zzFits1_spec (ho.fr hF) hoz) ?_
      rintro _ H1 ⟨rfl,hF1⟩
      replace hF := hF.trans hF1
      replace mm := hF1.rd mm (fun _ _ => nw)
      replace mm0 := hF1.keep mm0 nw
      replace mm1 := hF1.keep mm1 nw
      refine ⟨trivial,?_⟩
      refine O.not rfl rfl rfl rfl rfl ?_
      refine O.mv rfl rfl rfl rfl rfl ?_
      refine O.mv rfl rfl rfl rfl rfl ?_
      refine O.len rfl rfl rfl rfl underlying25 rfl ?_
      refine O.cmp rfl rfl rfl rfl rfl rfl (gtrT (by omega)) ?_
      refine O.pick rfl rfl rfl rfl rfl rfl ?_
      refine O.mv rfl rfl rfl rfl rfl ?_
      refine Pl.pass rfl rfl rfl rfl ?_
      refine Pl.pass rfl rfl rfl rfl ?_
      refine Pl.pass rfl rfl rfl rfl ?_
      refine O.pick rfl rfl rfl rfl rfl rfl ?_
      refine Pl.fin [(1,_),(2,_),(3,_),(6,_),(19,_)] ⟨rfl,rfl,rfl,rfl,rfl,trivial⟩ ?_
      refine Go'.condT rfl ?_
      refine Go'.seq ?_
      refine Go'.region [(0,0)] rfl ?_
      refine O.asg rfl rfl rfl rfl rfl ?_
      refine Pl.fin [(1,_),(2,_),(3,_),(6,_)] ⟨rfl,rfl,rfl,rfl,trivial⟩ ?_
      refine Go'.ret (vs := [_]) func5 results5 ⟨rfl,trivial⟩ ?_
      exact ⟨rfl,hF⟩
    · skip
      by_cases hb_lenkeys : (2147483647 : Int) < (ks.length : Int)
      · skip
        refine Go'.region [(0,1),(1,2),(2,0),(3,0),(4,0),(5,0),(6,0),(7,0),(8,0),(9,0),(10,0),(11,0),(12,0)] rfl ?_
        refine O.lds rfl rfl rfl (fun w => ⟨isAgg24 w,sizeOf24 w⟩) rfl rfl mm ?_
        refine O.call rfl rfl rfl call11 rfl (zzFits1_spec (ho.fr hF) hoz) ?_
        rintro _ H1 ⟨rfl,hF1⟩
        replace hF := hF.trans hF1
        replace mm := hF1.rd mm (fun _ _ => nw)
        replace mm0 := hF1.keep mm0 nw
        replace mm1 := hF1.keep mm1 nw
        refine ⟨trivial,?_⟩
        refine O.not rfl rfl rfl rfl rfl ?_
        refine O.mv rfl rfl rfl rfl rfl ?_
        refine O.mv rfl rfl rfl rfl rfl ?_
        refine O.len rfl rfl rfl rfl underlying25 rfl ?_
        refine O.cmp rfl rfl rfl rfl rfl rfl (gtrF (by omega)) ?_
        refine O.pick rfl rfl rfl rfl rfl rfl ?_
        refine O.mv rfl rfl rfl rfl rfl ?_
        refine O.mv rfl rfl rfl rfl rfl ?_
        refine O.len rfl rfl rfl rfl underlying25 rfl ?_
        refine O.cmp rfl rfl rfl rfl rfl rfl (gtrT (by omega)) ?_
        refine O.pick rfl rfl rfl rfl rfl rfl ?_
        refine Pl.fin [(1,_),(2,_),(3,_),(6,_),(19,_)] ⟨rfl,rfl,rfl,rfl,rfl,trivial⟩ ?_
        refine Go'.condT rfl ?_
        refine Go'.seq ?_
        refine Go'.region [(0,0)] rfl ?_
        refine O.asg rfl rfl rfl rfl rfl ?_
        refine Pl.fin [(1,_),(2,_),(3,_),(6,_)] ⟨rfl,rfl,rfl,rfl,trivial⟩ ?_
        refine Go'.ret (vs := [_]) func5 results5 ⟨rfl,trivial⟩ ?_
        exact ⟨rfl,hF⟩
      · skip
        refine Go'.region [(0,1),(1,2),(2,0),(3,0),(4,0),(5,0),(6,0),(7,0),(8,0),(9,0),(10,0),(11,0),(12,0)] rfl ?_
        refine O.lds rfl rfl rfl (fun w => ⟨isAgg24 w,sizeOf24 w⟩) rfl rfl mm ?_
        refine O.call rfl rfl rfl call11 rfl (zzFits1_spec (ho.fr hF) hoz) ?_
        rintro _ H1 ⟨rfl,hF1⟩
        replace hF := hF.trans hF1
        replace mm := hF1.rd mm (fun _ _ => nw)
        replace mm0 := hF1.keep mm0 nw
        replace mm1 := hF1.keep mm1 nw
        refine ⟨trivial,?_⟩
        refine O.not rfl rfl rfl rfl rfl ?_
        refine O.mv rfl rfl rfl rfl rfl ?_
        refine O.mv rfl rfl rfl rfl rfl ?_
        refine O.len rfl rfl rfl rfl underlying25 rfl ?_
        refine O.cmp rfl rfl rfl rfl rfl rfl (gtrF (by omega)) ?_
        refine O.pick rfl rfl rfl rfl rfl rfl ?_
        refine O.mv rfl rfl rfl rfl rfl ?_
        refine O.mv rfl rfl rfl rfl rfl ?_
        refine O.len rfl rfl rfl rfl underlying25 rfl ?_
        refine O.cmp rfl rfl rfl rfl rfl rfl (gtrF (by omega)) ?_
        refine O.pick rfl rfl rfl rfl rfl rfl ?_
        refine Pl.fin [(1,_),(2,_),(3,_),(6,_),(19,_)] ⟨rfl,rfl,rfl,rfl,rfl,trivial⟩ ?_
        refine Go'.condF rfl ?_
        refine Go'.skip ?_
        refine Go'.seq ?_
        cases hfz : fitsb z
        · skip
          refine Go'.region [(0,2),(1,2),(2,2),(3,2),(4,0),(5,0),(6,1),(7,2),(8,0),(9,0),(10,1),(11,0),(12,0),(13,2),(14,0),(15,0),(16,0)] rfl ?_
          refine O.call rfl rfl rfl call13 rfl exMake_spec ?_
          rintro _ H2 ⟨rfl,hF2⟩
          replace hF := hF.trans hF2
          replace mm := hF2.rd mm (fun _ _ => nw)
          replace mm0 := hF2.keep mm0 nw
          replace mm1 := hF2.keep mm1 nw
          refine ⟨trivial,?_⟩
          refine O.call rfl rfl rfl call14 rfl exItems_spec ?_
          rintro ev H3 ⟨hev,hF3⟩
          replace hF := hF.trans hF3
          replace mm := hF3.rd mm (fun _ _ => nw)
          replace mm0 := hF3.keep mm0 nw
          replace mm1 := hF3.keep mm1 nw
          refine ⟨trivial,?_⟩
          refine O.call rfl rfl rfl call19 rfl exKeys_spec ?_
          rintro pv H4 ⟨hpv,hF4⟩
          replace hF := hF.trans hF4
          replace mm := hF4.rd mm (fun _ _ => nw)
          replace mm0 := hF4.keep mm0 nw
          replace mm1 := hF4.keep mm1 nw
          replace hev := hev.fr hF4
          refine ⟨trivial,?_⟩
          refine O.call rfl rfl rfl call18 rfl (lawBGetHintMut_spec (d := 2) (by decide) (InS.nil EN _) (by decide) hev (by decide) hpv (by decide)) ?_
          rintro _ H5 ⟨rfl,hF5⟩
          replace hF := hF.trans hF5
          replace mm := hF5.rd mm (fun _ _ => nw)
          replace mm0 := hF5.keep mm0 nw
          replace mm1 := hF5.keep mm1 nw
          refine ⟨trivial,?_⟩
          refine O.mv rfl rfl rfl rfl rfl ?_
          refine O.fa0 (off := 1) rfl rfl rfl rfl ⟨_,_,_,underlying24,rfl,rfl,sizeOf3⟩ rfl ?_
          refine O.ld rfl rfl rfl (fun w => ⟨isAgg3 w,sizeOf3 w⟩) rfl mm1 ?_
          refine O.callQ rfl rfl rfl call15 rfl (fits_spec' hfz) trivial ?_
          refine O.not rfl rfl rfl rfl rfl ?_
          refine O.mv rfl rfl rfl rfl rfl ?_
          refine Pl.pass rfl rfl rfl rfl ?_
          refine Pl.pass rfl rfl rfl rfl ?_
          refine Pl.pass rfl rfl rfl rfl ?_
          refine Pl.pass2 rfl rfl rfl rfl trivial ?_
          refine O.pick rfl rfl rfl rfl rfl rfl ?_
          refine O.pick rfl rfl rfl rfl rfl rfl ?_
          refine O.asg rfl rfl rfl rfl rfl ?_
          refine Pl.fin [(6,_)] ⟨rfl,trivial⟩ ?_
          refine Go'.ret (vs := [_]) func5 results5 ⟨rfl,trivial⟩ ?_
          exact ⟨rfl,hF⟩
        · skip
          obtain ⟨d,rfl,hd⟩ := fitsb_nat hfz
          refine Go'.region [(0,2),(1,2),(2,2),(3,2),(4,0),(5,0),(6,1),(7,2),(8,0),(9,0),(10,1),(11,0),(12,0),(13,2),(14,0),(15,0),(16,0)] rfl ?_
          refine O.call rfl rfl rfl call13 rfl exMake_spec ?_
          rintro _ H2 ⟨rfl,hF2⟩
          replace hF := hF.trans hF2
          replace mm := hF2.rd mm (fun _ _ => nw)
          replace mm0 := hF2.keep mm0 nw
          replace mm1 := hF2.keep mm1 nw
          refine ⟨trivial,?_⟩
          refine O.call rfl rfl rfl call14 rfl exItems_spec ?_
          rintro ev H3 ⟨hev,hF3⟩
          replace hF := hF.trans hF3
          replace mm := hF3.rd mm (fun _ _ => nw)
          replace mm0 := hF3.keep mm0 nw
          replace mm1 := hF3.keep mm1 nw
          refine ⟨trivial,?_⟩
          refine O.call rfl rfl rfl call19 rfl exKeys_spec ?_
          rintro pv H4 ⟨hpv,hF4⟩
          replace hF := hF.trans hF4
          replace mm := hF4.rd mm (fun _ _ => nw)
          replace mm0 := hF4.keep mm0 nw
          replace mm1 := hF4.keep mm1 nw
          replace hev := hev.fr hF4
          refine ⟨trivial,?_⟩
          refine O.call rfl rfl rfl call18 rfl (lawBGetHintMut_spec (d := 2) (by decide) (InS.nil EN _) (by decide) hev (by decide) hpv (by decide)) ?_
          rintro _ H5 ⟨rfl,hF5⟩
          replace hF := hF.trans hF5
          replace mm := hF5.rd mm (fun _ _ => nw)
          replace mm0 := hF5.keep mm0 nw
          replace mm1 := hF5.keep mm1 nw
          refine ⟨trivial,?_⟩
          refine O.mv rfl rfl rfl rfl rfl ?_
          refine O.fa0 (off := 1) rfl rfl rfl rfl ⟨_,_,_,underlying24,rfl,rfl,sizeOf3⟩ rfl ?_
          refine O.ld rfl rfl rfl (fun w => ⟨isAgg3 w,sizeOf3 w⟩) rfl mm1 ?_
          refine O.callQ rfl rfl rfl call15 rfl (fits_spec' hfz) trivial ?_
          refine O.not rfl rfl rfl rfl rfl ?_
          refine O.mv rfl rfl rfl rfl rfl ?_
          refine O.lds rfl rfl rfl (fun w => ⟨isAgg24 w,sizeOf24 w⟩) rfl rfl mm ?_
          refine O.mv rfl rfl rfl rfl rfl ?_
          refine O.mv rfl rfl rfl rfl rfl ?_
          refine O.call rfl rfl rfl call18 rfl (lawBGetHintMut_spec hd (ho.fr hF) (by omega) (hi.fr hF) (by omega) (ha.fr hF) (by omega)) ?_
          rintro _ H6 ⟨rfl,hF6⟩
          replace hF := hF.trans hF6
          replace mm := hF6.rd mm (fun _ _ => nw)
          replace mm0 := hF6.keep mm0 nw
          replace mm1 := hF6.keep mm1 nw
          refine ⟨trivial,?_⟩
          refine O.pick rfl rfl rfl rfl rfl rfl ?_
          refine O.pick rfl rfl rfl rfl rfl rfl ?_
          refine O.asg rfl rfl rfl rfl rfl ?_
          refine Pl.fin [(6,_)] ⟨rfl,trivial⟩ ?_
          refine Go'.ret (vs := [_]) func5 results5 ⟨rfl,trivial⟩ ?_
          exact ⟨rfl,hF⟩

end Go.Bt.FB
