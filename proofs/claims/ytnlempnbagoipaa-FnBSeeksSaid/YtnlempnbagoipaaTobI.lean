/- Contracts of functions of the program, proved by walking through their code. Conditions: those that each theorem names. -/
import Derived.Test.YtnlempnbagoipaaTobH
import Derived.Test.YtnlempnbagoipaaToRb
import Derived.Test.YtnlempnbagoipaaTobF
namespace Go.Bt.FB
open Go Go.Proofs Go.Proofs.Try
set_option maxRecDepth 20000
set_option maxHeartbeats 4000000
set_option linter.unusedVariables false
set_option linter.unusedSectionVars false

section
variable [Inhabited Cx]

theorem nodeP {H : Mem} {P : Ps} : ∀ {h : Nat} {t : Gt EA h},Gt.Good H P h t → ∃ kp : Option Addr,NodeM EA H (Gt.g h t) (Gt.X h t) (.pointer kp)
  | 0,(g,X),hg => ⟨none,hg.1⟩
  | h + 1,(g,X,K),hg => ⟨some ⟨g.cb,0,none⟩,hg.1⟩
theorem ncl_af : ∀ {h : Nat} {t : Gt EA h} {b o : Nat},ncl EA (Gt.g h t) b o → Gt.af h t b o
  | 0,(_,_),_,_,h => h
  | _ + 1,(_,_,_),_,_,h => .inl h
/-- What a search of the iterator leaves,with a hint. -/
def ItPH (H H' : Mem) (it tr : Nat) (mt : Bool) (Z : Nat → Prop) (r : Option ((h : Nat) × Gt EA h)) (l : List (Int × Int)) (hv : Value) (hz : Nat → Prop) (st : Option Nat) : Prop :=
  HintOk H' hv hz ∧ ∃ sk ast ae Z' fr kv,Itr H H' it tr mt (fun b => Z b ∨ hz b) sk ast ae Z' fr kv ∧ StI r l sk fr kv st ∧ ∀ b,Z' b → Z b ∨ H.size ≤ b
theorem ItPH.rebase {H H1 H' : Mem} {it tr : Nat} {mt : Bool} {Z : Nat → Prop} {r : Option ((h : Nat) × Gt EA h)} {l : List (Int × Int)} {hv : Value} {hz : Nat → Prop} {st : Option Nat} (hf : Fr nowhere H H1) (h : ItPH H1 H' it tr mt Z r l hv hz st) : ItPH H H' it tr mt Z r l hv hz st := by
  obtain ⟨hk,sk,ast,ae,Z',fr,kv,hI,hs,hZ⟩ := h
  have := hf.size
  exact ⟨hk,sk,ast,ae,Z',fr,kv,{ hI with f := hf.trans' hI.f (fun _ _ _ h => h.elim) (fun _ _ _ h => h),zz := fun b hb => (hI.zz b hb).imp id (fun h => by omega) },hs,fun b hb => (hZ b hb).imp id (fun h => by omega)⟩

theorem iseek_spec {B : World} {H : Mem} {it tr : Nat} {mt sk sa se : Bool} {Z : Nat → Prop} {fr : List (Nat × Int)} {kv : Option (Int × Int)} {P : Ps} {S : Nat → Prop} {l : List (Int × Int)} {r : Option ((h : Nat) × Gt EA h)} (hP : PsOk P) (hI : Itr H H it tr mt Z sk sa se Z fr kv) (hT : TreeR H tr P S l r) (hsi : ¬ S it) (hsz : ∀ b,S b → ¬ Z b) (hsrt : Pl.Srt OI l) (x : Int × Int) {hv : Value} {hz : Nat → Prop} (hk : HintOk H hv hz) (hzS : ∀ b,hz b → ¬ S b) (hzi : ¬ hz it) (hzZ : ∀ b,Z b → ¬ hz b) :
    Fn Try.prog B 131 [.pointer (some ⟨it,0,none⟩),iv x,hv] H (fun v H' => v = .bool (decide (Pl.pos OI x l < l.length)) ∧ ItPH H H' it tr mt Z r l hv hz (if Pl.pos OI x l < l.length then some (Pl.pos OI x l) else none)) := by
  refine fn_of func131 rfl ntmps131 ?_
  refine (show Go' _ _ _ _ 124 [(0,_),(1,_),(2,_)] [.code _] _ from ?_)
  refine Go'.seq ?_
  refine Go'.region [(0,0)] rfl ?_
  refine O.asg rfl rfl rfl rfl rfl ?_
  refine Pl.fin [(0,_),(1,_),(2,_),(6,_)] ⟨rfl,rfl,rfl,rfl,trivial⟩ ?_
  refine Go'.seq ?_
  refine Go'.seq ?_
  have hx255 := hP.hx
  have hK : ∀ H',Fr (fun b _ => b = it ∨ (Z b ∨ hz b)) H H' → TreeR H' tr P S l r := fun H' hf => hT.keep hf fun b o hs h => h.elim (fun e => hsi (e ▸ hs)) (fun h => h.elim (hsz b hs) (fun h => hzS b h hs))
  have hll := hT.ll
  have hzl : ∀ b,hz b → b < H.size := fun b hb => (hk.base b hb).2
  replace hI : Itr H H it tr mt (fun b => Z b ∨ hz b) sk sa se Z fr kv := { hI with f := Fr.refl _ _,zz := fun b hb => .inl (.inl hb) }
  refine Go'.region [(0,0),(1,0),(2,0),(3,1),(4,0)] rfl ?_
  refine O.mv rfl rfl rfl rfl rfl ?_
  refine O.nc rfl rfl rfl rfl rfl ?_
  refine O.faz rfl rfl rfl rfl ⟨_,_,_,underlying102,rfl,rfl,sizeOf95⟩ rfl ?_
  refine O.ld rfl rfl rfl (fun w => ⟨isAgg95 w,sizeOf95 w⟩) rfl hI.c0 ?_
  refine O.isNil rfl rfl rfl rfl underlying95 rfl rfl ?_
  refine Pl.fin [(0,_),(1,_),(2,_),(6,_),(15,_)] ⟨rfl,rfl,rfl,rfl,rfl,trivial⟩ ?_
  refine Go'.condF rfl ?_
  refine Go'.skip ?_
  refine Go'.seq ?_
  refine Go'.region [(0,0),(1,0),(2,0),(3,2)] rfl ?_
  refine O.mv rfl rfl rfl rfl rfl ?_
  refine O.nc rfl rfl rfl rfl rfl ?_
  refine O.fa0 (off := 3) rfl rfl rfl rfl ⟨_,_,_,underlying102,rfl,rfl,sizeOf4⟩ rfl ?_
  refine O.st rfl rfl sizeOf4 rfl rfl rfl rfl rfl (hI.w 3 (by decide)) ?_
  intro Hc Wc
  replace hI := hI.set2 Wc
  replace hk := hk.fr Wc.fr (fun b o hb => nr (.inl (fun e => hzi (e ▸ hb))))
  have hsv0 := hI.st
  obtain ⟨sv,hsv,hA⟩ := hsv0
  refine ⟨trivial,?_⟩
  refine Pl.fin [(0,_),(1,_),(2,_),(6,_)] ⟨rfl,rfl,rfl,rfl,trivial⟩ ?_
  refine Go'.seq ?_
  refine Go'.region [(0,0),(1,0),(2,0),(3,0),(4,1),(5,0),(6,0),(7,0),(8,2)] rfl ?_
  refine O.mv rfl rfl rfl rfl rfl ?_
  refine O.mv rfl rfl rfl rfl rfl ?_
  refine O.nc rfl rfl rfl rfl rfl ?_
  refine O.fa0 (off := 14) rfl rfl rfl rfl ⟨_,_,_,underlying102,rfl,rfl,sizeOf100⟩ rfl ?_
  refine O.ld rfl rfl rfl (fun w => ⟨isAgg100 w,sizeOf100 w⟩) rfl hsv ?_
  refine O.slcA (F := EK) (j := 0) rfl rfl rfl rfl underlying100 sizeOf98 rfl hA ⟨_,by rfl⟩ (Nat.zero_le _) ?_
  intro v1 hA1
  obtain ⟨a1,m1,c1,rfl⟩ := hA1.form
  refine O.nc rfl rfl rfl rfl rfl ?_
  refine O.fa0 (off := 14) rfl rfl rfl rfl ⟨_,_,_,underlying102,rfl,rfl,sizeOf100⟩ rfl ?_
  refine O.st rfl rfl sizeOf100 rfl rfl rfl rfl rfl (hI.w 14 (by decide)) ?_
  intro Hd Wd
  replace hI := hI.set5 (fr' := []) (by rw [List.take_zero] at hA1; exact hA1) Wd
  replace hk := hk.fr Wd.fr (fun b o hb => nr (.inl (fun e => hzi (e ▸ hb))))
  refine ⟨trivial,?_⟩
  refine Pl.fin [(0,_),(1,_),(2,_),(6,_)] ⟨rfl,rfl,rfl,rfl,trivial⟩ ?_
  refine Go'.seq ?_
  refine Go'.seq ?_
  have hR := hK _ hI.f
  rcases r with _ | ⟨h0,t0⟩
  · skip
    obtain ⟨rfl,hroot⟩ := hR.rt
    refine Go'.region [(0,0),(1,0),(2,0),(3,1),(4,0),(5,0),(6,1),(7,0)] rfl ?_
    refine O.mv rfl rfl rfl rfl rfl ?_
    refine O.nc rfl rfl rfl rfl rfl ?_
    refine O.faz rfl rfl rfl rfl ⟨_,_,_,underlying102,rfl,rfl,sizeOf95⟩ rfl ?_
    refine O.ld rfl rfl rfl (fun w => ⟨isAgg95 w,sizeOf95 w⟩) rfl hI.c0 ?_
    refine O.nc rfl rfl rfl rfl rfl ?_
    refine O.fa0 (off := 2) rfl rfl rfl rfl ⟨_,_,_,underlying138,rfl,rfl,sizeOf96⟩ rfl ?_
    refine O.ld rfl rfl rfl (fun w => ⟨isAgg96 w,sizeOf96 w⟩) rfl hroot ?_
    refine O.isNil rfl rfl rfl rfl underlying96 rfl rfl ?_
    refine Pl.fin [(0,_),(1,_),(2,_),(6,_),(34,_)] ⟨rfl,rfl,rfl,rfl,rfl,trivial⟩ ?_
    refine Go'.condT rfl ?_
    refine Go'.seq ?_
    refine Go'.region [(0,0)] rfl ?_
    refine O.asg rfl rfl rfl rfl rfl ?_
    refine Pl.fin [(0,_),(1,_),(2,_),(6,_)] ⟨rfl,rfl,rfl,rfl,trivial⟩ ?_
    refine Go'.ret (vs := [_]) func131 results131 ⟨rfl,trivial⟩ ?_
    exact ⟨rfl,hk,_,_,_,_,_,_,hI,rfl,fun b hb => .inl hb⟩
  · skip
    obtain ⟨hg,hx,hl,hroot,haf⟩ := hR.rt
    have hptr : cl _ tr 2 = some (.pointer (some ⟨Gt.p h0 t0,0,none⟩)) := hroot
    obtain ⟨kp,hN⟩ := hg.node
    have hn0 := hN.c0
    rw [hg.isoe] at hn0
    refine Go'.region [(0,0),(1,0),(2,0),(3,1),(4,0),(5,0),(6,1),(7,0)] rfl ?_
    refine O.mv rfl rfl rfl rfl rfl ?_
    refine O.nc rfl rfl rfl rfl rfl ?_
    refine O.faz rfl rfl rfl rfl ⟨_,_,_,underlying102,rfl,rfl,sizeOf95⟩ rfl ?_
    refine O.ld rfl rfl rfl (fun w => ⟨isAgg95 w,sizeOf95 w⟩) rfl hI.c0 ?_
    refine O.nc rfl rfl rfl rfl rfl ?_
    refine O.fa0 (off := 2) rfl rfl rfl rfl ⟨_,_,_,underlying138,rfl,rfl,sizeOf96⟩ rfl ?_
    refine O.ld rfl rfl rfl (fun w => ⟨isAgg96 w,sizeOf96 w⟩) rfl hptr ?_
    refine O.isNil rfl rfl rfl rfl underlying96 rfl rfl ?_
    refine Pl.fin [(0,_),(1,_),(2,_),(6,_),(34,_)] ⟨rfl,rfl,rfl,rfl,rfl,trivial⟩ ?_
    refine Go'.condF rfl ?_
    refine Go'.skip ?_
    refine Go'.seq ?_
    refine Go'.draw (fun _ => True) [(0,0),(1,0),(2,0),(3,1),(4,0),(5,0),(6,0),(7,1),(8,0),(9,0),(10,0),(11,0),(12,0),(13,1),(14,2),(15,0)] (by kernel_rfl) (by kernel_rfl) (trivial) ?_
    refine O.mv rfl rfl rfl rfl rfl ?_
    refine O.nc rfl rfl rfl rfl rfl ?_
    refine O.faz rfl rfl rfl rfl ⟨_,_,_,underlying102,rfl,rfl,sizeOf95⟩ rfl ?_
    refine O.ld rfl rfl rfl (fun w => ⟨isAgg95 w,sizeOf95 w⟩) rfl hI.c0 ?_
    refine O.mv rfl rfl rfl rfl rfl ?_
    refine O.nc rfl rfl rfl rfl rfl ?_
    refine O.faz rfl rfl rfl rfl ⟨_,_,_,underlying102,rfl,rfl,sizeOf95⟩ rfl ?_
    refine O.ld rfl rfl rfl (fun w => ⟨isAgg95 w,sizeOf95 w⟩) rfl hI.c0 ?_
    refine O.nc rfl rfl rfl rfl rfl ?_
    refine O.fa0 (off := 2) rfl rfl rfl rfl ⟨_,_,_,underlying138,rfl,rfl,sizeOf96⟩ rfl ?_
    refine O.mv rfl rfl rfl rfl rfl ?_
    refine O.nc rfl rfl rfl rfl rfl ?_
    refine O.fa0 (off := 1) rfl rfl rfl rfl ⟨_,_,_,underlying102,rfl,rfl,sizeOf4⟩ rfl ?_
    refine O.ld rfl rfl rfl (fun w => ⟨isAgg4 w,sizeOf4 w⟩) rfl hI.c1 ?_
    refine O.callQ rfl rfl rfl call114 rfl (isoLoad_spec mt hroot hn0 hR.iso) trivial ?_
    refine O.asg rfl rfl rfl rfl rfl ?_
    refine Pl.fin [(0,_),(1,_),(2,_),(6,_),(7,_)] ⟨rfl,rfl,rfl,rfl,rfl,trivial⟩ ?_
    refine Go'.seq ?_
    unfold ptr
    have hC := Ctx.root t0
    have hQ : Pl.Srt OI (Gt.L h0 t0) ∧ Pl.pos OI x l = 0 + Pl.pos OI x (Gt.L h0 t0) := by rw [hl,Nat.zero_add]; exact ⟨hsrt,rfl⟩
    clear hR hg hx hl hroot haf hptr hN hn0
    refine Go'.region [(0,0)] rfl ?_
    refine O.asg rfl rfl rfl rfl rfl ?_
    refine Pl.fin [(0,_),(1,_),(2,_),(6,_),(7,_),(8,_)] ⟨rfl,rfl,rfl,rfl,rfl,rfl,trivial⟩ ?_
    refine Go'.block ?_
    refine Go'.loop ?_
    refine Go'.keep [(0,_),(1,_),(2,_),(6,_),(7,_),(8,_)] ⟨rfl,rfl,rfl,rfl,rfl,rfl,trivial⟩ ?_
    refine Go'.ind (σ := ((h : Nat) × Gt EA h) × List (Nat × Int) × (Nat → Prop)) (fun s => s.1.1) (fun s H' => Itr H H' it tr mt (fun b => Z b ∨ hz b) true sa se s.2.2 s.2.1 kv ∧ HintOk H' hv hz ∧ (∀ b,s.2.2 b → Z b ∨ H.size ≤ b) ∧ ∃ a,Ctx t0 s.2.1 s.1.1 s.1.2 a ∧ Pl.Srt OI (Gt.L s.1.1 s.1.2) ∧ Pl.pos OI x l = a + Pl.pos OI x (Gt.L s.1.1 s.1.2))
      (fun s => [(0,.pointer (some ⟨it,0,none⟩)),(1,iv x),(2,hv),(6,.bool false),(7,.pointer (some ⟨Gt.p s.1.1 s.1.2,0,none⟩)),(8,.int .i64 (s.2.1.length : Int))]) (⟨_,_⟩,_,_) ⟨hI,hk,fun b hb => .inl hb,_,hC,hQ⟩ rfl ?_
    clear hI hC hQ hk
    rintro ⟨⟨h1,s1⟩,fs1,Z1⟩ H1 ⟨hI,hk,hZn,a,hC,hs,hQ⟩ ih
    simp only at hI hC ih hZn
    replace hs : Pl.Srt OI (Gt.L h1 s1) := hs
    replace hQ : Pl.pos OI x l = a + Pl.pos OI x (Gt.L h1 s1) := hQ
    have hz1 : ∀ b,Z1 b → ¬ hz b := fun b hb hb2 => (hZn b hb).elim (fun h => hzZ b h hb2) (fun h => by have := hzl b hb2; omega)
    have hR := hK _ hI.f
    obtain ⟨hg,hx,hl,hroot,haf⟩ := hR.rt
    obtain ⟨hgd,hx1,hfl,haf1⟩ := Ctx.good hR.mn hg hx hC
    have hhi := Gt.high hR.mn hg hx
    rw [hl] at hhi
    obtain ⟨kp,hN⟩ := nodeP hgd
    have hxm := hgd.xmx
    have hsX : Pl.Srt OI (Gt.X h1 s1) := by
      rcases h1 with _ | h1
      · exact hs
      · obtain ⟨g,X,K⟩ := s1
        have hKl : K.length = X.length + 1 := hgd.2.2.2.2.2.1
        have hs' : Pl.Srt OI (Pl.inter X (K.map (Gt.L h1))) := hs
        have hle : X.length < (K.map (Gt.L h1)).length := by rw [List.length_map,hKl]; exact Nat.lt_succ_self _
        exact hs'.sublist (Pl.sublist_inter X _ hle)
    have hple := Pl.pos_le OI x (Gt.X h1 s1)
    have hplt : Pl.fnd OI x (Gt.X h1 s1) = true → Pl.pos OI x (Gt.X h1 s1) < (Gt.X h1 s1).length := Pl.fnd_pos_lt OI
    have hoff : ∀ b o,hz b → ¬ ncl EA (Gt.g h1 s1) b o := fun b o hb hn => hzS b hb (haf b o (haf1 b o (ncl_af hn)))
    refine (show Go' _ _ _ _ _ [(0,.pointer (some ⟨it,0,none⟩)),(1,iv x),(2,hv),(6,.bool false),(7,.pointer (some ⟨Gt.p h1 s1,0,none⟩)),(8,.int .i64 (fs1.length : Int))] _ _ from ?_)
    refine Go'.block ?_
    refine Go'.seq ?_
    refine Go'.region [(0,0),(1,0),(2,0),(3,1),(4,0),(5,0),(6,0),(7,0),(8,2),(9,0),(10,0),(11,0),(12,0),(13,0)] rfl ?_
    refine O.mv rfl rfl rfl rfl rfl ?_
    refine O.nc rfl rfl rfl rfl rfl ?_
    refine O.faz rfl rfl rfl rfl ⟨_,_,_,underlying102,rfl,rfl,sizeOf95⟩ rfl ?_
    refine O.ld rfl rfl rfl (fun w => ⟨isAgg95 w,sizeOf95 w⟩) rfl hI.c0 ?_
    refine O.mv rfl rfl rfl rfl rfl ?_
    refine O.mv rfl rfl rfl rfl rfl ?_
    refine O.mv rfl rfl rfl rfl rfl ?_
    refine O.mv rfl rfl rfl rfl rfl ?_
    refine O.call rfl rfl rfl call140 rfl (find_spec hR.tc x hN hsX (by omega) hx1 hk hoff (by omega)) ?_
    rintro _ H2 ⟨rfl,hFf,hkf⟩
    replace hI := hI.frH hFf (fun b h => .inl (.inr h)) hzi hz1
    clear hk
    have hk := hkf
    clear hkf
    refine ⟨trivial,?_⟩
    refine O.mv rfl rfl rfl rfl rfl ?_
    refine O.ext rfl rfl rfl rfl rfl rfl ?_
    refine O.ext rfl rfl rfl rfl rfl rfl ?_
    refine O.asg rfl rfl rfl rfl rfl ?_
    refine O.asg rfl rfl rfl rfl rfl ?_
    refine Pl.fin [(0,_),(1,_),(2,_),(6,_),(7,_),(8,_),(9,_),(10,_)] ⟨rfl,rfl,rfl,rfl,rfl,rfl,rfl,rfl,trivial⟩ ?_
    refine Go'.seq ?_
    have hfs9 : fs1.length ≤ 4294967296 := by omega
    clear hR hg hx hl hroot haf hgd hx1 hfl haf1 hN kp hhi hoff
    have hsv0 := hI.st
    obtain ⟨sv,hsv,hA⟩ := hsv0
    have hsz2 := hI.f.size
    refine Go'.region [(0,0),(1,0),(2,0),(3,0),(4,1),(5,0),(6,0),(7,0),(8,2),(9,2),(10,0),(11,0),(12,2)] rfl ?_
    refine O.mv rfl rfl rfl rfl rfl ?_
    refine O.mv rfl rfl rfl rfl rfl ?_
    refine O.nc rfl rfl rfl rfl rfl ?_
    refine O.fa0 (off := 14) rfl rfl rfl rfl ⟨_,_,_,underlying102,rfl,rfl,sizeOf100⟩ rfl ?_
    refine O.ld rfl rfl rfl (fun w => ⟨isAgg100 w,sizeOf100 w⟩) rfl hsv ?_
    refine O.mv rfl rfl rfl rfl rfl ?_
    refine O.mv rfl rfl rfl rfl rfl ?_
    refine O.bld (cs := (EK.enc (Gt.p h1 s1,(((Pl.pos OI x (Gt.X h1 s1) : Nat) : Int) : Int)))) rfl rfl rfl rfl (st98) rfl (by kernel_rfl) ?_
    refine O.bsl (cs := (EK.enc (Gt.p h1 s1,(((Pl.pos OI x (Gt.X h1 s1) : Nat) : Int) : Int)))) rfl rfl rfl ⟨underlying100,sizeOf98,zeroValue98,⟨_,typeInfo98,rfl⟩,rfl,by decide,by decide⟩ rfl (by decide) (by kernel_rfl) ?_
    intro H3 M3
    have hs3 := M3.size
    have hA3 := hA.fr (M3.fr nowhere) (fun _ _ _ _ => nw)
    have m3 : Rd H3 H2.size 0 (row EK [(Gt.p h1 s1,(((Pl.pos OI x (Gt.X h1 s1) : Nat) : Int) : Int))]) := M3.rd _ [] (by simp [row,EK])
    refine ⟨trivial,?_⟩
    refine O.appA (E := EK) (Y := [(Gt.p h1 s1,(((Pl.pos OI x (Gt.X h1 s1) : Nat) : Int) : Int))]) rfl rfl rfl ⟨underlying100,sizeOf98,zeroValue98,⟨_,typeInfo98,rfl⟩,rfl,by decide,by decide⟩ rfl hA3 rfl ⟨_,_,_,rfl,m3⟩ (Nat.succ_pos _) (Nat.le_trans (Nat.mul_le_mul_left _ (Nat.le_of_ble_eq_true (n := _) (m := 4096) rfl)) (by rw [List.length_reverse]; simp only [List.length_singleton]; omega)) (by rw [List.length_reverse]; simp only [List.length_singleton]; omega) ?_
    intro v4 H4 hA4 hF4 hs4
    obtain ⟨a4,m4,c4,rfl⟩ := hA4.form
    have hw4 : Wr H4 it 14 1 := hF4.wr ((M3.fr nowhere).wr (hI.w 14 (by decide)))
    refine ⟨trivial,?_⟩
    refine O.nc rfl rfl rfl rfl rfl ?_
    refine O.fa0 (off := 14) rfl rfl rfl rfl ⟨_,_,_,underlying102,rfl,rfl,sizeOf100⟩ rfl ?_
    refine O.st rfl rfl sizeOf100 rfl rfl rfl rfl rfl hw4 ?_
    intro H5 W5
    replace hI := hI.push (M3.fr nowhere) hF4 hA4 W5
    refine ⟨trivial,?_⟩
    refine Pl.fin [(0,_),(1,_),(2,_),(6,_),(7,_),(8,_),(9,_),(10,_)] ⟨rfl,rfl,rfl,rfl,rfl,rfl,rfl,rfl,trivial⟩ ?_
    refine Go'.seq ?_
    refine Go'.seq ?_
    replace hk := ((hk.fr (M3.fr nowhere) (fun _ _ _ => nw)).fr hF4 (fun b o hb h => hz1 b h hb)).fr W5.fr (fun b o hb => nr (.inl (fun e => hzi (e ▸ hb))))
    have hZn5 : ∀ b,(Z1 b ∨ (b = H3.size ∧ b < H4.size)) → Z b ∨ H.size ≤ b := fun b hb => hb.elim (hZn b) (fun h => .inr (by omega))
    have hR := hK _ hI.f
    obtain ⟨hg,hx,hl,hroot,haf⟩ := hR.rt
    obtain ⟨hgd,hx1,hfl,haf1⟩ := Ctx.good hR.mn hg hx hC
    obtain ⟨kp,hN⟩ := hgd.node
    have hhi := Gt.high hR.mn hg hx
    rw [hl] at hhi
    cases hfd : Pl.fnd OI x (Gt.X h1 s1)
    rotate_left
    · skip
      refine Go'.region [(0,0)] rfl ?_
      refine O.mv rfl rfl rfl rfl rfl ?_
      refine Pl.fin [(0,_),(1,_),(2,_),(6,_),(7,_),(8,_),(9,_),(10,_),(74,_)] ⟨rfl,rfl,rfl,rfl,rfl,rfl,rfl,rfl,rfl,trivial⟩ ?_
      refine Go'.condT rfl ?_
      refine Go'.seq ?_
      have hlt := hplt hfd
      obtain ⟨y,hy⟩ : ∃ y,(Gt.X h1 s1)[Pl.pos OI x (Gt.X h1 s1)]? = some y := ⟨_,List.getElem?_eq_getElem hlt⟩
      have hS : Stand t0 ((Gt.p h1 s1,((Pl.pos OI x (Gt.X h1 s1) : Nat) : Int)) :: fs1) (Pl.pos OI x l) ∧ l[Pl.pos OI x l]? = some y := by
        rcases h1 with _ | h1
        · obtain ⟨g,X⟩ := s1
          refine ⟨.inl ⟨fs1,g,X,a,_,rfl,hC,hlt,hQ⟩,?_⟩
          have := Ctx.item0 hR.mn hg hx hC hy
          rw [hl] at this
          rw [hQ]; exact this
        · obtain ⟨g,X,K⟩ := s1
          have hKl : K.length = X.length + 1 := hgd.2.2.2.2.2.1
          have hlt' : Pl.pos OI x X < X.length := hlt
          obtain ⟨k0,hk0⟩ : ∃ k,K[Pl.pos OI x X]? = some k := ⟨_,List.getElem?_eq_getElem (by omega)⟩
          have hkL : (K.map (Gt.L h1))[Pl.pos OI x X]? = some (Gt.L h1 k0) := by rw [List.getElem?_map,hk0]; rfl
          have hrk : Pl.pos OI x (Pl.inter X (K.map (Gt.L h1))) = Pl.bl (K.map (Gt.L h1)) (Pl.pos OI x X) + (Gt.L h1 k0).length := Pl.inter_rank_found hs (by rw [List.length_map]; exact hKl) hfd hkL
          have hQ' : Pl.pos OI x l = a + Pl.pos OI x (Pl.inter X (K.map (Gt.L h1))) := hQ
          rw [hrk] at hQ'
          refine ⟨.inr ⟨fs1,h1,g,X,K,a,Pl.pos OI x X,rfl,hC,hlt',by rw [Pl.bl_succ hkL]; omega⟩,?_⟩
          have := Ctx.item1 hR.mn hg hx hC hkL hy
          rw [hl] at this
          rw [hQ']; exact this
      obtain ⟨hS,hq⟩ := hS
      refine Go'.region [(0,0),(1,0),(2,0),(3,0),(4,1),(5,0),(6,0),(7,1),(8,0),(9,0),(10,2)] rfl ?_
      refine O.mv rfl rfl rfl rfl rfl ?_
      refine O.mv rfl rfl rfl rfl rfl ?_
      refine O.nc rfl rfl rfl rfl rfl ?_
      refine O.fa0 (off := 2) rfl rfl rfl rfl ⟨_,_,_,underlying144,rfl,rfl,sizeOf141⟩ rfl ?_
      refine O.ld rfl rfl rfl (fun w => ⟨isAgg141 w,sizeOf141 w⟩) rfl hN.c2 ?_
      refine O.mv rfl rfl rfl rfl rfl ?_
      refine O.ix (j := Pl.pos OI x (Gt.X h1 s1)) rfl rfl rfl rfl underlying141 sizeOf20 rfl rfl (by omega) hlt ?_
      refine O.ld rfl rfl rfl (fun w => ⟨isAgg20 w,sizeOf20 w⟩) rfl (((hN.sl.item hy)) 0 _ rfl) ?_
      refine O.nc rfl rfl rfl rfl rfl ?_
      refine O.fa0 (off := 15) rfl rfl rfl rfl ⟨_,_,_,underlying102,rfl,rfl,sizeOf20⟩ rfl ?_
      refine O.st (vs := (EA.enc y)) rfl rfl sizeOf20 rfl rfl rfl rfl rfl hI.wk ?_
      intro H9 W9
      have hI9 := hI.set6 (x := some y) W9
      replace hk := hk.fr W9.fr (fun b o hb => nr (.inl (fun e => hzi (e ▸ hb))))
      refine ⟨trivial,?_⟩
      refine Pl.fin [(0,_),(1,_),(2,_),(6,_),(7,_),(8,_),(9,_),(10,_),(74,_)] ⟨rfl,rfl,rfl,rfl,rfl,rfl,rfl,rfl,rfl,trivial⟩ ?_
      refine Go'.seq ?_
      refine Go'.region [(0,0)] rfl ?_
      refine O.asg rfl rfl rfl rfl rfl ?_
      refine Pl.fin [(0,_),(1,_),(2,_),(6,_),(7,_),(8,_),(9,_),(10,_),(74,_)] ⟨rfl,rfl,rfl,rfl,rfl,rfl,rfl,rfl,rfl,trivial⟩ ?_
      refine Go'.ret (vs := [_]) func131 results131 ⟨rfl,trivial⟩ ?_
      have hql : Pl.pos OI x l < l.length := (List.getElem?_eq_some_iff.1 hq).1
      exact ⟨congrArg Value.bool (decide_eq_true hql).symm,hk,_,_,_,_,_,_,hI9,by rw [if_pos hql]; exact ⟨rfl,hq,_,_,rfl,hS⟩,hZn5⟩
    · skip
      refine Go'.region [(0,0)] rfl ?_
      refine O.mv rfl rfl rfl rfl rfl ?_
      refine Pl.fin [(0,_),(1,_),(2,_),(6,_),(7,_),(8,_),(9,_),(10,_),(74,_)] ⟨rfl,rfl,rfl,rfl,rfl,rfl,rfl,rfl,rfl,trivial⟩ ?_
      refine Go'.condF rfl ?_
      refine Go'.skip ?_
      refine Go'.seq ?_
      refine Go'.seq ?_
      rcases h1 with _ | h1
      · skip
        obtain ⟨g,X⟩ := s1
        have hN : NodeM EA _ g X (.pointer none) := hgd.1
        have hfs : fs1.length ≤ 4294967296 := by omega
        have hple : Pl.pos OI x X ≤ X.length := hple
        have hxl : X.length ≤ P.mx := hxm
        replace hQ : Pl.pos OI x l = a + Pl.pos OI x X := hQ
        replace hI : Itr H H5 it tr mt _ true sa se _ ((g.p,((Pl.pos OI x X : Nat) : Int)) :: fs1) kv := hI
        obtain ⟨b,o,c,hTop⟩ := hI.top
        refine Go'.region [(0,0),(1,2)] rfl ?_
        refine O.mv rfl rfl rfl rfl rfl ?_
        refine O.callQ rfl rfl rfl call115 rfl (leaf_spec hN.c3) trivial ?_
        refine Pl.fin [(0,_),(1,_),(2,_),(6,_),(7,_),(8,_),(9,_),(10,_),(74,_),(86,_)] ⟨rfl,rfl,rfl,rfl,rfl,rfl,rfl,rfl,rfl,rfl,trivial⟩ ?_
        refine Go'.condT rfl ?_
        refine Go'.seq ?_
        refine Go'.draw (fun _ => True) [(0,0),(1,0),(2,0),(3,1),(4,0),(5,0),(6,0),(7,1),(8,0),(9,0),(10,0),(11,0),(12,1),(13,0),(14,0),(15,0),(16,3)] (by kernel_rfl) (by kernel_rfl) (trivial) ?_
        refine O.mv rfl rfl rfl rfl rfl ?_
        refine O.nc rfl rfl rfl rfl rfl ?_
        refine O.fa0 (off := 14) rfl rfl rfl rfl ⟨_,_,_,underlying102,rfl,rfl,sizeOf100⟩ rfl ?_
        refine O.ld rfl rfl rfl (fun w => ⟨isAgg100 w,sizeOf100 w⟩) rfl hTop.c5 ?_
        refine O.mv rfl rfl rfl rfl rfl ?_
        refine O.nc rfl rfl rfl rfl rfl ?_
        refine O.fa0 (off := 14) rfl rfl rfl rfl ⟨_,_,_,underlying102,rfl,rfl,sizeOf100⟩ rfl ?_
        refine O.ld rfl rfl rfl (fun w => ⟨isAgg100 w,sizeOf100 w⟩) rfl hTop.c5 ?_
        refine O.len rfl rfl rfl rfl underlying100 rfl ?_
        refine O.sub (((fs1.length : Nat) : Int)) rfl rfl rfl rfl rfl rfl (by omega) (by omega) ?_
        refine O.ix (j := fs1.length) rfl rfl rfl rfl underlying100 sizeOf98 rfl rfl (by omega) (by omega) ?_
        refine O.fa (off := 1) rfl rfl rfl rfl ⟨_,_,_,underlying98,rfl,rfl,sizeOf3⟩ rfl ?_
        refine O.ld rfl rfl rfl (fun w => ⟨isAgg3 w,sizeOf3 w⟩) rfl hTop.ci ?_
        refine O.sub (((Pl.pos OI x X : Nat) : Int) - 1) rfl rfl rfl rfl rfl rfl (by omega) (by omega) ?_
        refine O.ix (j := fs1.length) rfl rfl rfl rfl underlying100 sizeOf98 rfl rfl (by omega) (by omega) ?_
        refine O.fa (off := 1) rfl rfl rfl rfl ⟨_,_,_,underlying98,rfl,rfl,sizeOf3⟩ rfl ?_
        refine O.st3 rfl rfl sizeOf3 rfl rfl rfl rfl rfl hTop.wi ?_
        intro H6 W6
        have hbz : Z1 b ∨ (b = H3.size ∧ b < H4.size) := by
          obtain ⟨b1,o1,c1,h1,hzb,_,_⟩ := hI.stk
          have e := h1.symm.trans hTop.c5
          simp only [Option.some.injEq,Value.slice.injEq,Addr.mk.injEq] at e
          obtain ⟨⟨rfl,_,_⟩,_,_⟩ := e
          exact hzb
        obtain ⟨hI6,hTop6⟩ := hI.sti hTop W6
        replace hk := hk.fr W6.fr (fun b2 o2 hb2 => nr (.inl (fun e => hbz.elim (fun h => hz1 b h (e ▸ hb2)) (fun h => by have := hzl b2 hb2; omega))))
        have hsz9 : ∀ b,S b → ¬ (fun b => Z1 b ∨ (b = H3.size ∧ b < H4.size)) b := fun b hs hz => (hI.zz b hz).elim (fun h => h.elim (hsz b hs) (fun h => hzS b h hs)) (fun h => by have := hT.lt b hs; omega)
        have hG : Gap t0 ((g.p,((Pl.pos OI x X : Nat) : Int) - 1) :: fs1) (Pl.pos OI x l) := .inl ⟨fs1,g,X,a,Pl.pos OI x X,rfl,hC,hple,hQ⟩
        refine Pl.fin [(0,_),(1,_),(2,_),(6,_),(7,_),(8,_),(9,_),(10,_),(74,_),(86,_)] ⟨rfl,rfl,rfl,rfl,rfl,rfl,rfl,rfl,rfl,rfl,trivial⟩ ?_
        refine Go'.seq ?_
        refine Go'.region [(0,0),(1,2),(2,0)] rfl ?_
        refine O.mv rfl rfl rfl rfl rfl ?_
        refine O.call rfl rfl rfl call119 rfl (iNext_gen hI6.re (hK _ hI6.f) hsi hsz9 hG) ?_
        rintro _ H7 ⟨rfl,hp7⟩
        refine ⟨trivial,?_⟩
        refine O.asg rfl rfl rfl rfl rfl ?_
        refine Pl.fin [(0,_),(1,_),(2,_),(6,_),(7,_),(8,_),(9,_),(10,_),(74,_),(86,_)] ⟨rfl,rfl,rfl,rfl,rfl,rfl,rfl,rfl,rfl,rfl,trivial⟩ ?_
        refine Go'.ret (vs := [_]) func131 results131 ⟨rfl,trivial⟩ ?_
        obtain ⟨sk7,as7,ae7,Z7,fr7,kv7,hI7,hst7⟩ := hp7
        have hs67 := hI6.f.size
        exact ⟨rfl,hk.fr hI7.f (fun b2 o2 hb2 h => h.elim (fun e => hzi (e ▸ hb2)) (fun h => h.elim (fun h => hz1 b2 h hb2) (fun h => by have := hzl b2 hb2; omega))),sk7,as7,ae7,Z7,fr7,kv7,hI6.thru hI7,hst7,fun b hb => (hI7.zz b hb).elim (hZn5 b) (fun h => .inr (by omega))⟩
      · skip
        obtain ⟨g,X,K⟩ := s1
        have hin : Inn _ P h1 g X ((Gt.ps h1 K).map some) K := hgd.inn
        have hKl : K.length = X.length + 1 := hgd.2.2.2.2.2.1
        have hol : ((Gt.ps h1 K).map some).length = X.length + 1 := by rw [List.length_map,Gt.ps,List.length_map]; exact hKl
        have hKL : (K.map (Gt.L h1)).length = X.length + 1 := by rw [List.length_map]; exact hKl
        have hple : Pl.pos OI x X ≤ X.length := hple
        obtain ⟨k0,hk0⟩ : ∃ k,K[Pl.pos OI x X]? = some k := ⟨K[Pl.pos OI x X],List.getElem?_eq_getElem (by omega)⟩
        have hk0m : k0 ∈ K := List.mem_of_getElem? hk0
        have hok : ((Gt.ps h1 K).map some)[Pl.pos OI x X]? = some (some (Gt.p h1 k0)) := by rw [Gt.ps,List.map_map,List.getElem?_map,hk0]; rfl
        have hkL : (K.map (Gt.L h1))[Pl.pos OI x X]? = some (Gt.L h1 k0) := by rw [List.getElem?_map,hk0]; rfl
        have hkat := hin.k.at hok
        have hgk := (hin.c.1 k0 hk0m).1
        obtain ⟨kpk,hNk⟩ := hgk.node
        have hk00 := hNk.c0
        rw [hgk.isoe] at hk00
        have hs' : Pl.Srt OI (Pl.inter X (K.map (Gt.L h1))) := hs
        have hrk : Pl.pos OI x (Pl.inter X (K.map (Gt.L h1))) = Pl.bl (K.map (Gt.L h1)) (Pl.pos OI x X) + Pl.pos OI x (Gt.L h1 k0) := Pl.inter_rank_child hs' hKL hfd hkL
        have hsk := Pl.child_srt OI hs' hKL hfd hkL
        have hQ' : Pl.pos OI x l = a + Pl.pos OI x (Pl.inter X (K.map (Gt.L h1))) := hQ
        rw [hrk] at hQ'
        refine Go'.region [(0,0),(1,2)] rfl ?_
        refine O.mv rfl rfl rfl rfl rfl ?_
        refine O.callQ rfl rfl rfl call115 rfl (leaf_spec hin.n.c3) trivial ?_
        refine Pl.fin [(0,_),(1,_),(2,_),(6,_),(7,_),(8,_),(9,_),(10,_),(74,_),(86,_)] ⟨rfl,rfl,rfl,rfl,rfl,rfl,rfl,rfl,rfl,rfl,trivial⟩ ?_
        refine Go'.condF rfl ?_
        refine Go'.skip ?_
        refine Go'.seq ?_
        refine Go'.draw (fun _ => True) [(0,0),(1,0),(2,0),(3,1),(4,0),(5,0),(6,0),(7,1),(8,0),(9,1),(10,0),(11,0),(12,0),(13,0),(14,0),(15,1),(16,2),(17,0)] (by kernel_rfl) (by kernel_rfl) (trivial) ?_
        refine O.mv rfl rfl rfl rfl rfl ?_
        refine O.nc rfl rfl rfl rfl rfl ?_
        refine O.faz rfl rfl rfl rfl ⟨_,_,_,underlying102,rfl,rfl,sizeOf95⟩ rfl ?_
        refine O.ld rfl rfl rfl (fun w => ⟨isAgg95 w,sizeOf95 w⟩) rfl hI.c0 ?_
        refine O.mv rfl rfl rfl rfl rfl ?_
        refine O.nc rfl rfl rfl rfl rfl ?_
        refine O.fa0 (off := 3) rfl rfl rfl rfl ⟨_,_,_,underlying144,rfl,rfl,sizeOf142⟩ rfl ?_
        refine O.ld rfl rfl rfl (fun w => ⟨isAgg142 w,sizeOf142 w⟩) rfl hin.n.c3 ?_
        refine O.nc rfl rfl rfl rfl rfl ?_
        refine O.ld rfl rfl rfl (fun w => ⟨isAgg145 w,sizeOf145 w⟩) rfl hin.k.c ?_
        refine O.mv rfl rfl rfl rfl rfl ?_
        refine O.ix (j := Pl.pos OI x (Gt.X (h1 + 1) (g,X,K))) rfl rfl rfl rfl underlying145 sizeOf96 rfl rfl (by omega) (show Pl.pos OI x X < _ from by omega) ?_
        refine O.mv rfl rfl rfl rfl rfl ?_
        refine O.nc rfl rfl rfl rfl rfl ?_
        refine O.fa0 (off := 1) rfl rfl rfl rfl ⟨_,_,_,underlying102,rfl,rfl,sizeOf4⟩ rfl ?_
        refine O.ld rfl rfl rfl (fun w => ⟨isAgg4 w,sizeOf4 w⟩) rfl hI.c1 ?_
        refine O.callQ rfl rfl rfl call114 rfl (isoLoad_spec mt hkat hk00 hR.iso) trivial ?_
        refine O.asg rfl rfl rfl rfl rfl ?_
        refine Pl.fin [(0,_),(1,_),(2,_),(6,_),(7,_),(8,_),(9,_),(10,_),(74,_),(86,_)] ⟨rfl,rfl,rfl,rfl,rfl,rfl,rfl,rfl,rfl,rfl,trivial⟩ ?_
        unfold ptr
        refine Go'.region [(0,0),(1,0),(2,0)] rfl ?_
        refine O.mv rfl rfl rfl rfl rfl ?_
        refine O.add (((fs1.length + 1 : Nat) : Int)) rfl rfl rfl rfl rfl rfl (by omega) (by omega) ?_
        refine O.asg rfl rfl rfl rfl rfl ?_
        refine Pl.fin [(0,_),(1,_),(2,_),(6,_),(7,_),(8,_),(9,_),(10,_),(74,_),(86,_)] ⟨rfl,rfl,rfl,rfl,rfl,rfl,rfl,rfl,rfl,rfl,trivial⟩ ?_
        refine Go'.inBlock ?_
        refine Go'.keep [(0,_),(1,_),(2,_),(6,_),(7,_),(8,_)] ⟨rfl,rfl,rfl,rfl,rfl,rfl,trivial⟩ ?_
        refine Go'.inLoop ?_
        exact ih (⟨h1,k0⟩,_,_) _ ⟨hI,hk,hZn5,_,hC.down hk0,hsk,by show Pl.pos OI x l = a + Pl.bl (K.map (Gt.L h1)) (Pl.pos OI x X) + Pl.pos OI x (Gt.L h1 k0); omega⟩ (by simp only; omega)

theorem iSeekHint_spec {B : World} {H : Mem} {it tr : Nat} {mt sk sa se : Bool} {Z : Nat → Prop} {fr : List (Nat × Int)} {kv : Option (Int × Int)} {P : Ps} {S : Nat → Prop} {l : List (Int × Int)} {r : Option ((h : Nat) × Gt EA h)} (hP : PsOk P) (hI : Itr H H it tr mt Z sk sa se Z fr kv) (hT : TreeR H tr P S l r) (hsi : ¬ S it) (hsz : ∀ b,S b → ¬ Z b) (hsrt : Pl.Srt OI l) (x : Int × Int) {hv : Value} {hz : Nat → Prop} (hk : HintOk H hv hz) (hzS : ∀ b,hz b → ¬ S b) (hzi : ¬ hz it) (hzZ : ∀ b,Z b → ¬ hz b) :
    Fn Try.prog B 121 [.pointer (some ⟨it,0,none⟩),iv x,hv] H (fun v H' => v = .bool (decide (Pl.pos OI x l < l.length)) ∧ ItPH H H' it tr mt Z r l hv hz (if Pl.pos OI x l < l.length then some (Pl.pos OI x l) else none)) := by
  refine fn_of func121 rfl ntmps121 ?_
  refine (show Go' _ _ _ _ 11 [(0,_),(1,_),(2,_)] [.code _] _ from ?_)
  refine Go'.seq ?_
  have M0 := Mk0.mk' H
  replace hI := hI.box (M0.fr nowhere)
  replace hT := hT.keep (M0.fr nowhere) (fun _ _ _ => nw)
  refine Go'.region [(0,0)] rfl ?_
  refine O.asg rfl rfl rfl rfl rfl ?_
  refine Pl.fin [(0,_),(1,_),(2,_),(6,_)] ⟨rfl,rfl,rfl,rfl,trivial⟩ ?_
  refine Go'.seq ?_
  refine Go'.region [(0,0),(1,0),(2,0),(3,2),(4,0)] rfl ?_
  refine O.mv rfl rfl rfl rfl rfl ?_
  refine O.mv rfl rfl rfl rfl rfl ?_
  refine O.mv rfl rfl rfl rfl rfl ?_
  refine O.call rfl rfl rfl call131 rfl (iseek_spec hP hI hT hsi hsz hsrt x hk hzS hzi hzZ) ?_
  rintro _ H1 ⟨rfl,hp⟩
  refine ⟨trivial,?_⟩
  refine O.asg rfl rfl rfl rfl rfl ?_
  refine Pl.fin [(6,_)] ⟨rfl,trivial⟩ ?_
  refine Go'.ret (vs := [_]) func121 results121 ⟨rfl,trivial⟩ ?_
  exact ⟨rfl,hp.rebase (M0.fr nowhere)⟩

theorem iSeek_spec {B : World} {H : Mem} {it tr : Nat} {mt sk sa se : Bool} {Z : Nat → Prop} {fr : List (Nat × Int)} {kv : Option (Int × Int)} {P : Ps} {S : Nat → Prop} {l : List (Int × Int)} {r : Option ((h : Nat) × Gt EA h)} (hP : PsOk P) (hI : Itr H H it tr mt Z sk sa se Z fr kv) (hT : TreeR H tr P S l r) (hsi : ¬ S it) (hsz : ∀ b,S b → ¬ Z b) (hsrt : Pl.Srt OI l) (x : Int × Int) :
    Fn Try.prog B 105 [.pointer (some ⟨it,0,none⟩),iv x] H (fun v H' => v = .bool (decide (Pl.pos OI x l < l.length)) ∧ ItPH H H' it tr mt Z r l (.pointer none) (fun _ => False) (if Pl.pos OI x l < l.length then some (Pl.pos OI x l) else none)) := by
  have hk : HintOk H (.pointer none) (fun _ => False) := .inl ⟨rfl,fun _ h => h⟩
  refine fn_of func105 rfl ntmps105 ?_
  refine (show Go' _ _ _ _ 8 [(0,_),(1,_)] [.code _] _ from ?_)
  refine Go'.seq ?_
  have M0 := Mk0.mk' H
  replace hI := hI.box (M0.fr nowhere)
  replace hT := hT.keep (M0.fr nowhere) (fun _ _ _ => nw)
  refine Go'.region [(0,0)] rfl ?_
  refine O.asg rfl rfl rfl rfl rfl ?_
  refine Pl.fin [(0,_),(1,_),(4,_)] ⟨rfl,rfl,rfl,trivial⟩ ?_
  refine Go'.seq ?_
  refine Go'.region [(0,0),(1,0),(2,2),(3,0)] rfl ?_
  refine O.mv rfl rfl rfl rfl rfl ?_
  refine O.mv rfl rfl rfl rfl rfl ?_
  refine O.call rfl rfl rfl call131 rfl (iseek_spec hP hI hT hsi hsz hsrt x hk (fun _ h => h.elim) id (fun _ _ h => h)) ?_
  rintro _ H1 ⟨rfl,hp⟩
  refine ⟨trivial,?_⟩
  refine O.asg rfl rfl rfl rfl rfl ?_
  refine Pl.fin [(4,_)] ⟨rfl,trivial⟩ ?_
  refine Go'.ret (vs := [_]) func105 results105 ⟨rfl,trivial⟩ ?_
  exact ⟨rfl,hp.rebase (M0.fr nowhere)⟩

end
end Go.Bt.FB
namespace Go.Bt.FB
open Go Go.Proofs Go.Proofs.Try
set_option maxRecDepth 20000
set_option maxHeartbeats 4000000
set_option linter.unusedVariables false
set_option linter.unusedSectionVars false

variable [Inhabited Cx]

/-- What nodeSet wants: a tree in memory,the cell that points to it,a hint. -/
structure NPreH (H : Mem) (tr : Nat) (P : Ps) (h : Nat) (t : Gt EA h) (bp op : Nat) (hv : Value) (hz : Nat → Prop) (dp : Nat) : Prop where
  pre : NPre H tr P h t bp op
  x1 : 1 ≤ (Gt.X h t).length
  hk : HintOk H hv hz
  ho : ∀ b o,Gt.af h t b o → ¬ hz b
  dp : dp + h < 4611686018427387904
/-- What nodeSet does: as if the hint had been changed first. -/
def SetQH (H : Mem) (P : Ps) (h : Nat) (t : Gt EA h) (x : Int × Int) (hv : Value) (hz : Nat → Prop) (v : Value) (H' : Mem) : Prop :=
  HintOk H' hv hz ∧ ∃ Hm : Mem,Hm.size = H.size ∧ Fr (fun b _ => hz b) H Hm ∧ SetQ Hm P h t x v H'
theorem HintOk.cut {H H' : Mem} {hv : Value} {hz : Nat → Prop} {Z : Nat → Nat → Prop} (hk : HintOk H hv hz) (hF : Fr (fun b o => Z b o ∨ hz b) H H') : ∃ Hm : Mem,Hm.size = H.size ∧ Fr (fun b _ => hz b) H Hm ∧ Fr Z Hm H' := by
  rcases hk with ⟨_,h0⟩ | ⟨hb,_,h1,h2,_,_⟩
  · exact ⟨H,rfl,Fr.refl _ _,hF.mono fun b o _ h => h.elim id fun h => absurd h (h0 b)⟩
  · obtain ⟨Hm,e,f1,f2⟩ := Fr.split (Z := Z) h2 (hF.mono fun b o _ h => h.imp id (h1 b).1)
    exact ⟨Hm,e,f1.mono fun b _ _ h => (h1 b).2 h,f2⟩
theorem SetQH.mk {H H' : Mem} {P : Ps} {h : Nat} {t : Gt EA h} {x : Int × Int} {hv v : Value} {hz : Nat → Prop} {Z : Nat → Nat → Prop} (hk : HintOk H hv hz) (hF : Fr (fun b o => Z b o ∨ hz b) H H') (hk' : HintOk H' hv hz) (k : ∀ Hm : Mem,Hm.size = H.size → Fr Z Hm H' → SetQ Hm P h t x v H') : SetQH H P h t x hv hz v H' :=
  have ⟨Hm,e,f1,f2⟩ := hk.cut hF
  ⟨hk',Hm,e,f1,k Hm e f2⟩
theorem SetQ.uni {H : Mem} {P : Ps} {h : Nat} {t : Gt EA h} {x : Int × Int} {v : Value} {H' : Mem} (hq : SetQ H P h t x v H') : ∃ pv r sp,v = .tuple #[PV pv,.bool r,.bool sp] ∧
    ((sp = false ∧ ∃ t',pv = Pl.got OI x (Gt.L h t) ∧ r = Pl.fnd OI x (Gt.L h t) ∧ SetT OI H H' P h t t' x) ∨ (sp = true ∧ pv = none ∧ r = false ∧ Fr nowhere H H' ∧ (Gt.X h t).length = P.mx ∧ ¬ Gt.NF OI P x h t)) := by
  rcases hq with ⟨t',e,hs⟩ | ⟨e,hs⟩
  · exact ⟨_,_,_,e,.inl ⟨rfl,t',rfl,rfl,hs⟩⟩
  · exact ⟨_,_,_,e,.inr ⟨rfl,rfl,rfl,hs⟩⟩

theorem nset0 {B : World} {H : Mem} {tr bp op dp : Nat} {P : Ps} (hP : PsOk P) {x : Int × Int} {t : Gt EA 0} {hv : Value} {hz : Nat → Prop} (hp : NPreH H tr P 0 t bp op hv hz dp) :
    Fn Try.prog B 134 [.pointer (some ⟨tr,0,none⟩),.pointer (some ⟨bp,op,none⟩),iv x,hv,.int .i64 (dp : Int)] H (SetQH H P 0 t x hv hz) := by
  obtain ⟨g,X⟩ := t
  obtain ⟨⟨tc,hg,hc,hnt,hsX,hlen⟩,hx1,hk,ho,hdp⟩ := hp
  unfold ptr at hc
  replace hsX : Pl.Srt OI X := hsX
  replace hx1 : 1 ≤ X.length := hx1
  replace ho : ∀ b o,ncl EA g b o → ¬ hz b := ho
  have hN : NodeM EA H g X (.pointer none) := hg.1
  have hiso : g.iso = P.iso := hg.2.1
  have hcnt : g.cnt = X.length := hg.2.2.1
  have hxm : X.length ≤ P.mx := hg.2.2.2
  have hx255 := hP.hx
  have hlt : ∀ b o,ncl EA g b o → b < H.size := fun b o hb => NodeM.lt hN hb
  obtain ⟨hpl,hil⟩ := hN.cells
  obtain ⟨hn1,hn2⟩ := offB_node hN.ic hnt
  have hpi := hN.ne
  have htl : cx.base ≤ H.size := tc.hb
  have hzb := hk.base
  have hbpl := cl_lt hc
  have hk0 := hk
  replace hc : cl H bp op = some (.pointer (some ⟨g.p,0,none⟩)) := hc
  have hF : Fr nowhere H H := Fr.refl _ _
  refine fn_of func134 rfl ntmps134 ?_
  refine (show Go' _ _ _ _ 275 [(0,_),(1,_),(2,_),(3,_),(4,_)] [.code _] _ from ?_)
  refine Go'.seq ?_
  have M0 := Mk0.mk' H
  have hs0 := M0.size
  have M1 := Mk0.mk' H
  refine Go'.region [(0,0),(1,0),(2,0)] rfl ?_
  refine O.asg rfl rfl rfl rfl rfl ?_
  refine O.asg rfl rfl rfl rfl rfl ?_
  refine O.asg rfl rfl rfl rfl rfl ?_
  refine Pl.fin [(0,_),(1,_),(2,_),(3,_),(4,_),(10,_),(11,_),(12,_)] ⟨rfl,rfl,rfl,rfl,rfl,rfl,rfl,rfl,trivial⟩ ?_
  refine Go'.seq ?_
  refine Go'.seq ?_
  have hc0 := hN.c0
  rw [hiso] at hc0
  refine Go'.draw (fun _ => True) [(0,0),(1,0),(2,1),(3,0),(4,0),(5,1),(6,0),(7,0),(8,0),(9,1),(10,0)] (by kernel_rfl) (by kernel_rfl) (trivial) ?_
  refine O.mv rfl rfl rfl rfl rfl ?_
  refine O.nc rfl rfl rfl rfl rfl ?_
  refine O.ld rfl rfl rfl (fun w => ⟨isAgg96 w,sizeOf96 w⟩) rfl hc ?_
  refine O.nc rfl rfl rfl rfl rfl ?_
  refine O.faz rfl rfl rfl rfl ⟨_,_,_,underlying144,rfl,rfl,sizeOf135⟩ rfl ?_
  refine O.ld rfl rfl rfl (fun w => ⟨isAgg135 w,sizeOf135 w⟩) rfl hc0 ?_
  refine O.mv rfl rfl rfl rfl rfl ?_
  refine O.nc rfl rfl rfl rfl rfl ?_
  refine O.faz rfl rfl rfl rfl ⟨_,_,_,underlying138,rfl,rfl,sizeOf135⟩ rfl ?_
  refine O.ld rfl rfl rfl (fun w => ⟨isAgg135 w,sizeOf135 w⟩) rfl tc.iso ?_
  refine O.cmp rfl rfl rfl rfl rfl rfl (neqF (by omega)) ?_
  refine Pl.fin [(0,_),(1,_),(2,_),(3,_),(4,_),(10,_),(11,_),(12,_),(28,_)] ⟨rfl,rfl,rfl,rfl,rfl,rfl,rfl,rfl,rfl,trivial⟩ ?_
  refine Go'.condF rfl ?_
  refine Go'.skip ?_
  refine Go'.seq ?_
  refine Go'.region [(0,0),(1,0),(2,1),(3,2),(4,2)] rfl ?_
  refine O.mv rfl rfl rfl rfl rfl ?_
  refine O.nc rfl rfl rfl rfl rfl ?_
  refine O.ld rfl rfl rfl (fun w => ⟨isAgg96 w,sizeOf96 w⟩) rfl hc ?_
  refine O.alloc rfl rfl rfl zeroValue96 ?_
  intro H2 M2
  refine ⟨trivial,?_⟩
  have hs2 := M2.size
  replace hN := NodeM.fr EA hN (M2.fr nowhere) (fun _ _ _ => nw)
  replace tc := tc.fr (M2.fr nowhere) (fun _ _ _ _ => nw)
  replace hk := hk.fr (M2.fr nowhere) (fun _ _ _ => nw)
  replace hc := (M2.fr nowhere).keep hc nw
  replace hF := hF.trans' (M2.fr nowhere) (fun _ _ _ h => h) (fun _ _ _ h => h.elim)
  have m9w : Wr H2 H.size 0 1 := M2.wr 1 (by decide)
  refine O.st rfl rfl sizeOf96 rfl rfl rfl rfl rfl m9w ?_
  intro Ha W3
  have hsa := W3.size
  replace hN := NodeM.fr EA hN W3.fr (fun b o hb => nr (.inl (by have := hlt b o hb; omega)))
  replace tc := tc.fr W3.fr (fun b o hb _ => nr (.inl (by omega)))
  replace hc := W3.fr.keep hc (nr (.inl (by omega)))
  replace hk := hk.fr W3.fr (fun b o hb => nr (.inl (by have := (hzb b hb).2; omega)))
  replace hF := hF.trans' W3.fr (fun _ _ _ h => h) (fun b o hb h => by simp only [rng] at h; omega)
  have m9 : cl Ha H.size 0 = some (.pointer (some ⟨g.p,0,none⟩)) := W3.at
  clear hc0
  refine ⟨trivial,?_⟩
  refine Pl.fin [(0,_),(2,_),(3,_),(4,_),(10,_),(11,_),(12,_),(13,_)] ⟨rfl,rfl,rfl,rfl,rfl,rfl,rfl,rfl,trivial⟩ ?_
  refine Go'.seq ?_
  clear hc
  refine Go'.region [(0,0)] rfl ?_
  refine O.asg rfl rfl rfl rfl rfl ?_
  refine Pl.fin [(0,_),(2,_),(3,_),(4,_),(10,_),(11,_),(12,_),(13,_),(14,_)] ⟨rfl,rfl,rfl,rfl,rfl,rfl,rfl,rfl,rfl,trivial⟩ ?_
  refine Go'.seq ?_
  refine Go'.region [(0,0)] rfl ?_
  refine O.asg rfl rfl rfl rfl rfl ?_
  refine Pl.fin [(0,_),(2,_),(3,_),(4,_),(10,_),(11,_),(12,_),(13,_),(14,_),(15,_)] ⟨rfl,rfl,rfl,rfl,rfl,rfl,rfl,rfl,rfl,rfl,trivial⟩ ?_
  refine Go'.seq ?_
  refine Go'.seq ?_
  generalize hi : Pl.pos OI x X = i at *
  generalize hfb : Pl.fnd OI x X = fb at *
  refine Go'.share2 (σ := Unit) (fun _ H' => Fr (fun b _ => hz b) Ha H' ∧ HintOk H' hv hz) (fun _ => [(0,.pointer (some ⟨tr,0,none⟩)),(3,hv),(4,.int .i64 (dp : Int)),(2,iv x),(13,.pointer (some ⟨H.size,0,none⟩)),(14,.int .i64 ((i : Nat) : Int)),(15,.bool fb)]) ?_ ?_
  rotate_left
  · -- the search
    intro tail
    rcases hk with ⟨rfl,hz0⟩ | ⟨hb,rfl,hzq,hbl,hbb,hm⟩
    · skip
      refine Go'.region [(0,0),(1,0)] rfl ?_
      refine O.mv rfl rfl rfl rfl rfl ?_
      refine O.isNil rfl rfl rfl rfl underlying84 rfl rfl ?_
      refine Pl.fin [(0,_),(2,_),(3,_),(4,_),(10,_),(11,_),(12,_),(13,_),(14,_),(15,_),(40,_)] ⟨rfl,rfl,rfl,rfl,rfl,rfl,rfl,rfl,rfl,rfl,rfl,trivial⟩ ?_
      refine Go'.condT rfl ?_
      refine Go'.region [(0,0),(1,1),(2,0),(3,2),(4,0),(5,0),(6,0),(7,0),(8,0)] rfl ?_
      refine O.mv rfl rfl rfl rfl rfl ?_
      refine O.ld rfl rfl rfl (fun w => ⟨isAgg96 w,sizeOf96 w⟩) rfl m9 ?_
      refine O.mv rfl rfl rfl rfl rfl ?_
      refine O.call rfl rfl rfl call141 rfl (bsearch_spec tc x hN hsX (by omega)) ?_
      rintro _ H3 ⟨rfl,hF3⟩
      rw [hi,hfb]
      refine ⟨trivial,?_⟩
      refine O.mv rfl rfl rfl rfl rfl ?_
      refine O.ext rfl rfl rfl rfl rfl rfl ?_
      refine O.ext rfl rfl rfl rfl rfl rfl ?_
      refine O.asg rfl rfl rfl rfl rfl ?_
      refine O.asg rfl rfl rfl rfl rfl ?_
      refine Pl.fin [(0,_),(2,_),(3,_),(4,_),(10,_),(11,_),(12,_),(13,_),(14,_),(15,_)] ⟨rfl,rfl,rfl,rfl,rfl,rfl,rfl,rfl,rfl,rfl,trivial⟩ ?_
      refine Go'.keep [(0,_),(3,_),(4,_),(2,_),(13,_),(14,_),(15,_)] ⟨rfl,rfl,rfl,rfl,rfl,rfl,rfl,trivial⟩ ?_
      exact tail () H3 ⟨hF3.mono (fun _ _ _ h => h.elim),.inl ⟨rfl,hz0⟩⟩
    · skip
      refine Go'.region [(0,0),(1,0)] rfl ?_
      refine O.mv rfl rfl rfl rfl rfl ?_
      refine O.isNil rfl rfl rfl rfl underlying84 rfl rfl ?_
      refine Pl.fin [(0,_),(2,_),(3,_),(4,_),(10,_),(11,_),(12,_),(13,_),(14,_),(15,_),(40,_)] ⟨rfl,rfl,rfl,rfl,rfl,rfl,rfl,rfl,rfl,rfl,rfl,trivial⟩ ?_
      refine Go'.condF rfl ?_
      refine Go'.region [(0,0),(1,1),(2,0),(3,0),(4,0),(5,2),(6,0),(7,0),(8,0),(9,0),(10,0)] rfl ?_
      refine O.mv rfl rfl rfl rfl rfl ?_
      refine O.ld rfl rfl rfl (fun w => ⟨isAgg96 w,sizeOf96 w⟩) rfl m9 ?_
      refine O.mv rfl rfl rfl rfl rfl ?_
      refine O.mv rfl rfl rfl rfl rfl ?_
      refine O.mv rfl rfl rfl rfl rfl ?_
      refine O.call rfl rfl rfl call142 rfl (hintsearch_spec tc x hN hsX (by omega) hx1 hm hbl hbb (fun o ho2 => ho hb o (ho2) ((hzq hb).2 rfl)) (by omega)) ?_
      rintro _ H3 ⟨rfl,hF3,hm3⟩
      rw [hi,hfb]
      refine ⟨trivial,?_⟩
      refine O.mv rfl rfl rfl rfl rfl ?_
      refine O.ext rfl rfl rfl rfl rfl rfl ?_
      refine O.ext rfl rfl rfl rfl rfl rfl ?_
      refine O.asg rfl rfl rfl rfl rfl ?_
      refine O.asg rfl rfl rfl rfl rfl ?_
      refine Pl.fin [(0,_),(2,_),(3,_),(4,_),(10,_),(11,_),(12,_),(13,_),(14,_),(15,_)] ⟨rfl,rfl,rfl,rfl,rfl,rfl,rfl,rfl,rfl,rfl,trivial⟩ ?_
      refine Go'.keep [(0,_),(3,_),(4,_),(2,_),(13,_),(14,_),(15,_)] ⟨rfl,rfl,rfl,rfl,rfl,rfl,rfl,trivial⟩ ?_
      exact tail () H3 ⟨hF3.mono (fun b _ _ h => (hzq b).2 h),.inr ⟨hb,rfl,hzq,Nat.lt_of_lt_of_le hbl hF3.size,hbb,hm3⟩⟩
  clear hk
  rintro _ H3 ⟨hF3,hk⟩
  have hs3 := hF3.size
  replace hN := NodeM.fr EA hN hF3 (fun b o hb hz => ho b o hb hz)
  replace tc := tc.fr hF3 (fun b o hb _ hz => (hzb b hz).1 hb)
  replace m9 := hF3.keep m9 (fun hz => by have := (hzb _ hz).2; omega)
  replace hF : Fr (fun b _ => hz b) H H3 := hF.trans' hF3 (fun _ _ _ h => h.elim) (fun _ _ _ h => h)
  refine Go'.seq ?_
  refine Go'.seq ?_
  refine Go'.region [(0,0)] rfl ?_
  refine O.mv rfl rfl rfl rfl rfl ?_
  refine Pl.fin [(0,_),(2,_),(3,_),(4,_),(13,_),(14,_),(57,_)] ⟨rfl,rfl,rfl,rfl,rfl,rfl,rfl,trivial⟩ ?_
  cases fb
  rotate_left
  · -- found
    have hlt9 : ∀ b o,ncl EA g b o → b < H.size ∨ H.size < b := fun b o hb => .inl (hlt b o hb)
    obtain ⟨y,hy,_,_⟩ := Pl.fnd_at OI hsX hfb
    rw [hi] at hy
    have hlt' : i < X.length := (List.getElem?_eq_some_iff.1 hy).1
    refine Go'.condT rfl ?_
    refine Go'.seq ?_
    have W5 := Wrote.nil H3 H3.size 0
    have hs5 := W5.size
    replace hN := NodeM.fr EA hN W5.fr (fun b o hb => nr (.inl (by have := hlt b o hb; omega)))
    replace hk := hk.fr W5.fr (fun b o hb => nr (.inl (by have := (hzb b hb).2; omega)))
    refine Go'.region [(0,1),(1,0),(2,0),(3,1),(4,0),(5,0),(6,1),(7,0)] rfl ?_
    refine O.ld rfl rfl rfl (fun w => ⟨isAgg96 w,sizeOf96 w⟩) rfl m9 ?_
    refine O.nc rfl rfl rfl rfl rfl ?_
    refine O.fa0 (off := 2) rfl rfl rfl rfl ⟨_,_,_,underlying144,rfl,rfl,sizeOf141⟩ rfl ?_
    refine O.ld rfl rfl rfl (fun w => ⟨isAgg141 w,sizeOf141 w⟩) rfl hN.c2 ?_
    refine O.mv rfl rfl rfl rfl rfl ?_
    refine O.ix (j := i) rfl rfl rfl rfl underlying141 sizeOf20 rfl rfl (by omega) hlt' ?_
    refine O.ld rfl rfl rfl (fun w => ⟨isAgg20 w,sizeOf20 w⟩) rfl (((hN.sl.item hy)) 0 _ rfl) ?_
    refine O.asg rfl rfl rfl rfl rfl ?_
    refine Pl.fin [(0,_),(2,_),(3,_),(4,_),(10,_),(13,_),(14,_)] ⟨rfl,rfl,rfl,rfl,rfl,rfl,rfl,trivial⟩ ?_
    refine Go'.seq ?_
    refine Go'.region [(0,1),(1,0),(2,0),(3,1),(4,0),(5,0),(6,0),(7,2)] rfl ?_
    refine O.ld rfl rfl rfl (fun w => ⟨isAgg96 w,sizeOf96 w⟩) rfl m9 ?_
    refine O.nc rfl rfl rfl rfl rfl ?_
    refine O.fa0 (off := 2) rfl rfl rfl rfl ⟨_,_,_,underlying144,rfl,rfl,sizeOf141⟩ rfl ?_
    refine O.ld rfl rfl rfl (fun w => ⟨isAgg141 w,sizeOf141 w⟩) rfl hN.c2 ?_
    refine O.mv rfl rfl rfl rfl rfl ?_
    refine O.mv rfl rfl rfl rfl rfl ?_
    refine O.ix (j := i) rfl rfl rfl rfl underlying141 sizeOf20 rfl rfl (by omega) hlt' ?_
    refine O.st rfl rfl sizeOf20 rfl rfl rfl rfl rfl (hN.sl.wri hlt') ?_
    intro H4 W4
    have hs4 := W4.size
    replace hk := hk.fr W4.fr (fun b o hb0 h => ho b o (by have := W4.as_row.in_items hN (by rw [List.length_singleton]; omega) (by rw [row_one]; exact h); exact .inr this) hb0)
    replace hF : Fr (fun b o => ncl EA g b o ∨ hz b) H H4 := hF.trans' W4.fr (fun _ _ _ h => .inr h) (fun b o hb h => .inl (by have := W4.as_row.in_items hN (by rw [List.length_singleton]; omega) (by rw [row_one]; exact h); exact .inr this))
    replace hN := hN.set W4 hlt'
    refine ⟨trivial,?_⟩
    refine Pl.fin [(0,_),(2,_),(3,_),(4,_),(10,_),(13,_),(14,_)] ⟨rfl,rfl,rfl,rfl,rfl,rfl,rfl,trivial⟩ ?_
    refine Go'.seq ?_
    have W9 := Wrote.nil H4 H4.size 0
    have hs9 := W9.size
    replace hk := hk.fr W9.fr (fun b o hb => nr (.inl (by have := (hzb b hb).2; omega)))
    refine Go'.region [(0,0),(1,0),(2,0),(3,0)] rfl ?_
    refine O.mv rfl rfl rfl rfl rfl ?_
    refine O.asg rfl rfl rfl rfl rfl ?_
    refine O.asg rfl rfl rfl rfl rfl ?_
    refine O.asg rfl rfl rfl rfl rfl ?_
    refine Pl.fin [(0,_),(2,_),(3,_),(4,_),(10,_),(11,_),(12,_),(13,_),(14,_)] ⟨rfl,rfl,rfl,rfl,rfl,rfl,rfl,rfl,rfl,trivial⟩ ?_
    refine Go'.ret (vs := [_,_,_]) func134 results134 ⟨rfl,rfl,rfl,trivial⟩ ?_
    have hll : (X.take i ++ x :: X.drop (i + 1)).length = X.length := by simp only [List.length_append,List.length_take,List.length_cons,List.length_drop]; omega
    refine SetQH.mk hk0 hF hk fun Hm hsm hFm => .inl ⟨((g,X.take i ++ x :: X.drop (i + 1)) : Gt EA 0),?_,⟨hFm,⟨hN,hiso,hcnt.trans hll.symm,by rw [hll]; exact hxm⟩,rfl,fun b o hb => .inl hb,?_,Nat.le_of_eq hll.symm⟩⟩
    · show _ = Value.tuple #[PV (Pl.got OI x X),.bool (Pl.fnd OI x X),.bool false]
      rw [Pl.got_some OI hfb,hi,hy,hfb]; rfl
    · show _ = Pl.put OI x X
      unfold Pl.put; rw [hfb,hi]; rfl
  · -- not found
    have hle : i ≤ X.length := by rw [← hi]; exact Pl.pos_le OI x X
    refine Go'.condF rfl ?_
    refine Go'.skip ?_
    refine Go'.seq ?_
    refine Go'.seq ?_
    refine Go'.region [(0,1),(1,2)] rfl ?_
    refine O.ld rfl rfl rfl (fun w => ⟨isAgg96 w,sizeOf96 w⟩) rfl m9 ?_
    refine O.callQ rfl rfl rfl call115 rfl (leaf_spec hN.c3) trivial ?_
    refine Pl.fin [(0,_),(2,_),(3,_),(4,_),(13,_),(14,_),(74,_)] ⟨rfl,rfl,rfl,rfl,rfl,rfl,rfl,trivial⟩ ?_
    refine Go'.condT rfl ?_
    refine Go'.seq ?_
    refine Go'.seq ?_
    by_cases hful : X.length = P.mx
    · -- full
      refine Go'.draw (fun _ => True) [(0,1),(1,0),(2,0),(3,1),(4,0),(5,0),(6,0),(7,0),(8,1),(9,0)] (by kernel_rfl) (by kernel_rfl) (trivial) ?_
      refine O.ld rfl rfl rfl (fun w => ⟨isAgg96 w,sizeOf96 w⟩) rfl m9 ?_
      refine O.nc rfl rfl rfl rfl rfl ?_
      refine O.fa0 (off := 2) rfl rfl rfl rfl ⟨_,_,_,underlying144,rfl,rfl,sizeOf141⟩ rfl ?_
      refine O.ld rfl rfl rfl (fun w => ⟨isAgg141 w,sizeOf141 w⟩) rfl hN.c2 ?_
      refine O.len rfl rfl rfl rfl underlying141 rfl ?_
      refine O.mv rfl rfl rfl rfl rfl ?_
      refine O.nc rfl rfl rfl rfl rfl ?_
      refine O.fa0 (off := 8) rfl rfl rfl rfl ⟨_,_,_,underlying138,rfl,rfl,sizeOf3⟩ rfl ?_
      refine O.ld rfl rfl rfl (fun w => ⟨isAgg3 w,sizeOf3 w⟩) rfl tc.mx' ?_
      refine O.cmp rfl rfl rfl rfl rfl rfl (eqlT (by omega)) ?_
      refine Pl.fin [(0,_),(2,_),(3,_),(4,_),(13,_),(14,_),(84,_)] ⟨rfl,rfl,rfl,rfl,rfl,rfl,rfl,trivial⟩ ?_
      refine Go'.condT rfl ?_
      refine Go'.seq ?_
      have hlt9 : ∀ b o,ncl EA g b o → b < H.size ∨ H.size < b := fun b o hb => .inl (hlt b o hb)
      have W9 := Wrote.nil H3 H3.size 0
      have hs9 := W9.size
      replace hk := hk.fr W9.fr (fun b o hb => nr (.inl (by have := (hzb b hb).2; omega)))
      refine Go'.region [(0,0),(1,0),(2,0),(3,1),(4,0),(5,0),(6,0)] rfl ?_
      refine O.mv rfl rfl rfl rfl rfl ?_
      refine O.nc rfl rfl rfl rfl rfl ?_
      refine O.fa0 (off := 7) rfl rfl rfl rfl ⟨_,_,_,underlying138,rfl,rfl,sizeOf20⟩ rfl ?_
      refine O.ld rfl rfl rfl (fun w => ⟨isAgg20 w,sizeOf20 w⟩) rfl ((tc.emp) 0 _ rfl) ?_
      refine O.asg rfl rfl rfl rfl rfl ?_
      refine O.asg rfl rfl rfl rfl rfl ?_
      refine O.asg rfl rfl rfl rfl rfl ?_
      refine Pl.fin [(0,_),(2,_),(3,_),(4,_),(10,_),(11,_),(12,_),(13,_),(14,_)] ⟨rfl,rfl,rfl,rfl,rfl,rfl,rfl,rfl,rfl,trivial⟩ ?_
      refine Go'.ret (vs := [_,_,_]) func134 results134 ⟨rfl,rfl,rfl,trivial⟩ ?_
      exact SetQH.mk (Z := nowhere) hk0 (hF.mono fun _ _ _ h => .inr h) hk fun Hm hsm hFm => .inr ⟨rfl,hFm,hful,fun hh => by have hh2 : X.length < P.mx := hh; omega⟩
    · -- room
      refine Go'.draw (fun _ => True) [(0,1),(1,0),(2,0),(3,1),(4,0),(5,0),(6,0),(7,0),(8,1),(9,0)] (by kernel_rfl) (by kernel_rfl) (trivial) ?_
      refine O.ld rfl rfl rfl (fun w => ⟨isAgg96 w,sizeOf96 w⟩) rfl m9 ?_
      refine O.nc rfl rfl rfl rfl rfl ?_
      refine O.fa0 (off := 2) rfl rfl rfl rfl ⟨_,_,_,underlying144,rfl,rfl,sizeOf141⟩ rfl ?_
      refine O.ld rfl rfl rfl (fun w => ⟨isAgg141 w,sizeOf141 w⟩) rfl hN.c2 ?_
      refine O.len rfl rfl rfl rfl underlying141 rfl ?_
      refine O.mv rfl rfl rfl rfl rfl ?_
      refine O.nc rfl rfl rfl rfl rfl ?_
      refine O.fa0 (off := 8) rfl rfl rfl rfl ⟨_,_,_,underlying138,rfl,rfl,sizeOf3⟩ rfl ?_
      refine O.ld rfl rfl rfl (fun w => ⟨isAgg3 w,sizeOf3 w⟩) rfl tc.mx' ?_
      refine O.cmp rfl rfl rfl rfl rfl rfl (eqlF (by omega)) ?_
      refine Pl.fin [(0,_),(2,_),(3,_),(4,_),(13,_),(14,_),(84,_)] ⟨rfl,rfl,rfl,rfl,rfl,rfl,rfl,trivial⟩ ?_
      refine Go'.condF rfl ?_
      refine Go'.skip ?_
      refine Go'.seq ?_
      refine Go'.draw (fun H' => cl H' H.size 0 = some (.pointer (some ⟨g.p,0,none⟩)) ∧ cl H' g.p 2 = some (.slice (some ⟨g.ib,g.io,none⟩) X.length g.ic)) [(0,0),(1,0),(2,0),(3,0),(4,0),(5,0),(6,0),(7,0),(8,1),(9,2),(10,2),(11,0),(12,0),(13,3)] (by kernel_rfl) (by kernel_rfl) (⟨m9,hN.c2⟩) ?_
      refine O.ldC rfl rfl rfl (fun w => ⟨isAgg96 w,sizeOf96 w⟩) rfl (fun _ h => h.1) ?_
      refine O.ldC rfl rfl rfl (fun w => ⟨isAgg96 w,sizeOf96 w⟩) rfl (fun _ h => h.1) ?_
      refine O.nc rfl rfl rfl rfl rfl ?_
      refine O.fa0 (off := 2) rfl rfl rfl rfl ⟨_,_,_,underlying144,rfl,rfl,sizeOf141⟩ rfl ?_
      refine O.ldC rfl rfl rfl (fun w => ⟨isAgg141 w,sizeOf141 w⟩) rfl (fun _ h => h.2) ?_
      refine O.mv rfl rfl rfl rfl rfl ?_
      refine O.nc rfl rfl rfl rfl rfl ?_
      refine O.fa0 (off := 7) rfl rfl rfl rfl ⟨_,_,_,underlying138,rfl,rfl,sizeOf20⟩ rfl ?_
      refine O.ld rfl rfl rfl (fun w => ⟨isAgg20 w,sizeOf20 w⟩) rfl ((tc.emp) 0 _ rfl) ?_
      refine O.bsl (cs := [.nilIface]) rfl rfl rfl ⟨underlying141,sizeOf20,zeroValue20,⟨_,typeInfo20,rfl⟩,rfl,by decide,by decide⟩ rfl (by decide) (by kernel_rfl) ?_
      intro H4 M4
      have hs4 := M4.size
      replace hN := NodeM.fr EA hN (M4.fr nowhere) (fun _ _ _ => nw)
      replace tc := tc.fr (M4.fr nowhere) (fun _ _ _ _ => nw)
      replace hk := hk.fr (M4.fr nowhere) (fun _ _ _ => nw)
      replace m9 := (M4.fr nowhere).keep m9 nw
      replace hF := hF.trans' (M4.fr nowhere) (fun _ _ _ h => h) (fun _ _ _ h => h.elim)
      have m4 : Rd H4 H3.size 0 [.nilIface] := M4.rd _ [] (by simp)
      refine ⟨⟨m9,hN.c2⟩,?_⟩
      refine O.app (m := 1) (news := [.nilIface]) rfl rfl rfl ⟨underlying141,sizeOf20,zeroValue20,⟨_,typeInfo20,rfl⟩,rfl,by decide,by decide⟩ rfl hN.sl rfl (.inl ⟨_,_,_,rfl,m4⟩) rfl rfl (Nat.le_trans (Nat.mul_le_mul_left _ (Nat.le_of_ble_eq_true (n := _) (m := 4096) rfl)) (by omega)) (by omega) ?_
      intro b' o' c' H5 ha
      have hin : ∀ b o,b < H.size → (b = b' ∧ o' ≤ o ∧ o < o' + c' * EA.s) → ncl EA g b o := fun b o hb hh => .inr (ha.inside (by omega) hh)
      have hbn : (b' < H.size ∨ H.size < b') ∧ cx.base ≤ b' ∧ b' ≠ g.p := by rcases ha.place with ⟨r,_⟩ | ⟨r,_⟩ <;> omega
      have hN0 := hN
      replace hN := hN.appd ha
      replace tc := tc.fr ha.fr (fun b o hb _ => nr (.inl (by omega)))
      replace m9 := ha.fr.keep m9 (nr (.inl (by omega)))
      replace hk := hk.fr (ha.in_node hN0) (fun b o hb h => ho b o h hb)
      replace hF : Fr (fun b o => ncl EA g b o ∨ hz b) H H5 := hF.trans' (ha.in_node hN0) (fun _ _ _ h => .inr h) (fun b o _ h => .inl h)
      have hs5 : H4.size ≤ H5.size := ha.fr.size
      refine ⟨⟨m9,hN.c2⟩,?_⟩
      refine O.nc rfl rfl rfl rfl rfl ?_
      refine O.fa0 (off := 2) rfl rfl rfl rfl ⟨_,_,_,underlying144,rfl,rfl,sizeOf141⟩ rfl ?_
      refine O.st3 rfl rfl sizeOf141 rfl rfl rfl rfl rfl (hN.wr.at0 2 1 (by omega)) ?_
      intro H6 W6
      have hs6 := W6.size
      have hR := hN0.pushR ha W6
      replace tc := tc.fr W6.fr (fun b o hb _ => nr (.inl (by omega)))
      replace m9 := W6.fr.keep m9 (nr (.inl (by omega)))
      replace hk := hk.fr W6.fr (fun b o hb0 h => ho b o (by have hb := (hzb b hb0).2; exact NodeM.in1 (H := H5) (H' := H6) (by simp) h) hb0)
      replace hF := hF.trans' W6.fr (fun _ _ _ h => h) (fun b o hb h => .inl (NodeM.in1 (H := H5) (H' := H6) (by simp) h))
      refine Pl.fin [(0,_),(2,_),(3,_),(4,_),(13,_),(14,_)] ⟨rfl,rfl,rfl,rfl,rfl,rfl,trivial⟩ ?_
      refine Go'.seq ?_
      have hcp := hR.sl.hle
      simp only at hcp
      have hh2 : cl H6 g.p 2 = some (.slice (some ⟨b',o',none⟩) (X.length + 1) c') := hR.c2
      refine Go'.draw (fun _ => True) [(0,1),(1,0),(2,0),(3,1),(4,0),(5,0),(6,0),(7,1),(8,0),(9,0),(10,1),(11,0),(12,0),(13,2)] (by kernel_rfl) (by kernel_rfl) (trivial) ?_
      refine O.ld rfl rfl rfl (fun w => ⟨isAgg96 w,sizeOf96 w⟩) rfl m9 ?_
      refine O.nc rfl rfl rfl rfl rfl ?_
      refine O.fa0 (off := 2) rfl rfl rfl rfl ⟨_,_,_,underlying144,rfl,rfl,sizeOf141⟩ rfl ?_
      refine O.ld rfl rfl rfl (fun w => ⟨isAgg141 w,sizeOf141 w⟩) rfl hh2 ?_
      refine O.mv rfl rfl rfl rfl rfl ?_
      refine O.add (((i + 1 : Nat) : Int)) rfl rfl rfl rfl rfl rfl (by omega) (by omega) ?_
      refine O.slc (jl := i + 1) (jh := X.length + 1) (jm := c') rfl rfl rfl rfl underlying141 sizeOf20 rfl rfl rfl ⟨_,by rfl⟩ (by omega) (by omega) (by simp) (by simp) ?_
      intro o7 ho7
      refine O.ld rfl rfl rfl (fun w => ⟨isAgg96 w,sizeOf96 w⟩) rfl m9 ?_
      refine O.nc rfl rfl rfl rfl rfl ?_
      refine O.fa0 (off := 2) rfl rfl rfl rfl ⟨_,_,_,underlying144,rfl,rfl,sizeOf141⟩ rfl ?_
      refine O.ld rfl rfl rfl (fun w => ⟨isAgg141 w,sizeOf141 w⟩) rfl hh2 ?_
      refine O.mv rfl rfl rfl rfl rfl ?_
      refine O.slc (jl := i) (jh := X.length + 1) (jm := c') rfl rfl rfl rfl underlying141 sizeOf20 rfl rfl rfl ⟨_,by rfl⟩ (by omega) (by omega) (by simp) (by simp) ?_
      intro o8 ho8
      obtain rfl := ho8 (by omega)
      refine O.copy (b := b') (o := (o' + (i + 1) * 1)) (j := (X.length - i)) (cs := (row EA (X.drop i))) rfl rfl rfl ⟨underlying141,sizeOf20,zeroValue20,⟨_,typeInfo20,rfl⟩,rfl,by decide,by decide⟩ rfl rfl (show _ = min _ _ by omega) ((Nat.lt_or_ge i X.length).elim (fun h => .inl (by rw [ho7 (by omega)])) (fun h => .inr (by omega))) (.inl ⟨_,_,_,rfl,hR.sl.tail hle⟩) (by rw [row_len,List.length_drop]; rfl) (row_ones EA _) (hR.sl.wrm (i := i + 1) (m := X.length - i) (by omega)) ?_
      intro H7 W7
      have hs7 := W7.size
      have hdl : (X.drop i).length = X.length - i := List.length_drop
      replace tc := tc.fr W7.fr (fun b o hb _ => nr (.inl (by omega)))
      replace m9 := W7.fr.keep m9 (nr (.inl (by omega)))
      replace hh2 := W7.fr.keep hh2 (nr (.inl (by omega)))
      replace hk := hk.fr W7.fr (fun b o hb0 h => ho b o (by have hb := (hzb b hb0).2; exact hin b o hb (hR.in_items (i := i + 1) (Y := X.drop i) W7 (by rw [hdl]; omega) h)) hb0)
      replace hF := hF.trans' W7.fr (fun _ _ _ h => h) (fun b o hb h => .inl (hin b o hb (hR.in_items (i := i + 1) (Y := X.drop i) W7 (by rw [hdl]; omega) h)))
      refine ⟨trivial,?_⟩
      refine Pl.fin [(0,_),(2,_),(3,_),(4,_),(13,_),(14,_)] ⟨rfl,rfl,rfl,rfl,rfl,rfl,trivial⟩ ?_
      refine Go'.seq ?_
      refine Go'.region [(0,1),(1,0),(2,0),(3,1),(4,0),(5,0),(6,0),(7,2)] rfl ?_
      refine O.ld rfl rfl rfl (fun w => ⟨isAgg96 w,sizeOf96 w⟩) rfl m9 ?_
      refine O.nc rfl rfl rfl rfl rfl ?_
      refine O.fa0 (off := 2) rfl rfl rfl rfl ⟨_,_,_,underlying144,rfl,rfl,sizeOf141⟩ rfl ?_
      refine O.ld rfl rfl rfl (fun w => ⟨isAgg141 w,sizeOf141 w⟩) rfl hh2 ?_
      refine O.mv rfl rfl rfl rfl rfl ?_
      refine O.mv rfl rfl rfl rfl rfl ?_
      refine O.ix (j := i) rfl rfl rfl rfl underlying141 sizeOf20 rfl rfl (by omega) (by omega) ?_
      refine O.st rfl rfl sizeOf20 rfl rfl rfl rfl rfl (W7.fr.wr (hR.sl.wri (i := i) (by omega))) ?_
      intro H8 W8
      have hs8 := W8.size
      replace hN := hR.done hle W7 W8
      replace tc := tc.fr W8.fr (fun b o hb _ => nr (.inl (by omega)))
      replace m9 := W8.fr.keep m9 (nr (.inl (by omega)))
      replace hh2 := W8.fr.keep hh2 (nr (.inl (by omega)))
      replace hk := hk.fr W8.fr (fun b o hb0 h => ho b o (by have hb := (hzb b hb0).2; exact hin b o hb (hR.in_items (i := i) W8.as_row (by rw [List.length_singleton]; omega) (by rw [row_one]; exact h))) hb0)
      replace hF := hF.trans' W8.fr (fun _ _ _ h => h) (fun b o hb h => .inl (hin b o hb (hR.in_items (i := i) W8.as_row (by rw [List.length_singleton]; omega) (by rw [row_one]; exact h))))
      refine ⟨trivial,?_⟩
      refine Pl.fin [(0,_),(2,_),(3,_),(4,_),(13,_),(14,_)] ⟨rfl,rfl,rfl,rfl,rfl,rfl,trivial⟩ ?_
      refine Go'.seq ?_
      have hc1 : cl H8 g.p 1 = some (.int .i64 (g.cnt : Int)) := hN.c1
      refine Go'.region [(0,1),(1,0),(2,0),(3,1),(4,0),(5,0),(6,0),(7,2)] rfl ?_
      refine O.ld rfl rfl rfl (fun w => ⟨isAgg96 w,sizeOf96 w⟩) rfl m9 ?_
      refine O.nc rfl rfl rfl rfl rfl ?_
      refine O.fa0 (off := 1) rfl rfl rfl rfl ⟨_,_,_,underlying144,rfl,rfl,sizeOf3⟩ rfl ?_
      refine O.ld rfl rfl rfl (fun w => ⟨isAgg3 w,sizeOf3 w⟩) rfl hc1 ?_
      refine O.add (((g.cnt + 1 : Nat) : Int)) rfl rfl rfl rfl rfl rfl (by omega) (by omega) ?_
      refine O.nc rfl rfl rfl rfl rfl ?_
      refine O.fa0 (off := 1) rfl rfl rfl rfl ⟨_,_,_,underlying144,rfl,rfl,sizeOf3⟩ rfl ?_
      refine O.st rfl rfl sizeOf3 rfl rfl rfl rfl rfl (hN.wr.at0 1 1 (by omega)) ?_
      intro Hc Wc
      have hsc := Wc.size
      replace hN := hN.count Wc
      replace tc := tc.fr Wc.fr (fun b o hb _ => nr (.inl (by omega)))
      replace m9 := Wc.fr.keep m9 (nr (.inl (by omega)))
      replace hk := hk.fr Wc.fr (fun b o hb0 h => ho b o (by have hb := (hzb b hb0).2; exact NodeM.in1 (H := H8) (H' := Hc) (by simp) h) hb0)
      replace hF := hF.trans' Wc.fr (fun _ _ _ h => h) (fun b o hb h => .inl (NodeM.in1 (H := H8) (H' := Hc) (by simp) h))
      refine ⟨trivial,?_⟩
      refine Pl.fin [(0,_),(2,_),(3,_),(4,_),(13,_),(14,_)] ⟨rfl,rfl,rfl,rfl,rfl,rfl,trivial⟩ ?_
      refine Go'.seq ?_
      have hlt9 : ∀ b o,ncl EA { g with cnt := g.cnt + 1,ib := b',io := o',ic := c' } b o → b < H.size ∨ H.size < b := fun b o hb => by
        rcases hb with hb | hb
        · exact .inl (hlt b o (.inl hb))
        · rw [hb.1]; exact hbn.1
      have W9 := Wrote.nil Hc Hc.size 0
      have hs9 := W9.size
      replace hk := hk.fr W9.fr (fun b o hb => nr (.inl (by have := (hzb b hb).2; omega)))
      refine Go'.region [(0,0),(1,0),(2,0),(3,1),(4,0),(5,0),(6,0)] rfl ?_
      refine O.mv rfl rfl rfl rfl rfl ?_
      refine O.nc rfl rfl rfl rfl rfl ?_
      refine O.fa0 (off := 7) rfl rfl rfl rfl ⟨_,_,_,underlying138,rfl,rfl,sizeOf20⟩ rfl ?_
      refine O.ld rfl rfl rfl (fun w => ⟨isAgg20 w,sizeOf20 w⟩) rfl ((tc.emp) 0 _ rfl) ?_
      refine O.asg rfl rfl rfl rfl rfl ?_
      refine O.asg rfl rfl rfl rfl rfl ?_
      refine O.asg rfl rfl rfl rfl rfl ?_
      refine Pl.fin [(0,_),(2,_),(3,_),(4,_),(10,_),(11,_),(12,_),(13,_),(14,_)] ⟨rfl,rfl,rfl,rfl,rfl,rfl,rfl,rfl,rfl,trivial⟩ ?_
      refine Go'.ret (vs := [_,_,_]) func134 results134 ⟨rfl,rfl,rfl,trivial⟩ ?_
      have hll : (X.take i ++ x :: X.drop i).length = X.length + 1 := by simp only [List.length_append,List.length_take,List.length_cons,List.length_drop]; omega
      refine SetQH.mk hk0 hF hk fun Hm hsm hFm => .inl ⟨(({ g with cnt := g.cnt + 1,ib := b',io := o',ic := c' },X.take i ++ x :: X.drop i) : Gt EA 0),?_,⟨hFm,⟨hN,hiso,?_,by rw [hll]; omega⟩,rfl,fun b o hb => ?_,?_,?_⟩⟩
      · show _ = Value.tuple #[PV (Pl.got OI x X),.bool (Pl.fnd OI x X),.bool false]
        rw [Pl.got_none OI hfb,hfb]; rfl
      · show g.cnt + 1 = _; rw [hll,hcnt]
      · rw [hsm]
        rcases Nat.lt_or_ge b H.size with hl | hl
        · left
          rcases hb with hb | hb
          · exact .inl hb
          · exact hin b o hl hb
        · exact .inr hl
      · show _ = Pl.put OI x X
        unfold Pl.put; rw [hfb,hi]; rfl
      · show X.length ≤ (X.take i ++ x :: X.drop i).length
        omega

end Go.Bt.FB
