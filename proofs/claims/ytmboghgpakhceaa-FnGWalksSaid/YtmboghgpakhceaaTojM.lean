/- Contracts of functions of the program, proved by walking through their code. Conditions: those that each theorem names. -/
import Derived.Test.YtmboghgpakhceaaTogR
import Derived.Test.YtmboghgpakhceaaToHi
import Derived.Test.YtmboghgpakhceaaTogK
import Derived.Test.YtmboghgpakhceaaToKs
namespace Go.Bt.FG
open Go Go.Proofs Go.Proofs.Try
set_option maxRecDepth 20000
set_option maxHeartbeats 4000000
set_option linter.unusedVariables false
set_option linter.unusedSectionVars false

end Go.Bt.FG
namespace Go.Bt.Pl
theorem pre_snoc {α : Type} : ∀ (X : List α) (K : List (List α)) (x : α) (k : List α),X.length = K.length → pre (X ++ [x]) (K ++ [k]) = pre X K ++ (k ++ [x])
  | [],[],x,k,_ => by simp [pre]
  | y :: X,l :: K,x,k,h => by
    simp only [List.cons_append,pre]
    rw [pre_snoc X K x k (by simpa using h)]
    simp
  | [],_ :: _,_,_,h => by simp at h
  | _ :: _,[],_,_,h => by simp at h
theorem inter_last {α : Type} {X : List α} {K : List (List α)} {k : List α} (hl : K.length = X.length + 1) (hk : K[X.length]? = some k) : inter X K = pre X (K.take X.length) ++ k := by
  have hsp : K = K.take X.length ++ [k] := by
    have h1 := (List.getElem?_eq_some_iff.1 hk)
    obtain ⟨h1,h2⟩ := h1
    conv => lhs; rw [← List.take_append_drop X.length K]
    rw [← List.getElem_cons_drop (h := h1),h2,List.drop_of_length_le (by omega)]
  have := inter_focus X [] (K.take X.length) k [] (by rw [List.length_take]; omega) rfl
  rw [List.append_nil] at this
  rw [hsp] at this ⊢
  simp only [post,List.append_nil] at this
  rw [show (List.take X.length K ++ [k]).take X.length = K.take X.length by rw [List.take_append_of_le_length (by rw [List.length_take]; omega),List.take_take,Nat.min_self]]
  rw [show (List.take X.length K ++ [k]).take X.length = K.take X.length by rw [List.take_append_of_le_length (by rw [List.length_take]; omega),List.take_take,Nat.min_self]] at this
  exact this
theorem inter_drop1 {α : Type} {X : List α} {K : List (List α)} {x : α} {k : List α} {j : Nat} (hx : X[j]? = some x) (hk : K[j]? = some k) : inter (X.drop j) (K.drop j) = k ++ x :: inter (X.drop (j + 1)) (K.drop (j + 1)) := by
  obtain ⟨h1,h2⟩ := List.getElem?_eq_some_iff.1 hx
  obtain ⟨h3,h4⟩ := List.getElem?_eq_some_iff.1 hk
  rw [← List.getElem_cons_drop (h := h1),← List.getElem_cons_drop (h := h3),h2,h4]
  rfl
end Go.Bt.Pl
namespace Go.Bt.FG
open Go Go.Proofs Go.Proofs.Try
set_option maxRecDepth 20000
set_option maxHeartbeats 4000000
set_option linter.unusedVariables false
set_option linter.unusedSectionVars false

def encIt (x : Int × Int) : List Value := [.agg (EJ.enc x).toArray]
end Go.Bt.FG
namespace Go.Bt.Pl
theorem inter_pre {α : Type} : ∀ (j : Nat) (X : List α) (K : List (List α)),K.length = X.length + 1 → j ≤ X.length → inter X K = pre (X.take j) (K.take j) ++ inter (X.drop j) (K.drop j)
  | 0,X,K,_,_ => by simp [pre]
  | j + 1,[],_,_,h => by simp at h
  | j + 1,_ :: _,[],h,_ => by simp at h
  | j + 1,x :: X,k :: K,hl,h => by
    simp only [List.take_succ_cons,List.drop_succ_cons,pre,inter]
    rw [inter_pre j X K (by simpa using hl) (by simpa using h)]
    simp
end Go.Bt.Pl
namespace Go.Bt.FG
open Go Go.Proofs Go.Proofs.Try
set_option maxRecDepth 20000
set_option maxHeartbeats 4000000
set_option linter.unusedVariables false
set_option linter.unusedSectionVars false



section
variable [Inhabited Cx]
/-- What a reader with a function is called with. -/
structure VPre {P' : Program} {B : World} {g : FuncId} {us cs : List Value} {go : List (Int × Int) → Bool} {M : Nat} (cb : Cb P' B encIt g us cs go M) (H : Mem) (tr : Nat) (P : Ps) (h : Nat) (t : Gt EJ h) (bp op : Nat) (acc : List (Int × Int)) (Z : Nat → Prop) : Prop where
  tc : TrC H tr P.iso P.mx P.mn
  g : Gt.Good H P h t
  cel : cl H bp op = some (ptr (Gt.p h t))
  nz : ∀ b o,Gt.af h t b o → ¬ Z b
  nb : ∀ b,Z b → ¬ (b < cx.base ∧ cx.own b)
  st : cb.T acc Z H
  len : acc.length + (Gt.L h t).length ≤ M
end
end Go.Bt.FG
namespace Go.Bt.FG
open Go Go.Proofs Go.Proofs.Try
set_option maxRecDepth 20000
set_option maxHeartbeats 4000000
set_option linter.unusedVariables false
set_option linter.unusedSectionVars false

section
variable [Inhabited Cx]

theorem takesW_on {α : Type} {go : List α → Bool} {acc l r : List α} (h : (takes go acc l).2 = true) : takes go acc (l ++ r) = takes go (takes go acc l).1 r := by rw [takes_append,if_pos h]
theorem takesW_stop {α : Type} {go : List α → Bool} {acc l r : List α} (h : (takes go acc l).2 = false) : takes go acc (l ++ r) = takes go acc l := by rw [takes_append,h]; simp
/-- A function value that lists of items are handed to: its states. -/
structure Wb (P : Program) (B : World) (g : FuncId) (us cs : List Value) (go : List (List (Int × Int)) → Bool) (M : Nat) where
  T : List (List (Int × Int)) → (Nat → Prop) → Mem → Prop
  fr : ∀ {acc Z H H' Y},T acc Z H → Fr Y H H' → (∀ b o,Z b → ¬ Y b o) → T acc Z H'
  lt : ∀ {acc Z H b},T acc Z H → Z b → b < H.size
  call : ∀ {acc Z H} (x : List (Int × Int)) {v : Value},InS EJ H v x → x.length ≤ 4294967296 → T acc Z H → acc.length < M → Fn P B g (us ++ [v] ++ cs) H fun r H' => r = .bool (go (acc ++ [x])) ∧ ∃ Z',T (acc ++ [x]) Z' H' ∧ Fr (fun b _ => Z b) H H' ∧ ∀ b,Z' b → Z b ∨ H.size ≤ b
def WbPost {P : Program} {B : World} {g : FuncId} {us cs : List Value} {go : List (List (Int × Int)) → Bool} {M : Nat} (cb : Wb P B g us cs go M) (acc : List (List (Int × Int))) (Z : Nat → Prop) (H : Mem) (l : List (List (Int × Int))) (H' : Mem) : Prop :=
  ∃ Z',cb.T (takes go acc l).1 Z' H' ∧ Fr (fun b _ => Z b) H H' ∧ ∀ b,Z' b → Z b ∨ H.size ≤ b
/-- What a walk with such a function wants. -/
structure WPre {P' : Program} {B : World} {g : FuncId} {us cs : List Value} {go : List (List (Int × Int)) → Bool} {M : Nat} (cb : Wb P' B g us cs go M) (H : Mem) (tr : Nat) (P : Ps) (h : Nat) (t : Gt EJ h) (bp op : Nat) (acc : List (List (Int × Int))) (Z : Nat → Prop) : Prop where
  tc : TrC H tr P.iso P.mx P.mn
  g : Gt.Good H P h t
  cel : cl H bp op = some (ptr (Gt.p h t))
  nz : ∀ b o,Gt.af h t b o → ¬ Z b
  nb : ∀ b,Z b → ¬ (b < cx.base ∧ cx.own b)
  st : cb.T acc Z H
  len : acc.length + (Gt.ch h t).length ≤ M
theorem NodeM.inS {H : Mem} {g : Ng} {X : List (Int × Int)} {kp : Value} (hN : NodeM EJ H g X kp) : InS EJ H (.slice (some ⟨g.ib,g.io,none⟩) X.length g.ic) X := .inl ⟨g.ib,g.io,g.ic,rfl,hN.sl.hle,hN.sl.rd⟩
theorem NodeM.inS1 {H : Mem} {g : Ng} {X : List (Int × Int)} {kp : Value} (hN : NodeM EJ H g X kp) {j o' c' : Nat} {y : Int × Int} (hy : X[j]? = some y) (ho : o' = g.io + j * EJ.s) (hc : 1 ≤ c') : InS EJ H (.slice (some ⟨g.ib,o',none⟩) 1 c') [y] := by
  subst ho
  exact .inl ⟨g.ib,_,c',rfl,hc,by have := hN.sl.item hy; rw [row_one]; exact this⟩

theorem nwalk0 {B : World} {g : FuncId} {us cs : List Value} {go : List (List (Int × Int)) → Bool} {M : Nat} (cb : Wb Try.prog B g us cs go M) (hcall : ∀ (args : Array Value) (w : World),(callFunc g args).run Try.prog w = .ok (.enter g args) w) {tr : Nat} {P : Ps} (hP : PsOk P) (mt : Bool) {H : Mem} {bp op : Nat} {acc : List (List (Int × Int))} {Z : Nat → Prop} {t : Gt EJ 0} (hp : WPre cb H tr P 0 t bp op acc Z) :
    Fn Try.prog B 187 [.pointer (some ⟨tr,0,none⟩),.pointer (some ⟨bp,op,none⟩),.func (.func g) us.toArray cs.toArray,.bool mt] H (fun r H' => r = .bool (takes go acc (Gt.ch 0 t)).2 ∧ WbPost cb acc Z H (Gt.ch 0 t) H') := by
  obtain ⟨gg,X⟩ := t
  obtain ⟨tc,hg,hc,hnz,hntr,hst,hlen⟩ := hp
  have hN : NodeM EJ H gg X (.pointer none) := hg.1
  have hiso : gg.iso = P.iso := hg.2.1
  have hxm : X.length ≤ P.mx := hg.2.2.2
  have hx255 := hP.hx
  replace hlen : acc.length + 1 ≤ M := hlen
  have hc0 := hN.c0
  rw [hiso] at hc0
  show Fn _ _ _ _ _ (fun r H' => r = .bool (takes go acc [X]).2 ∧ WbPost cb acc Z H [X] H')
  unfold WbPost
  refine fn_of func187 rfl ntmps187 ?_
  refine (show Go' _ _ _ _ 74 [(0,_),(1,_),(2,_),(3,_)] [.code _] _ from ?_)
  refine Go'.seq ?_
  refine Go'.region [(0,0)] rfl ?_
  refine O.asg rfl rfl rfl rfl rfl ?_
  refine Pl.fin [(0,_),(1,_),(2,_),(3,_),(8,_)] ⟨rfl,rfl,rfl,rfl,rfl,trivial⟩ ?_
  refine Go'.seq ?_
  refine Go'.region [(0,0),(1,0),(2,0),(3,2),(4,0)] rfl ?_
  refine O.mv rfl rfl rfl rfl rfl ?_
  refine O.mv rfl rfl rfl rfl rfl ?_
  refine O.mv rfl rfl rfl rfl rfl ?_
  refine O.callQ rfl rfl rfl call130 rfl (isoLoad_spec mt hc hc0 tc.iso) trivial ?_
  refine O.asg rfl rfl rfl rfl rfl ?_
  refine Pl.fin [(0,_),(2,_),(3,_),(8,_),(9,_)] ⟨rfl,rfl,rfl,rfl,rfl,trivial⟩ ?_
  refine Go'.seq ?_
  refine Go'.seq ?_
  unfold ptr
  refine Go'.region [(0,0),(1,2)] rfl ?_
  refine O.mv rfl rfl rfl rfl rfl ?_
  refine O.callQ rfl rfl rfl call133 rfl (leaf_spec hN.c3) trivial ?_
  refine Pl.fin [(0,_),(2,_),(3,_),(8,_),(9,_),(16,_)] ⟨rfl,rfl,rfl,rfl,rfl,rfl,trivial⟩ ?_
  refine Go'.condT rfl ?_
  refine Go'.seq ?_
  cases hgo : go (acc ++ [X])
  · skip
    refine Go'.region [(0,0),(1,0),(2,0),(3,0),(4,1),(5,2),(6,0)] rfl ?_
    refine O.mv rfl rfl rfl rfl rfl ?_
    refine O.mv rfl rfl rfl rfl rfl ?_
    refine O.nc rfl rfl rfl rfl rfl ?_
    refine O.fa0 (off := 2) rfl rfl rfl rfl ⟨_,_,_,underlying168,rfl,rfl,sizeOf25⟩ rfl ?_
    refine O.ld rfl rfl rfl (fun w => ⟨isAgg25 w,sizeOf25 w⟩) rfl hN.c2 ?_
    refine O.callC rfl rfl rfl rfl hcall rfl (cb.call X (NodeM.inS hN) (by omega) hst (by omega)) ?_
    rintro _ H2 ⟨rfl,Z2,hT2,hF2,hZ2⟩
    rw [hgo]
    refine ⟨trivial,?_⟩
    refine O.not rfl rfl rfl rfl rfl ?_
    refine Pl.fin [(8,_),(23,_)] ⟨rfl,rfl,trivial⟩ ?_
    refine Go'.condT rfl ?_
    refine Go'.seq ?_
    refine Go'.region [(0,0)] rfl ?_
    refine O.asg rfl rfl rfl rfl rfl ?_
    refine Pl.fin [(8,_)] ⟨rfl,trivial⟩ ?_
    refine Go'.ret (vs := [_]) func187 results187 ⟨rfl,trivial⟩ ?_
    have e : takes go acc [X] = (acc ++ [X],false) := by simp [takes,hgo]
    rw [e]
    exact ⟨rfl,Z2,hT2,hF2,hZ2⟩
  · skip
    refine Go'.region [(0,0),(1,0),(2,0),(3,0),(4,1),(5,2),(6,0)] rfl ?_
    refine O.mv rfl rfl rfl rfl rfl ?_
    refine O.mv rfl rfl rfl rfl rfl ?_
    refine O.nc rfl rfl rfl rfl rfl ?_
    refine O.fa0 (off := 2) rfl rfl rfl rfl ⟨_,_,_,underlying168,rfl,rfl,sizeOf25⟩ rfl ?_
    refine O.ld rfl rfl rfl (fun w => ⟨isAgg25 w,sizeOf25 w⟩) rfl hN.c2 ?_
    refine O.callC rfl rfl rfl rfl hcall rfl (cb.call X (NodeM.inS hN) (by omega) hst (by omega)) ?_
    rintro _ H2 ⟨rfl,Z2,hT2,hF2,hZ2⟩
    rw [hgo]
    refine ⟨trivial,?_⟩
    refine O.not rfl rfl rfl rfl rfl ?_
    refine Pl.fin [(8,_),(23,_)] ⟨rfl,rfl,trivial⟩ ?_
    refine Go'.condF rfl ?_
    refine Go'.skip ?_
    refine Go'.seq ?_
    refine Go'.region [(0,0)] rfl ?_
    refine O.asg rfl rfl rfl rfl rfl ?_
    refine Pl.fin [(8,_)] ⟨rfl,trivial⟩ ?_
    refine Go'.ret (vs := [_]) func187 results187 ⟨rfl,trivial⟩ ?_
    have e : takes go acc [X] = (acc ++ [X],true) := by simp [takes,hgo]
    rw [e]
    exact ⟨rfl,Z2,hT2,hF2,hZ2⟩

theorem nwalk {B : World} {g : FuncId} {us cs : List Value} {go : List (List (Int × Int)) → Bool} {M : Nat} (cb : Wb Try.prog B g us cs go M) (hcall : ∀ (args : Array Value) (w : World),(callFunc g args).run Try.prog w = .ok (.enter g args) w) {tr : Nat} {P : Ps} (hP : PsOk P) (mt : Bool) : ∀ (h : Nat) {H : Mem} {bp op : Nat} {acc : List (List (Int × Int))} {Z : Nat → Prop} {t : Gt EJ h},WPre cb H tr P h t bp op acc Z →
    Fn Try.prog B 187 [.pointer (some ⟨tr,0,none⟩),.pointer (some ⟨bp,op,none⟩),.func (.func g) us.toArray cs.toArray,.bool mt] H (fun r H' => r = .bool (takes go acc (Gt.ch h t)).2 ∧ WbPost cb acc Z H (Gt.ch h t) H')
  | 0,_,_,_,_,_,_,hp => nwalk0 cb hcall hP mt hp
  | h + 1,H,bp,op,acc,Z,(gg,X,K),hp => by
    have ih := @nwalk B g us cs go M cb hcall tr P hP mt h
    obtain ⟨tc,hg,hc,hnz,hntr,hst,hlen⟩ := hp
    have hI : Inn H P h gg X ((Gt.ps h K).map some) K := hg.inn
    have hKl : K.length = X.length + 1 := hg.2.2.2.2.2.1
    have hxm : X.length ≤ P.mx := hg.2.2.2.2.1
    have hx255 := hP.hx
    have hKL : (K.map (Gt.ch h)).length = X.length + 1 := by rw [List.length_map]; exact hKl
    have hol : ((Gt.ps h K).map some).length = X.length + 1 := by rw [List.length_map,Gt.ps,List.length_map]; exact hKl
    obtain ⟨Y,hY⟩ : ∃ Y,Y = X.map (fun y => [y]) := ⟨_,rfl⟩
    have hYl : Y.length = X.length := by rw [hY,List.length_map]
    have hYat : ∀ {j : Nat} {y : Int × Int},X[j]? = some y → Y[j]? = some [y] := fun hy => by rw [hY,List.getElem?_map,hy]; rfl
    have hch : Gt.ch (h + 1) ((gg,X,K) : Gt EJ (h + 1)) = Pl.inter Y (K.map (Gt.ch h)) := by rw [hY]; rfl
    rw [hch] at hlen ⊢
    have hKLY : (K.map (Gt.ch h)).length = Y.length + 1 := by omega
    have hlt : ∀ x y,innc h gg K x y → x < H.size := fun x y hb => hI.lt hb
    obtain ⟨_,_,_,hkb⟩ := hI.cells
    have hkz : ¬ Z gg.kb := fun e => hnz gg.kb gg.ko (.inr (.inl (show kcl gg gg.kb gg.ko from .inr ⟨rfl,Nat.le_refl _,by have := hI.k.kc; omega⟩))) e
    have hc0 := hI.n.c0
    rw [hI.iso] at hc0
    have hin : ∀ H',Fr (fun x _ => Z x) H H' → Inn H' P h gg X ((Gt.ps h K).map some) K := fun H' hf => hI.fr hf (fun x y hxy hz => hnz x y hxy hz)
    have htc : ∀ H',Fr (fun x _ => Z x) H H' → TrC H' tr P.iso P.mx P.mn := fun H' hf => tc.fr hf fun b o hb _ hz => hntr b hz hb
    have hkid : ∀ {H2 : Mem} {Z1 : Nat → Prop} {A : List (List (Int × Int))} {j : Nat} {k : Gt EJ h},K[j]? = some k → Fr (fun x _ => Z x) H H2 → cb.T A Z1 H2 → (∀ b,Z1 b → Z b ∨ H.size ≤ b) → A.length + (Gt.ch h k).length ≤ M → WPre cb H2 tr P h k gg.kb (gg.ko + j * 1) A Z1 := by
      intro H2 Z1 A j k hkk hF hT hZ1 hA
      have hkK : k ∈ K := List.mem_of_getElem? hkk
      have hI2 := hin H2 hF
      have hok : ((Gt.ps h K).map some)[j]? = some (some (Gt.p h k)) := by rw [Gt.ps,List.map_map,List.getElem?_map,hkk]; rfl
      exact ⟨htc H2 hF,(hI2.c.1 k hkK).1,hI2.k.at hok,fun b o hb hz => (hZ1 b hz).elim (fun hz => hnz b o (.inr (.inr ⟨k,hkK,hb⟩)) hz) (fun hz => by have := hlt b o (.inr (.inr ⟨k,hkK,hb⟩)); omega),
        fun b hz hb => (hZ1 b hz).elim (fun h => hntr b h hb) (fun h => by have := tc.hb; omega),hT,hA⟩
    have hcat : ∀ {Z1 Z2 : Nat → Prop} {H2 H3 : Mem},Fr (fun x _ => Z x) H H2 → (∀ b,Z1 b → Z b ∨ H.size ≤ b) → Fr (fun x _ => Z1 x) H2 H3 → (∀ b,Z2 b → Z1 b ∨ H2.size ≤ b) → Fr (fun x _ => Z x) H H3 ∧ ∀ b,Z2 b → Z b ∨ H.size ≤ b := by
      intro Z1 Z2 H2 H3 hF hZ1 hF2 hZ2
      have := hF.size
      exact ⟨hF.trans' hF2 (fun _ _ _ h => h) (fun b o hb hz => (hZ1 b hz).elim id (fun h => by omega)),fun b hb => (hZ2 b hb).elim (hZ1 b) (fun h => .inr (by omega))⟩
    obtain ⟨kn,hkn⟩ : ∃ k,K[X.length]? = some k := ⟨K[X.length],List.getElem?_eq_getElem (by omega)⟩
    have hknL : (K.map (Gt.ch h))[Y.length]? = some (Gt.ch h kn) := by rw [hYl,List.getElem?_map,hkn]; rfl
    have hLn : Pl.inter Y (K.map (Gt.ch h)) = Pl.pre Y ((K.map (Gt.ch h)).take Y.length) ++ Gt.ch h kn := Pl.inter_last hKLY hknL
    have hlast : Pl.inter (Y.drop Y.length) ((K.map (Gt.ch h)).drop Y.length) = Gt.ch h kn := by
      obtain ⟨h1,h2⟩ := List.getElem?_eq_some_iff.1 hknL
      rw [List.drop_length,← List.getElem_cons_drop (h := h1),h2,List.drop_of_length_le (by omega)]; rfl
    have hlenn : acc.length + (Gt.ch h kn).length ≤ M := by rw [hLn,List.length_append] at hlen; omega
    unfold WbPost
    refine fn_of func187 rfl ntmps187 ?_
    refine (show Go' _ _ _ _ 74 [(0,_),(1,_),(2,_),(3,_)] [.code _] _ from ?_)
    refine Go'.seq ?_
    refine Go'.region [(0,0)] rfl ?_
    refine O.asg rfl rfl rfl rfl rfl ?_
    refine Pl.fin [(0,_),(1,_),(2,_),(3,_),(8,_)] ⟨rfl,rfl,rfl,rfl,rfl,trivial⟩ ?_
    refine Go'.seq ?_
    refine Go'.region [(0,0),(1,0),(2,0),(3,2),(4,0)] rfl ?_
    refine O.mv rfl rfl rfl rfl rfl ?_
    refine O.mv rfl rfl rfl rfl rfl ?_
    refine O.mv rfl rfl rfl rfl rfl ?_
    refine O.callQ rfl rfl rfl call130 rfl (isoLoad_spec mt hc hc0 tc.iso) trivial ?_
    refine O.asg rfl rfl rfl rfl rfl ?_
    refine Pl.fin [(0,_),(2,_),(3,_),(8,_),(9,_)] ⟨rfl,rfl,rfl,rfl,rfl,trivial⟩ ?_
    refine Go'.seq ?_
    refine Go'.seq ?_
    unfold ptr
    refine Go'.region [(0,0),(1,2)] rfl ?_
    refine O.mv rfl rfl rfl rfl rfl ?_
    refine O.callQ rfl rfl rfl call133 rfl (leaf_spec hI.n.c3) trivial ?_
    refine Pl.fin [(0,_),(2,_),(3,_),(8,_),(9,_),(16,_)] ⟨rfl,rfl,rfl,rfl,rfl,rfl,trivial⟩ ?_
    refine Go'.condF rfl ?_
    refine Go'.seq ?_
    refine Go'.seq ?_
    refine Go'.region [(0,0)] rfl ?_
    refine O.asg rfl rfl rfl rfl rfl ?_
    refine Pl.fin [(0,_),(2,_),(3,_),(8,_),(9,_),(10,_)] ⟨rfl,rfl,rfl,rfl,rfl,rfl,trivial⟩ ?_
    refine Go'.block ?_
    refine Go'.loop ?_
    refine Go'.keep [(0,_),(2,_),(3,_),(8,_),(9,_),(10,_)] ⟨rfl,rfl,rfl,rfl,rfl,rfl,trivial⟩ ?_
    refine Go'.ind (σ := Nat × (Nat → Prop)) (fun s => X.length - s.1) (fun s H' => s.1 ≤ X.length ∧ (takes go acc (Pl.pre (Y.take s.1) ((K.map (Gt.ch h)).take s.1))).2 = true ∧ cb.T (takes go acc (Pl.pre (Y.take s.1) ((K.map (Gt.ch h)).take s.1))).1 s.2 H' ∧ Fr (fun b _ => Z b) H H' ∧ ∀ b,s.2 b → Z b ∨ H.size ≤ b)
      (fun s => [(0,.pointer (some ⟨tr,0,none⟩)),(2,.func (.func g) us.toArray cs.toArray),(3,.bool mt),(8,.bool false),(9,.pointer (some ⟨gg.p,0,none⟩)),(10,.int .i64 (s.1 : Int))]) (0,Z) ⟨Nat.zero_le _,by simp [takes,Pl.pre],by simpa [takes,Pl.pre] using hst,Fr.refl _ _,fun b hb => .inl hb⟩ rfl ?_
    rintro ⟨j,Z1⟩ H3 ⟨hj,htk,hT,hF,hZ1⟩ ih2
    simp only at hj htk hT hZ1
    have hI3 := hin H3 hF
    obtain ⟨k,hkk⟩ : ∃ k,K[j]? = some k := ⟨K[j],List.getElem?_eq_getElem (by omega)⟩
    have hkL : (K.map (Gt.ch h))[j]? = some (Gt.ch h k) := by rw [List.getElem?_map,hkk]; rfl
    have hall := Pl.inter_pre j Y (K.map (Gt.ch h)) hKLY (by omega)
    have htl := takes_length go (Pl.pre (Y.take j) ((K.map (Gt.ch h)).take j)) acc
    refine Go'.seq ?_
    refine Go'.seq ?_
    by_cases hlt2 : j < X.length
    · skip
      obtain ⟨y,hy0⟩ : ∃ y,X[j]? = some y := ⟨X[j],List.getElem?_eq_getElem hlt2⟩
      have hy := hYat hy0
      rw [Pl.inter_drop1 hy hkL] at hall
      have e1 : Y.take (j + 1) = Y.take j ++ [[y]] := by rw [List.take_add_one,hy]; rfl
      have e2 : (K.map (Gt.ch h)).take (j + 1) = (K.map (Gt.ch h)).take j ++ [Gt.ch h k] := by rw [List.take_add_one,hkL]; rfl
      have hsn : Pl.pre (Y.take (j + 1)) ((K.map (Gt.ch h)).take (j + 1)) = Pl.pre (Y.take j) ((K.map (Gt.ch h)).take j) ++ (Gt.ch h k ++ [[y]]) := by rw [e1,e2,Pl.pre_snoc _ _ _ _ (by rw [List.length_take,List.length_take]; omega)]
      have hlen2 := congrArg List.length hall
      simp only [List.length_append,List.length_cons] at hlen2
      have t1 := takesW_on (r := Gt.ch h k ++ [y] :: Pl.inter (Y.drop (j + 1)) ((K.map (Gt.ch h)).drop (j + 1))) htk
      have t2 := takesW_on (r := Gt.ch h k ++ [[y]]) htk
      rw [← hall] at t1
      rw [← hsn] at t2
      generalize hA : (takes go acc (Pl.pre (Y.take j) ((K.map (Gt.ch h)).take j))).1 = A at *
      refine Go'.region [(0,0),(1,0),(2,0),(3,0),(4,1),(5,0),(6,0)] rfl ?_
      refine O.mv rfl rfl rfl rfl rfl ?_
      refine O.mv rfl rfl rfl rfl rfl ?_
      refine O.nc rfl rfl rfl rfl rfl ?_
      refine O.fa0 (off := 2) rfl rfl rfl rfl ⟨_,_,_,underlying168,rfl,rfl,sizeOf25⟩ rfl ?_
      refine O.ld rfl rfl rfl (fun w => ⟨isAgg25 w,sizeOf25 w⟩) rfl hI3.n.c2 ?_
      refine O.len rfl rfl rfl rfl underlying25 rfl ?_
      refine O.cmp rfl rfl rfl rfl rfl rfl (lssT (by omega)) ?_
      refine Pl.fin [(0,_),(2,_),(3,_),(8,_),(9,_),(10,_),(30,_)] ⟨rfl,rfl,rfl,rfl,rfl,rfl,rfl,trivial⟩ ?_
      refine Go'.condT rfl ?_
      refine Go'.skip ?_
      refine Go'.seq ?_
      refine Go'.block ?_
      refine Go'.seq ?_
      refine Go'.seq ?_
      refine Go'.region [(0,0),(1,0),(2,0),(3,0),(4,1),(5,0),(6,1),(7,0),(8,0),(9,0),(10,0),(11,2),(12,0)] rfl ?_
      refine O.mv rfl rfl rfl rfl rfl ?_
      refine O.mv rfl rfl rfl rfl rfl ?_
      refine O.nc rfl rfl rfl rfl rfl ?_
      refine O.fa0 (off := 3) rfl rfl rfl rfl ⟨_,_,_,underlying168,rfl,rfl,sizeOf166⟩ rfl ?_
      refine O.ld rfl rfl rfl (fun w => ⟨isAgg166 w,sizeOf166 w⟩) rfl hI3.n.c3 ?_
      refine O.nc rfl rfl rfl rfl rfl ?_
      refine O.ld rfl rfl rfl (fun w => ⟨isAgg170 w,sizeOf170 w⟩) rfl hI3.k.c ?_
      refine O.mv rfl rfl rfl rfl rfl ?_
      refine O.ix (j := j) rfl rfl rfl rfl underlying170 sizeOf129 rfl rfl (by omega) (by omega) ?_
      refine O.mv rfl rfl rfl rfl rfl ?_
      refine O.mv rfl rfl rfl rfl rfl ?_
      refine O.call rfl rfl rfl call187 rfl (ih (hkid hkk hF hT hZ1 (by omega))) ?_
      rintro _ H4 ⟨rfl,Z4,hT4,hF4,hZ4⟩
      obtain ⟨hF5,hZ5⟩ := hcat hF hZ1 hF4 hZ4
      refine ⟨trivial,?_⟩
      refine O.not rfl rfl rfl rfl rfl ?_
      refine Pl.fin [(0,_),(2,_),(3,_),(8,_),(9,_),(10,_),(30,_),(45,_)] ⟨rfl,rfl,rfl,rfl,rfl,rfl,rfl,rfl,trivial⟩ ?_
      cases htk2 : (takes go A (Gt.ch h k)).2
      · skip
        refine Go'.condT rfl ?_
        refine Go'.seq ?_
        refine Go'.region [(0,0)] rfl ?_
        refine O.asg rfl rfl rfl rfl rfl ?_
        refine Pl.fin [(0,_),(2,_),(3,_),(8,_),(9,_),(10,_),(30,_),(45,_)] ⟨rfl,rfl,rfl,rfl,rfl,rfl,rfl,rfl,trivial⟩ ?_
        refine Go'.ret (vs := [_]) func187 results187 ⟨rfl,trivial⟩ ?_
        rw [takesW_stop htk2] at t1
        rw [t1]
        exact ⟨by rw [htk2]; rfl,Z4,hT4,hF5,hZ5⟩
      · skip
        refine Go'.condF rfl ?_
        refine Go'.skip ?_
        refine Go'.seq ?_
        rw [takesW_on htk2] at t1 t2
        have htl2 := takes_length go (Gt.ch h k) A
        have hI4 := hin H4 hF5
        generalize hA2 : (takes go A (Gt.ch h k)).1 = A2 at *
        cases hgo : go (A2 ++ [[y]])
        · skip
          have hic4 := hI4.n.sl.hle
          refine Go'.region [(0,0),(1,0),(2,0),(3,0),(4,1),(5,0),(6,0),(7,0),(8,0),(9,2),(10,0)] rfl ?_
          refine O.mv rfl rfl rfl rfl rfl ?_
          refine O.mv rfl rfl rfl rfl rfl ?_
          refine O.nc rfl rfl rfl rfl rfl ?_
          refine O.fa0 (off := 2) rfl rfl rfl rfl ⟨_,_,_,underlying168,rfl,rfl,sizeOf25⟩ rfl ?_
          refine O.ld rfl rfl rfl (fun w => ⟨isAgg25 w,sizeOf25 w⟩) rfl hI4.n.c2 ?_
          refine O.mv rfl rfl rfl rfl rfl ?_
          refine O.mv rfl rfl rfl rfl rfl ?_
          refine O.add (((j + 1 : Nat) : Int)) rfl rfl rfl rfl rfl rfl (by omega) (by omega) ?_
          refine O.slc (jl := j) (jh := j + 1) (jm := gg.ic) rfl rfl rfl rfl underlying25 sizeOf27 rfl rfl ⟨_,by rfl⟩ ⟨_,by rfl⟩ (by omega) (by omega) (by simp) (by simp) ?_
          intro o9 ho9
          rw [show j + 1 - j = 1 by omega]
          refine O.callC rfl rfl rfl rfl hcall rfl (cb.call [y] (NodeM.inS1 hI4.n hy0 (o' := o9) (c' := gg.ic - j) (ho9 (by have := hI4.n.sl.hle; omega)) (by have := hI4.n.sl.hle; omega)) (Nat.le_of_ble_eq_true (n := 1) rfl) hT4 (by omega)) ?_
          rintro _ H6 ⟨rfl,Z6,hT6,hF6,hZ6⟩
          rw [hgo]
          obtain ⟨hF7,hZ7⟩ := hcat hF5 hZ5 hF6 hZ6
          refine ⟨trivial,?_⟩
          refine O.not rfl rfl rfl rfl rfl ?_
          refine Pl.fin [(0,_),(2,_),(3,_),(8,_),(9,_),(10,_),(30,_),(45,_),(56,_)] ⟨rfl,rfl,rfl,rfl,rfl,rfl,rfl,rfl,rfl,trivial⟩ ?_
          refine Go'.condT rfl ?_
          refine Go'.seq ?_
          refine Go'.region [(0,0)] rfl ?_
          refine O.asg rfl rfl rfl rfl rfl ?_
          refine Pl.fin [(0,_),(2,_),(3,_),(8,_),(9,_),(10,_),(30,_),(45,_),(56,_)] ⟨rfl,rfl,rfl,rfl,rfl,rfl,rfl,rfl,rfl,trivial⟩ ?_
          refine Go'.ret (vs := [_]) func187 results187 ⟨rfl,trivial⟩ ?_
          have e3 : takes go acc (Pl.inter Y (K.map (Gt.ch h))) = (A2 ++ [[y]],false) := by rw [t1]; simp [takes,hgo]
          rw [e3]
          exact ⟨rfl,Z6,hT6,hF7,hZ7⟩
        · skip
          have hic4 := hI4.n.sl.hle
          refine Go'.region [(0,0),(1,0),(2,0),(3,0),(4,1),(5,0),(6,0),(7,0),(8,0),(9,2),(10,0)] rfl ?_
          refine O.mv rfl rfl rfl rfl rfl ?_
          refine O.mv rfl rfl rfl rfl rfl ?_
          refine O.nc rfl rfl rfl rfl rfl ?_
          refine O.fa0 (off := 2) rfl rfl rfl rfl ⟨_,_,_,underlying168,rfl,rfl,sizeOf25⟩ rfl ?_
          refine O.ld rfl rfl rfl (fun w => ⟨isAgg25 w,sizeOf25 w⟩) rfl hI4.n.c2 ?_
          refine O.mv rfl rfl rfl rfl rfl ?_
          refine O.mv rfl rfl rfl rfl rfl ?_
          refine O.add (((j + 1 : Nat) : Int)) rfl rfl rfl rfl rfl rfl (by omega) (by omega) ?_
          refine O.slc (jl := j) (jh := j + 1) (jm := gg.ic) rfl rfl rfl rfl underlying25 sizeOf27 rfl rfl ⟨_,by rfl⟩ ⟨_,by rfl⟩ (by omega) (by omega) (by simp) (by simp) ?_
          intro o9 ho9
          rw [show j + 1 - j = 1 by omega]
          refine O.callC rfl rfl rfl rfl hcall rfl (cb.call [y] (NodeM.inS1 hI4.n hy0 (o' := o9) (c' := gg.ic - j) (ho9 (by have := hI4.n.sl.hle; omega)) (by have := hI4.n.sl.hle; omega)) (Nat.le_of_ble_eq_true (n := 1) rfl) hT4 (by omega)) ?_
          rintro _ H6 ⟨rfl,Z6,hT6,hF6,hZ6⟩
          rw [hgo]
          obtain ⟨hF7,hZ7⟩ := hcat hF5 hZ5 hF6 hZ6
          refine ⟨trivial,?_⟩
          refine O.not rfl rfl rfl rfl rfl ?_
          refine Pl.fin [(0,_),(2,_),(3,_),(8,_),(9,_),(10,_),(30,_),(45,_),(56,_)] ⟨rfl,rfl,rfl,rfl,rfl,rfl,rfl,rfl,rfl,trivial⟩ ?_
          refine Go'.condF rfl ?_
          refine Go'.skip ?_
          refine Go'.inBlock ?_
          refine Go'.region [(0,0),(1,0),(2,0)] rfl ?_
          refine O.mv rfl rfl rfl rfl rfl ?_
          refine O.add (((j + 1 : Nat) : Int)) rfl rfl rfl rfl rfl rfl (by omega) (by omega) ?_
          refine O.asg rfl rfl rfl rfl rfl ?_
          refine Pl.fin [(0,_),(2,_),(3,_),(8,_),(9,_),(10,_),(30,_),(45,_),(56,_)] ⟨rfl,rfl,rfl,rfl,rfl,rfl,rfl,rfl,rfl,trivial⟩ ?_
          refine Go'.keep [(0,_),(2,_),(3,_),(8,_),(9,_),(10,_)] ⟨rfl,rfl,rfl,rfl,rfl,rfl,trivial⟩ ?_
          refine Go'.inLoop ?_
          have e3 : takes go acc (Pl.pre (Y.take (j + 1)) ((K.map (Gt.ch h)).take (j + 1))) = (A2 ++ [[y]],true) := by rw [t2]; simp [takes,hgo]
          exact ih2 (j + 1,Z6) H6 ⟨hlt2,by rw [e3],by rw [e3]; exact hT6,hF7,hZ7⟩ (by simp only; omega)
    · skip
      obtain rfl : j = X.length := by omega
      rw [← hYl,hlast] at hall
      have hlen2 := congrArg List.length hall
      simp only [List.length_append] at hlen2
      have t1 := takesW_on (r := Gt.ch h k) htk
      obtain rfl : kn = k := Option.some.inj (hkn.symm.trans hkk)
      rw [← hYl,← hall] at t1
      rw [← hYl] at htl
      refine Go'.region [(0,0),(1,0),(2,0),(3,0),(4,1),(5,0),(6,0)] rfl ?_
      refine O.mv rfl rfl rfl rfl rfl ?_
      refine O.mv rfl rfl rfl rfl rfl ?_
      refine O.nc rfl rfl rfl rfl rfl ?_
      refine O.fa0 (off := 2) rfl rfl rfl rfl ⟨_,_,_,underlying168,rfl,rfl,sizeOf25⟩ rfl ?_
      refine O.ld rfl rfl rfl (fun w => ⟨isAgg25 w,sizeOf25 w⟩) rfl hI3.n.c2 ?_
      refine O.len rfl rfl rfl rfl underlying25 rfl ?_
      refine O.cmp rfl rfl rfl rfl rfl rfl (lssF (by omega)) ?_
      refine Pl.fin [(0,_),(2,_),(3,_),(8,_),(9,_),(10,_),(30,_)] ⟨rfl,rfl,rfl,rfl,rfl,rfl,rfl,trivial⟩ ?_
      refine Go'.condF rfl ?_
      refine Go'.exit rfl ?_
      refine Go'.seq ?_
      refine Go'.draw (fun _ => True) [(0,0),(1,0),(2,0),(3,0),(4,1),(5,0),(6,1),(7,0),(8,0),(9,0),(10,1),(11,0),(12,0),(13,0),(14,0),(15,2),(16,0)] (by kernel_rfl) (by kernel_rfl) (trivial) ?_
      refine O.mv rfl rfl rfl rfl rfl ?_
      refine O.mv rfl rfl rfl rfl rfl ?_
      refine O.nc rfl rfl rfl rfl rfl ?_
      refine O.fa0 (off := 3) rfl rfl rfl rfl ⟨_,_,_,underlying168,rfl,rfl,sizeOf166⟩ rfl ?_
      refine O.ld rfl rfl rfl (fun w => ⟨isAgg166 w,sizeOf166 w⟩) rfl hI3.n.c3 ?_
      refine O.nc rfl rfl rfl rfl rfl ?_
      refine O.ld rfl rfl rfl (fun w => ⟨isAgg170 w,sizeOf170 w⟩) rfl hI3.k.c ?_
      refine O.mv rfl rfl rfl rfl rfl ?_
      refine O.nc rfl rfl rfl rfl rfl ?_
      refine O.fa0 (off := 2) rfl rfl rfl rfl ⟨_,_,_,underlying168,rfl,rfl,sizeOf25⟩ rfl ?_
      refine O.ld rfl rfl rfl (fun w => ⟨isAgg25 w,sizeOf25 w⟩) rfl hI3.n.c2 ?_
      refine O.len rfl rfl rfl rfl underlying25 rfl ?_
      refine O.ix (j := X.length) rfl rfl rfl rfl underlying170 sizeOf129 rfl rfl (by omega) (by omega) ?_
      refine O.mv rfl rfl rfl rfl rfl ?_
      refine O.mv rfl rfl rfl rfl rfl ?_
      refine O.call rfl rfl rfl call187 rfl (ih (hkid hkk hF hT hZ1 (by rw [← hYl]; omega))) ?_
      rintro _ H4 ⟨rfl,Z4,hT4,hF4,hZ4⟩
      obtain ⟨hF5,hZ5⟩ := hcat hF hZ1 hF4 hZ4
      refine ⟨trivial,?_⟩
      refine O.not rfl rfl rfl rfl rfl ?_
      refine Pl.fin [(8,_),(73,_)] ⟨rfl,rfl,trivial⟩ ?_
      cases htk2 : (takes go (takes go acc (Pl.pre (Y.take X.length) ((K.map (Gt.ch h)).take X.length))).1 (Gt.ch h kn)).2
      · skip
        refine Go'.condT rfl ?_
        refine Go'.seq ?_
        refine Go'.region [(0,0)] rfl ?_
        refine O.asg rfl rfl rfl rfl rfl ?_
        refine Pl.fin [(8,_)] ⟨rfl,trivial⟩ ?_
        refine Go'.ret (vs := [_]) func187 results187 ⟨rfl,trivial⟩ ?_
        rw [← hYl] at htk2 hT4
        rw [t1]
        exact ⟨by rw [htk2]; rfl,Z4,hT4,hF5,hZ5⟩
      · skip
        refine Go'.condF rfl ?_
        refine Go'.skip ?_
        refine Go'.seq ?_
        refine Go'.region [(0,0)] rfl ?_
        refine O.asg rfl rfl rfl rfl rfl ?_
        refine Pl.fin [(8,_)] ⟨rfl,trivial⟩ ?_
        refine Go'.ret (vs := [_]) func187 results187 ⟨rfl,trivial⟩ ?_
        rw [← hYl] at htk2 hT4
        rw [t1]
        exact ⟨by rw [htk2]; rfl,Z4,hT4,hF5,hZ5⟩

theorem AbT.ch_le {H : Mem} {tr : Nat} {P : Ps} {S : Nat → Prop} {l : List (Int × Int)} {T : AbT (Int × Int)} (hP : PsOk P) (hM : MapT H tr P S l T) : (AbT.ch T).flatten = l ∧ ∀ c ∈ AbT.ch T,1 ≤ c.length ∧ c.length ≤ P.mx := by
  have hmm := hP.hm
  have hh1 := hP.h1
  rcases hM.2 with ⟨rfl,rfl,_⟩ | ⟨h,t,hR,rfl⟩
  · exact ⟨rfl,fun c hc => absurd hc List.not_mem_nil⟩
  · show (Ab.ch h (Gt.ab h t)).flatten = l ∧ ∀ c ∈ Ab.ch h (Gt.ab h t),_
    rw [Gt.ch_ab,Gt.ch_flat]
    exact ⟨hR.l,Gt.ch_ok hh1 (by omega) hR.g hR.x1⟩
theorem walk_spec {B : World} {g : FuncId} {us cs : List Value} {go : List (List (Int × Int)) → Bool} {M : Nat} (cb : Wb Try.prog B g us cs go M) (hcall : ∀ (args : Array Value) (w : World),(callFunc g args).run Try.prog w = .ok (.enter g args) w) {tr : Nat} {P : Ps} (hP : PsOk P) (mt : Bool) {H : Mem} {S : Nat → Prop} {l : List (Int × Int)} {T : AbT (Int × Int)} {Z : Nat → Prop} (hM : MapT H tr P S l T) (hT : cb.T [] Z H) (hd : ∀ b,S b → ¬ Z b) (hnb : ∀ b,Z b → ¬ (b < cx.base ∧ cx.own b)) (hl : l.length ≤ M) :
    Fn Try.prog B 149 [.pointer (some ⟨tr,0,none⟩),.func (.func g) us.toArray cs.toArray,.bool mt] H (fun _ H' => WbPost cb [] Z H (AbT.ch T) H') := by
  have hfl := AbT.ch_le hP hM
  have hfl2 := Pl.flat_len fun c hc => (hfl.2 c hc).1
  rw [hfl.1] at hfl2
  obtain ⟨hM0,hr⟩ := hM
  rcases hr with ⟨rfl,rfl,hptr⟩ | ⟨h,t,hR,rfl⟩
  · skip
    refine fn_of func149 rfl ntmps149 ?_
    refine (show Go' _ _ _ _ 23 [(0,_),(1,_),(2,_)] [.code _] _ from ?_)
    refine Go'.seq ?_
    refine Go'.seq ?_
    refine Go'.region [(0,0),(1,0),(2,2)] rfl ?_
    refine O.mv rfl rfl rfl rfl rfl ?_
    refine O.mv rfl rfl rfl rfl rfl ?_
    refine O.callQ rfl rfl rfl call128 rfl lock_spec trivial ?_
    refine Pl.fin [(0,_),(1,_),(2,_),(8,_)] ⟨rfl,rfl,rfl,rfl,trivial⟩ ?_
    refine Go'.condF rfl ?_
    refine Go'.skip ?_
    refine Go'.seq ?_
    refine Go'.seq ?_
    refine Go'.region [(0,0),(1,0),(2,0),(3,1),(4,0)] rfl ?_
    refine O.mv rfl rfl rfl rfl rfl ?_
    refine O.nc rfl rfl rfl rfl rfl ?_
    refine O.fa0 (off := 2) rfl rfl rfl rfl ⟨_,_,_,underlying158,rfl,rfl,sizeOf129⟩ rfl ?_
    refine O.ld rfl rfl rfl (fun w => ⟨isAgg129 w,sizeOf129 w⟩) rfl hptr ?_
    refine O.isNil rfl rfl rfl rfl underlying129 rfl rfl ?_
    refine Pl.fin [(0,_),(1,_),(2,_),(15,_)] ⟨rfl,rfl,rfl,rfl,trivial⟩ ?_
    refine Go'.condT rfl ?_
    refine Go'.ret func149 results149 (vs := []) trivial ?_
    exact ⟨Z,hT,Fr.refl _ _,fun b hb => .inl hb⟩
  · skip
    have hptr : cl H tr 2 = some (.pointer (some ⟨Gt.p h t,0,none⟩)) := hR.c
    refine fn_of func149 rfl ntmps149 ?_
    refine (show Go' _ _ _ _ 23 [(0,_),(1,_),(2,_)] [.code _] _ from ?_)
    refine Go'.seq ?_
    refine Go'.seq ?_
    refine Go'.region [(0,0),(1,0),(2,2)] rfl ?_
    refine O.mv rfl rfl rfl rfl rfl ?_
    refine O.mv rfl rfl rfl rfl rfl ?_
    refine O.callQ rfl rfl rfl call128 rfl lock_spec trivial ?_
    refine Pl.fin [(0,_),(1,_),(2,_),(8,_)] ⟨rfl,rfl,rfl,rfl,trivial⟩ ?_
    refine Go'.condF rfl ?_
    refine Go'.skip ?_
    refine Go'.seq ?_
    refine Go'.seq ?_
    refine Go'.region [(0,0),(1,0),(2,0),(3,1),(4,0)] rfl ?_
    refine O.mv rfl rfl rfl rfl rfl ?_
    refine O.nc rfl rfl rfl rfl rfl ?_
    refine O.fa0 (off := 2) rfl rfl rfl rfl ⟨_,_,_,underlying158,rfl,rfl,sizeOf129⟩ rfl ?_
    refine O.ld rfl rfl rfl (fun w => ⟨isAgg129 w,sizeOf129 w⟩) rfl hptr ?_
    refine O.isNil rfl rfl rfl rfl underlying129 rfl rfl ?_
    refine Pl.fin [(0,_),(1,_),(2,_),(15,_)] ⟨rfl,rfl,rfl,rfl,trivial⟩ ?_
    refine Go'.condF rfl ?_
    refine Go'.skip ?_
    refine Go'.region [(0,0),(1,0),(2,0),(3,0),(4,0),(5,0),(6,2)] rfl ?_
    refine O.mv rfl rfl rfl rfl rfl ?_
    refine O.mv rfl rfl rfl rfl rfl ?_
    refine O.nc rfl rfl rfl rfl rfl ?_
    refine O.fa0 (off := 2) rfl rfl rfl rfl ⟨_,_,_,underlying158,rfl,rfl,sizeOf129⟩ rfl ?_
    refine O.mv rfl rfl rfl rfl rfl ?_
    refine O.mv rfl rfl rfl rfl rfl ?_
    refine O.call rfl rfl rfl call187 rfl (nwalk cb hcall hP mt h (t := t) ⟨hM0.tc,hR.g,hR.c,fun b o hb => hd b (hR.own b o hb),hnb,hT,by rw [← Gt.ch_ab]; show 0 + _ ≤ _; have : (Ab.ch h (Gt.ab h t)).length ≤ l.length := hfl2; omega⟩) ?_
    rintro _ H2 ⟨rfl,hq⟩
    refine ⟨trivial,?_⟩
    refine Pl.fin [] trivial ?_
    refine Go'.fall func149 results149 (vs := []) trivial ?_
    rw [← Gt.ch_ab] at hq; exact hq

theorem Walk_spec {B : World} {g : FuncId} {us cs : List Value} {go : List (List (Int × Int)) → Bool} {M : Nat} (cb : Wb Try.prog B g us cs go M) (hcall : ∀ (args : Array Value) (w : World),(callFunc g args).run Try.prog w = .ok (.enter g args) w) {tr : Nat} {P : Ps} (hP : PsOk P) {H : Mem} {S : Nat → Prop} {l : List (Int × Int)} {T : AbT (Int × Int)} {Z : Nat → Prop} (hM : MapT H tr P S l T) (hT : cb.T [] Z H) (hd : ∀ b,S b → ¬ Z b) (hnb : ∀ b,Z b → ¬ (b < cx.base ∧ cx.own b)) (hl : l.length ≤ M) :
    Fn Try.prog B 97 [.pointer (some ⟨tr,0,none⟩),.func (.func g) us.toArray cs.toArray] H (fun _ H' => WbPost cb [] Z H (AbT.ch T) H') := by
  refine fn_of func97 rfl ntmps97 ?_
  refine (show Go' _ _ _ _ 7 [(0,_),(1,_)] [.code _] _ from ?_)
  refine Go'.region [(0,0),(1,0),(2,2)] rfl ?_
  refine O.mv rfl rfl rfl rfl rfl ?_
  refine O.mv rfl rfl rfl rfl rfl ?_
  refine O.call rfl rfl rfl call149 rfl (walk_spec cb hcall hP false hM hT hd hnb hl) ?_
  rintro _ H2 hq
  refine ⟨trivial,?_⟩
  refine Pl.fin [] trivial ?_
  refine Go'.fall func97 results97 (vs := []) trivial ?_
  exact hq

theorem WalkMut_spec {B : World} {g : FuncId} {us cs : List Value} {go : List (List (Int × Int)) → Bool} {M : Nat} (cb : Wb Try.prog B g us cs go M) (hcall : ∀ (args : Array Value) (w : World),(callFunc g args).run Try.prog w = .ok (.enter g args) w) {tr : Nat} {P : Ps} (hP : PsOk P) {H : Mem} {S : Nat → Prop} {l : List (Int × Int)} {T : AbT (Int × Int)} {Z : Nat → Prop} (hM : MapT H tr P S l T) (hT : cb.T [] Z H) (hd : ∀ b,S b → ¬ Z b) (hnb : ∀ b,Z b → ¬ (b < cx.base ∧ cx.own b)) (hl : l.length ≤ M) :
    Fn Try.prog B 102 [.pointer (some ⟨tr,0,none⟩),.func (.func g) us.toArray cs.toArray] H (fun _ H' => WbPost cb [] Z H (AbT.ch T) H') := by
  refine fn_of func102 rfl ntmps102 ?_
  refine (show Go' _ _ _ _ 7 [(0,_),(1,_)] [.code _] _ from ?_)
  refine Go'.region [(0,0),(1,0),(2,2)] rfl ?_
  refine O.mv rfl rfl rfl rfl rfl ?_
  refine O.mv rfl rfl rfl rfl rfl ?_
  refine O.call rfl rfl rfl call149 rfl (walk_spec cb hcall hP true hM hT hd hnb hl) ?_
  rintro _ H2 hq
  refine ⟨trivial,?_⟩
  refine Pl.fin [] trivial ?_
  refine Go'.fall func102 results102 (vs := []) trivial ?_
  exact hq

end
end Go.Bt.FG
