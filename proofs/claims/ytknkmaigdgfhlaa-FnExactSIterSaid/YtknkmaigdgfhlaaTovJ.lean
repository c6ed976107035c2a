/- Contracts of functions of the program, proved by walking through their code. Conditions: those that each theorem names. -/
import Derived.Test.YtknkmaigdgfhlaaTotC
import Derived.Test.YtknkmaigdgfhlaaTotD
namespace Go.Bt.FZ
open Go Go.Proofs
set_option maxRecDepth 20000
set_option maxHeartbeats 4000000
set_option linter.unusedVariables false

theorem MapU.treeR {H : Mem} {tr : Nat} {S : Nat → Prop} {l : List Int} (hU : MapU H tr S l) (hl : l.length ≤ 4294967296) : ∃ r : Option ((h : Nat) × Gt EI h), TreeR H tr P0 S l r := by
  rcases hU with ⟨e, hz, own, lt⟩ | hM
  · exact ⟨none, hz.h0, own, lt, hl, by decide, e, hz.h2⟩
  · exact hM.treeR P0_ok hl
theorem st158 : StT Try.prog 158 [(0, 7)] [.pointer none, .bool false, .bool false, .bool false, .bool false, .slice none 0 0, .int .i64 0] := ⟨⟨_, Try.underlying158, fun w => by simp [Array.mapM_eq_mapM_toList, Try.sizeOf156]⟩, Try.zeroValue158⟩

theorem sIter_spec {B : World} {H : Mem} {tr : Nat} : Fn Try.prog B 105 [.pointer (some ⟨tr, 0, none⟩)] H (fun r H' => r = .agg (itv tr false).toArray ∧ Fr nowhere H H') := by
  have hF : Fr nowhere H H := Fr.refl _ _
  refine fn_of Go.Proofs.Try.func105 rfl Go.Proofs.Try.ntmps105 ?_
  refine (show Go' _ _ _ _ 8 [(0, _)] [.code _] _ from ?_)
  refine Go'.seq ?_
  -- region 0 (set.go:130)
  refine Go'.region [(0, 2)] rfl ?_
  refine O.alloc rfl rfl rfl Go.Proofs.Try.zeroValue158 ?_
  intro H1 M1
  refine ⟨trivial, ?_⟩
  have hs1 := M1.size
  
  replace hF := hF.trans' (M1.fr nowhere) (fun _ _ _ h => h) (fun _ _ _ h => h.elim)
  have m2 : Wr H1 H.size 0 7 := M1.wr 7 (by decide)
  refine Pl.fin [(0, _), (2, _)] ⟨rfl, rfl, trivial⟩ ?_
  refine Go'.seq ?_
  -- region 1 (set.go:131)
  refine Go'.region [(0, 0), (1, 0), (2, 0), (3, 2), (4, 0), (5, 2)] rfl ?_
  refine O.mv rfl rfl rfl rfl rfl ?_
  refine O.nc rfl rfl rfl rfl rfl ?_
  refine O.faz rfl rfl rfl rfl ⟨_, _, _, Go.Proofs.Try.underlying142, rfl, rfl, Go.Proofs.Try.sizeOf140⟩ rfl ?_
  refine O.call rfl rfl rfl Go.Proofs.Try.call143 rfl Iter_spec ?_
  rintro _ H2 ⟨rfl, hF2⟩
  have hs2 := hF2.size
  replace m2 := hF2.wr m2
  replace hF := hF.trans' hF2 (fun _ _ _ h => h) (fun _ _ _ h => h.elim)
  refine ⟨trivial, ?_⟩
  refine O.bld (cs := (itv tr false)) rfl rfl rfl rfl (st158) rfl (by kernel_rfl) ?_
  refine O.st (vs := (itv tr false)) rfl rfl Go.Proofs.Try.sizeOf158 rfl rfl rfl rfl rfl m2 ?_
  intro H3 W3
  replace hF := hF.trans' W3.fr (fun _ _ _ h => h) (fun b o hb hz => by have h1 := hz.1; omega)
  refine ⟨trivial, ?_⟩
  refine Pl.fin [(2, _)] ⟨rfl, trivial⟩ ?_
  refine Go'.ret (vs := [_]) Go.Proofs.Try.func105 Go.Proofs.Try.results105 ⟨⟨_, _, rfl, fun _ _ => run_loadVar_agg (fun w => ⟨Go.Proofs.Try.isAgg158 w, Go.Proofs.Try.sizeOf158 w⟩) rfl W3.all⟩, trivial⟩ ?_
  exact ⟨rfl, hF⟩

theorem sFirst_spec {B : World} {H : Mem} {it tr : Nat} {mt sk sa se : Bool} {Z : Nat → Prop} {fr : List (Nat × Int)} {kv : Int} {P : Ps} {S : Nat → Prop} {l : List Int} {r : Option ((h : Nat) × Gt EI h)} (hI : Itr EI H H it tr mt Z sk sa se Z fr kv) (hT : TreeR H tr P S l r) (hsi : ¬ S it) (hsz : ∀ b, S b → ¬ Z b) :
    Fn Try.prog B 110 [.pointer (some ⟨it, 0, none⟩)] H (fun v H' => v = .bool (decide (0 < l.length)) ∧ ItPost EI H H' it tr mt Z r l (if 0 < l.length then some (0) else none)) := by
  refine fn_of Go.Proofs.Try.func110 rfl Go.Proofs.Try.ntmps110 ?_
  refine (show Go' _ _ _ _ 7 [(0, _)] [.code _] _ from ?_)
  refine Go'.seq ?_
  -- region 0 (set.go:142)
  refine Go'.region [(0, 0)] rfl ?_
  refine O.asg rfl rfl rfl rfl rfl ?_
  refine Pl.fin [(0, _), (2, _)] ⟨rfl, rfl, trivial⟩ ?_
  refine Go'.seq ?_
  -- region 1 (set.go:143)
  refine Go'.region [(0, 0), (1, 0), (2, 0), (3, 2), (4, 0)] rfl ?_
  refine O.mv rfl rfl rfl rfl rfl ?_
  refine O.nc rfl rfl rfl rfl rfl ?_
  refine O.faz rfl rfl rfl rfl ⟨_, _, _, Go.Proofs.Try.underlying158, rfl, rfl, Go.Proofs.Try.sizeOf156⟩ rfl ?_
  refine O.call rfl rfl rfl Go.Proofs.Try.call148 rfl (iFirst_spec hI hT hsi hsz) ?_
  rintro v H' h
  refine ⟨trivial, ?_⟩
  refine O.asg rfl rfl rfl rfl rfl ?_
  refine Pl.fin [(2, _)] ⟨rfl, trivial⟩ ?_
  refine Go'.ret (vs := [_]) Go.Proofs.Try.func110 Go.Proofs.Try.results110 ⟨rfl, trivial⟩ ?_
  exact h

theorem sLast_spec {B : World} {H : Mem} {it tr : Nat} {mt sk sa se : Bool} {Z : Nat → Prop} {fr : List (Nat × Int)} {kv : Int} {P : Ps} {S : Nat → Prop} {l : List Int} {r : Option ((h : Nat) × Gt EI h)} (hI : Itr EI H H it tr mt Z sk sa se Z fr kv) (hT : TreeR H tr P S l r) (hsi : ¬ S it) (hsz : ∀ b, S b → ¬ Z b) :
    Fn Try.prog B 106 [.pointer (some ⟨it, 0, none⟩)] H (fun v H' => v = .bool (decide (0 < l.length)) ∧ ItPost EI H H' it tr mt Z r l (if 0 < l.length then some (l.length - 1) else none)) := by
  refine fn_of Go.Proofs.Try.func106 rfl Go.Proofs.Try.ntmps106 ?_
  refine (show Go' _ _ _ _ 7 [(0, _)] [.code _] _ from ?_)
  refine Go'.seq ?_
  -- region 0 (set.go:148)
  refine Go'.region [(0, 0)] rfl ?_
  refine O.asg rfl rfl rfl rfl rfl ?_
  refine Pl.fin [(0, _), (2, _)] ⟨rfl, rfl, trivial⟩ ?_
  refine Go'.seq ?_
  -- region 1 (set.go:149)
  refine Go'.region [(0, 0), (1, 0), (2, 0), (3, 2), (4, 0)] rfl ?_
  refine O.mv rfl rfl rfl rfl rfl ?_
  refine O.nc rfl rfl rfl rfl rfl ?_
  refine O.faz rfl rfl rfl rfl ⟨_, _, _, Go.Proofs.Try.underlying158, rfl, rfl, Go.Proofs.Try.sizeOf156⟩ rfl ?_
  refine O.call rfl rfl rfl Go.Proofs.Try.call144 rfl (iLast_spec hI hT hsi hsz) ?_
  rintro v H' h
  refine ⟨trivial, ?_⟩
  refine O.asg rfl rfl rfl rfl rfl ?_
  refine Pl.fin [(2, _)] ⟨rfl, trivial⟩ ?_
  refine Go'.ret (vs := [_]) Go.Proofs.Try.func106 Go.Proofs.Try.results106 ⟨rfl, trivial⟩ ?_
  exact h

theorem sNext_spec {B : World} {H : Mem} {it tr : Nat} {mt sk sa se : Bool} {Z : Nat → Prop} {fr : List (Nat × Int)} {kv : Int} {P : Ps} {S : Nat → Prop} {l : List Int} {r : Option ((h : Nat) × Gt EI h)} (hI : Itr EI H H it tr mt Z sk sa se Z fr kv) (hT : TreeR H tr P S l r) (hsi : ¬ S it) (hsz : ∀ b, S b → ¬ Z b) {st : Option Nat} (hSt : StI r l sk fr kv st) :
    Fn Try.prog B 107 [.pointer (some ⟨it, 0, none⟩)] H (fun v H' => ∃ b st', v = .bool b ∧ ItPost EI H H' it tr mt Z r l st' ∧ (∀ q, st = some q → b = decide (q + 1 < l.length) ∧ st' = if q + 1 < l.length then some (q + 1) else none) ∧ (l = [] → b = false ∧ st' = none)) := by
  refine fn_of Go.Proofs.Try.func107 rfl Go.Proofs.Try.ntmps107 ?_
  refine (show Go' _ _ _ _ 7 [(0, _)] [.code _] _ from ?_)
  refine Go'.seq ?_
  -- region 0 (set.go:155)
  refine Go'.region [(0, 0)] rfl ?_
  refine O.asg rfl rfl rfl rfl rfl ?_
  refine Pl.fin [(0, _), (2, _)] ⟨rfl, rfl, trivial⟩ ?_
  refine Go'.seq ?_
  -- region 1 (set.go:156)
  refine Go'.region [(0, 0), (1, 0), (2, 0), (3, 2), (4, 0)] rfl ?_
  refine O.mv rfl rfl rfl rfl rfl ?_
  refine O.nc rfl rfl rfl rfl rfl ?_
  refine O.faz rfl rfl rfl rfl ⟨_, _, _, Go.Proofs.Try.underlying158, rfl, rfl, Go.Proofs.Try.sizeOf156⟩ rfl ?_
  refine O.call rfl rfl rfl Go.Proofs.Try.call145 rfl (iNext_spec hI hT hsi hsz hSt) ?_
  rintro v H' h
  refine ⟨trivial, ?_⟩
  refine O.asg rfl rfl rfl rfl rfl ?_
  refine Pl.fin [(2, _)] ⟨rfl, trivial⟩ ?_
  refine Go'.ret (vs := [_]) Go.Proofs.Try.func107 Go.Proofs.Try.results107 ⟨rfl, trivial⟩ ?_
  exact h

theorem sPrev_spec {B : World} {H : Mem} {it tr : Nat} {mt sk sa se : Bool} {Z : Nat → Prop} {fr : List (Nat × Int)} {kv : Int} {P : Ps} {S : Nat → Prop} {l : List Int} {r : Option ((h : Nat) × Gt EI h)} (hI : Itr EI H H it tr mt Z sk sa se Z fr kv) (hT : TreeR H tr P S l r) (hsi : ¬ S it) (hsz : ∀ b, S b → ¬ Z b) {st : Option Nat} (hSt : StI r l sk fr kv st) :
    Fn Try.prog B 108 [.pointer (some ⟨it, 0, none⟩)] H (fun v H' => ∃ b st', v = .bool b ∧ ItPost EI H H' it tr mt Z r l st' ∧ (∀ q, st = some q → b = decide (0 < q) ∧ st' = if 0 < q then some (q - 1) else none) ∧ (l = [] → b = false ∧ st' = none)) := by
  refine fn_of Go.Proofs.Try.func108 rfl Go.Proofs.Try.ntmps108 ?_
  refine (show Go' _ _ _ _ 7 [(0, _)] [.code _] _ from ?_)
  refine Go'.seq ?_
  -- region 0 (set.go:162)
  refine Go'.region [(0, 0)] rfl ?_
  refine O.asg rfl rfl rfl rfl rfl ?_
  refine Pl.fin [(0, _), (2, _)] ⟨rfl, rfl, trivial⟩ ?_
  refine Go'.seq ?_
  -- region 1 (set.go:163)
  refine Go'.region [(0, 0), (1, 0), (2, 0), (3, 2), (4, 0)] rfl ?_
  refine O.mv rfl rfl rfl rfl rfl ?_
  refine O.nc rfl rfl rfl rfl rfl ?_
  refine O.faz rfl rfl rfl rfl ⟨_, _, _, Go.Proofs.Try.underlying158, rfl, rfl, Go.Proofs.Try.sizeOf156⟩ rfl ?_
  refine O.call rfl rfl rfl Go.Proofs.Try.call146 rfl (iPrev_spec hI hT hsi hsz hSt) ?_
  rintro v H' h
  refine ⟨trivial, ?_⟩
  refine O.asg rfl rfl rfl rfl rfl ?_
  refine Pl.fin [(2, _)] ⟨rfl, trivial⟩ ?_
  refine Go'.ret (vs := [_]) Go.Proofs.Try.func108 Go.Proofs.Try.results108 ⟨rfl, trivial⟩ ?_
  exact h

theorem sSeek_spec {B : World} {H : Mem} {it tr : Nat} {mt sk sa se : Bool} {Z : Nat → Prop} {fr : List (Nat × Int)} {kv : Int} {P : Ps} {S : Nat → Prop} {l : List Int} {r : Option ((h : Nat) × Gt EI h)} (hI : Itr EI H H it tr mt Z sk sa se Z fr kv) (hT : TreeR H tr P S l r) (hsi : ¬ S it) (hsz : ∀ b, S b → ¬ Z b) (hsrt : Pl.Srt OI l) (hmx : P.mx ≤ 255) (x : Int) :
    Fn Try.prog B 109 [.pointer (some ⟨it, 0, none⟩), .int .i64 x] H (fun v H' => v = .bool (decide (Pl.pos OI x l < l.length)) ∧ ItPost EI H H' it tr mt Z r l (if Pl.pos OI x l < l.length then some (Pl.pos OI x l) else none)) := by
  refine fn_of Go.Proofs.Try.func109 rfl Go.Proofs.Try.ntmps109 ?_
  refine (show Go' _ _ _ _ 10 [(0, _), (1, _)] [.code _] _ from ?_)
  refine Go'.seq ?_
  -- region 0 (set.go:136)
  refine Go'.region [(0, 0)] rfl ?_
  refine O.asg rfl rfl rfl rfl rfl ?_
  refine Pl.fin [(0, _), (1, _), (4, _)] ⟨rfl, rfl, rfl, trivial⟩ ?_
  refine Go'.seq ?_
  -- region 1 (set.go:137)
  refine Go'.region [(0, 0), (1, 0), (2, 0), (3, 0), (4, 2), (5, 0)] rfl ?_
  refine O.mv rfl rfl rfl rfl rfl ?_
  refine O.nc rfl rfl rfl rfl rfl ?_
  refine O.faz rfl rfl rfl rfl ⟨_, _, _, Go.Proofs.Try.underlying158, rfl, rfl, Go.Proofs.Try.sizeOf156⟩ rfl ?_
  refine O.mv rfl rfl rfl rfl rfl ?_
  refine O.call rfl rfl rfl Go.Proofs.Try.call147 rfl (iSeek_spec hI hT hsi hsz hsrt hmx x) ?_
  rintro v H' h
  refine ⟨trivial, ?_⟩
  refine O.asg rfl rfl rfl rfl rfl ?_
  refine Pl.fin [(4, _)] ⟨rfl, trivial⟩ ?_
  refine Go'.ret (vs := [_]) Go.Proofs.Try.func109 Go.Proofs.Try.results109 ⟨rfl, trivial⟩ ?_
  exact h

theorem sKey_spec {B : World} {H : Mem} {it : Nat} {kv : Int} (hk : Rd H it 6 (EI.enc kv)) : Fn Try.prog B 111 [.pointer (some ⟨it, 0, none⟩)] H (fun v H' => v = .int .i64 kv ∧ H' = H) := by
  refine fn_of Go.Proofs.Try.func111 rfl Go.Proofs.Try.ntmps111 ?_
  refine (show Go' _ _ _ _ 7 [(0, _)] [.code _] _ from ?_)
  refine Go'.seq ?_
  -- region 0 (set.go:167)
  refine Go'.region [(0, 0)] rfl ?_
  refine O.asg rfl rfl rfl rfl rfl ?_
  refine Pl.fin [(0, _), (2, _)] ⟨rfl, rfl, trivial⟩ ?_
  refine Go'.seq ?_
  -- region 1 (set.go:168)
  refine Go'.region [(0, 0), (1, 0), (2, 0), (3, 2), (4, 0)] rfl ?_
  refine O.mv rfl rfl rfl rfl rfl ?_
  refine O.nc rfl rfl rfl rfl rfl ?_
  refine O.faz rfl rfl rfl rfl ⟨_, _, _, Go.Proofs.Try.underlying158, rfl, rfl, Go.Proofs.Try.sizeOf156⟩ rfl ?_
  refine O.callQ rfl rfl rfl Go.Proofs.Try.call149 rfl (iKey_spec hk) trivial ?_
  refine O.asg rfl rfl rfl rfl rfl ?_
  refine Pl.fin [(2, _)] ⟨rfl, trivial⟩ ?_
  refine Go'.ret (vs := [_]) Go.Proofs.Try.func111 Go.Proofs.Try.results111 ⟨rfl, trivial⟩ ?_
  exact ⟨rfl, rfl⟩

/-- What was found of a key. -/
def EKy : Elt (Option Int) := { enc := kvs, s := 2, len := fun o => by cases o <;> rfl, one := fun o => by cases o <;> rfl, pos := by decide }
theorem takeWhile_len_map {α β : Type} (f : α → β) (p : β → Bool) (q : α → Bool) (h : ∀ x, p (f x) = q x) : ∀ l : List α, ((l.map f).takeWhile p).length = (l.takeWhile q).length
  | [] => rfl
  | x :: l => by
    rw [List.map_cons, List.takeWhile_cons, List.takeWhile_cons, h]
    cases q x
    · rfl
    · simp only [if_true, List.length_cons, takeWhile_len_map f p q h l]
def smv (m : Int × Int × Int) : Int × Int := (m.1, m.2.1)
theorem mvTo_kinj (L : List Int) (m : Int × Int × Int) (s : Option Nat) : Pl.mvTo (OO []) (L.map kinj) m s = Pl.mvTo OI L (smv m) s := by
  have h1 : Pl.pos (OO []) m.2 (L.map kinj) = Pl.pos OI m.2.1 L := takeWhile_len_map _ _ _ (fun x => rfl) L
  unfold Pl.mvTo smv
  rw [h1, List.length_map]
theorem mvTold_kinj (L : List Int) (m : Int × Int × Int) (s : Option Nat) : Pl.mvTold (L.map kinj) m s = Pl.mvTold L (smv m) s := by
  unfold Pl.mvTold smv
  cases L <;> rfl
theorem itRun_kinj (L : List Int) (ms : List (Int × Int × Int)) : (Pl.itRun (OO []) (L.map kinj) ms).2.1.map (Option.map (fun x => x.1)) = (Pl.itRun OI L (ms.map smv)).2.1 ∧ (Pl.itRun (OO []) (L.map kinj) ms).2.2 = (Pl.itRun OI L (ms.map smv)).2.2 := by
  have : ∀ (ms : List (Int × Int × Int)) (s : Option Nat × List (Option (Int × Int)) × List Bool) (t : Option Nat × List (Option Int) × List Bool), s.1 = t.1 → s.2.1.map (Option.map (fun x => x.1)) = t.2.1 → s.2.2 = t.2.2 →
      (ms.foldl (Pl.itStep (OO []) (L.map kinj)) s).2.1.map (Option.map (fun x => x.1)) = ((ms.map smv).foldl (Pl.itStep OI L) t).2.1 ∧ (ms.foldl (Pl.itStep (OO []) (L.map kinj)) s).2.2 = ((ms.map smv).foldl (Pl.itStep OI L) t).2.2 := by
    intro ms
    induction ms with
    | nil => exact fun s t _ h2 h3 => ⟨h2, h3⟩
    | cons m ms ih =>
      intro s t h1 h2 h3
      rw [List.map_cons, List.foldl_cons, List.foldl_cons]
      refine ih _ _ ?_ ?_ ?_
      · show Pl.cut _ (Pl.mvTo _ _ m s.1) = Pl.cut _ (Pl.mvTo _ _ (smv m) t.1)
        rw [mvTo_kinj, List.length_map, h1]
      · show (s.2.1 ++ [(Pl.cut _ (Pl.mvTo _ _ m s.1)).bind _]).map _ = t.2.1 ++ [(Pl.cut _ (Pl.mvTo _ _ (smv m) t.1)).bind _]
        rw [List.map_append, h2, mvTo_kinj, List.length_map, h1, List.map_singleton]
        congr 2
        cases Pl.cut L.length (Pl.mvTo OI L (smv m) t.1) with
        | none => rfl
        | some q =>
          show ((L.map kinj)[q]?).map _ = L[q]?
          rw [List.getElem?_map, Option.map_map]
          cases L[q]? <;> rfl
      · show s.2.2 ++ [Pl.mvTold _ m s.1] = t.2.2 ++ [Pl.mvTold _ (smv m) t.1]
        rw [h3, mvTold_kinj, h1]
  exact this ms _ _ rfl rfl rfl

theorem siter_spec {B : World} {H : Mem} {u um : Value} {l : List Int} {ms : List (Int × Int × Int)} (hi : InS EN H u l) (hll : l.length ≤ 4294967296) (hu : InS EMv H um ms) (hml : ms.length ≤ 4294967296) :
    Fn Try.prog B 67 [u, um] H (fun v H' => ∃ outs, OutS EKy H' v outs ∧ Pl.Agree outs (Pl.itRun OI (Pl.puts OI l) (ms.map smv)).2.1 (Pl.itRun OI (Pl.puts OI l) (ms.map smv)).2.2 ∧ Fr nowhere H H') := by
  have hpl := Pl.puts_length OI l
  have hsrt := Pl.puts_srt OI l
  have hmx : P0.mx ≤ 255 := by decide
  obtain ⟨a, c, hue⟩ := hu.len
  subst hue
  refine fn_of Go.Proofs.Try.func67 rfl Go.Proofs.Try.ntmps67 ?_
  refine (show Go' _ _ _ _ 46 [(0, _), (1, _)] [.code _] _ from ?_)
  refine Go'.seq ?_
  -- region 0 (set.go:224)
  refine Go'.region [(0, 0)] rfl ?_
  refine O.asg rfl rfl rfl rfl rfl ?_
  refine Pl.fin [(0, _), (1, _), (4, _)] ⟨rfl, rfl, rfl, trivial⟩ ?_
  refine Go'.seq ?_
  -- region 1 (set.go:225)
  refine Go'.region [(0, 0), (1, 2), (2, 2), (3, 2), (4, 2)] rfl ?_
  refine O.mv rfl rfl rfl rfl rfl ?_
  refine O.call rfl rfl rfl Go.Proofs.Try.call55 rfl (growSet_spec hi hll) ?_
  rintro _ H1 ⟨tr, S0, rfl, hM, hF1, hS0⟩
  unfold ptr
  refine ⟨trivial, ?_⟩
  refine O.call rfl rfl rfl Go.Proofs.Try.call105 rfl sIter_spec ?_
  rintro _ H2 ⟨rfl, hF2⟩
  have hs2 := hF2.size
  replace hM := hM.fr hF2 (fun _ _ _ => nw)
  refine ⟨trivial, ?_⟩
  refine O.alloc rfl rfl rfl Go.Proofs.Try.zeroValue158 ?_
  intro H3 M3
  refine ⟨trivial, ?_⟩
  have hs3 := M3.size
  have hlt := hM.lt
  replace hM := hM.fr (M3.fr nowhere) (fun _ _ _ => nw)
  have m7 : Wr H3 H2.size 0 7 := M3.wr 7 (by decide)
  refine O.st (vs := (itv tr false)) rfl rfl Go.Proofs.Try.sizeOf158 rfl rfl rfl rfl rfl m7 ?_
  intro H4 W4
  have hs4 := W4.size
  have hs1 := hF1.size
  replace hM := hM.fr W4.fr (fun b o hs hz => by have h1 := hz.1; have := hlt b hs; omega)
  have hI := itr_new W4 m7
  obtain ⟨r, hT⟩ := hM.treeR (by omega)
  have hF4 : Fr nowhere H H4 := ((hF1.trans hF2).trans (M3.fr nowhere)).trans' W4.fr (fun _ _ _ h => h) (fun b o hb hz => by have h1 := hz.1; omega)
  have hsi : ¬ S0 H2.size := fun hs => by have := hlt _ hs; omega
  have hit : H.size ≤ H2.size := by omega
  clear hM hF1 hF2 hs2 hs3 hlt hs1 hS0 m7 W4 M3 hi
  generalize H2.size = it at *
  generalize hT0 : Pl.puts OI l = T at *
  clear hs4 H2 H3
  refine ⟨trivial, ?_⟩
  refine Pl.fin [(1, _), (4, _), (5, _)] ⟨rfl, rfl, rfl, trivial⟩ ?_
  refine Go'.seq ?_
  -- region 2 (set.go:226)
  refine Go'.region [(0, 0)] rfl ?_
  refine O.asg rfl rfl rfl rfl rfl ?_
  refine Pl.fin [(1, _), (4, _), (5, _), (6, _)] ⟨rfl, rfl, rfl, rfl, trivial⟩ ?_
  refine Go'.seq ?_
  refine Go'.seq ?_
  -- region 3 (set.go:227)
  refine Go'.region [(0, 0), (1, 0), (2, 0)] rfl ?_
  refine O.mv rfl rfl rfl rfl rfl ?_
  refine O.len rfl rfl rfl rfl Go.Proofs.Try.underlying45 rfl ?_
  refine O.mv rfl rfl rfl rfl rfl ?_
  refine Pl.fin [(4, _), (5, _), (6, _), (13, _), (14, _), (15, _)] ⟨rfl, rfl, rfl, rfl, rfl, rfl, trivial⟩ ?_
  refine Go'.block ?_
  refine Go'.loop ?_
  refine Go'.keep [(5, _), (6, _), (13, _), (14, _), (15, _)] ⟨rfl, rfl, rfl, rfl, rfl, trivial⟩ ?_
  refine Go'.ind (σ := Nat × Value) (fun s => ms.length - s.1) (fun s H' => Fr nowhere H H' ∧ s.1 ≤ ms.length ∧ ∃ sk sa se Z fr kv st Zo outs, Itr EI H' H' it tr false Z sk sa se Z fr kv ∧ StI r T sk fr kv st ∧ TreeR H' tr P0 S0 T r ∧ (∀ b, Z b → H.size ≤ b ∧ ¬ S0 b) ∧ (∀ q, (Pl.itRun OI T ((ms.take s.1).map smv)).1 = some q → st = some q) ∧ Acc EKy Zo H' s.2 outs ∧ (∀ b, Zo b → H.size ≤ b ∧ b < H'.size ∧ ¬ S0 b ∧ ¬ Z b ∧ b ≠ it) ∧ Pl.Agree outs (Pl.itRun OI T ((ms.take s.1).map smv)).2.1 (Pl.itRun OI T ((ms.take s.1).map smv)).2.2)
    (fun s => [(5, .pointer (some ⟨it, 0, none⟩)), (6, s.2), (13, .slice a ms.length c), (14, .int .i64 (ms.length : Int)), (15, .int .i64 (s.1 : Int))]) (0, .slice none 0 0)
    ⟨hF4, Nat.zero_le _, false, false, false, fun _ => False, [], kv0, none, fun _ => False, [], hI, rfl, hT, fun _ h => h.elim, (fun q h => by simp [Pl.itRun] at h), Acc.nil _ _ _, fun _ h => h.elim, Pl.Agree.nil⟩ rfl ?_
  clear hI hT hF4
  rintro ⟨j, sv⟩ H2 ⟨hF, hjl, sk, sa, se, Z, fr, kv, st, Zo, outs, hI, hSt, hT, hZ, hsim, hA, hZo, hag⟩ ih
  simp only at hjl hsim hA hag
  refine Go'.seq ?_
  by_cases hlt : j < ms.length
  · skip
    obtain ⟨y, hy⟩ : ∃ y, ms[j]? = some y := ⟨ms[j], List.getElem?_eq_getElem hlt⟩
    obtain ⟨b, o, c', e, hr⟩ := (hu.fr hF).at hy
    cases e
    have hsz0 := hF.size
    have erun : Pl.itRun OI T ((ms.take (j + 1)).map smv) = Pl.itStep OI T (Pl.itRun OI T ((ms.take j).map smv)) (smv y) := by
      rw [List.take_add_one, hy, List.map_append]
      exact Pl.itRun_snoc _ _ _ _
    have hlo : outs.length = j := by rw [hag.1, (Pl.itRun_len OI T ((ms.take j).map smv)).1, List.length_map, List.length_take]; omega
    -- region 4 (set.go:227)
    refine Go'.region [(0, 0)] rfl ?_
    refine O.cmp rfl rfl rfl rfl rfl rfl (lssT (by omega)) ?_
    refine Pl.fin [(5, _), (6, _), (13, _), (14, _), (15, _), (16, _)] ⟨rfl, rfl, rfl, rfl, rfl, rfl, trivial⟩ ?_
    refine Go'.seq ?_
    refine Go'.condT rfl ?_
    refine Go'.skip ?_
    refine Go'.seq ?_
    refine Go'.block ?_
    refine Go'.seq ?_
    -- region 5 (set.go:227)
    refine Go'.region [(0, 0), (1, 1), (2, 2), (3, 2)] rfl ?_
    refine O.ix (j := j) rfl rfl rfl rfl Go.Proofs.Try.underlying45 Go.Proofs.Try.sizeOf107 rfl rfl (by omega) hlt ?_
    refine O.lds rfl rfl rfl (fun w => ⟨Go.Proofs.Try.isAgg107 w, Go.Proofs.Try.sizeOf107 w⟩) rfl rfl hr ?_
    refine O.alloc rfl rfl rfl Go.Proofs.Try.zeroValue107 ?_
    intro H3 M3
    refine ⟨trivial, ?_⟩
    have hs3 := M3.size
    have m7 : Wr H3 H2.size 0 3 := M3.wr 3 (by decide)
    refine O.st rfl rfl Go.Proofs.Try.sizeOf107 rfl rfl rfl rfl rfl m7 ?_
    intro H4 W4
    have hs4 := W4.size
    have hf4 : Fr nowhere H2 H4 := (M3.fr nowhere).trans' W4.fr (fun _ _ _ h => h) (fun b o hb hz => by have h1 := hz.1; omega)
    replace hI := hI.away hf4 (fun _ _ _ => nw)
    replace hT := hT.keep hf4 (fun _ _ _ => nw)
    replace hA := hA.fr hf4 (fun _ _ _ _ => nw)
    have hSZ : ∀ b, S0 b → ¬ Z b := fun b hs hz => (hZ b hz).2 hs
    have hSlt := hT.lt
    have k0 : cl H4 H2.size 0 = some (.int .i64 y.1) := W4.all 0 _ rfl
    have k1 : cl H4 H2.size 1 = some (.int .i64 y.2.1) := W4.all 1 _ rfl
    clear hr hu m7 M3
    refine ⟨trivial, ?_⟩
    refine Pl.fin [(5, _), (6, _), (8, _), (13, _), (14, _), (15, _), (16, _)] ⟨rfl, rfl, rfl, rfl, rfl, rfl, rfl, trivial⟩ ?_
    refine Go'.seq ?_
    -- region 6 (set.go:228)
    refine Go'.region [(0, 0)] rfl ?_
    refine O.asg rfl rfl rfl rfl rfl ?_
    refine Pl.fin [(5, _), (6, _), (8, _), (9, _), (13, _), (14, _), (15, _), (16, _)] ⟨rfl, rfl, rfl, rfl, rfl, rfl, rfl, rfl, trivial⟩ ?_
    refine Go'.seq ?_
    refine Go'.seq ?_
    -- region 7 (set.go:229)
    refine Go'.region [(0, 0), (1, 1)] rfl ?_
    refine O.faz rfl rfl rfl rfl ⟨_, _, _, Go.Proofs.Try.underlying107, rfl, rfl, Go.Proofs.Try.sizeOf3⟩ rfl ?_
    refine O.ld rfl rfl rfl (fun w => ⟨Go.Proofs.Try.isAgg3 w, Go.Proofs.Try.sizeOf3 w⟩) rfl k0 ?_
    refine Pl.fin [(5, _), (6, _), (8, _), (9, _), (13, _), (14, _), (15, _), (16, _), (20, _)] ⟨rfl, rfl, rfl, rfl, rfl, rfl, rfl, rfl, rfl, trivial⟩ ?_
    refine Go'.block ?_
    refine Go'.seq ?_
    refine Go'.cut3 (σ := Bool × Option Nat) (fun s H' => ItPost EI H4 H' it tr false Z r T s.2 ∧ Pl.Res OI T (smv y) (Pl.itRun OI T ((ms.take j).map smv)).1 s.1 s.2) (fun s => [(5, .pointer (some ⟨it, 0, none⟩)), (6, sv), (9, .bool s.1), (13, .slice (some ⟨b, o, none⟩) ms.length c), (14, .int .i64 (ms.length : Int)), (15, .int .i64 (j : Int))]) ?_ ?_
    · rintro ⟨ok, st2⟩ H5 ⟨⟨sk5, sa5, se5, Z5, fr5, kv5, hI5, hS5⟩, hres⟩
      simp only at hres hS5
      have hs5 := hI5.f.size
      have hitlt := cl_lt hI.c0
      have hzz := hI5.zz
      have hkv5 : ∀ q, st2 = some q → T[q]? = some kv5 := fun q e => by subst e; exact hS5.2.1
      have hT5 := hT.keep hI5.f (fun b o hs hz => hz.elim (fun e => hsi (e ▸ hs)) (hSZ b hs))
      have hA5 := hA.fr hI5.f (fun b o hb hz hx => hx.elim (fun e => (hZo b hz).2.2.2.2 e) (hZo b hz).2.2.2.1)
      have hF5 : Fr nowhere H H5 := (hF.trans hf4).trans' hI5.f (fun _ _ _ h => h) (fun b o hb hz => hz.elim (fun e => by omega) (fun h => by have := (hZ b h).1; omega))
      replace hI5 := hI5.low
      -- region 18 (set.go:241)
      refine Go'.region [(0, 0), (1, 2), (2, 0), (3, 2), (4, 2), (5, 2), (6, 0)] rfl ?_
      refine O.mv rfl rfl rfl rfl rfl ?_
      refine O.callQ rfl rfl rfl Go.Proofs.Try.call111 rfl (sKey_spec hI5.kv) trivial ?_
      refine O.mv rfl rfl rfl rfl rfl ?_
      refine O.call rfl rfl rfl Go.Proofs.Try.call83 rfl (key_spec (x := kv5) (ok := ok)) ?_
      rintro _ H6 ⟨rfl, hF6⟩
      have hs6 := hF6.size
      unfold KV
      replace hI5 := hI5.away hF6 (fun _ _ _ => nw)
      replace hT5 := hT5.keep hF6 (fun _ _ _ => nw)
      replace hA5 := hA5.fr hF6 (fun _ _ _ _ => nw)
      refine ⟨trivial, ?_⟩
      refine O.bsl (cs := (kvs (ok1 kv5 ok))) rfl rfl rfl ⟨Go.Proofs.Try.underlying59, Go.Proofs.Try.sizeOf63, Go.Proofs.Try.zeroValue63, ⟨_, Go.Proofs.Try.typeInfo63, rfl⟩, rfl, by decide, by decide⟩ rfl (by decide) (by cases ok <;> kernel_rfl) ?_
      intro H7 M7
      have hs7 := M7.size
      replace hI5 := hI5.away (M7.fr nowhere) (fun _ _ _ => nw)
      replace hT5 := hT5.keep (M7.fr nowhere) (fun _ _ _ => nw)
      replace hA5 := hA5.fr (M7.fr nowhere) (fun _ _ _ _ => nw)
      have m5 : Rd H7 H6.size 0 (row EKy [ok1 kv5 ok]) := M7.rd _ [] (by simp [row, EKy])
      refine ⟨trivial, ?_⟩
      refine O.appA (E := EKy) (Y := [ok1 kv5 ok]) rfl rfl rfl ⟨Go.Proofs.Try.underlying59, Go.Proofs.Try.sizeOf63, Go.Proofs.Try.zeroValue63, ⟨_, Go.Proofs.Try.typeInfo63, rfl⟩, rfl, by decide, by decide⟩ rfl hA5 rfl ⟨_, _, _, rfl, m5⟩ (Nat.succ_pos _) (Nat.le_trans (Nat.mul_le_mul_left _ (Nat.le_of_ble_eq_true (n := _) (m := 4096) rfl)) (by rw [hlo]; simp only [List.length_cons, List.length_nil]; omega)) (by rw [hlo]; simp only [List.length_cons, List.length_nil]; omega) ?_
      intro v8 H8 hA8 hF8 hs8
      have hg8 := hF8.size
      have hI8 := hI5.away hF8 (fun b o hz hb => by
        have h1 := hZo b hb
        rcases hz with e | hz
        · exact h1.2.2.2.2 e
        · exact (hzz b hz.1).elim h1.2.2.2.1 (fun h => by have := h1.2.1; omega))
      have hT8 := hT5.keep hF8 (fun b o hs hb => (hZo b hb).2.2.1 hs)
      refine ⟨trivial, ?_⟩
      refine O.asg rfl rfl rfl rfl rfl ?_
      refine Pl.fin [(5, _), (6, _), (9, _), (13, _), (14, _), (15, _)] ⟨rfl, rfl, rfl, rfl, rfl, rfl, trivial⟩ ?_
      refine Go'.inBlock ?_
      -- region 19 (set.go:227)
      refine Go'.region [(0, 0), (1, 0)] rfl ?_
      refine O.add (((j + 1 : Nat) : Int)) rfl rfl rfl rfl rfl rfl (by omega) (by omega) ?_
      refine O.mv rfl rfl rfl rfl rfl ?_
      refine Pl.fin [(5, _), (6, _), (9, _), (13, _), (14, _), (15, _)] ⟨rfl, rfl, rfl, rfl, rfl, rfl, trivial⟩ ?_
      refine Go'.keep [(5, _), (6, _), (13, _), (14, _), (15, _)] ⟨rfl, rfl, rfl, rfl, rfl, trivial⟩ ?_
      refine Go'.inLoop ?_
      exact ih (j + 1, v8) H8 ⟨((hF5.trans hF6).trans (M7.fr nowhere)).trans' hF8 (fun _ _ _ h => h) (fun b o hb hz => by have := (hZo b hz).1; omega), hlt, sk5, sa5, se5, _, fr5, kv5, st2, (fun b => Zo b ∨ (b = H7.size ∧ b < H8.size)), outs ++ [ok1 kv5 ok], hI8, hS5, hT8,
        fun b hb => (hzz b hb.1).elim (hZ b) (fun h => ⟨by omega, fun hs => by have := hSlt b hs; omega⟩),
        (fun q hq => hres.sim q (by rw [← hq, erun]; rfl)), hA8,
        fun b hb => hb.elim (fun h => have h1 := hZo b h; ⟨h1.1, by have := h1.2.1; omega, h1.2.2.1, fun hz => (hzz b hz.1).elim h1.2.2.2.1 (fun h => by have := h1.2.1; omega), h1.2.2.2.2⟩) (fun h => ⟨by omega, h.2, fun hs => by have := hSlt b hs; omega, fun hz => by have := hz.2; omega, fun e => by omega⟩), by
          simp only
          rw [erun]
          exact hag.snoc (fun ht => by rw [← hres.out hkv5 ht]; cases ok <;> rfl)⟩ (by simp only; omega)
    · intro tail
      by_cases h1 : y.1 = 1
      · skip
        -- region 9 (set.go:230)
        refine Go'.region [(0, 0), (1, 0)] rfl ?_
        refine O.cmp rfl rfl rfl rfl rfl rfl (eqlT (by omega)) ?_
        refine O.asg rfl rfl rfl rfl rfl ?_
        refine Pl.fin [(5, _), (6, _), (8, _), (9, _), (13, _), (14, _), (15, _), (16, _), (20, _), (22, _)] ⟨rfl, rfl, rfl, rfl, rfl, rfl, rfl, rfl, rfl, rfl, trivial⟩ ?_
        refine Go'.condT rfl ?_
        -- region 10 (set.go:231)
        refine Go'.region [(0, 2), (1, 0)] rfl ?_
        refine O.call rfl rfl rfl Go.Proofs.Try.call106 rfl (sLast_spec hI hT hsi hSZ) ?_
        rintro _ H5 ⟨rfl, hp⟩
        refine ⟨trivial, ?_⟩
        refine O.asg rfl rfl rfl rfl rfl ?_
        refine Pl.fin [(5, _), (6, _), (8, _), (9, _), (13, _), (14, _), (15, _), (16, _), (20, _), (22, _)] ⟨rfl, rfl, rfl, rfl, rfl, rfl, rfl, rfl, rfl, rfl, trivial⟩ ?_
        refine Go'.inBlock ?_
        refine Go'.keep [(5, _), (6, _), (9, _), (13, _), (14, _), (15, _)] ⟨rfl, rfl, rfl, rfl, rfl, rfl, trivial⟩ ?_
        exact tail (_, _) _ ⟨hp, Pl.Res.last h1⟩
      -- region 9 (set.go:230)
      refine Go'.region [(0, 0), (1, 0)] rfl ?_
      refine O.cmp rfl rfl rfl rfl rfl rfl (eqlF (by omega)) ?_
      refine O.asg rfl rfl rfl rfl rfl ?_
      refine Pl.fin [(5, _), (6, _), (8, _), (9, _), (13, _), (14, _), (15, _), (16, _), (20, _), (22, _)] ⟨rfl, rfl, rfl, rfl, rfl, rfl, rfl, rfl, rfl, rfl, trivial⟩ ?_
      refine Go'.condF rfl ?_
      refine Go'.seq ?_
      by_cases h2 : y.1 = 2
      · skip
        -- region 11 (set.go:232)
        refine Go'.region [(0, 0), (1, 0)] rfl ?_
        refine O.cmp rfl rfl rfl rfl rfl rfl (eqlT (by omega)) ?_
        refine O.asg rfl rfl rfl rfl rfl ?_
        refine Pl.fin [(5, _), (6, _), (8, _), (9, _), (13, _), (14, _), (15, _), (16, _), (20, _), (22, _), (25, _)] ⟨rfl, rfl, rfl, rfl, rfl, rfl, rfl, rfl, rfl, rfl, rfl, trivial⟩ ?_
        refine Go'.condT rfl ?_
        -- region 12 (set.go:233)
        refine Go'.region [(0, 2), (1, 0)] rfl ?_
        refine O.call rfl rfl rfl Go.Proofs.Try.call107 rfl (sNext_spec hI hT hsi hSZ hSt) ?_
        rintro _ H5 ⟨ok, st2, rfl, hp, hq, hn⟩
        refine ⟨trivial, ?_⟩
        refine O.asg rfl rfl rfl rfl rfl ?_
        refine Pl.fin [(5, _), (6, _), (8, _), (9, _), (13, _), (14, _), (15, _), (16, _), (20, _), (22, _), (25, _)] ⟨rfl, rfl, rfl, rfl, rfl, rfl, rfl, rfl, rfl, rfl, rfl, trivial⟩ ?_
        refine Go'.inBlock ?_
        refine Go'.keep [(5, _), (6, _), (9, _), (13, _), (14, _), (15, _)] ⟨rfl, rfl, rfl, rfl, rfl, rfl, trivial⟩ ?_
        exact tail (_, _) _ ⟨hp, Pl.Res.next h2 hsim hq hn⟩
      -- region 11 (set.go:232)
      refine Go'.region [(0, 0), (1, 0)] rfl ?_
      refine O.cmp rfl rfl rfl rfl rfl rfl (eqlF (by omega)) ?_
      refine O.asg rfl rfl rfl rfl rfl ?_
      refine Pl.fin [(5, _), (6, _), (8, _), (9, _), (13, _), (14, _), (15, _), (16, _), (20, _), (22, _), (25, _)] ⟨rfl, rfl, rfl, rfl, rfl, rfl, rfl, rfl, rfl, rfl, rfl, trivial⟩ ?_
      refine Go'.condF rfl ?_
      refine Go'.seq ?_
      by_cases h3 : y.1 = 3
      · skip
        -- region 13 (set.go:234)
        refine Go'.region [(0, 0), (1, 0)] rfl ?_
        refine O.cmp rfl rfl rfl rfl rfl rfl (eqlT (by omega)) ?_
        refine O.asg rfl rfl rfl rfl rfl ?_
        refine Pl.fin [(5, _), (6, _), (8, _), (9, _), (13, _), (14, _), (15, _), (16, _), (20, _), (22, _), (25, _), (28, _)] ⟨rfl, rfl, rfl, rfl, rfl, rfl, rfl, rfl, rfl, rfl, rfl, rfl, trivial⟩ ?_
        refine Go'.condT rfl ?_
        -- region 14 (set.go:235)
        refine Go'.region [(0, 2), (1, 0)] rfl ?_
        refine O.call rfl rfl rfl Go.Proofs.Try.call108 rfl (sPrev_spec hI hT hsi hSZ hSt) ?_
        rintro _ H5 ⟨ok, st2, rfl, hp, hq, hn⟩
        refine ⟨trivial, ?_⟩
        refine O.asg rfl rfl rfl rfl rfl ?_
        refine Pl.fin [(5, _), (6, _), (8, _), (9, _), (13, _), (14, _), (15, _), (16, _), (20, _), (22, _), (25, _), (28, _)] ⟨rfl, rfl, rfl, rfl, rfl, rfl, rfl, rfl, rfl, rfl, rfl, rfl, trivial⟩ ?_
        refine Go'.inBlock ?_
        refine Go'.keep [(5, _), (6, _), (9, _), (13, _), (14, _), (15, _)] ⟨rfl, rfl, rfl, rfl, rfl, rfl, trivial⟩ ?_
        exact tail (_, _) _ ⟨hp, Pl.Res.prev h3 (fun q h => Pl.itRun_lt OI T _ h) hsim hq hn⟩
      -- region 13 (set.go:234)
      refine Go'.region [(0, 0), (1, 0)] rfl ?_
      refine O.cmp rfl rfl rfl rfl rfl rfl (eqlF (by omega)) ?_
      refine O.asg rfl rfl rfl rfl rfl ?_
      refine Pl.fin [(5, _), (6, _), (8, _), (9, _), (13, _), (14, _), (15, _), (16, _), (20, _), (22, _), (25, _), (28, _)] ⟨rfl, rfl, rfl, rfl, rfl, rfl, rfl, rfl, rfl, rfl, rfl, rfl, trivial⟩ ?_
      refine Go'.condF rfl ?_
      refine Go'.seq ?_
      refine Go'.seq ?_
      by_cases h4 : y.1 = 4
      · skip
        -- region 15 (set.go:236)
        refine Go'.region [(0, 0), (1, 0)] rfl ?_
        refine O.cmp rfl rfl rfl rfl rfl rfl (eqlT (by omega)) ?_
        refine O.asg rfl rfl rfl rfl rfl ?_
        refine Pl.fin [(5, _), (6, _), (8, _), (9, _), (13, _), (14, _), (15, _), (16, _), (20, _), (22, _), (25, _), (28, _), (31, _)] ⟨rfl, rfl, rfl, rfl, rfl, rfl, rfl, rfl, rfl, rfl, rfl, rfl, rfl, trivial⟩ ?_
        refine Go'.condT rfl ?_
        refine Go'.skip ?_
        refine Go'.condT rfl ?_
        -- region 17 (set.go:237)
        refine Go'.region [(0, 0), (1, 0), (2, 1), (3, 2), (4, 0)] rfl ?_
        refine O.fa0 (off := 1) rfl rfl rfl rfl ⟨_, _, _, Go.Proofs.Try.underlying107, rfl, rfl, Go.Proofs.Try.sizeOf68⟩ rfl ?_
        refine O.faz rfl rfl rfl rfl ⟨_, _, _, Go.Proofs.Try.underlying68, rfl, rfl, Go.Proofs.Try.sizeOf3⟩ rfl ?_
        refine O.ld rfl rfl rfl (fun w => ⟨Go.Proofs.Try.isAgg3 w, Go.Proofs.Try.sizeOf3 w⟩) rfl k1 ?_
        refine O.call rfl rfl rfl Go.Proofs.Try.call109 rfl (sSeek_spec hI hT hsi hSZ hsrt hmx y.2.1) ?_
        rintro _ H5 ⟨rfl, hp⟩
        refine ⟨trivial, ?_⟩
        refine O.asg rfl rfl rfl rfl rfl ?_
        refine Pl.fin [(5, _), (6, _), (8, _), (9, _), (13, _), (14, _), (15, _), (16, _), (20, _), (22, _), (25, _), (28, _), (31, _)] ⟨rfl, rfl, rfl, rfl, rfl, rfl, rfl, rfl, rfl, rfl, rfl, rfl, rfl, trivial⟩ ?_
        refine Go'.inBlock ?_
        refine Go'.keep [(5, _), (6, _), (9, _), (13, _), (14, _), (15, _)] ⟨rfl, rfl, rfl, rfl, rfl, rfl, trivial⟩ ?_
        exact tail (_, _) _ ⟨hp, Pl.Res.seek (.inl h4)⟩
      -- region 15 (set.go:236)
      refine Go'.region [(0, 0), (1, 0)] rfl ?_
      refine O.cmp rfl rfl rfl rfl rfl rfl (eqlF (by omega)) ?_
      refine O.asg rfl rfl rfl rfl rfl ?_
      refine Pl.fin [(5, _), (6, _), (8, _), (9, _), (13, _), (14, _), (15, _), (16, _), (20, _), (22, _), (25, _), (28, _), (31, _)] ⟨rfl, rfl, rfl, rfl, rfl, rfl, rfl, rfl, rfl, rfl, rfl, rfl, rfl, trivial⟩ ?_
      refine Go'.condF rfl ?_
      by_cases h5 : y.1 = 5
      · skip
        -- region 16 (set.go:236)
        refine Go'.region [(0, 0), (1, 0)] rfl ?_
        refine O.cmp rfl rfl rfl rfl rfl rfl (eqlT (by omega)) ?_
        refine O.asg rfl rfl rfl rfl rfl ?_
        refine Pl.fin [(5, _), (6, _), (8, _), (9, _), (13, _), (14, _), (15, _), (16, _), (20, _), (22, _), (25, _), (28, _), (31, _)] ⟨rfl, rfl, rfl, rfl, rfl, rfl, rfl, rfl, rfl, rfl, rfl, rfl, rfl, trivial⟩ ?_
        refine Go'.condT rfl ?_
        -- region 17 (set.go:237)
        refine Go'.region [(0, 0), (1, 0), (2, 1), (3, 2), (4, 0)] rfl ?_
        refine O.fa0 (off := 1) rfl rfl rfl rfl ⟨_, _, _, Go.Proofs.Try.underlying107, rfl, rfl, Go.Proofs.Try.sizeOf68⟩ rfl ?_
        refine O.faz rfl rfl rfl rfl ⟨_, _, _, Go.Proofs.Try.underlying68, rfl, rfl, Go.Proofs.Try.sizeOf3⟩ rfl ?_
        refine O.ld rfl rfl rfl (fun w => ⟨Go.Proofs.Try.isAgg3 w, Go.Proofs.Try.sizeOf3 w⟩) rfl k1 ?_
        refine O.call rfl rfl rfl Go.Proofs.Try.call109 rfl (sSeek_spec hI hT hsi hSZ hsrt hmx y.2.1) ?_
        rintro _ H5 ⟨rfl, hp⟩
        refine ⟨trivial, ?_⟩
        refine O.asg rfl rfl rfl rfl rfl ?_
        refine Pl.fin [(5, _), (6, _), (8, _), (9, _), (13, _), (14, _), (15, _), (16, _), (20, _), (22, _), (25, _), (28, _), (31, _)] ⟨rfl, rfl, rfl, rfl, rfl, rfl, rfl, rfl, rfl, rfl, rfl, rfl, rfl, trivial⟩ ?_
        refine Go'.inBlock ?_
        refine Go'.keep [(5, _), (6, _), (9, _), (13, _), (14, _), (15, _)] ⟨rfl, rfl, rfl, rfl, rfl, rfl, trivial⟩ ?_
        exact tail (_, _) _ ⟨hp, Pl.Res.seek (.inr h5)⟩
      · skip
        -- region 16 (set.go:236)
        refine Go'.region [(0, 0), (1, 0)] rfl ?_
        refine O.cmp rfl rfl rfl rfl rfl rfl (eqlF (by omega)) ?_
        refine O.asg rfl rfl rfl rfl rfl ?_
        refine Pl.fin [(5, _), (6, _), (8, _), (9, _), (13, _), (14, _), (15, _), (16, _), (20, _), (22, _), (25, _), (28, _), (31, _)] ⟨rfl, rfl, rfl, rfl, rfl, rfl, rfl, rfl, rfl, rfl, rfl, rfl, rfl, trivial⟩ ?_
        refine Go'.condF rfl ?_
        -- region 8 (set.go:239)
        refine Go'.region [(0, 2), (1, 0)] rfl ?_
        refine O.call rfl rfl rfl Go.Proofs.Try.call110 rfl (sFirst_spec hI hT hsi hSZ) ?_
        rintro _ H5 ⟨rfl, hp⟩
        refine ⟨trivial, ?_⟩
        refine O.asg rfl rfl rfl rfl rfl ?_
        refine Pl.fin [(5, _), (6, _), (8, _), (9, _), (13, _), (14, _), (15, _), (16, _), (20, _), (22, _), (25, _), (28, _), (31, _)] ⟨rfl, rfl, rfl, rfl, rfl, rfl, rfl, rfl, rfl, rfl, rfl, rfl, rfl, trivial⟩ ?_
        refine Go'.inBlock ?_
        refine Go'.keep [(5, _), (6, _), (9, _), (13, _), (14, _), (15, _)] ⟨rfl, rfl, rfl, rfl, rfl, rfl, trivial⟩ ?_
        exact tail (_, _) _ ⟨hp, Pl.Res.first h1 h2 h3 h4 h5⟩
  · skip
    obtain rfl : j = ms.length := by omega
    rw [List.take_length] at hag
    -- region 4 (set.go:227)
    refine Go'.region [(0, 0)] rfl ?_
    refine O.cmp rfl rfl rfl rfl rfl rfl (lssF (by omega)) ?_
    refine Pl.fin [(5, _), (6, _), (13, _), (14, _), (15, _), (16, _)] ⟨rfl, rfl, rfl, rfl, rfl, rfl, trivial⟩ ?_
    refine Go'.seq ?_
    refine Go'.condF rfl ?_
    refine Go'.exit rfl ?_
    refine Go'.seq ?_
    -- region 20 (set.go:243)
    refine Go'.region [(0, 0), (1, 0)] rfl ?_
    refine O.mv rfl rfl rfl rfl rfl ?_
    refine O.asg rfl rfl rfl rfl rfl ?_
    refine Pl.fin [(4, _)] ⟨rfl, trivial⟩ ?_
    refine Go'.ret (vs := [_]) Go.Proofs.Try.func67 Go.Proofs.Try.results67 ⟨rfl, trivial⟩ ?_
    exact ⟨outs, hA.out, hag, hF⟩

theorem key_neq (o : Option Int) (a b : Operand) (w : World) : (eqGuard .neq 63 a b (.agg (kvs o).toArray) (.agg (kvs o).toArray)).run Try.prog w = .ok () w ∧ (binOp .neq 63 (.agg (kvs o).toArray) (.agg (kvs o).toArray)).run Try.prog w = .ok (.bool false) w := by
  refine ⟨run_eqGuard_agg w _ _ _ _ _ _ Try.eqGuardType63, ?_⟩
  rw [run_neq_struct]
  have h := (key_eq o a b w).2
  rw [run_eql_struct] at h
  have h2 : (Op.equalIn 10000 63 (.agg (kvs o).toArray) (.agg (kvs o).toArray)).run Try.prog w = .ok true w := by
    cases hh : (Op.equalIn 10000 63 (.agg (kvs o).toArray) (.agg (kvs o).toArray)).run Try.prog w with
    | ok x w2 => rw [hh] at h; simp [Result.andThen] at h; obtain ⟨h1, h2⟩ := h; rw [h1, h2]
    | _ => rw [hh] at h; simp [Result.andThen] at h
  rw [h2]; rfl
theorem st107 : StT Try.prog 107 [(0, 1), (1, 2)] [.int .i64 0, .int .i64 0, .int .i64 0] := ⟨⟨_, Try.underlying107, fun w => by simp [Array.mapM_eq_mapM_toList, Try.sizeOf3, Try.sizeOf68]⟩, Try.zeroValue107⟩

def exml : List (Int × Int × Int) := [(1, 0, 0), (3, 0, 0), (4, 4, 0), (2, 0, 0), (5, 1, 0), (0, 0, 0)]
theorem exMoves_spec {B : World} {H : Mem} : Fn Try.prog B 32 [] H (fun r H' => InS EMv H' r exml ∧ Fr nowhere H H') := by
  refine fn_of Go.Proofs.Try.func32 rfl Go.Proofs.Try.ntmps32 ?_
  refine (show Go' _ _ _ _ 10 [] [.code _] _ from ?_)
  refine Go'.seq ?_
  -- region 0 (help.go:88)
  refine Go'.region [(0, 0)] rfl ?_
  refine O.asg rfl rfl rfl rfl rfl ?_
  refine Pl.fin [(0, _)] ⟨rfl, trivial⟩ ?_
  refine Go'.seq ?_
  -- region 1 (help.go:89)
  refine Go'.region [(0, 0), (1, 0), (2, 0), (3, 0), (4, 0), (5, 0), (6, 0), (7, 0), (8, 2), (9, 0)] rfl ?_
  refine O.bld (cs := [.int .i64 1, .int .i64 0, .int .i64 0]) rfl rfl rfl rfl (st107) rfl (by kernel_rfl) ?_
  refine O.bld (cs := [.int .i64 3, .int .i64 0, .int .i64 0]) rfl rfl rfl rfl (st107) rfl (by kernel_rfl) ?_
  refine O.bld (cs := [.int .i64 4, .int .i64 0]) rfl rfl rfl rfl (st68) rfl (by kernel_rfl) ?_
  refine O.bld (cs := [.int .i64 4, .int .i64 4, .int .i64 0]) rfl rfl rfl rfl (st107) rfl (by kernel_rfl) ?_
  refine O.bld (cs := [.int .i64 2, .int .i64 0, .int .i64 0]) rfl rfl rfl rfl (st107) rfl (by kernel_rfl) ?_
  refine O.bld (cs := [.int .i64 1, .int .i64 0]) rfl rfl rfl rfl (st68) rfl (by kernel_rfl) ?_
  refine O.bld (cs := [.int .i64 5, .int .i64 1, .int .i64 0]) rfl rfl rfl rfl (st107) rfl (by kernel_rfl) ?_
  refine O.bld (cs := [.int .i64 0, .int .i64 0, .int .i64 0]) rfl rfl rfl rfl (st107) rfl (by kernel_rfl) ?_
  refine O.bsl (cs := (row EMv exml)) rfl rfl rfl ⟨Go.Proofs.Try.underlying45, Go.Proofs.Try.sizeOf107, Go.Proofs.Try.zeroValue107, ⟨_, Go.Proofs.Try.typeInfo107, rfl⟩, rfl, by decide, by decide⟩ rfl (by decide) (by kernel_rfl) ?_
  intro H1 M1
  refine ⟨trivial, ?_⟩
  refine O.asg rfl rfl rfl rfl rfl ?_
  refine Pl.fin [(0, _)] ⟨rfl, trivial⟩ ?_
  refine Go'.ret (vs := [_]) Go.Proofs.Try.func32 Go.Proofs.Try.results32 ⟨rfl, trivial⟩ ?_
  exact ⟨.inl ⟨H.size, 0, 6, rfl, by decide, M1.rd _ [] (by simp)⟩, M1.fr nowhere⟩

theorem sameKeys_spec {B : World} {H : Mem} {u v t : Value} {a : List (Option Int)} {b : List (Option (Int × Int))} {tl : List Bool} (hu : InS EKy H u a) (hv : InS EF H v b) (ht : InS EB H t tl) (hag : Pl.Agree a (b.map (Option.map (fun x => x.1))) tl) (hll : b.length ≤ 4294967296) :
    Fn Try.prog B 70 [u, v, t] H (fun r H' => r = .bool true ∧ Fr nowhere H H') := by
  obtain ⟨hab, htb, hag⟩ := hag
  rw [List.length_map] at hab htb
  obtain ⟨a1, c1, e⟩ := hu.len
  subst e
  obtain ⟨a2, c2, e⟩ := hv.len
  subst e
  obtain ⟨a3, c3, e⟩ := ht.len
  subst e
  rw [hab, htb]
  refine fn_of Go.Proofs.Try.func70 rfl Go.Proofs.Try.ntmps70 ?_
  refine (show Go' _ _ _ _ 35 [(0, _), (1, _), (2, _)] [.code _] _ from ?_)
  refine Go'.seq ?_
  -- region 0 (help.go:36)
  refine Go'.region [(0, 0)] rfl ?_
  refine O.asg rfl rfl rfl rfl rfl ?_
  refine Pl.fin [(0, _), (1, _), (2, _), (6, _)] ⟨rfl, rfl, rfl, rfl, trivial⟩ ?_
  refine Go'.seq ?_
  refine Go'.seq ?_
  -- region 1 (help.go:37)
  refine Go'.region [(0, 0), (1, 0), (2, 0), (3, 0), (4, 0)] rfl ?_
  refine O.mv rfl rfl rfl rfl rfl ?_
  refine O.len rfl rfl rfl rfl Go.Proofs.Try.underlying59 rfl ?_
  refine O.mv rfl rfl rfl rfl rfl ?_
  refine O.len rfl rfl rfl rfl Go.Proofs.Try.underlying78 rfl ?_
  refine O.cmp rfl rfl rfl rfl rfl rfl (neqF (by omega)) ?_
  refine Pl.fin [(0, _), (1, _), (2, _), (6, _), (12, _)] ⟨rfl, rfl, rfl, rfl, rfl, trivial⟩ ?_
  refine Go'.condF rfl ?_
  refine Go'.skip ?_
  refine Go'.seq ?_
  refine Go'.seq ?_
  -- region 3 (help.go:40)
  refine Go'.region [(0, 0), (1, 0), (2, 0)] rfl ?_
  refine O.mv rfl rfl rfl rfl rfl ?_
  refine O.len rfl rfl rfl rfl Go.Proofs.Try.underlying59 rfl ?_
  refine O.mv rfl rfl rfl rfl rfl ?_
  refine Pl.fin [(0, _), (1, _), (2, _), (6, _), (14, _), (15, _)] ⟨rfl, rfl, rfl, rfl, rfl, rfl, trivial⟩ ?_
  refine Go'.block ?_
  refine Go'.loop ?_
  refine Go'.keep [(0, _), (1, _), (2, _), (14, _), (15, _)] ⟨rfl, rfl, rfl, rfl, rfl, trivial⟩ ?_
  refine Go'.ind (σ := Nat) (fun j => b.length - j) (fun j H' => Fr nowhere H H' ∧ j ≤ b.length)
    (fun j => [(0, .slice a1 b.length c1), (1, .slice a2 b.length c2), (2, .slice a3 b.length c3), (14, .int .i64 (b.length : Int)), (15, .int .i64 (j : Int))]) 0 ⟨Fr.refl _ _, Nat.zero_le _⟩ rfl ?_
  rintro j H2 ⟨hF, hjl⟩ ih
  refine Go'.seq ?_
  by_cases hlt : j < b.length
  · skip
    obtain ⟨y, hy⟩ : ∃ y, b[j]? = some y := ⟨b[j], List.getElem?_eq_getElem hlt⟩
    obtain ⟨x, hx⟩ : ∃ x, a[j]? = some x := ⟨a[j]'(by omega), List.getElem?_eq_getElem (by omega)⟩
    obtain ⟨k, hk⟩ : ∃ k, tl[j]? = some k := ⟨tl[j]'(by omega), List.getElem?_eq_getElem (by omega)⟩
    obtain ⟨b1, o1, cc1, e, hr1⟩ := (hu.fr hF).at hx
    rw [hab] at e
    cases e
    obtain ⟨b2, o2, cc2, e, hr2⟩ := (hv.fr hF).at hy
    cases e
    obtain ⟨b3, o3, cc3, e, hr3⟩ := (ht.fr hF).at hk
    rw [htb] at e
    cases e
    -- region 4 (help.go:40)
    refine Go'.region [(0, 0)] rfl ?_
    refine O.cmp rfl rfl rfl rfl rfl rfl (lssT (by omega)) ?_
    refine Pl.fin [(0, _), (1, _), (2, _), (14, _), (15, _), (16, _)] ⟨rfl, rfl, rfl, rfl, rfl, rfl, trivial⟩ ?_
    refine Go'.seq ?_
    refine Go'.condT rfl ?_
    refine Go'.skip ?_
    refine Go'.seq ?_
    refine Go'.block ?_
    refine Go'.seq ?_
    -- region 5 (help.go:40)
    refine Go'.region [(0, 0), (1, 0)] rfl ?_
    refine O.mv rfl rfl rfl rfl rfl ?_
    refine O.asg rfl rfl rfl rfl rfl ?_
    refine Pl.fin [(0, _), (1, _), (2, _), (7, _), (14, _), (15, _), (16, _)] ⟨rfl, rfl, rfl, rfl, rfl, rfl, rfl, trivial⟩ ?_
    refine Go'.seq ?_
    rcases k with _ | _
    · skip
      -- region 6 (help.go:41)
      refine Go'.draw (fun _ => True) [(0, 0), (1, 0), (2, 0), (3, 1), (4, 0), (5, 0), (6, 0), (7, 0), (8, 0), (9, 0), (10, 0), (11, 0), (12, 1), (13, 2), (14, 0), (15, 0)] (by kernel_rfl) (by kernel_rfl) (trivial) ?_
      refine O.mv rfl rfl rfl rfl rfl ?_
      refine O.mv rfl rfl rfl rfl rfl ?_
      refine O.ix (j := j) rfl rfl rfl rfl Go.Proofs.Try.underlying50 Go.Proofs.Try.sizeOf4 rfl rfl (by omega) hlt ?_
      refine O.ld rfl rfl rfl (fun w => ⟨Go.Proofs.Try.isAgg4 w, Go.Proofs.Try.sizeOf4 w⟩) rfl (hr3 0 _ rfl) ?_
      refine O.mv rfl rfl rfl rfl rfl ?_
      refine Pl.pass rfl rfl rfl rfl ?_
      refine Pl.pass rfl rfl rfl rfl ?_
      refine Pl.pass rfl rfl rfl rfl ?_
      refine Pl.pass rfl rfl rfl rfl ?_
      refine Pl.pass rfl rfl rfl rfl ?_
      refine Pl.pass rfl rfl rfl rfl ?_
      refine Pl.pass rfl rfl rfl rfl ?_
      refine Pl.pass rfl rfl rfl rfl ?_
      refine Pl.pass2 rfl rfl rfl rfl trivial ?_
      refine Pl.pass rfl rfl rfl rfl ?_
      refine O.pick rfl rfl rfl rfl rfl rfl ?_
      refine Pl.fin [(0, _), (1, _), (2, _), (7, _), (14, _), (15, _), (16, _), (33, _)] ⟨rfl, rfl, rfl, rfl, rfl, rfl, rfl, rfl, trivial⟩ ?_
      refine Go'.condF rfl ?_
      refine Go'.skip ?_
      refine Go'.inBlock ?_
      -- region 8 (help.go:40)
      refine Go'.region [(0, 0), (1, 0)] rfl ?_
      refine O.add (((j + 1 : Nat) : Int)) rfl rfl rfl rfl rfl rfl (by omega) (by omega) ?_
      refine O.mv rfl rfl rfl rfl rfl ?_
      refine Pl.fin [(0, _), (1, _), (2, _), (7, _), (14, _), (15, _), (16, _), (33, _)] ⟨rfl, rfl, rfl, rfl, rfl, rfl, rfl, rfl, trivial⟩ ?_
      refine Go'.keep [(0, _), (1, _), (2, _), (14, _), (15, _)] ⟨rfl, rfl, rfl, rfl, rfl, trivial⟩ ?_
      refine Go'.inLoop ?_
      exact ih (j + 1) H2 ⟨hF, hlt⟩ (by omega)
    · skip
      have exy : x = y.map (fun x => x.1) := by
        have h := hag j hk
        rw [hx, List.getElem?_map, hy] at h
        exact Option.some.inj h
      subst exy
      -- region 6 (help.go:41)
      refine Go'.draw (fun H' => Rd H' b1 (o1 + j * 2) (kvs (y.map (fun x : Int × Int => x.1)))) [(0, 0), (1, 0), (2, 0), (3, 1), (4, 0), (5, 0), (6, 0), (7, 0), (8, 0), (9, 0), (10, 0), (11, 0), (12, 1), (13, 2), (14, 0), (15, 0)] (by kernel_rfl) (by kernel_rfl) (hr1) ?_
      refine O.mv rfl rfl rfl rfl rfl ?_
      refine O.mv rfl rfl rfl rfl rfl ?_
      refine O.ix (j := j) rfl rfl rfl rfl Go.Proofs.Try.underlying50 Go.Proofs.Try.sizeOf4 rfl rfl (by omega) hlt ?_
      refine O.ld rfl rfl rfl (fun w => ⟨Go.Proofs.Try.isAgg4 w, Go.Proofs.Try.sizeOf4 w⟩) rfl (hr3 0 _ rfl) ?_
      refine O.mv rfl rfl rfl rfl rfl ?_
      refine O.mv rfl rfl rfl rfl rfl ?_
      refine O.mv rfl rfl rfl rfl rfl ?_
      refine O.ix (j := j) rfl rfl rfl rfl Go.Proofs.Try.underlying59 Go.Proofs.Try.sizeOf63 rfl rfl (by omega) hlt ?_
      refine O.ldsC rfl rfl rfl (fun w => ⟨Go.Proofs.Try.isAgg63 w, Go.Proofs.Try.sizeOf63 w⟩) rfl (by cases y <;> rfl) (fun _ h => h) ?_
      refine O.mv rfl rfl rfl rfl rfl ?_
      refine O.mv rfl rfl rfl rfl rfl ?_
      refine O.ix (j := j) rfl rfl rfl rfl Go.Proofs.Try.underlying78 Go.Proofs.Try.sizeOf70 rfl rfl (by omega) hlt ?_
      refine O.lds rfl rfl rfl (fun w => ⟨Go.Proofs.Try.isAgg70 w, Go.Proofs.Try.sizeOf70 w⟩) rfl (by cases y <;> rfl) hr2 ?_
      refine O.call rfl rfl rfl Go.Proofs.Try.call41 rfl (keyOf_spec (o := y)) ?_
      rintro _ H3 ⟨rfl, hF3⟩
      unfold KV
      refine ⟨(hF3.rd hr1 (fun _ _ => nw)), ?_⟩
      refine O.bin rfl rfl rfl rfl rfl rfl (key_neq _ _ _) ?_
      refine O.pick rfl rfl rfl rfl rfl rfl ?_
      refine Pl.fin [(0, _), (1, _), (2, _), (7, _), (14, _), (15, _), (16, _), (33, _)] ⟨rfl, rfl, rfl, rfl, rfl, rfl, rfl, rfl, trivial⟩ ?_
      refine Go'.condF rfl ?_
      refine Go'.skip ?_
      refine Go'.inBlock ?_
      -- region 8 (help.go:40)
      refine Go'.region [(0, 0), (1, 0)] rfl ?_
      refine O.add (((j + 1 : Nat) : Int)) rfl rfl rfl rfl rfl rfl (by omega) (by omega) ?_
      refine O.mv rfl rfl rfl rfl rfl ?_
      refine Pl.fin [(0, _), (1, _), (2, _), (7, _), (14, _), (15, _), (16, _), (33, _)] ⟨rfl, rfl, rfl, rfl, rfl, rfl, rfl, rfl, trivial⟩ ?_
      refine Go'.keep [(0, _), (1, _), (2, _), (14, _), (15, _)] ⟨rfl, rfl, rfl, rfl, rfl, trivial⟩ ?_
      refine Go'.inLoop ?_
      exact ih (j + 1) H3 ⟨(hF.trans hF3), hlt⟩ (by omega)
  · skip
    -- region 4 (help.go:40)
    refine Go'.region [(0, 0)] rfl ?_
    refine O.cmp rfl rfl rfl rfl rfl rfl (lssF (by omega)) ?_
    refine Pl.fin [(0, _), (1, _), (2, _), (14, _), (15, _), (16, _)] ⟨rfl, rfl, rfl, rfl, rfl, rfl, trivial⟩ ?_
    refine Go'.seq ?_
    refine Go'.condF rfl ?_
    refine Go'.exit rfl ?_
    refine Go'.seq ?_
    -- region 9 (help.go:45)
    refine Go'.region [(0, 0)] rfl ?_
    refine O.asg rfl rfl rfl rfl rfl ?_
    refine Pl.fin [(6, _)] ⟨rfl, trivial⟩ ?_
    refine Go'.ret (vs := [_]) Go.Proofs.Try.func70 Go.Proofs.Try.results70 ⟨rfl, trivial⟩ ?_
    exact ⟨rfl, hF⟩

theorem lawSIter_spec {B : World} {H : Mem} {u um : Value} {l : List Int} {ms : List (Int × Int × Int)} (hi : InS EN H u l) (hll : l.length ≤ 4294967296) (hu : InS EMv H um ms) (hml : ms.length ≤ 4294967296) :
    Fn Try.prog B 31 [u, um] H (fun r H' => r = .bool true ∧ Fr nowhere H H') := by
  have hpl := Pl.puts_length OI l
  have hpl2 := (Pl.itRun_len (OO []) ((Pl.puts OI l).map kinj) ms).1
  obtain ⟨hk1, hk2⟩ := itRun_kinj (Pl.puts OI l) ms
  refine fn_of Go.Proofs.Try.func31 rfl Go.Proofs.Try.ntmps31 ?_
  refine (show Go' _ _ _ _ 23 [(0, _), (1, _)] [.code _] _ from ?_)
  refine Go'.seq ?_
  -- region 0 (exact.go:1853)
  refine Go'.region [(0, 0)] rfl ?_
  refine O.asg rfl rfl rfl rfl rfl ?_
  refine Pl.fin [(0, _), (1, _), (4, _)] ⟨rfl, rfl, rfl, trivial⟩ ?_
  refine Go'.seq ?_
  -- region 1 (exact.go:1854)
  refine Go'.region [(0, 0), (1, 0), (2, 2), (3, 0)] rfl ?_
  refine O.mv rfl rfl rfl rfl rfl ?_
  refine O.mv rfl rfl rfl rfl rfl ?_
  refine O.call rfl rfl rfl Go.Proofs.Try.call67 rfl (siter_spec hi hll hu hml) ?_
  rintro _ H1 ⟨outs, hA, hag, hF1⟩
  refine ⟨trivial, ?_⟩
  refine O.asg rfl rfl rfl rfl rfl ?_
  refine Pl.fin [(0, _), (1, _), (4, _), (5, _)] ⟨rfl, rfl, rfl, rfl, trivial⟩ ?_
  refine Go'.seq ?_
  -- region 2 (exact.go:1855)
  refine Go'.region [(0, 0), (1, 2), (2, 2), (3, 0), (4, 2), (5, 0), (6, 0), (7, 0), (8, 0), (9, 0)] rfl ?_
  refine O.mv rfl rfl rfl rfl rfl ?_
  refine O.call rfl rfl rfl Go.Proofs.Try.call43 rfl (specItems_spec (hi.fr hF1) hll) ?_
  rintro v2 H2 ⟨h2, hF2⟩
  refine ⟨trivial, ?_⟩
  refine O.call rfl rfl rfl Go.Proofs.Try.call69 rfl (tree_spec (ord := []) (InS.nil EN H2) (by simp) h2.inS (by rw [List.length_map]; exact hll)) ?_
  rintro r3 H3 ⟨h3, hF3⟩
  rw [puts_kinj] at h3
  have hF13 := (hF1.trans hF2).trans hF3
  refine ⟨trivial, ?_⟩
  refine O.mv rfl rfl rfl rfl rfl ?_
  refine O.call rfl rfl rfl Go.Proofs.Try.call68 rfl (giter_spec (ord := []) (InS.nil EN H3) (by simp) h3.inS (by rw [← puts_kinj]; exact Pl.puts_srt _ _) (by rw [List.length_map]; omega) (hu.fr hF13) hml) ?_
  rintro _ H4 ⟨v1, v2, rfl, h5, h6, hF4⟩
  refine ⟨trivial, ?_⟩
  refine O.mv rfl rfl rfl rfl rfl ?_
  refine O.ext rfl rfl rfl rfl rfl rfl ?_
  refine O.ext rfl rfl rfl rfl rfl rfl ?_
  refine O.asg rfl rfl rfl rfl rfl ?_
  refine O.asg rfl rfl rfl rfl rfl ?_
  refine Pl.fin [(4, _), (5, _), (6, _), (7, _)] ⟨rfl, rfl, rfl, rfl, trivial⟩ ?_
  refine Go'.seq ?_
  -- region 3 (exact.go:1856)
  refine Go'.region [(0, 0), (1, 0), (2, 0), (3, 2), (4, 0)] rfl ?_
  refine O.mv rfl rfl rfl rfl rfl ?_
  refine O.mv rfl rfl rfl rfl rfl ?_
  refine O.mv rfl rfl rfl rfl rfl ?_
  refine O.call rfl rfl rfl Go.Proofs.Try.call70 rfl (sameKeys_spec (hA.inS.fr ((hF2.trans hF3).trans hF4)) h5.inS h6.inS (by rw [hk1, hk2]; exact hag) (by omega)) ?_
  rintro _ H5 ⟨rfl, hF5⟩
  refine ⟨trivial, ?_⟩
  refine O.asg rfl rfl rfl rfl rfl ?_
  refine Pl.fin [(4, _)] ⟨rfl, trivial⟩ ?_
  refine Go'.ret (vs := [_]) Go.Proofs.Try.func31 Go.Proofs.Try.results31 ⟨rfl, trivial⟩ ?_
  exact ⟨rfl, (hF13.trans hF4).trans hF5⟩

theorem fnExactSIter {B : World} {H : Mem} {u um : Value} {l : List Int} {ms : List (Int × Int × Int)} (hi : InS EN H u l) (hu : InS EMv H um ms) :
    Fn Try.prog B 11 [u, um] H (fun r H' => r = .bool true ∧ Fr nowhere H H') := by
  obtain ⟨a, c, hue⟩ := hi.len
  subst hue
  obtain ⟨a2, c2, hue⟩ := hu.len
  subst hue
  have hi0 := hi
  have hu0 := hu
  refine fn_of Go.Proofs.Try.func11 rfl Go.Proofs.Try.ntmps11 ?_
  refine (show Go' _ _ _ _ 21 [(0, _), (1, _)] [.code _] _ from ?_)
  refine Go'.seq ?_
  -- region 0 (exact.go:1846)
  refine Go'.region [(0, 0)] rfl ?_
  refine O.asg rfl rfl rfl rfl rfl ?_
  refine Pl.fin [(0, _), (1, _), (4, _)] ⟨rfl, rfl, rfl, trivial⟩ ?_
  refine Go'.seq ?_
  refine Go'.seq ?_
  by_cases hbig : (2147483647 : Int) < (l.length : Int)
  · skip
    -- region 1 (exact.go:1847)
    refine Go'.region [(0, 0), (1, 0), (2, 0), (3, 0), (4, 0), (5, 0), (6, 0), (7, 0)] rfl ?_
    refine O.mv rfl rfl rfl rfl rfl ?_
    refine O.len rfl rfl rfl rfl Go.Proofs.Try.underlying22 rfl ?_
    refine O.cmp rfl rfl rfl rfl rfl rfl (gtrT (by omega)) ?_
    refine O.mv rfl rfl rfl rfl rfl ?_
    refine Pl.pass rfl rfl rfl rfl ?_
    refine Pl.pass rfl rfl rfl rfl ?_
    refine Pl.pass rfl rfl rfl rfl ?_
    refine O.pick rfl rfl rfl rfl rfl rfl ?_
    refine Pl.fin [(0, _), (1, _), (4, _), (12, _)] ⟨rfl, rfl, rfl, rfl, trivial⟩ ?_
    refine Go'.condT rfl ?_
    refine Go'.seq ?_
    -- region 2 (exact.go:1848)
    refine Go'.region [(0, 0)] rfl ?_
    refine O.asg rfl rfl rfl rfl rfl ?_
    refine Pl.fin [(0, _), (1, _), (4, _)] ⟨rfl, rfl, rfl, trivial⟩ ?_
    refine Go'.ret (vs := [_]) Go.Proofs.Try.func11 Go.Proofs.Try.results11 ⟨rfl, trivial⟩ ?_
    exact ⟨rfl, Fr.refl _ _⟩
  by_cases hbig2 : (2147483647 : Int) < (ms.length : Int)
  · skip
    -- region 1 (exact.go:1847)
    refine Go'.region [(0, 0), (1, 0), (2, 0), (3, 0), (4, 0), (5, 0), (6, 0), (7, 0)] rfl ?_
    refine O.mv rfl rfl rfl rfl rfl ?_
    refine O.len rfl rfl rfl rfl Go.Proofs.Try.underlying22 rfl ?_
    refine O.cmp rfl rfl rfl rfl rfl rfl (gtrF (by omega)) ?_
    refine O.mv rfl rfl rfl rfl rfl ?_
    refine O.mv rfl rfl rfl rfl rfl ?_
    refine O.len rfl rfl rfl rfl Go.Proofs.Try.underlying45 rfl ?_
    refine O.cmp rfl rfl rfl rfl rfl rfl (gtrT (by omega)) ?_
    refine O.pick rfl rfl rfl rfl rfl rfl ?_
    refine Pl.fin [(0, _), (1, _), (4, _), (12, _)] ⟨rfl, rfl, rfl, rfl, trivial⟩ ?_
    refine Go'.condT rfl ?_
    refine Go'.seq ?_
    -- region 2 (exact.go:1848)
    refine Go'.region [(0, 0)] rfl ?_
    refine O.asg rfl rfl rfl rfl rfl ?_
    refine Pl.fin [(0, _), (1, _), (4, _)] ⟨rfl, rfl, rfl, trivial⟩ ?_
    refine Go'.ret (vs := [_]) Go.Proofs.Try.func11 Go.Proofs.Try.results11 ⟨rfl, trivial⟩ ?_
    exact ⟨rfl, Fr.refl _ _⟩
  · skip
    -- region 1 (exact.go:1847)
    refine Go'.region [(0, 0), (1, 0), (2, 0), (3, 0), (4, 0), (5, 0), (6, 0), (7, 0)] rfl ?_
    refine O.mv rfl rfl rfl rfl rfl ?_
    refine O.len rfl rfl rfl rfl Go.Proofs.Try.underlying22 rfl ?_
    refine O.cmp rfl rfl rfl rfl rfl rfl (gtrF (by omega)) ?_
    refine O.mv rfl rfl rfl rfl rfl ?_
    refine O.mv rfl rfl rfl rfl rfl ?_
    refine O.len rfl rfl rfl rfl Go.Proofs.Try.underlying45 rfl ?_
    refine O.cmp rfl rfl rfl rfl rfl rfl (gtrF (by omega)) ?_
    refine O.pick rfl rfl rfl rfl rfl rfl ?_
    refine Pl.fin [(0, _), (1, _), (4, _), (12, _)] ⟨rfl, rfl, rfl, rfl, trivial⟩ ?_
    refine Go'.condF rfl ?_
    refine Go'.skip ?_
    refine Go'.seq ?_
    -- region 3 (exact.go:1850)
    refine Go'.region [(0, 2), (1, 2), (2, 2), (3, 0), (4, 0), (5, 0), (6, 2), (7, 0), (8, 0)] rfl ?_
    refine O.bsl (cs := (row EN exks)) rfl rfl rfl ⟨Go.Proofs.Try.underlying22, Go.Proofs.Try.sizeOf3, Go.Proofs.Try.zeroValue3, ⟨_, Go.Proofs.Try.typeInfo3, rfl⟩, rfl, by decide, by decide⟩ rfl (by decide) (by kernel_rfl) ?_
    intro H1 M1
    have hev : InS EN H1 (.slice (some ⟨H.size, 0, none⟩) 5 5) exks := .inl ⟨H.size, 0, 5, rfl, by decide, M1.rd _ [] (by simp)⟩
    refine ⟨trivial, ?_⟩
    refine O.call rfl rfl rfl Go.Proofs.Try.call32 rfl exMoves_spec ?_
    rintro em H9 ⟨hem, hF9⟩
    replace hev := hev.fr hF9
    have hF1 := (M1.fr nowhere).trans hF9
    refine ⟨trivial, ?_⟩
    refine O.call rfl rfl rfl Go.Proofs.Try.call31 rfl (lawSIter_spec hev (by decide) hem (by decide)) ?_
    rintro _ H2 ⟨rfl, hF2⟩
    have hF := hF1.trans hF2
    have hi2 := hi0.fr hF
    have hu2 := hu0.fr hF
    refine ⟨trivial, ?_⟩
    refine O.mv rfl rfl rfl rfl rfl ?_
    refine O.mv rfl rfl rfl rfl rfl ?_
    refine O.mv rfl rfl rfl rfl rfl ?_
    refine O.call rfl rfl rfl Go.Proofs.Try.call31 rfl (lawSIter_spec hi2 (by omega) hu2 (by omega)) ?_
    rintro _ H3 ⟨rfl, hF3⟩
    replace hF := hF.trans hF3
    refine ⟨trivial, ?_⟩
    refine O.pick rfl rfl rfl rfl rfl rfl ?_
    refine O.asg rfl rfl rfl rfl rfl ?_
    refine Pl.fin [(4, _)] ⟨rfl, trivial⟩ ?_
    refine Go'.ret (vs := [_]) Go.Proofs.Try.func11 Go.Proofs.Try.results11 ⟨rfl, trivial⟩ ?_
    exact ⟨rfl, hF⟩

end Go.Bt.FZ
